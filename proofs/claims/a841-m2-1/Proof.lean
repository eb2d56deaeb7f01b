import JvmDerived
import JvmDerived.Pilot.@@N@@Statement
import JvmDerived.Pilot.@@N@@Code
set_option linter.unusedVariables false
set_option linter.unusedSimpArgs false
namespace Jvm.Pilot.@@N@@
open Jvm Jvm.ClassFile Sem Op Lib Jvm.Free Jvm.Stand Jvm.LawKit Jvm.RoadKit Bundle Jvm.Pilot.@@N@@.Jvm.D
/-- from S the method comes to its end, and what it leaves answers Q -/
def Rest (tb : Tables) (e : Env) (below : List Frame) (s : State) (Q : Option Value → Heap → List Loc → Prop) (k n : Nat) (S : State) : Prop :=
  ∃ t o, Steps tb e below S t ∧ t.status = .running ∧ Ended t below o ∧ ∃ v L, o = .returned v ∧ Q v t.heap L ∧ FrameEnd s o t L k n
theorem Rest.via {tb : Tables} {e : Env} {below : List Frame} {s : State} {Q : Option Value → Heap → List Loc → Prop} {k n : Nat} {S S' : State} (h : ∀ t, Steps tb e below S' t → Steps tb e below S t) (r : Rest tb e below s Q k n S') : Rest tb e below s Q k n S := by
  obtain ⟨t, o, h1, h2⟩ := r; exact ⟨t, o, h t h1, h2⟩
theorem Rest.ret {p : Program} {l : Launch} {e : Env} {R : Room} {s : State} {m : MethodId} {args : Array Value} {below : List Frame} {meth : Method} {c : Code} {T : State} {locs : List Loc} {cells slots : Nat} {Q : Option Value → Heap → List Loc → Prop} {k n : Nat} {S : State} {v : Option Value}
    (X : Stand p l e R s m args below meth c T locs cells slots) (hv : meth.sig.returnType = none → v = none) (hlocks : meth.locks = false)
    (st : ∀ fs, (∀ (f : JFrame) (acts : List Action), f.method = m → f.locked = none → f.entered = [] → (doReturn e (T.setTop f) acts v).1 = T.setFrames fs) → Steps p.tables e below S (T.setFrames fs))
    (hq : Q v T.heap locs) (hk : cells ≤ k) (hn : slots ≤ n) : Rest p.tables e below s Q k n S := by
  obtain ⟨fs, hr, hrun, hended, hW, hsame⟩ := X.leave (v := v) hv hlocks
  exact ⟨_, _, st fs hr, hrun, hended, _, _, rfl, hq, ⟨_, rfl⟩, hW, hsame.mono hk hn⟩
theorem own_selpriv {s : State} {args : Array Value} {y : MethodName} {n : Nat} (wi : (Jvm.Cond.instantiable y.cls n).before args s = true) (wp : (Jvm.Cond.privateMethod y).before args s = true) (wm : (Jvm.Cond.instanceMethod y).before args s = true)
    (hy : y.cls ≠ "java/lang/invoke/MethodHandle" ∧ y.cls ≠ "java/lang/invoke/VarHandle") : (Jvm.Cond.selects y.cls y y).before args s = true := by
  obtain ⟨c, k, h1, h2, -, h4, -⟩ := Cond.instantiable_spec wi
  exact selects_self_of_private h1 h2 (Bool.or_eq_false_iff.mp h4).1 (Cond.privateMethod_at wp) wm hy
def own_DM (Z : State) (h : Heap) (a da ea : Addr) (k1 k2 : ClassId) (sz : Int32) (d0 d1 u0 u1 : Int64) : Prop := Exa Z h a "com/example/mark_delete/markdelete/broker/DelayedMessages" ∧ Fld Z h a "com/example/mark_delete/markdelete/broker/DelayedMessages" "deliverAts" "[J" (.ref da) ∧ Fld Z h a "com/example/mark_delete/markdelete/broker/DelayedMessages" "entryIds" "[J" (.ref ea) ∧ Fld Z h a "com/example/mark_delete/markdelete/broker/DelayedMessages" "size" "I" (.int sz) ∧
  Arv Z h da k1 .long (16 : Int32) [(.long d0), (.long d1)] (.long (0 : Int64)) ∧ Arv Z h ea k2 .long (16 : Int32) [(.long u0), (.long u1)] (.long (0 : Int64)) ∧ a ≠ da ∧ a ≠ ea ∧ da ≠ ea
theorem d1_0 : decode prog_4_method_1_code 0 = .ok (.aload_n 0, 1) := by decide +kernel
theorem d1_1 : decode prog_4_method_1_code 1 = .ok (.invokespecial 3, 3) := by decide +kernel
theorem d1_4 : decode prog_4_method_1_code 4 = .ok (.aload_n 0, 1) := by decide +kernel
theorem d1_5 : decode prog_4_method_1_code 5 = .ok (.bipush 16, 2) := by decide +kernel
theorem d1_7 : decode prog_4_method_1_code 7 = .ok (.newarray .long, 2) := by decide +kernel
theorem d1_9 : decode prog_4_method_1_code 9 = .ok (.putfield 11, 3) := by decide +kernel
theorem d1_12 : decode prog_4_method_1_code 12 = .ok (.aload_n 0, 1) := by decide +kernel
theorem d1_13 : decode prog_4_method_1_code 13 = .ok (.bipush 16, 2) := by decide +kernel
theorem d1_15 : decode prog_4_method_1_code 15 = .ok (.newarray .long, 2) := by decide +kernel
theorem d1_17 : decode prog_4_method_1_code 17 = .ok (.putfield 15, 3) := by decide +kernel
theorem d1_20 : decode prog_4_method_1_code 20 = .ok (.return_, 1) := by decide +kernel
theorem pn_0 : plainName "com/example/mark_delete/markdelete/broker/DelayedMessages" = true := by first | (simp [plainName, overriddenIn]; done) | decide +kernel
theorem ef_I (m : MethodId) (a0 : Addr) : entryFrame m #[(.ref a0)] 1 = mkF m 0 #[.val (.ref a0)] [] := by first | (simp [entryFrame, mkF, argsToLocals, Value.category, maxLocals]; done) | rfl
def QI (Z : State) (a0 : Addr) (h0 : Heap) (n0 : Nat) (v : Option Value) (h : Heap) (L : List Loc) : Prop := v = none ∧ Fr n0 L ∧ Keep h0 h [a0] ∧ ∃ da ea k1 k2, h0.size ≤ da ∧ h0.size ≤ ea ∧ own_DM Z h a0 da ea k1 k2 (0 : Int32) 0 0 0 0
set_option maxRecDepth 65536 in
set_option maxHeartbeats 40000000 in
theorem rmI (l : Launch) (Z : State) (aw : Array Value) (hw : ∀ d ∈ tables_1, d.before aw Z = true) (ws : List Jvm.Cond) (a0 : Addr) (h0 : Heap) (n0 : Nat) (Z0 : n0 ≤ h0.size) (E_a0 : Exa Z h0 a0 "com/example/mark_delete/markdelete/broker/DelayedMessages") (F_d : Fld Z h0 a0 "com/example/mark_delete/markdelete/broker/DelayedMessages" "deliverAts" "[J" .null) (F_e : Fld Z h0 a0 "com/example/mark_delete/markdelete/broker/DelayedMessages" "entryIds" "[J" .null) (F_s : Fld Z h0 a0 "com/example/mark_delete/markdelete/broker/DelayedMessages" "size" "I" (.int (0 : Int32))) (g_a0 : n0 ≤ a0) :
    MetFree l (⟨"com/example/mark_delete/markdelete/broker/DelayedMessages", "<init>", "()V"⟩ : MethodName) (head1 (Jvm.Cond.code (⟨"com/example/mark_delete/markdelete/broker/DelayedMessages", "<init>", "()V"⟩ : MethodName) prog_4_method_1_code 1 none :: ws) ({ frames := 1, cells := 2, slots := 32, locals := 12 } : Room)) (fun a U => a = #[(.ref a0)] ∧ Z.Warmed39 U.vm ∧ U.heap = h0) (fun _ _ _ _ _ => True) (fun _ U o U' => ∃ v L, o = .returned v ∧ QI Z a0 h0 n0 v U'.heap L ∧ FrameEnd U o U' L ({ frames := 1, cells := 2, slots := 32, locals := 12 } : Room).cells ({ frames := 1, cells := 2, slots := 32, locals := 12 } : Room).slots) := by
  refine MetFree.of_bodySF (plainFor_of_name pn_0) hisR ?_
  intro p e s m args below meth c s₁ Bd hml0 hP hK
  obtain ⟨rfl, hZ, hh⟩ := hP
  have hx := Bd.exec
  have hby := Bd.bytes
  have hml : c.maxLocals = 1 := hml0
  have hown : s.vm.findClass "com/example/mark_delete/markdelete/broker/DelayedMessages" = some m.cls := findClass_of_methodNamed Bd.named
  have hnm := (name_of_methodNamed Bd.named Bd.method).1
  have hlk : meth.locks = false := BodyLoose.notSynchronized Bd
  have X0 : Stand p l e ({ frames := 1, cells := 2, slots := 32, locals := 12 } : Room) s m #[(.ref a0)] below meth c s₁ [] 0 0 := Stand.of_body Bd
  have eh0 : s₁.heap = h0 := by rw [← hh, Bd.state]; rfl
  have N0 := Fr.nil n0
  show Rest p.tables e below s (QI Z a0 h0 n0) _ _ (s₁.setTop (entryFrame m #[(.ref a0)] 1))
  refine Rest.via (fun t k => castTop (ef_I m a0) k) ?_
  show Rest p.tables e below s _ _ _ (s₁.setTop (mkF m 0 #[.val (.ref a0)] []))
  refine Rest.via (fun t k => XS.aloadN X0.here hx rfl (hb hby d1_0) rfl rfl k) ?_
  show Rest p.tables e below s _ _ _ (s₁.setTop (mkF m 1 #[.val (.ref a0)] [(.ref a0)]))
  obtain ⟨T1, X1, e1, st1⟩ := initO X0 hx hZ hown (hw _ (List.mem_of_getElem? (i := 6) rfl)) (hw _ (List.mem_of_getElem? (i := 7) rfl)) (hw _ (List.mem_of_getElem? (i := 8) rfl)) eh0 (g := (mkF m 1 #[.val (.ref a0)] [(.ref a0)])) rfl (by rw [hml]; rfl) rfl (hb hby d1_1) (by decide) (W := 0) (by show 2 * 0 + _ ≤ _; exact Nat.le_of_eq rfl) (by decide)
  refine Rest.via (fun t k => st1 t k) ?_
  show Rest p.tables e below s _ _ _ (T1.setTop (mkF m 4 #[.val (.ref a0)] []))
  refine Rest.via (fun t k => XS.aloadN X1.here hx rfl (hb hby d1_4) rfl rfl k) ?_
  show Rest p.tables e below s _ _ _ (T1.setTop (mkF m 5 #[.val (.ref a0)] [(.ref a0)]))
  refine Rest.via (fun t k => XS.bipush X1.here hx rfl (hb hby d1_5) k) ?_
  show Rest p.tables e below s _ _ _ (T1.setTop (mkF m 7 #[.val (.ref a0)] [(.int (16 : Int32)), (.ref a0)]))
  obtain ⟨T2, h2, k2, X2, e2, E2, A2, st2⟩ := newP X1 hx hZ (hw _ (List.mem_of_getElem? (i := 9) rfl)) e1 (g := (mkF m 7 #[.val (.ref a0)] [(.int (16 : Int32)), (.ref a0)])) rfl (hb hby d1_7) rfl (by decide) (cap := 16) (by decide) (by decide) (by decide) (by decide)
  obtain ⟨b2, gq2⟩ : ∃ z, z = h0.size := ⟨_, rfl⟩
  rw [← gq2] at A2 st2
  have sz_b2 : h0.size ≤ b2 := Nat.le_trans (Keep.refl h0 [a0]).1 (Nat.le_of_eq gq2.symm)
  have g_b2 : n0 ≤ b2 := Nat.le_trans Z0 sz_b2
  have ne_a0_b2 : a0 ≠ b2 := Nat.ne_of_lt (Nat.lt_of_lt_of_le E_a0.lt (Nat.le_of_eq gq2.symm))
  have K2 : Keep h0 h2 [a0] := (Keep.refl h0 [a0]).ext E2
  have V_b2 := Arv.new A2 (by decide)
  have V_b2 : Arv Z h2 b2 k2 .long (16 : Int32) [(.long (0 : Int64)), (.long (0 : Int64))] (.long (0 : Int64)) := V_b2.pad (pad_rep [] (.long (0 : Int64)) 2)
  refine Rest.via (fun t k => st2 t k) ?_
  show Rest p.tables e below s _ _ _ (T2.setTop (mkF m 9 #[.val (.ref a0)] [(.ref b2), (.ref a0)]))
  have Fo3 := (F_d.ext E2)
  obtain ⟨T3, h3, X3, e3, W3, st3⟩ := putF X2 hx hZ hown (host := "") (Or.inl (hw _ (List.mem_of_getElem? (i := 10) rfl))) Via.refl e2 Fo3 (E_a0.ext E2) (Or.inl (hw _ (List.mem_of_getElem? (i := 11) rfl))) (hw _ (List.mem_of_getElem? (i := 1) rfl)) (ty := (.array .long)) (by decide) rfl rfl (g := (mkF m 9 #[.val (.ref a0)] [(.ref b2), (.ref a0)])) rfl rfl (hb hby d1_9)
  refine Rest.via (fun t k => st3 t k) ?_
  have N3 := Fr.snoc X3 N0 g_a0
  have K3 : Keep h0 h3 [a0] := K2.wr W3 (Or.inl (List.mem_of_getElem? (i := 0) rfl))
  have Fw3 := Fo3.same W3
  show Rest p.tables e below s _ _ _ (T3.setTop (mkF m 12 #[.val (.ref a0)] []))
  refine Rest.via (fun t k => XS.aloadN X3.here hx rfl (hb hby d1_12) rfl rfl k) ?_
  show Rest p.tables e below s _ _ _ (T3.setTop (mkF m 13 #[.val (.ref a0)] [(.ref a0)]))
  refine Rest.via (fun t k => XS.bipush X3.here hx rfl (hb hby d1_13) k) ?_
  show Rest p.tables e below s _ _ _ (T3.setTop (mkF m 15 #[.val (.ref a0)] [(.int (16 : Int32)), (.ref a0)]))
  obtain ⟨T4, h4, k4, X4, e4, E4, A4, st4⟩ := newP X3 hx hZ (hw _ (List.mem_of_getElem? (i := 9) rfl)) e3 (g := (mkF m 15 #[.val (.ref a0)] [(.int (16 : Int32)), (.ref a0)])) rfl (hb hby d1_15) rfl (by decide) (cap := 16) (by decide) (by decide) (by decide) (by decide)
  obtain ⟨b4, gq4⟩ : ∃ z, z = h3.size := ⟨_, rfl⟩
  rw [← gq4] at A4 st4
  have sz_b4 : h0.size ≤ b4 := Nat.le_trans K3.1 (Nat.le_of_eq gq4.symm)
  have g_b4 : n0 ≤ b4 := Nat.le_trans Z0 sz_b4
  have ne_a0_b4 : a0 ≠ b4 := Nat.ne_of_lt (Nat.lt_of_lt_of_le ((E_a0.ext E2).wr W3).lt (Nat.le_of_eq gq4.symm))
  have ne_b2_b4 : b2 ≠ b4 := Nat.ne_of_lt (Nat.lt_of_lt_of_le (V_b2.other W3 (Ne.symm ne_a0_b2)).lt (Nat.le_of_eq gq4.symm))
  have K4 : Keep h0 h4 [a0] := K3.ext E4
  have V_b4 := Arv.new A4 (by decide)
  have V_b4 : Arv Z h4 b4 k4 .long (16 : Int32) [(.long (0 : Int64)), (.long (0 : Int64))] (.long (0 : Int64)) := V_b4.pad (pad_rep [] (.long (0 : Int64)) 2)
  refine Rest.via (fun t k => st4 t k) ?_
  show Rest p.tables e below s _ _ _ (T4.setTop (mkF m 17 #[.val (.ref a0)] [(.ref b4), (.ref a0)]))
  have Fo5 := (((F_e.ext E2).other W3 (Or.inr (slot_ne (Or.inl (hw _ (List.mem_of_getElem? (i := 13) rfl))) (Or.inl (hw _ (List.mem_of_getElem? (i := 11) rfl))) (by decide) (t := (.array .long)) (t' := (.array .long)) (by decide) (by decide)))).ext E4)
  obtain ⟨T5, h5, X5, e5, W5, st5⟩ := putF X4 hx hZ hown (host := "") (Or.inl (hw _ (List.mem_of_getElem? (i := 12) rfl))) Via.refl e4 Fo5 (((E_a0.ext E2).wr W3).ext E4) (Or.inl (hw _ (List.mem_of_getElem? (i := 13) rfl))) (hw _ (List.mem_of_getElem? (i := 1) rfl)) (ty := (.array .long)) (by decide) rfl rfl (g := (mkF m 17 #[.val (.ref a0)] [(.ref b4), (.ref a0)])) rfl rfl (hb hby d1_17)
  refine Rest.via (fun t k => st5 t k) ?_
  have N5 := Fr.snoc X5 N3 g_a0
  have K5 : Keep h0 h5 [a0] := K4.wr W5 (Or.inl (List.mem_of_getElem? (i := 0) rfl))
  have Fw5 := Fo5.same W5
  show Rest p.tables e below s _ _ _ (T5.setTop (mkF m 20 #[.val (.ref a0)] []))
  refine Rest.ret X5 (v := none) (fun _ => rfl) hlk (fun fs hr => X5.returnOut hx Bd.returns (hb hby d1_20) hr) ?_ (by decide) (by decide)
  rw [e5]
  exact ⟨rfl, N5, K5, b2, b4, k2, k4, sz_b2, sz_b4, ⟨((((E_a0.ext E2).wr W3).ext E4).wr W5), ((Fw3.ext E4).other W5 (Or.inr (slot_ne (Or.inl (hw _ (List.mem_of_getElem? (i := 11) rfl))) (Or.inl (hw _ (List.mem_of_getElem? (i := 13) rfl))) (by decide) (t := (.array .long)) (t' := (.array .long)) (by decide) (by decide)))), Fw5, ((((F_s.ext E2).other W3 (Or.inr (slot_ne (Or.inl (hw _ (List.mem_of_getElem? (i := 20) rfl))) (Or.inl (hw _ (List.mem_of_getElem? (i := 11) rfl))) (by decide) (t := .int) (t' := (.array .long)) (by decide) (by decide)))).ext E4).other W5 (Or.inr (slot_ne (Or.inl (hw _ (List.mem_of_getElem? (i := 20) rfl))) (Or.inl (hw _ (List.mem_of_getElem? (i := 13) rfl))) (by decide) (t := .int) (t' := (.array .long)) (by decide) (by decide)))), (((V_b2.other W3 (Ne.symm ne_a0_b2)).ext E4).other W5 (Ne.symm ne_a0_b2)), (V_b4.other W5 (Ne.symm ne_a0_b4)), ne_a0_b2, ne_a0_b4, ne_b2_b4⟩⟩
theorem d6_0 : decode prog_4_method_6_code 0 = .ok (.aload_n 0, 1) := by decide +kernel
theorem d6_1 : decode prog_4_method_6_code 1 = .ok (.bipush 16, 2) := by decide +kernel
theorem d6_3 : decode prog_4_method_6_code 3 = .ok (.newarray .long, 2) := by decide +kernel
theorem d6_5 : decode prog_4_method_6_code 5 = .ok (.putfield 11, 3) := by decide +kernel
theorem d6_8 : decode prog_4_method_6_code 8 = .ok (.aload_n 0, 1) := by decide +kernel
theorem d6_9 : decode prog_4_method_6_code 9 = .ok (.bipush 16, 2) := by decide +kernel
theorem d6_11 : decode prog_4_method_6_code 11 = .ok (.newarray .long, 2) := by decide +kernel
theorem d6_13 : decode prog_4_method_6_code 13 = .ok (.putfield 15, 3) := by decide +kernel
theorem d6_16 : decode prog_4_method_6_code 16 = .ok (.aload_n 0, 1) := by decide +kernel
theorem d6_17 : decode prog_4_method_6_code 17 = .ok (.iconst 0, 1) := by decide +kernel
theorem d6_18 : decode prog_4_method_6_code 18 = .ok (.putfield 18, 3) := by decide +kernel
theorem d6_21 : decode prog_4_method_6_code 21 = .ok (.return_, 1) := by decide +kernel
theorem ef_C (m : MethodId) (a0 : Addr) : entryFrame m #[(.ref a0)] 1 = mkF m 0 #[.val (.ref a0)] [] := by first | (simp [entryFrame, mkF, argsToLocals, Value.category, maxLocals]; done) | rfl
def QC (Z : State) (a0 : Addr) (da0 : Addr) (ea0 : Addr) (sz : Int32) (h0 : Heap) (n0 : Nat) (v : Option Value) (h : Heap) (L : List Loc) : Prop := v = none ∧ Fr n0 L ∧ Keep h0 h [a0] ∧ ∃ da ea k1 k2, h0.size ≤ da ∧ h0.size ≤ ea ∧ own_DM Z h a0 da ea k1 k2 (0 : Int32) 0 0 0 0
set_option maxRecDepth 65536 in
set_option maxHeartbeats 40000000 in
theorem rmC (l : Launch) (Z : State) (aw : Array Value) (hw : ∀ d ∈ tables_1, d.before aw Z = true) (ws : List Jvm.Cond) (a0 : Addr) (da0 : Addr) (ea0 : Addr) (sz : Int32) (h0 : Heap) (n0 : Nat) (Z0 : n0 ≤ h0.size) (E_a0 : Exa Z h0 a0 "com/example/mark_delete/markdelete/broker/DelayedMessages") (F_d : Fld Z h0 a0 "com/example/mark_delete/markdelete/broker/DelayedMessages" "deliverAts" "[J" (.ref da0)) (F_e : Fld Z h0 a0 "com/example/mark_delete/markdelete/broker/DelayedMessages" "entryIds" "[J" (.ref ea0)) (F_s : Fld Z h0 a0 "com/example/mark_delete/markdelete/broker/DelayedMessages" "size" "I" (.int sz)) (g_a0 : n0 ≤ a0) :
    MetFree l (⟨"com/example/mark_delete/markdelete/broker/DelayedMessages", "clear", "()V"⟩ : MethodName) (head1 (Jvm.Cond.code (⟨"com/example/mark_delete/markdelete/broker/DelayedMessages", "clear", "()V"⟩ : MethodName) prog_4_method_6_code 1 none :: ws) ({ frames := 0, cells := 2, slots := 32, locals := 0 } : Room)) (fun a U => a = #[(.ref a0)] ∧ Z.Warmed39 U.vm ∧ U.heap = h0) (fun _ _ _ _ _ => True) (fun _ U o U' => ∃ v L, o = .returned v ∧ QC Z a0 da0 ea0 sz h0 n0 v U'.heap L ∧ FrameEnd U o U' L ({ frames := 0, cells := 2, slots := 32, locals := 0 } : Room).cells ({ frames := 0, cells := 2, slots := 32, locals := 0 } : Room).slots) := by
  refine MetFree.of_bodySF (plainFor_of_name pn_0) hisR ?_
  intro p e s m args below meth c s₁ Bd hml0 hP hK
  obtain ⟨rfl, hZ, hh⟩ := hP
  have hx := Bd.exec
  have hby := Bd.bytes
  have hml : c.maxLocals = 1 := hml0
  have hown : s.vm.findClass "com/example/mark_delete/markdelete/broker/DelayedMessages" = some m.cls := findClass_of_methodNamed Bd.named
  have hnm := (name_of_methodNamed Bd.named Bd.method).1
  have hlk : meth.locks = false := BodyLoose.notSynchronized Bd
  have X0 : Stand p l e ({ frames := 0, cells := 2, slots := 32, locals := 0 } : Room) s m #[(.ref a0)] below meth c s₁ [] 0 0 := Stand.of_body Bd
  have eh0 : s₁.heap = h0 := by rw [← hh, Bd.state]; rfl
  have N0 := Fr.nil n0
  show Rest p.tables e below s (QC Z a0 da0 ea0 sz h0 n0) _ _ (s₁.setTop (entryFrame m #[(.ref a0)] 1))
  refine Rest.via (fun t k => castTop (ef_C m a0) k) ?_
  show Rest p.tables e below s _ _ _ (s₁.setTop (mkF m 0 #[.val (.ref a0)] []))
  refine Rest.via (fun t k => XS.aloadN X0.here hx rfl (hb hby d6_0) rfl rfl k) ?_
  show Rest p.tables e below s _ _ _ (s₁.setTop (mkF m 1 #[.val (.ref a0)] [(.ref a0)]))
  refine Rest.via (fun t k => XS.bipush X0.here hx rfl (hb hby d6_1) k) ?_
  show Rest p.tables e below s _ _ _ (s₁.setTop (mkF m 3 #[.val (.ref a0)] [(.int (16 : Int32)), (.ref a0)]))
  obtain ⟨T1, h1, k1, X1, e1, E1, A1, st1⟩ := newP X0 hx hZ (hw _ (List.mem_of_getElem? (i := 9) rfl)) eh0 (g := (mkF m 3 #[.val (.ref a0)] [(.int (16 : Int32)), (.ref a0)])) rfl (hb hby d6_3) rfl (by decide) (cap := 16) (by decide) (by decide) (by decide) (by decide)
  obtain ⟨b1, gq1⟩ : ∃ z, z = h0.size := ⟨_, rfl⟩
  rw [← gq1] at A1 st1
  have sz_b1 : h0.size ≤ b1 := Nat.le_trans (Keep.refl h0 [a0]).1 (Nat.le_of_eq gq1.symm)
  have g_b1 : n0 ≤ b1 := Nat.le_trans Z0 sz_b1
  have ne_a0_b1 : a0 ≠ b1 := Nat.ne_of_lt (Nat.lt_of_lt_of_le E_a0.lt (Nat.le_of_eq gq1.symm))
  have K1 : Keep h0 h1 [a0] := (Keep.refl h0 [a0]).ext E1
  have V_b1 := Arv.new A1 (by decide)
  have V_b1 : Arv Z h1 b1 k1 .long (16 : Int32) [(.long (0 : Int64)), (.long (0 : Int64))] (.long (0 : Int64)) := V_b1.pad (pad_rep [] (.long (0 : Int64)) 2)
  refine Rest.via (fun t k => st1 t k) ?_
  show Rest p.tables e below s _ _ _ (T1.setTop (mkF m 5 #[.val (.ref a0)] [(.ref b1), (.ref a0)]))
  have Fo2 := (F_d.ext E1)
  obtain ⟨T2, h2, X2, e2, W2, st2⟩ := putF X1 hx hZ hown (host := "") (Or.inl (hw _ (List.mem_of_getElem? (i := 10) rfl))) Via.refl e1 Fo2 (E_a0.ext E1) (Or.inl (hw _ (List.mem_of_getElem? (i := 11) rfl))) (hw _ (List.mem_of_getElem? (i := 1) rfl)) (ty := (.array .long)) (by decide) rfl rfl (g := (mkF m 5 #[.val (.ref a0)] [(.ref b1), (.ref a0)])) rfl rfl (hb hby d6_5)
  refine Rest.via (fun t k => st2 t k) ?_
  have N2 := Fr.snoc X2 N0 g_a0
  have K2 : Keep h0 h2 [a0] := K1.wr W2 (Or.inl (List.mem_of_getElem? (i := 0) rfl))
  have Fw2 := Fo2.same W2
  show Rest p.tables e below s _ _ _ (T2.setTop (mkF m 8 #[.val (.ref a0)] []))
  refine Rest.via (fun t k => XS.aloadN X2.here hx rfl (hb hby d6_8) rfl rfl k) ?_
  show Rest p.tables e below s _ _ _ (T2.setTop (mkF m 9 #[.val (.ref a0)] [(.ref a0)]))
  refine Rest.via (fun t k => XS.bipush X2.here hx rfl (hb hby d6_9) k) ?_
  show Rest p.tables e below s _ _ _ (T2.setTop (mkF m 11 #[.val (.ref a0)] [(.int (16 : Int32)), (.ref a0)]))
  obtain ⟨T3, h3, k3, X3, e3, E3, A3, st3⟩ := newP X2 hx hZ (hw _ (List.mem_of_getElem? (i := 9) rfl)) e2 (g := (mkF m 11 #[.val (.ref a0)] [(.int (16 : Int32)), (.ref a0)])) rfl (hb hby d6_11) rfl (by decide) (cap := 16) (by decide) (by decide) (by decide) (by decide)
  obtain ⟨b3, gq3⟩ : ∃ z, z = h2.size := ⟨_, rfl⟩
  rw [← gq3] at A3 st3
  have sz_b3 : h0.size ≤ b3 := Nat.le_trans K2.1 (Nat.le_of_eq gq3.symm)
  have g_b3 : n0 ≤ b3 := Nat.le_trans Z0 sz_b3
  have ne_a0_b3 : a0 ≠ b3 := Nat.ne_of_lt (Nat.lt_of_lt_of_le ((E_a0.ext E1).wr W2).lt (Nat.le_of_eq gq3.symm))
  have ne_b1_b3 : b1 ≠ b3 := Nat.ne_of_lt (Nat.lt_of_lt_of_le (V_b1.other W2 (Ne.symm ne_a0_b1)).lt (Nat.le_of_eq gq3.symm))
  have K3 : Keep h0 h3 [a0] := K2.ext E3
  have V_b3 := Arv.new A3 (by decide)
  have V_b3 : Arv Z h3 b3 k3 .long (16 : Int32) [(.long (0 : Int64)), (.long (0 : Int64))] (.long (0 : Int64)) := V_b3.pad (pad_rep [] (.long (0 : Int64)) 2)
  refine Rest.via (fun t k => st3 t k) ?_
  show Rest p.tables e below s _ _ _ (T3.setTop (mkF m 13 #[.val (.ref a0)] [(.ref b3), (.ref a0)]))
  have Fo4 := (((F_e.ext E1).other W2 (Or.inr (slot_ne (Or.inl (hw _ (List.mem_of_getElem? (i := 13) rfl))) (Or.inl (hw _ (List.mem_of_getElem? (i := 11) rfl))) (by decide) (t := (.array .long)) (t' := (.array .long)) (by decide) (by decide)))).ext E3)
  obtain ⟨T4, h4, X4, e4, W4, st4⟩ := putF X3 hx hZ hown (host := "") (Or.inl (hw _ (List.mem_of_getElem? (i := 12) rfl))) Via.refl e3 Fo4 (((E_a0.ext E1).wr W2).ext E3) (Or.inl (hw _ (List.mem_of_getElem? (i := 13) rfl))) (hw _ (List.mem_of_getElem? (i := 1) rfl)) (ty := (.array .long)) (by decide) rfl rfl (g := (mkF m 13 #[.val (.ref a0)] [(.ref b3), (.ref a0)])) rfl rfl (hb hby d6_13)
  refine Rest.via (fun t k => st4 t k) ?_
  have N4 := Fr.snoc X4 N2 g_a0
  have K4 : Keep h0 h4 [a0] := K3.wr W4 (Or.inl (List.mem_of_getElem? (i := 0) rfl))
  have Fw4 := Fo4.same W4
  show Rest p.tables e below s _ _ _ (T4.setTop (mkF m 16 #[.val (.ref a0)] []))
  refine Rest.via (fun t k => XS.aloadN X4.here hx rfl (hb hby d6_16) rfl rfl k) ?_
  show Rest p.tables e below s _ _ _ (T4.setTop (mkF m 17 #[.val (.ref a0)] [(.ref a0)]))
  refine Rest.via (fun t k => XS.iconst X4.here hx rfl (hb hby d6_17) k) ?_
  show Rest p.tables e below s _ _ _ (T4.setTop (mkF m 18 #[.val (.ref a0)] [(.int (0 : Int32)), (.ref a0)]))
  have Fo5 := ((((F_s.ext E1).other W2 (Or.inr (slot_ne (Or.inl (hw _ (List.mem_of_getElem? (i := 20) rfl))) (Or.inl (hw _ (List.mem_of_getElem? (i := 11) rfl))) (by decide) (t := .int) (t' := (.array .long)) (by decide) (by decide)))).ext E3).other W4 (Or.inr (slot_ne (Or.inl (hw _ (List.mem_of_getElem? (i := 20) rfl))) (Or.inl (hw _ (List.mem_of_getElem? (i := 13) rfl))) (by decide) (t := .int) (t' := (.array .long)) (by decide) (by decide))))
  obtain ⟨T5, h5, X5, e5, W5, st5⟩ := putF X4 hx hZ hown (host := "") (Or.inl (hw _ (List.mem_of_getElem? (i := 19) rfl))) Via.refl e4 Fo5 ((((E_a0.ext E1).wr W2).ext E3).wr W4) (Or.inl (hw _ (List.mem_of_getElem? (i := 20) rfl))) (hw _ (List.mem_of_getElem? (i := 1) rfl)) (ty := .int) (by decide) rfl rfl (g := (mkF m 18 #[.val (.ref a0)] [(.int (0 : Int32)), (.ref a0)])) rfl rfl (hb hby d6_18)
  refine Rest.via (fun t k => st5 t k) ?_
  have N5 := Fr.snoc X5 N4 g_a0
  have K5 : Keep h0 h5 [a0] := K4.wr W5 (Or.inl (List.mem_of_getElem? (i := 0) rfl))
  have Fw5 := Fo5.same W5
  show Rest p.tables e below s _ _ _ (T5.setTop (mkF m 21 #[.val (.ref a0)] []))
  refine Rest.ret X5 (v := none) (fun _ => rfl) hlk (fun fs hr => X5.returnOut hx Bd.returns (hb hby d6_21) hr) ?_ (by decide) (by decide)
  rw [e5]
  exact ⟨rfl, N5, K5, b1, b3, k1, k3, sz_b1, sz_b3, ⟨(((((E_a0.ext E1).wr W2).ext E3).wr W4).wr W5), (((Fw2.ext E3).other W4 (Or.inr (slot_ne (Or.inl (hw _ (List.mem_of_getElem? (i := 11) rfl))) (Or.inl (hw _ (List.mem_of_getElem? (i := 13) rfl))) (by decide) (t := (.array .long)) (t' := (.array .long)) (by decide) (by decide)))).other W5 (Or.inr (slot_ne (Or.inl (hw _ (List.mem_of_getElem? (i := 11) rfl))) (Or.inl (hw _ (List.mem_of_getElem? (i := 20) rfl))) (by decide) (t := (.array .long)) (t' := .int) (by decide) (by decide)))), (Fw4.other W5 (Or.inr (slot_ne (Or.inl (hw _ (List.mem_of_getElem? (i := 13) rfl))) (Or.inl (hw _ (List.mem_of_getElem? (i := 20) rfl))) (by decide) (t := (.array .long)) (t' := .int) (by decide) (by decide)))), Fw5, ((((V_b1.other W2 (Ne.symm ne_a0_b1)).ext E3).other W4 (Ne.symm ne_a0_b1)).other W5 (Ne.symm ne_a0_b1)), ((V_b3.other W4 (Ne.symm ne_a0_b3)).other W5 (Ne.symm ne_a0_b3)), ne_a0_b1, ne_a0_b3, ne_b1_b3⟩⟩
theorem d7_0 : decode prog_4_method_2_code 0 = .ok (.aload_n 0, 1) := by decide +kernel
theorem d7_1 : decode prog_4_method_2_code 1 = .ok (.getfield 18, 3) := by decide +kernel
theorem d7_4 : decode prog_4_method_2_code 4 = .ok (.ifCond .ne 7, 3) := by decide +kernel
theorem d7_7 : decode prog_4_method_2_code 7 = .ok (.iconst 1, 1) := by decide +kernel
theorem d7_8 : decode prog_4_method_2_code 8 = .ok (.goto 4, 3) := by decide +kernel
theorem d7_12 : decode prog_4_method_2_code 12 = .ok (.ireturn, 1) := by decide +kernel
theorem ef_E (m : MethodId) (a0 : Addr) : entryFrame m #[(.ref a0)] 1 = mkF m 0 #[.val (.ref a0)] [] := by first | (simp [entryFrame, mkF, argsToLocals, Value.category, maxLocals]; done) | rfl
def QE (Z : State) (a0 : Addr) (da : Addr) (ea : Addr) (k1 : ClassId) (k2 : ClassId) (d0 : Int64) (d1 : Int64) (u0 : Int64) (u1 : Int64) (h0 : Heap) (n0 : Nat) (v : Option Value) (h : Heap) (L : List Loc) : Prop := v = some (.int (1 : Int32)) ∧ Fr n0 L ∧ h = h0
set_option maxRecDepth 65536 in
set_option maxHeartbeats 40000000 in
theorem rmE (l : Launch) (Z : State) (aw : Array Value) (hw : ∀ d ∈ tables_1, d.before aw Z = true) (ws : List Jvm.Cond) (a0 : Addr) (da : Addr) (ea : Addr) (k1 : ClassId) (k2 : ClassId) (d0 : Int64) (d1 : Int64) (u0 : Int64) (u1 : Int64) (h0 : Heap) (n0 : Nat) (Z0 : n0 ≤ h0.size) (D : own_DM Z h0 a0 da ea k1 k2 (0 : Int32) d0 d1 u0 u1) :
    MetFree l (⟨"com/example/mark_delete/markdelete/broker/DelayedMessages", "isEmpty", "()Z"⟩ : MethodName) (head1 (Jvm.Cond.code (⟨"com/example/mark_delete/markdelete/broker/DelayedMessages", "isEmpty", "()Z"⟩ : MethodName) prog_4_method_2_code 1 (some .boolean) :: ws) ({ frames := 0, cells := 0, slots := 0, locals := 0 } : Room)) (fun a U => a = #[(.ref a0)] ∧ Z.Warmed39 U.vm ∧ U.heap = h0) (fun _ _ _ _ _ => True) (fun _ U o U' => ∃ v L, o = .returned v ∧ QE Z a0 da ea k1 k2 d0 d1 u0 u1 h0 n0 v U'.heap L ∧ FrameEnd U o U' L ({ frames := 0, cells := 0, slots := 0, locals := 0 } : Room).cells ({ frames := 0, cells := 0, slots := 0, locals := 0 } : Room).slots) := by
  refine MetFree.of_bodySF (plainFor_of_name pn_0) hisR ?_
  intro p e s m args below meth c s₁ Bd hml0 hP hK
  obtain ⟨rfl, hZ, hh⟩ := hP
  have hx := Bd.exec
  have hby := Bd.bytes
  have hml : c.maxLocals = 1 := hml0
  have hown : s.vm.findClass "com/example/mark_delete/markdelete/broker/DelayedMessages" = some m.cls := findClass_of_methodNamed Bd.named
  have hnm := (name_of_methodNamed Bd.named Bd.method).1
  have hlk : meth.locks = false := BodyLoose.notSynchronized Bd
  have X0 : Stand p l e ({ frames := 0, cells := 0, slots := 0, locals := 0 } : Room) s m #[(.ref a0)] below meth c s₁ [] 0 0 := Stand.of_body Bd
  have eh0 : s₁.heap = h0 := by rw [← hh, Bd.state]; rfl
  have N0 := Fr.nil n0
  show Rest p.tables e below s (QE Z a0 da ea k1 k2 d0 d1 u0 u1 h0 n0) _ _ (s₁.setTop (entryFrame m #[(.ref a0)] 1))
  refine Rest.via (fun t k => castTop (ef_E m a0) k) ?_
  have D0 := D
  obtain ⟨E_a0, F_d, F_e, F_s, V_d, V_e, n1, n2, n3⟩ := D0
  show Rest p.tables e below s _ _ _ (s₁.setTop (mkF m 0 #[.val (.ref a0)] []))
  refine Rest.via (fun t k => XS.aloadN X0.here hx rfl (hb hby d7_0) rfl rfl k) ?_
  show Rest p.tables e below s _ _ _ (s₁.setTop (mkF m 1 #[.val (.ref a0)] [(.ref a0)]))
  obtain ⟨T1, X1, e1, st1⟩ := getF X0 hx hZ hown (host := "") (Or.inl (hw _ (List.mem_of_getElem? (i := 19) rfl))) Via.refl eh0 F_s (g := (mkF m 1 #[.val (.ref a0)] [(.ref a0)])) rfl rfl (hb hby d7_1)
  refine Rest.via (fun t k => st1 t k) ?_
  show Rest p.tables e below s _ _ _ (T1.setTop (mkF m 4 #[.val (.ref a0)] [(.int (0 : Int32))]))
  refine Rest.via (fun t k => XS.ifNo X1.here hx rfl (hb hby d7_4) rfl ((if0 _ _).trans (teq (by decide : (0 : Int32) = (0 : Int32))).2) k) ?_
  show Rest p.tables e below s _ _ _ (T1.setTop (mkF m 7 #[.val (.ref a0)] []))
  refine Rest.via (fun t k => XS.iconst X1.here hx rfl (hb hby d7_7) k) ?_
  show Rest p.tables e below s _ _ _ (T1.setTop (mkF m 8 #[.val (.ref a0)] [(.int (1 : Int32))]))
  refine Rest.via (fun t k => XS.goto X1.here hx rfl (pc0 := 8) (pc' := 12) rfl (hb hby d7_8) (by decide) (by decide) k) ?_
  show Rest p.tables e below s _ _ _ (T1.setTop (mkF m 12 #[.val (.ref a0)] [(.int (1 : Int32))]))
  refine Rest.ret X1 (v := some (.int (nar .boolean (1 : Int32)))) (fun h => by rw [Bd.returns] at h; cases h) hlk (fun fs hr => retN X1 hx (t := .boolean) Bd.returns (by simp) (hb hby d7_12) hr) ?_ (by decide) (by decide)
  rw [e1]
  exact ⟨rfl, N0, rfl⟩
theorem d8_0 : decode prog_4_method_4_code 0 = .ok (.aload_n 0, 1) := by decide +kernel
theorem d8_1 : decode prog_4_method_4_code 1 = .ok (.getfield 18, 3) := by decide +kernel
theorem d8_4 : decode prog_4_method_4_code 4 = .ok (.ifCond .ne 9, 3) := by decide +kernel
theorem d8_7 : decode prog_4_method_4_code 7 = .ok (.ldc2_w 35, 3) := by decide +kernel
theorem d8_10 : decode prog_4_method_4_code 10 = .ok (.goto 9, 3) := by decide +kernel
theorem d8_19 : decode prog_4_method_4_code 19 = .ok (.lreturn, 1) := by decide +kernel
theorem ef_L (m : MethodId) (a0 : Addr) : entryFrame m #[(.ref a0)] 1 = mkF m 0 #[.val (.ref a0)] [] := by first | (simp [entryFrame, mkF, argsToLocals, Value.category, maxLocals]; done) | rfl
def QL (Z : State) (a0 : Addr) (da : Addr) (ea : Addr) (k1 : ClassId) (k2 : ClassId) (d0 : Int64) (d1 : Int64) (u0 : Int64) (u1 : Int64) (h0 : Heap) (n0 : Nat) (v : Option Value) (h : Heap) (L : List Loc) : Prop := v = some (.long (9223372036854775807 : Int64)) ∧ Fr n0 L ∧ h = h0
set_option maxRecDepth 65536 in
set_option maxHeartbeats 40000000 in
theorem rmL (l : Launch) (Z : State) (aw : Array Value) (hw : ∀ d ∈ tables_1, d.before aw Z = true) (ws : List Jvm.Cond) (a0 : Addr) (da : Addr) (ea : Addr) (k1 : ClassId) (k2 : ClassId) (d0 : Int64) (d1 : Int64) (u0 : Int64) (u1 : Int64) (h0 : Heap) (n0 : Nat) (Z0 : n0 ≤ h0.size) (D : own_DM Z h0 a0 da ea k1 k2 (0 : Int32) d0 d1 u0 u1) :
    MetFree l (⟨"com/example/mark_delete/markdelete/broker/DelayedMessages", "earliestDeliverAt", "()J"⟩ : MethodName) (head1 (Jvm.Cond.code (⟨"com/example/mark_delete/markdelete/broker/DelayedMessages", "earliestDeliverAt", "()J"⟩ : MethodName) prog_4_method_4_code 1 (some .long) :: ws) ({ frames := 0, cells := 0, slots := 0, locals := 0 } : Room)) (fun a U => a = #[(.ref a0)] ∧ Z.Warmed39 U.vm ∧ U.heap = h0) (fun _ _ _ _ _ => True) (fun _ U o U' => ∃ v L, o = .returned v ∧ QL Z a0 da ea k1 k2 d0 d1 u0 u1 h0 n0 v U'.heap L ∧ FrameEnd U o U' L ({ frames := 0, cells := 0, slots := 0, locals := 0 } : Room).cells ({ frames := 0, cells := 0, slots := 0, locals := 0 } : Room).slots) := by
  refine MetFree.of_bodySF (plainFor_of_name pn_0) hisR ?_
  intro p e s m args below meth c s₁ Bd hml0 hP hK
  obtain ⟨rfl, hZ, hh⟩ := hP
  have hx := Bd.exec
  have hby := Bd.bytes
  have hml : c.maxLocals = 1 := hml0
  have hown : s.vm.findClass "com/example/mark_delete/markdelete/broker/DelayedMessages" = some m.cls := findClass_of_methodNamed Bd.named
  have hnm := (name_of_methodNamed Bd.named Bd.method).1
  have hlk : meth.locks = false := BodyLoose.notSynchronized Bd
  have X0 : Stand p l e ({ frames := 0, cells := 0, slots := 0, locals := 0 } : Room) s m #[(.ref a0)] below meth c s₁ [] 0 0 := Stand.of_body Bd
  have eh0 : s₁.heap = h0 := by rw [← hh, Bd.state]; rfl
  have N0 := Fr.nil n0
  show Rest p.tables e below s (QL Z a0 da ea k1 k2 d0 d1 u0 u1 h0 n0) _ _ (s₁.setTop (entryFrame m #[(.ref a0)] 1))
  refine Rest.via (fun t k => castTop (ef_L m a0) k) ?_
  have D0 := D
  obtain ⟨E_a0, F_d, F_e, F_s, V_d, V_e, n1, n2, n3⟩ := D0
  show Rest p.tables e below s _ _ _ (s₁.setTop (mkF m 0 #[.val (.ref a0)] []))
  refine Rest.via (fun t k => XS.aloadN X0.here hx rfl (hb hby d8_0) rfl rfl k) ?_
  show Rest p.tables e below s _ _ _ (s₁.setTop (mkF m 1 #[.val (.ref a0)] [(.ref a0)]))
  obtain ⟨T1, X1, e1, st1⟩ := getF X0 hx hZ hown (host := "") (Or.inl (hw _ (List.mem_of_getElem? (i := 19) rfl))) Via.refl eh0 F_s (g := (mkF m 1 #[.val (.ref a0)] [(.ref a0)])) rfl rfl (hb hby d8_1)
  refine Rest.via (fun t k => st1 t k) ?_
  show Rest p.tables e below s _ _ _ (T1.setTop (mkF m 4 #[.val (.ref a0)] [(.int (0 : Int32))]))
  refine Rest.via (fun t k => XS.ifNo X1.here hx rfl (hb hby d8_4) rfl ((if0 _ _).trans (teq (by decide : (0 : Int32) = (0 : Int32))).2) k) ?_
  show Rest p.tables e below s _ _ _ (T1.setTop (mkF m 7 #[.val (.ref a0)] []))
  refine Rest.via (fun t k => X1.ldc2Long hx hown (mvT hZ (hw _ (List.mem_of_getElem? (i := 44) rfl))) (g := (mkF m 7 #[.val (.ref a0)] [])) rfl (hb hby d8_7) t k) ?_
  show Rest p.tables e below s _ _ _ (T1.setTop (mkF m 10 #[.val (.ref a0)] [(.long (9223372036854775807 : Int64))]))
  refine Rest.via (fun t k => XS.goto X1.here hx rfl (pc0 := 10) (pc' := 19) rfl (hb hby d8_10) (by decide) (by decide) k) ?_
  show Rest p.tables e below s _ _ _ (T1.setTop (mkF m 19 #[.val (.ref a0)] [(.long (9223372036854775807 : Int64))]))
  refine Rest.ret X1 (v := some (.long (9223372036854775807 : Int64))) (fun h => by rw [Bd.returns] at h; cases h) hlk (fun fs hr => retOut X1 hx Bd.returns rfl (Or.inr (Or.inl ⟨rfl, rfl, _, rfl⟩)) (hb hby d8_19) hr) ?_ (by decide) (by decide)
  rw [e1]
  exact ⟨rfl, N0, rfl⟩
theorem d4_0 : decode prog_4_method_7_code 0 = .ok (.iload_n 0, 1) := by decide +kernel
theorem d4_1 : decode prog_4_method_7_code 1 = .ok (.iconst 1, 1) := by decide +kernel
theorem d4_2 : decode prog_4_method_7_code 2 = .ok (.isub, 1) := by decide +kernel
theorem d4_3 : decode prog_4_method_7_code 3 = .ok (.iconst 2, 1) := by decide +kernel
theorem d4_4 : decode prog_4_method_7_code 4 = .ok (.idiv, 1) := by decide +kernel
theorem d4_5 : decode prog_4_method_7_code 5 = .ok (.ireturn, 1) := by decide +kernel
theorem ef_P (m : MethodId)  : entryFrame m #[(.int (1 : Int32))] 1 = mkF m 0 #[.val (.int (1 : Int32))] [] := by first | (simp [entryFrame, mkF, argsToLocals, Value.category, maxLocals]; done) | rfl
def QP (Z : State)  (h0 : Heap) (n0 : Nat) (v : Option Value) (h : Heap) (L : List Loc) : Prop := v = some (.int (0 : Int32)) ∧ Fr n0 L ∧ h = h0
set_option maxRecDepth 65536 in
set_option maxHeartbeats 40000000 in
theorem rmP (l : Launch) (Z : State) (aw : Array Value) (hw : ∀ d ∈ tables_1, d.before aw Z = true) (ws : List Jvm.Cond)  (h0 : Heap) (n0 : Nat) (Z0 : n0 ≤ h0.size)  :
    MetFree l (⟨"com/example/mark_delete/markdelete/broker/DelayedMessages", "parent", "(I)I"⟩ : MethodName) (head1 (Jvm.Cond.code (⟨"com/example/mark_delete/markdelete/broker/DelayedMessages", "parent", "(I)I"⟩ : MethodName) prog_4_method_7_code 1 (some .int) :: ws) ({ frames := 0, cells := 0, slots := 0, locals := 0 } : Room)) (fun a U => a = #[(.int (1 : Int32))] ∧ Z.Warmed39 U.vm ∧ U.heap = h0) (fun _ _ _ _ _ => True) (fun _ U o U' => ∃ v L, o = .returned v ∧ QP Z  h0 n0 v U'.heap L ∧ FrameEnd U o U' L ({ frames := 0, cells := 0, slots := 0, locals := 0 } : Room).cells ({ frames := 0, cells := 0, slots := 0, locals := 0 } : Room).slots) := by
  refine MetFree.of_bodySF (plainFor_of_name pn_0) hisR ?_
  intro p e s m args below meth c s₁ Bd hml0 hP hK
  obtain ⟨rfl, hZ, hh⟩ := hP
  have hx := Bd.exec
  have hby := Bd.bytes
  have hml : c.maxLocals = 1 := hml0
  have hown : s.vm.findClass "com/example/mark_delete/markdelete/broker/DelayedMessages" = some m.cls := findClass_of_methodNamed Bd.named
  have hnm := (name_of_methodNamed Bd.named Bd.method).1
  have hlk : meth.locks = false := BodyLoose.notSynchronized Bd
  have X0 : Stand p l e ({ frames := 0, cells := 0, slots := 0, locals := 0 } : Room) s m #[(.int (1 : Int32))] below meth c s₁ [] 0 0 := Stand.of_body Bd
  have eh0 : s₁.heap = h0 := by rw [← hh, Bd.state]; rfl
  have N0 := Fr.nil n0
  show Rest p.tables e below s (QP Z  h0 n0) _ _ (s₁.setTop (entryFrame m #[(.int (1 : Int32))] 1))
  refine Rest.via (fun t k => castTop (ef_P m ) k) ?_
  show Rest p.tables e below s _ _ _ (s₁.setTop (mkF m 0 #[.val (.int (1 : Int32))] []))
  refine Rest.via (fun t k => XS.iloadN X0.here hx rfl (hb hby d4_0) rfl k) ?_
  show Rest p.tables e below s _ _ _ (s₁.setTop (mkF m 1 #[.val (.int (1 : Int32))] [(.int (1 : Int32))]))
  refine Rest.via (fun t k => XS.iconst X0.here hx rfl (hb hby d4_1) k) ?_
  show Rest p.tables e below s _ _ _ (s₁.setTop (mkF m 2 #[.val (.int (1 : Int32))] [(.int (1 : Int32)), (.int (1 : Int32))]))
  refine Rest.via (fun t k => XS.isub X0.here hx rfl (hb hby d4_2) rfl k) ?_
  show Rest p.tables e below s _ _ _ (s₁.setTop (mkF m 3 #[.val (.int (1 : Int32))] [(.int ((1 : Int32) - (1 : Int32)))]))
  refine Rest.via (fun t k => XS.iconst X0.here hx rfl (hb hby d4_3) k) ?_
  show Rest p.tables e below s _ _ _ (s₁.setTop (mkF m 4 #[.val (.int (1 : Int32))] [(.int (2 : Int32)), (.int ((1 : Int32) - (1 : Int32)))]))
  refine Rest.via (fun t k => XS.idiv X0.here hx rfl (hb hby d4_4) rfl (by decide) k) ?_
  show Rest p.tables e below s _ _ _ (s₁.setTop (mkF m 5 #[.val (.int (1 : Int32))] [(.int (((1 : Int32) - (1 : Int32)) / (2 : Int32)))]))
  refine Rest.ret X0 (v := some (.int (((1 : Int32) - (1 : Int32)) / (2 : Int32)))) (fun h => by rw [Bd.returns] at h; cases h) hlk (fun fs hr => retOut X0 hx Bd.returns rfl (Or.inl ⟨rfl, Or.inl rfl, _, rfl⟩) (hb hby d4_5) hr) ?_ (by decide) (by decide)
  rw [eh0]
  exact ⟨by decide, N0, rfl⟩
theorem d5_0 : decode prog_4_method_8_code 0 = .ok (.aload_n 0, 1) := by decide +kernel
theorem d5_1 : decode prog_4_method_8_code 1 = .ok (.getfield 11, 3) := by decide +kernel
theorem d5_4 : decode prog_4_method_8_code 4 = .ok (.iload_n 2, 1) := by decide +kernel
theorem d5_5 : decode prog_4_method_8_code 5 = .ok (.aload_n 0, 1) := by decide +kernel
theorem d5_6 : decode prog_4_method_8_code 6 = .ok (.getfield 11, 3) := by decide +kernel
theorem d5_9 : decode prog_4_method_8_code 9 = .ok (.iload_n 1, 1) := by decide +kernel
theorem d5_10 : decode prog_4_method_8_code 10 = .ok (.laload, 1) := by decide +kernel
theorem d5_11 : decode prog_4_method_8_code 11 = .ok (.lastore, 1) := by decide +kernel
theorem d5_12 : decode prog_4_method_8_code 12 = .ok (.aload_n 0, 1) := by decide +kernel
theorem d5_13 : decode prog_4_method_8_code 13 = .ok (.getfield 15, 3) := by decide +kernel
theorem d5_16 : decode prog_4_method_8_code 16 = .ok (.iload_n 2, 1) := by decide +kernel
theorem d5_17 : decode prog_4_method_8_code 17 = .ok (.aload_n 0, 1) := by decide +kernel
theorem d5_18 : decode prog_4_method_8_code 18 = .ok (.getfield 15, 3) := by decide +kernel
theorem d5_21 : decode prog_4_method_8_code 21 = .ok (.iload_n 1, 1) := by decide +kernel
theorem d5_22 : decode prog_4_method_8_code 22 = .ok (.laload, 1) := by decide +kernel
theorem d5_23 : decode prog_4_method_8_code 23 = .ok (.lastore, 1) := by decide +kernel
theorem d5_24 : decode prog_4_method_8_code 24 = .ok (.return_, 1) := by decide +kernel
theorem ef_M (m : MethodId) (a0 : Addr) : entryFrame m #[(.ref a0), (.int (0 : Int32)), (.int (1 : Int32))] 3 = mkF m 0 #[.val (.ref a0), .val (.int (0 : Int32)), .val (.int (1 : Int32))] [] := by first | (simp [entryFrame, mkF, argsToLocals, Value.category, maxLocals]; done) | rfl
def QM (Z : State) (a0 : Addr) (da : Addr) (ea : Addr) (k1 : ClassId) (k2 : ClassId) (d0 : Int64) (d1 : Int64) (u0 : Int64) (u1 : Int64) (sz : Int32) (h0 : Heap) (n0 : Nat) (v : Option Value) (h : Heap) (L : List Loc) : Prop := v = none ∧ Fr n0 L ∧ Keep h0 h [a0, da, ea] ∧ own_DM Z h a0 da ea k1 k2 sz d0 d0 u0 u0
set_option maxRecDepth 65536 in
set_option maxHeartbeats 40000000 in
theorem rmM (l : Launch) (Z : State) (aw : Array Value) (hw : ∀ d ∈ tables_1, d.before aw Z = true) (ws : List Jvm.Cond) (a0 : Addr) (da : Addr) (ea : Addr) (k1 : ClassId) (k2 : ClassId) (d0 : Int64) (d1 : Int64) (u0 : Int64) (u1 : Int64) (sz : Int32) (h0 : Heap) (n0 : Nat) (Z0 : n0 ≤ h0.size) (D : own_DM Z h0 a0 da ea k1 k2 sz d0 d1 u0 u1) (g_a0 : n0 ≤ a0) (g_da : n0 ≤ da) (g_ea : n0 ≤ ea) :
    MetFree l (⟨"com/example/mark_delete/markdelete/broker/DelayedMessages", "move", "(II)V"⟩ : MethodName) (head1 (Jvm.Cond.code (⟨"com/example/mark_delete/markdelete/broker/DelayedMessages", "move", "(II)V"⟩ : MethodName) prog_4_method_8_code 3 none :: ws) ({ frames := 0, cells := 0, slots := 0, locals := 0 } : Room)) (fun a U => a = #[(.ref a0), (.int (0 : Int32)), (.int (1 : Int32))] ∧ Z.Warmed39 U.vm ∧ U.heap = h0) (fun _ _ _ _ _ => True) (fun _ U o U' => ∃ v L, o = .returned v ∧ QM Z a0 da ea k1 k2 d0 d1 u0 u1 sz h0 n0 v U'.heap L ∧ FrameEnd U o U' L ({ frames := 0, cells := 0, slots := 0, locals := 0 } : Room).cells ({ frames := 0, cells := 0, slots := 0, locals := 0 } : Room).slots) := by
  refine MetFree.of_bodySF (plainFor_of_name pn_0) hisR ?_
  intro p e s m args below meth c s₁ Bd hml0 hP hK
  obtain ⟨rfl, hZ, hh⟩ := hP
  have hx := Bd.exec
  have hby := Bd.bytes
  have hml : c.maxLocals = 3 := hml0
  have hown : s.vm.findClass "com/example/mark_delete/markdelete/broker/DelayedMessages" = some m.cls := findClass_of_methodNamed Bd.named
  have hnm := (name_of_methodNamed Bd.named Bd.method).1
  have hlk : meth.locks = false := BodyLoose.notSynchronized Bd
  have X0 : Stand p l e ({ frames := 0, cells := 0, slots := 0, locals := 0 } : Room) s m #[(.ref a0), (.int (0 : Int32)), (.int (1 : Int32))] below meth c s₁ [] 0 0 := Stand.of_body Bd
  have eh0 : s₁.heap = h0 := by rw [← hh, Bd.state]; rfl
  have N0 := Fr.nil n0
  show Rest p.tables e below s (QM Z a0 da ea k1 k2 d0 d1 u0 u1 sz h0 n0) _ _ (s₁.setTop (entryFrame m #[(.ref a0), (.int (0 : Int32)), (.int (1 : Int32))] 3))
  refine Rest.via (fun t k => castTop (ef_M m a0) k) ?_
  have D0 := D
  obtain ⟨E_a0, F_d, F_e, F_s, V_d, V_e, n1, n2, n3⟩ := D0
  show Rest p.tables e below s _ _ _ (s₁.setTop (mkF m 0 #[.val (.ref a0), .val (.int (0 : Int32)), .val (.int (1 : Int32))] []))
  refine Rest.via (fun t k => XS.aloadN X0.here hx rfl (hb hby d5_0) rfl rfl k) ?_
  show Rest p.tables e below s _ _ _ (s₁.setTop (mkF m 1 #[.val (.ref a0), .val (.int (0 : Int32)), .val (.int (1 : Int32))] [(.ref a0)]))
  obtain ⟨T1, X1, e1, st1⟩ := getF X0 hx hZ hown (host := "") (Or.inl (hw _ (List.mem_of_getElem? (i := 10) rfl))) Via.refl eh0 F_d (g := (mkF m 1 #[.val (.ref a0), .val (.int (0 : Int32)), .val (.int (1 : Int32))] [(.ref a0)])) rfl rfl (hb hby d5_1)
  refine Rest.via (fun t k => st1 t k) ?_
  show Rest p.tables e below s _ _ _ (T1.setTop (mkF m 4 #[.val (.ref a0), .val (.int (0 : Int32)), .val (.int (1 : Int32))] [(.ref da)]))
  refine Rest.via (fun t k => XS.iloadN X1.here hx rfl (hb hby d5_4) rfl k) ?_
  show Rest p.tables e below s _ _ _ (T1.setTop (mkF m 5 #[.val (.ref a0), .val (.int (0 : Int32)), .val (.int (1 : Int32))] [(.int (1 : Int32)), (.ref da)]))
  refine Rest.via (fun t k => XS.aloadN X1.here hx rfl (hb hby d5_5) rfl rfl k) ?_
  show Rest p.tables e below s _ _ _ (T1.setTop (mkF m 6 #[.val (.ref a0), .val (.int (0 : Int32)), .val (.int (1 : Int32))] [(.ref a0), (.int (1 : Int32)), (.ref da)]))
  obtain ⟨T2, X2, e2, st2⟩ := getF X1 hx hZ hown (host := "") (Or.inl (hw _ (List.mem_of_getElem? (i := 10) rfl))) Via.refl e1 F_d (g := (mkF m 6 #[.val (.ref a0), .val (.int (0 : Int32)), .val (.int (1 : Int32))] [(.ref a0), (.int (1 : Int32)), (.ref da)])) rfl rfl (hb hby d5_6)
  refine Rest.via (fun t k => st2 t k) ?_
  show Rest p.tables e below s _ _ _ (T2.setTop (mkF m 9 #[.val (.ref a0), .val (.int (0 : Int32)), .val (.int (1 : Int32))] [(.ref da), (.int (1 : Int32)), (.ref da)]))
  refine Rest.via (fun t k => XS.iloadN X2.here hx rfl (hb hby d5_9) rfl k) ?_
  show Rest p.tables e below s _ _ _ (T2.setTop (mkF m 10 #[.val (.ref a0), .val (.int (0 : Int32)), .val (.int (1 : Int32))] [(.int (0 : Int32)), (.ref da), (.int (1 : Int32)), (.ref da)]))
  obtain ⟨cl3, Ar3, qa3, Sa3, Pa3, Ha3, Ga3⟩ := id V_d
  have hin3 := inb_of (j := (0 : Int32)) Sa3 ⟨by decide, by decide⟩
  have hat3 : cl3.slots[((0 : Int32)).toNatClampNeg]? = some (.long d0) := Has.at Ha3 hin3 rfl
  refine Rest.via (fun t k => X2.laload hx (j := (0 : Int32)) (v := (.long d0)) (by rw [e2]; exact Ar3.1) (State.isArrayOf_alike hZ.alike Ar3.2.1) Ar3.2.2 hin3 hat3 (g := (mkF m 10 #[.val (.ref a0), .val (.int (0 : Int32)), .val (.int (1 : Int32))] [(.int (0 : Int32)), (.ref da), (.int (1 : Int32)), (.ref da)])) rfl rfl (hb hby d5_10) t k) ?_
  show Rest p.tables e below s _ _ _ (T2.setTop (mkF m 11 #[.val (.ref a0), .val (.int (0 : Int32)), .val (.int (1 : Int32))] [(.long d0), (.int (1 : Int32)), (.ref da)]))
  obtain ⟨cl4, Ar4, qa4, Sa4, Pa4, Ha4, Ga4⟩ := id V_d
  have hin4 := inb_of (j := (1 : Int32)) Sa4 ⟨by decide, by decide⟩
  obtain ⟨T4, h4, X4, e4, W4, st4⟩ := stJ X2 hx hZ e2 Ar4 (j := (1 : Int32)) hin4 (g := (mkF m 11 #[.val (.ref a0), .val (.int (0 : Int32)), .val (.int (1 : Int32))] [(.long d0), (.int (1 : Int32)), (.ref da)])) rfl rfl (hb hby d5_11)
  refine Rest.via (fun t k => st4 t k) ?_
  have N4 := Fr.snoc X4 N0 g_da
  have K4 : Keep h0 h4 [a0, da, ea] := (Keep.refl h0 [a0, da, ea]).wr W4 (Or.inl (List.mem_of_getElem? (i := 1) rfl))
  have V4 : Arv Z h4 da k1 .long (16 : Int32) [(.long d0), (.long d0)] (.long (0 : Int64)) := Arv.set Ar4 qa4 Sa4 Pa4 Ha4 Ga4 rfl W4 1 rfl (Nat.le_of_ble_eq_true rfl)
  show Rest p.tables e below s _ _ _ (T4.setTop (mkF m 12 #[.val (.ref a0), .val (.int (0 : Int32)), .val (.int (1 : Int32))] []))
  refine Rest.via (fun t k => XS.aloadN X4.here hx rfl (hb hby d5_12) rfl rfl k) ?_
  show Rest p.tables e below s _ _ _ (T4.setTop (mkF m 13 #[.val (.ref a0), .val (.int (0 : Int32)), .val (.int (1 : Int32))] [(.ref a0)]))
  obtain ⟨T5, X5, e5, st5⟩ := getF X4 hx hZ hown (host := "") (Or.inl (hw _ (List.mem_of_getElem? (i := 12) rfl))) Via.refl e4 (F_e.other W4 (Or.inl n1)) (g := (mkF m 13 #[.val (.ref a0), .val (.int (0 : Int32)), .val (.int (1 : Int32))] [(.ref a0)])) rfl rfl (hb hby d5_13)
  refine Rest.via (fun t k => st5 t k) ?_
  show Rest p.tables e below s _ _ _ (T5.setTop (mkF m 16 #[.val (.ref a0), .val (.int (0 : Int32)), .val (.int (1 : Int32))] [(.ref ea)]))
  refine Rest.via (fun t k => XS.iloadN X5.here hx rfl (hb hby d5_16) rfl k) ?_
  show Rest p.tables e below s _ _ _ (T5.setTop (mkF m 17 #[.val (.ref a0), .val (.int (0 : Int32)), .val (.int (1 : Int32))] [(.int (1 : Int32)), (.ref ea)]))
  refine Rest.via (fun t k => XS.aloadN X5.here hx rfl (hb hby d5_17) rfl rfl k) ?_
  show Rest p.tables e below s _ _ _ (T5.setTop (mkF m 18 #[.val (.ref a0), .val (.int (0 : Int32)), .val (.int (1 : Int32))] [(.ref a0), (.int (1 : Int32)), (.ref ea)]))
  obtain ⟨T6, X6, e6, st6⟩ := getF X5 hx hZ hown (host := "") (Or.inl (hw _ (List.mem_of_getElem? (i := 12) rfl))) Via.refl e5 (F_e.other W4 (Or.inl n1)) (g := (mkF m 18 #[.val (.ref a0), .val (.int (0 : Int32)), .val (.int (1 : Int32))] [(.ref a0), (.int (1 : Int32)), (.ref ea)])) rfl rfl (hb hby d5_18)
  refine Rest.via (fun t k => st6 t k) ?_
  show Rest p.tables e below s _ _ _ (T6.setTop (mkF m 21 #[.val (.ref a0), .val (.int (0 : Int32)), .val (.int (1 : Int32))] [(.ref ea), (.int (1 : Int32)), (.ref ea)]))
  refine Rest.via (fun t k => XS.iloadN X6.here hx rfl (hb hby d5_21) rfl k) ?_
  show Rest p.tables e below s _ _ _ (T6.setTop (mkF m 22 #[.val (.ref a0), .val (.int (0 : Int32)), .val (.int (1 : Int32))] [(.int (0 : Int32)), (.ref ea), (.int (1 : Int32)), (.ref ea)]))
  obtain ⟨cl7, Ar7, qa7, Sa7, Pa7, Ha7, Ga7⟩ := id (V_e.other W4 (Ne.symm n3))
  have hin7 := inb_of (j := (0 : Int32)) Sa7 ⟨by decide, by decide⟩
  have hat7 : cl7.slots[((0 : Int32)).toNatClampNeg]? = some (.long u0) := Has.at Ha7 hin7 rfl
  refine Rest.via (fun t k => X6.laload hx (j := (0 : Int32)) (v := (.long u0)) (by rw [e6]; exact Ar7.1) (State.isArrayOf_alike hZ.alike Ar7.2.1) Ar7.2.2 hin7 hat7 (g := (mkF m 22 #[.val (.ref a0), .val (.int (0 : Int32)), .val (.int (1 : Int32))] [(.int (0 : Int32)), (.ref ea), (.int (1 : Int32)), (.ref ea)])) rfl rfl (hb hby d5_22) t k) ?_
  show Rest p.tables e below s _ _ _ (T6.setTop (mkF m 23 #[.val (.ref a0), .val (.int (0 : Int32)), .val (.int (1 : Int32))] [(.long u0), (.int (1 : Int32)), (.ref ea)]))
  obtain ⟨cl8, Ar8, qa8, Sa8, Pa8, Ha8, Ga8⟩ := id (V_e.other W4 (Ne.symm n3))
  have hin8 := inb_of (j := (1 : Int32)) Sa8 ⟨by decide, by decide⟩
  obtain ⟨T8, h8, X8, e8, W8, st8⟩ := stJ X6 hx hZ e6 Ar8 (j := (1 : Int32)) hin8 (g := (mkF m 23 #[.val (.ref a0), .val (.int (0 : Int32)), .val (.int (1 : Int32))] [(.long u0), (.int (1 : Int32)), (.ref ea)])) rfl rfl (hb hby d5_23)
  refine Rest.via (fun t k => st8 t k) ?_
  have N8 := Fr.snoc X8 N4 g_ea
  have K8 : Keep h0 h8 [a0, da, ea] := K4.wr W8 (Or.inl (List.mem_of_getElem? (i := 2) rfl))
  have V8 : Arv Z h8 ea k2 .long (16 : Int32) [(.long u0), (.long u0)] (.long (0 : Int64)) := Arv.set Ar8 qa8 Sa8 Pa8 Ha8 Ga8 rfl W8 1 rfl (Nat.le_of_ble_eq_true rfl)
  show Rest p.tables e below s _ _ _ (T8.setTop (mkF m 24 #[.val (.ref a0), .val (.int (0 : Int32)), .val (.int (1 : Int32))] []))
  refine Rest.ret X8 (v := none) (fun _ => rfl) hlk (fun fs hr => X8.returnOut hx Bd.returns (hb hby d5_24) hr) ?_ (by decide) (by decide)
  rw [e8]
  exact ⟨rfl, N8, K8, ⟨((E_a0.wr W4).wr W8), ((F_d.other W4 (Or.inl n1)).other W8 (Or.inl n2)), ((F_e.other W4 (Or.inl n1)).other W8 (Or.inl n2)), ((F_s.other W4 (Or.inl n1)).other W8 (Or.inl n2)), (V4.other W8 n3), V8, n1, n2, n3⟩⟩
theorem d3_0 : decode prog_4_method_3_code 0 = .ok (.aload_n 0, 1) := by decide +kernel
theorem d3_1 : decode prog_4_method_3_code 1 = .ok (.getfield 18, 3) := by decide +kernel
theorem d3_4 : decode prog_4_method_3_code 4 = .ok (.aload_n 0, 1) := by decide +kernel
theorem d3_5 : decode prog_4_method_3_code 5 = .ok (.getfield 11, 3) := by decide +kernel
theorem d3_8 : decode prog_4_method_3_code 8 = .ok (.arraylength, 1) := by decide +kernel
theorem d3_9 : decode prog_4_method_3_code 9 = .ok (.if_icmp .ne 7, 3) := by decide +kernel
theorem d3_16 : decode prog_4_method_3_code 16 = .ok (.aload_n 0, 1) := by decide +kernel
theorem d3_17 : decode prog_4_method_3_code 17 = .ok (.dup, 1) := by decide +kernel
theorem d3_18 : decode prog_4_method_3_code 18 = .ok (.getfield 18, 3) := by decide +kernel
theorem d3_21 : decode prog_4_method_3_code 21 = .ok (.dup_x1, 1) := by decide +kernel
theorem d3_22 : decode prog_4_method_3_code 22 = .ok (.iconst 1, 1) := by decide +kernel
theorem d3_23 : decode prog_4_method_3_code 23 = .ok (.iadd, 1) := by decide +kernel
theorem d3_24 : decode prog_4_method_3_code 24 = .ok (.putfield 18, 3) := by decide +kernel
theorem d3_27 : decode prog_4_method_3_code 27 = .ok (.istore 5, 2) := by decide +kernel
theorem d3_29 : decode prog_4_method_3_code 29 = .ok (.iload 5, 2) := by decide +kernel
theorem d3_31 : decode prog_4_method_3_code 31 = .ok (.ifCond .le 39, 3) := by decide +kernel
theorem d3_70 : decode prog_4_method_3_code 70 = .ok (.aload_n 0, 1) := by decide +kernel
theorem d3_71 : decode prog_4_method_3_code 71 = .ok (.getfield 11, 3) := by decide +kernel
theorem d3_74 : decode prog_4_method_3_code 74 = .ok (.iload 5, 2) := by decide +kernel
theorem d3_76 : decode prog_4_method_3_code 76 = .ok (.lload_n 1, 1) := by decide +kernel
theorem d3_77 : decode prog_4_method_3_code 77 = .ok (.lastore, 1) := by decide +kernel
theorem d3_78 : decode prog_4_method_3_code 78 = .ok (.aload_n 0, 1) := by decide +kernel
theorem d3_79 : decode prog_4_method_3_code 79 = .ok (.getfield 15, 3) := by decide +kernel
theorem d3_82 : decode prog_4_method_3_code 82 = .ok (.iload 5, 2) := by decide +kernel
theorem d3_84 : decode prog_4_method_3_code 84 = .ok (.lload_n 3, 1) := by decide +kernel
theorem d3_85 : decode prog_4_method_3_code 85 = .ok (.lastore, 1) := by decide +kernel
theorem d3_86 : decode prog_4_method_3_code 86 = .ok (.return_, 1) := by decide +kernel
theorem ef_A0 (m : MethodId) (a0 : Addr) (q1 : Int64) (q2 : Int64) : entryFrame m #[(.ref a0), (.long q1), (.long q2)] 6 = mkF m 0 #[.val (.ref a0), .val (.long q1), .second, .val (.long q2), .second, .unset] [] := by first | (simp [entryFrame, mkF, argsToLocals, Value.category, maxLocals]; done) | rfl
def QA0 (Z : State) (a0 : Addr) (q1 : Int64) (q2 : Int64) (da : Addr) (ea : Addr) (k1 : ClassId) (k2 : ClassId) (d0 : Int64) (d1 : Int64) (u0 : Int64) (u1 : Int64) (h0 : Heap) (n0 : Nat) (v : Option Value) (h : Heap) (L : List Loc) : Prop := v = none ∧ Fr n0 L ∧ Keep h0 h [a0, da, ea] ∧ own_DM Z h a0 da ea k1 k2 (1 : Int32) q1 d1 q2 u1
set_option maxRecDepth 65536 in
set_option maxHeartbeats 40000000 in
theorem rmA0 (l : Launch) (Z : State) (aw : Array Value) (hw : ∀ d ∈ tables_1, d.before aw Z = true) (ws : List Jvm.Cond) (a0 : Addr) (q1 : Int64) (q2 : Int64) (da : Addr) (ea : Addr) (k1 : ClassId) (k2 : ClassId) (d0 : Int64) (d1 : Int64) (u0 : Int64) (u1 : Int64) (h0 : Heap) (n0 : Nat) (Z0 : n0 ≤ h0.size) (D : own_DM Z h0 a0 da ea k1 k2 (0 : Int32) d0 d1 u0 u1) (g_a0 : n0 ≤ a0) (g_da : n0 ≤ da) (g_ea : n0 ≤ ea) :
    MetFree l (⟨"com/example/mark_delete/markdelete/broker/DelayedMessages", "add", "(JJ)V"⟩ : MethodName) (head1 (Jvm.Cond.code (⟨"com/example/mark_delete/markdelete/broker/DelayedMessages", "add", "(JJ)V"⟩ : MethodName) prog_4_method_3_code 6 none :: ws) ({ frames := 0, cells := 0, slots := 0, locals := 0 } : Room)) (fun a U => a = #[(.ref a0), (.long q1), (.long q2)] ∧ Z.Warmed39 U.vm ∧ U.heap = h0) (fun _ _ _ _ _ => True) (fun _ U o U' => ∃ v L, o = .returned v ∧ QA0 Z a0 q1 q2 da ea k1 k2 d0 d1 u0 u1 h0 n0 v U'.heap L ∧ FrameEnd U o U' L ({ frames := 0, cells := 0, slots := 0, locals := 0 } : Room).cells ({ frames := 0, cells := 0, slots := 0, locals := 0 } : Room).slots) := by
  refine MetFree.of_bodySF (plainFor_of_name pn_0) hisR ?_
  intro p e s m args below meth c s₁ Bd hml0 hP hK
  obtain ⟨rfl, hZ, hh⟩ := hP
  have hx := Bd.exec
  have hby := Bd.bytes
  have hml : c.maxLocals = 6 := hml0
  have hown : s.vm.findClass "com/example/mark_delete/markdelete/broker/DelayedMessages" = some m.cls := findClass_of_methodNamed Bd.named
  have hnm := (name_of_methodNamed Bd.named Bd.method).1
  have hlk : meth.locks = false := BodyLoose.notSynchronized Bd
  have X0 : Stand p l e ({ frames := 0, cells := 0, slots := 0, locals := 0 } : Room) s m #[(.ref a0), (.long q1), (.long q2)] below meth c s₁ [] 0 0 := Stand.of_body Bd
  have eh0 : s₁.heap = h0 := by rw [← hh, Bd.state]; rfl
  have N0 := Fr.nil n0
  show Rest p.tables e below s (QA0 Z a0 q1 q2 da ea k1 k2 d0 d1 u0 u1 h0 n0) _ _ (s₁.setTop (entryFrame m #[(.ref a0), (.long q1), (.long q2)] 6))
  refine Rest.via (fun t k => castTop (ef_A0 m a0 q1 q2) k) ?_
  have D0 := D
  obtain ⟨E_a0, F_d, F_e, F_s, V_d, V_e, n1, n2, n3⟩ := D0
  show Rest p.tables e below s _ _ _ (s₁.setTop (mkF m 0 #[.val (.ref a0), .val (.long q1), .second, .val (.long q2), .second, .unset] []))
  refine Rest.via (fun t k => XS.aloadN X0.here hx rfl (hb hby d3_0) rfl rfl k) ?_
  show Rest p.tables e below s _ _ _ (s₁.setTop (mkF m 1 #[.val (.ref a0), .val (.long q1), .second, .val (.long q2), .second, .unset] [(.ref a0)]))
  obtain ⟨T1, X1, e1, st1⟩ := getF X0 hx hZ hown (host := "") (Or.inl (hw _ (List.mem_of_getElem? (i := 19) rfl))) Via.refl eh0 F_s (g := (mkF m 1 #[.val (.ref a0), .val (.long q1), .second, .val (.long q2), .second, .unset] [(.ref a0)])) rfl rfl (hb hby d3_1)
  refine Rest.via (fun t k => st1 t k) ?_
  show Rest p.tables e below s _ _ _ (T1.setTop (mkF m 4 #[.val (.ref a0), .val (.long q1), .second, .val (.long q2), .second, .unset] [(.int (0 : Int32))]))
  refine Rest.via (fun t k => XS.aloadN X1.here hx rfl (hb hby d3_4) rfl rfl k) ?_
  show Rest p.tables e below s _ _ _ (T1.setTop (mkF m 5 #[.val (.ref a0), .val (.long q1), .second, .val (.long q2), .second, .unset] [(.ref a0), (.int (0 : Int32))]))
  obtain ⟨T2, X2, e2, st2⟩ := getF X1 hx hZ hown (host := "") (Or.inl (hw _ (List.mem_of_getElem? (i := 10) rfl))) Via.refl e1 F_d (g := (mkF m 5 #[.val (.ref a0), .val (.long q1), .second, .val (.long q2), .second, .unset] [(.ref a0), (.int (0 : Int32))])) rfl rfl (hb hby d3_5)
  refine Rest.via (fun t k => st2 t k) ?_
  show Rest p.tables e below s _ _ _ (T2.setTop (mkF m 8 #[.val (.ref a0), .val (.long q1), .second, .val (.long q2), .second, .unset] [(.ref da), (.int (0 : Int32))]))
  obtain ⟨cl3, Ar3, -, S3, P3, -, -⟩ := id V_d
  refine Rest.via (fun t k => X2.arraylength hx (by rw [e2]; exact Ar3.1) (State.isArrayOf_alike hZ.alike Ar3.2.1) (g := (mkF m 8 #[.val (.ref a0), .val (.long q1), .second, .val (.long q2), .second, .unset] [(.ref da), (.int (0 : Int32))])) rfl rfl (hb hby d3_8) t k) ?_
  rw [len_of S3 P3]
  show Rest p.tables e below s _ _ _ (T2.setTop (mkF m 9 #[.val (.ref a0), .val (.long q1), .second, .val (.long q2), .second, .unset] [(.int (16 : Int32)), (.int (0 : Int32))]))
  refine Rest.via (fun t k => XS.icmpYes X2.here hx rfl (pc0 := 9) (pc' := 16) rfl (hb hby d3_9) rfl (feq (by decide : ¬ ((0 : Int32) = (16 : Int32)))).2 (by decide) (by decide) k) ?_
  show Rest p.tables e below s _ _ _ (T2.setTop (mkF m 16 #[.val (.ref a0), .val (.long q1), .second, .val (.long q2), .second, .unset] []))
  refine Rest.via (fun t k => XS.aloadN X2.here hx rfl (hb hby d3_16) rfl rfl k) ?_
  show Rest p.tables e below s _ _ _ (T2.setTop (mkF m 17 #[.val (.ref a0), .val (.long q1), .second, .val (.long q2), .second, .unset] [(.ref a0)]))
  refine Rest.via (fun t k => XS.dup X2.here hx rfl (hb hby d3_17) rfl rfl k) ?_
  show Rest p.tables e below s _ _ _ (T2.setTop (mkF m 18 #[.val (.ref a0), .val (.long q1), .second, .val (.long q2), .second, .unset] [(.ref a0), (.ref a0)]))
  obtain ⟨T4, X4, e4, st4⟩ := getF X2 hx hZ hown (host := "") (Or.inl (hw _ (List.mem_of_getElem? (i := 19) rfl))) Via.refl e2 F_s (g := (mkF m 18 #[.val (.ref a0), .val (.long q1), .second, .val (.long q2), .second, .unset] [(.ref a0), (.ref a0)])) rfl rfl (hb hby d3_18)
  refine Rest.via (fun t k => st4 t k) ?_
  show Rest p.tables e below s _ _ _ (T4.setTop (mkF m 21 #[.val (.ref a0), .val (.long q1), .second, .val (.long q2), .second, .unset] [(.int (0 : Int32)), (.ref a0)]))
  refine Rest.via (fun t k => XS.dupX1 X4.here hx rfl (hb hby d3_21) rfl rfl rfl k) ?_
  show Rest p.tables e below s _ _ _ (T4.setTop (mkF m 22 #[.val (.ref a0), .val (.long q1), .second, .val (.long q2), .second, .unset] [(.int (0 : Int32)), (.ref a0), (.int (0 : Int32))]))
  refine Rest.via (fun t k => XS.iconst X4.here hx rfl (hb hby d3_22) k) ?_
  show Rest p.tables e below s _ _ _ (T4.setTop (mkF m 23 #[.val (.ref a0), .val (.long q1), .second, .val (.long q2), .second, .unset] [(.int (1 : Int32)), (.int (0 : Int32)), (.ref a0), (.int (0 : Int32))]))
  refine Rest.via (fun t k => XS.iadd X4.here hx rfl (hb hby d3_23) rfl k) ?_
  show Rest p.tables e below s _ _ _ (T4.setTop (mkF m 24 #[.val (.ref a0), .val (.long q1), .second, .val (.long q2), .second, .unset] [(.int ((0 : Int32) + (1 : Int32))), (.ref a0), (.int (0 : Int32))]))
  rw [(by decide : (0 : Int32) + (1 : Int32) = (1 : Int32))]
  show Rest p.tables e below s _ _ _ (T4.setTop (mkF m 24 #[.val (.ref a0), .val (.long q1), .second, .val (.long q2), .second, .unset] [(.int (1 : Int32)), (.ref a0), (.int (0 : Int32))]))
  have Fo5 := F_s
  obtain ⟨T5, h5, X5, e5, W5, st5⟩ := putF X4 hx hZ hown (host := "") (Or.inl (hw _ (List.mem_of_getElem? (i := 19) rfl))) Via.refl e4 Fo5 E_a0 (Or.inl (hw _ (List.mem_of_getElem? (i := 20) rfl))) (hw _ (List.mem_of_getElem? (i := 1) rfl)) (ty := .int) (by decide) rfl rfl (g := (mkF m 24 #[.val (.ref a0), .val (.long q1), .second, .val (.long q2), .second, .unset] [(.int (1 : Int32)), (.ref a0), (.int (0 : Int32))])) rfl rfl (hb hby d3_24)
  refine Rest.via (fun t k => st5 t k) ?_
  have N5 := Fr.snoc X5 N0 g_a0
  have K5 : Keep h0 h5 [a0, da, ea] := (Keep.refl h0 [a0, da, ea]).wr W5 (Or.inl (List.mem_of_getElem? (i := 0) rfl))
  have Fw5 := Fo5.same W5
  show Rest p.tables e below s _ _ _ (T5.setTop (mkF m 27 #[.val (.ref a0), .val (.long q1), .second, .val (.long q2), .second, .unset] [(.int (0 : Int32))]))
  refine Rest.via (fun t k => XS.istore X5.here hx rfl (hb hby d3_27) rfl (l' := #[.val (.ref a0), .val (.long q1), .second, .val (.long q2), .second, .val (.int (0 : Int32))]) rfl k) ?_
  show Rest p.tables e below s _ _ _ (T5.setTop (mkF m 29 #[.val (.ref a0), .val (.long q1), .second, .val (.long q2), .second, .val (.int (0 : Int32))] []))
  refine Rest.via (fun t k => XS.iload X5.here hx rfl (hb hby d3_29) rfl k) ?_
  show Rest p.tables e below s _ _ _ (T5.setTop (mkF m 31 #[.val (.ref a0), .val (.long q1), .second, .val (.long q2), .second, .val (.int (0 : Int32))] [(.int (0 : Int32))]))
  refine Rest.via (fun t k => XS.ifYes X5.here hx rfl (pc0 := 31) (pc' := 70) rfl (hb hby d3_31) rfl ((if0 _ _).trans (flt (by decide : ¬ ((0 : Int32) < (0 : Int32)))).2.2.2) (by decide) (by decide) k) ?_
  show Rest p.tables e below s _ _ _ (T5.setTop (mkF m 70 #[.val (.ref a0), .val (.long q1), .second, .val (.long q2), .second, .val (.int (0 : Int32))] []))
  refine Rest.via (fun t k => XS.aloadN X5.here hx rfl (hb hby d3_70) rfl rfl k) ?_
  show Rest p.tables e below s _ _ _ (T5.setTop (mkF m 71 #[.val (.ref a0), .val (.long q1), .second, .val (.long q2), .second, .val (.int (0 : Int32))] [(.ref a0)]))
  obtain ⟨T6, X6, e6, st6⟩ := getF X5 hx hZ hown (host := "") (Or.inl (hw _ (List.mem_of_getElem? (i := 10) rfl))) Via.refl e5 (F_d.other W5 (Or.inr (slot_ne (Or.inl (hw _ (List.mem_of_getElem? (i := 11) rfl))) (Or.inl (hw _ (List.mem_of_getElem? (i := 20) rfl))) (by decide) (t := (.array .long)) (t' := .int) (by decide) (by decide)))) (g := (mkF m 71 #[.val (.ref a0), .val (.long q1), .second, .val (.long q2), .second, .val (.int (0 : Int32))] [(.ref a0)])) rfl rfl (hb hby d3_71)
  refine Rest.via (fun t k => st6 t k) ?_
  show Rest p.tables e below s _ _ _ (T6.setTop (mkF m 74 #[.val (.ref a0), .val (.long q1), .second, .val (.long q2), .second, .val (.int (0 : Int32))] [(.ref da)]))
  refine Rest.via (fun t k => XS.iload X6.here hx rfl (hb hby d3_74) rfl k) ?_
  show Rest p.tables e below s _ _ _ (T6.setTop (mkF m 76 #[.val (.ref a0), .val (.long q1), .second, .val (.long q2), .second, .val (.int (0 : Int32))] [(.int (0 : Int32)), (.ref da)]))
  refine Rest.via (fun t k => XS.lloadN X6.here hx rfl (hb hby d3_76) rfl k) ?_
  show Rest p.tables e below s _ _ _ (T6.setTop (mkF m 77 #[.val (.ref a0), .val (.long q1), .second, .val (.long q2), .second, .val (.int (0 : Int32))] [(.long q1), (.int (0 : Int32)), (.ref da)]))
  obtain ⟨cl7, Ar7, qa7, Sa7, Pa7, Ha7, Ga7⟩ := id (V_d.other W5 (Ne.symm n1))
  have hin7 := inb_of (j := (0 : Int32)) Sa7 ⟨by decide, by decide⟩
  obtain ⟨T7, h7, X7, e7, W7, st7⟩ := stJ X6 hx hZ e6 Ar7 (j := (0 : Int32)) hin7 (g := (mkF m 77 #[.val (.ref a0), .val (.long q1), .second, .val (.long q2), .second, .val (.int (0 : Int32))] [(.long q1), (.int (0 : Int32)), (.ref da)])) rfl rfl (hb hby d3_77)
  refine Rest.via (fun t k => st7 t k) ?_
  have N7 := Fr.snoc X7 N5 g_da
  have K7 : Keep h0 h7 [a0, da, ea] := K5.wr W7 (Or.inl (List.mem_of_getElem? (i := 1) rfl))
  have V7 : Arv Z h7 da k1 .long (16 : Int32) [(.long q1), (.long d1)] (.long (0 : Int64)) := Arv.set Ar7 qa7 Sa7 Pa7 Ha7 Ga7 rfl W7 0 rfl (Nat.le_of_ble_eq_true rfl)
  show Rest p.tables e below s _ _ _ (T7.setTop (mkF m 78 #[.val (.ref a0), .val (.long q1), .second, .val (.long q2), .second, .val (.int (0 : Int32))] []))
  refine Rest.via (fun t k => XS.aloadN X7.here hx rfl (hb hby d3_78) rfl rfl k) ?_
  show Rest p.tables e below s _ _ _ (T7.setTop (mkF m 79 #[.val (.ref a0), .val (.long q1), .second, .val (.long q2), .second, .val (.int (0 : Int32))] [(.ref a0)]))
  obtain ⟨T8, X8, e8, st8⟩ := getF X7 hx hZ hown (host := "") (Or.inl (hw _ (List.mem_of_getElem? (i := 12) rfl))) Via.refl e7 ((F_e.other W5 (Or.inr (slot_ne (Or.inl (hw _ (List.mem_of_getElem? (i := 13) rfl))) (Or.inl (hw _ (List.mem_of_getElem? (i := 20) rfl))) (by decide) (t := (.array .long)) (t' := .int) (by decide) (by decide)))).other W7 (Or.inl n1)) (g := (mkF m 79 #[.val (.ref a0), .val (.long q1), .second, .val (.long q2), .second, .val (.int (0 : Int32))] [(.ref a0)])) rfl rfl (hb hby d3_79)
  refine Rest.via (fun t k => st8 t k) ?_
  show Rest p.tables e below s _ _ _ (T8.setTop (mkF m 82 #[.val (.ref a0), .val (.long q1), .second, .val (.long q2), .second, .val (.int (0 : Int32))] [(.ref ea)]))
  refine Rest.via (fun t k => XS.iload X8.here hx rfl (hb hby d3_82) rfl k) ?_
  show Rest p.tables e below s _ _ _ (T8.setTop (mkF m 84 #[.val (.ref a0), .val (.long q1), .second, .val (.long q2), .second, .val (.int (0 : Int32))] [(.int (0 : Int32)), (.ref ea)]))
  refine Rest.via (fun t k => XS.lloadN X8.here hx rfl (hb hby d3_84) rfl k) ?_
  show Rest p.tables e below s _ _ _ (T8.setTop (mkF m 85 #[.val (.ref a0), .val (.long q1), .second, .val (.long q2), .second, .val (.int (0 : Int32))] [(.long q2), (.int (0 : Int32)), (.ref ea)]))
  obtain ⟨cl9, Ar9, qa9, Sa9, Pa9, Ha9, Ga9⟩ := id ((V_e.other W5 (Ne.symm n2)).other W7 (Ne.symm n3))
  have hin9 := inb_of (j := (0 : Int32)) Sa9 ⟨by decide, by decide⟩
  obtain ⟨T9, h9, X9, e9, W9, st9⟩ := stJ X8 hx hZ e8 Ar9 (j := (0 : Int32)) hin9 (g := (mkF m 85 #[.val (.ref a0), .val (.long q1), .second, .val (.long q2), .second, .val (.int (0 : Int32))] [(.long q2), (.int (0 : Int32)), (.ref ea)])) rfl rfl (hb hby d3_85)
  refine Rest.via (fun t k => st9 t k) ?_
  have N9 := Fr.snoc X9 N7 g_ea
  have K9 : Keep h0 h9 [a0, da, ea] := K7.wr W9 (Or.inl (List.mem_of_getElem? (i := 2) rfl))
  have V9 : Arv Z h9 ea k2 .long (16 : Int32) [(.long q2), (.long u1)] (.long (0 : Int64)) := Arv.set Ar9 qa9 Sa9 Pa9 Ha9 Ga9 rfl W9 0 rfl (Nat.le_of_ble_eq_true rfl)
  show Rest p.tables e below s _ _ _ (T9.setTop (mkF m 86 #[.val (.ref a0), .val (.long q1), .second, .val (.long q2), .second, .val (.int (0 : Int32))] []))
  refine Rest.ret X9 (v := none) (fun _ => rfl) hlk (fun fs hr => X9.returnOut hx Bd.returns (hb hby d3_86) hr) ?_ (by decide) (by decide)
  rw [e9]
  exact ⟨rfl, N9, K9, ⟨(((E_a0.wr W5).wr W7).wr W9), (((F_d.other W5 (Or.inr (slot_ne (Or.inl (hw _ (List.mem_of_getElem? (i := 11) rfl))) (Or.inl (hw _ (List.mem_of_getElem? (i := 20) rfl))) (by decide) (t := (.array .long)) (t' := .int) (by decide) (by decide)))).other W7 (Or.inl n1)).other W9 (Or.inl n2)), (((F_e.other W5 (Or.inr (slot_ne (Or.inl (hw _ (List.mem_of_getElem? (i := 13) rfl))) (Or.inl (hw _ (List.mem_of_getElem? (i := 20) rfl))) (by decide) (t := (.array .long)) (t' := .int) (by decide) (by decide)))).other W7 (Or.inl n1)).other W9 (Or.inl n2)), ((Fw5.other W7 (Or.inl n1)).other W9 (Or.inl n2)), (V7.other W9 n3), V9, n1, n2, n3⟩⟩
theorem pd_0 : parseMethodDescriptor "(I)I" = some ⟨[.int], some .int⟩ := by decide +kernel
theorem pd_1 : parseMethodDescriptor "(II)V" = some ⟨[.int, .int], none⟩ := by decide +kernel
theorem d3_34 : decode prog_4_method_3_code 34 = .ok (.aload_n 0, 1) := by decide +kernel
theorem d3_35 : decode prog_4_method_3_code 35 = .ok (.getfield 11, 3) := by decide +kernel
theorem d3_38 : decode prog_4_method_3_code 38 = .ok (.iload 5, 2) := by decide +kernel
theorem d3_40 : decode prog_4_method_3_code 40 = .ok (.invokestatic 25, 3) := by decide +kernel
theorem d3_43 : decode prog_4_method_3_code 43 = .ok (.laload, 1) := by decide +kernel
theorem d3_44 : decode prog_4_method_3_code 44 = .ok (.lload_n 1, 1) := by decide +kernel
theorem d3_45 : decode prog_4_method_3_code 45 = .ok (.lcmp, 1) := by decide +kernel
theorem d3_46 : decode prog_4_method_3_code 46 = .ok (.ifCond .le 24, 3) := by decide +kernel
theorem d3_49 : decode prog_4_method_3_code 49 = .ok (.aload_n 0, 1) := by decide +kernel
theorem d3_50 : decode prog_4_method_3_code 50 = .ok (.iload 5, 2) := by decide +kernel
theorem d3_52 : decode prog_4_method_3_code 52 = .ok (.invokestatic 25, 3) := by decide +kernel
theorem d3_55 : decode prog_4_method_3_code 55 = .ok (.iload 5, 2) := by decide +kernel
theorem d3_57 : decode prog_4_method_3_code 57 = .ok (.invokevirtual 29, 3) := by decide +kernel
theorem d3_60 : decode prog_4_method_3_code 60 = .ok (.iload 5, 2) := by decide +kernel
theorem d3_62 : decode prog_4_method_3_code 62 = .ok (.invokestatic 25, 3) := by decide +kernel
theorem d3_65 : decode prog_4_method_3_code 65 = .ok (.istore 5, 2) := by decide +kernel
theorem d3_67 : decode prog_4_method_3_code 67 = .ok (.goto (-38), 3) := by decide +kernel
theorem ef_A1y (m : MethodId) (a0 : Addr) (q1 : Int64) (q2 : Int64) : entryFrame m #[(.ref a0), (.long q1), (.long q2)] 6 = mkF m 0 #[.val (.ref a0), .val (.long q1), .second, .val (.long q2), .second, .unset] [] := by first | (simp [entryFrame, mkF, argsToLocals, Value.category, maxLocals]; done) | rfl
def QA1y (Z : State) (a0 : Addr) (q1 : Int64) (q2 : Int64) (da : Addr) (ea : Addr) (k1 : ClassId) (k2 : ClassId) (d0 : Int64) (d1 : Int64) (u0 : Int64) (u1 : Int64) (h0 : Heap) (n0 : Nat) (v : Option Value) (h : Heap) (L : List Loc) : Prop := v = none ∧ Fr n0 L ∧ Keep h0 h [a0, da, ea] ∧ own_DM Z h a0 da ea k1 k2 (2 : Int32) q1 d0 q2 u0
set_option maxRecDepth 65536 in
set_option maxHeartbeats 40000000 in
theorem rmA1y (l : Launch) (Z : State) (aw : Array Value) (hw : ∀ d ∈ tables_1, d.before aw Z = true) (ws : List Jvm.Cond) (a0 : Addr) (q1 : Int64) (q2 : Int64) (da : Addr) (ea : Addr) (k1 : ClassId) (k2 : ClassId) (d0 : Int64) (d1 : Int64) (u0 : Int64) (u1 : Int64) (h0 : Heap) (n0 : Nat) (Z0 : n0 ≤ h0.size) (D : own_DM Z h0 a0 da ea k1 k2 (1 : Int32) d0 d1 u0 u1) (g_a0 : n0 ≤ a0) (g_da : n0 ≤ da) (g_ea : n0 ≤ ea) (hq : q1 < d0) :
    MetFree l (⟨"com/example/mark_delete/markdelete/broker/DelayedMessages", "add", "(JJ)V"⟩ : MethodName) (head1 (Jvm.Cond.code (⟨"com/example/mark_delete/markdelete/broker/DelayedMessages", "add", "(JJ)V"⟩ : MethodName) prog_4_method_3_code 6 none :: ws) ({ frames := 1, cells := 0, slots := 0, locals := 14 } : Room)) (fun a U => a = #[(.ref a0), (.long q1), (.long q2)] ∧ Z.Warmed39 U.vm ∧ U.heap = h0) (fun _ _ _ _ _ => True) (fun _ U o U' => ∃ v L, o = .returned v ∧ QA1y Z a0 q1 q2 da ea k1 k2 d0 d1 u0 u1 h0 n0 v U'.heap L ∧ FrameEnd U o U' L ({ frames := 1, cells := 0, slots := 0, locals := 14 } : Room).cells ({ frames := 1, cells := 0, slots := 0, locals := 14 } : Room).slots) := by
  refine MetFree.of_bodySF (plainFor_of_name pn_0) hisR ?_
  intro p e s m args below meth c s₁ Bd hml0 hP hK
  obtain ⟨rfl, hZ, hh⟩ := hP
  have hx := Bd.exec
  have hby := Bd.bytes
  have hml : c.maxLocals = 6 := hml0
  have hown : s.vm.findClass "com/example/mark_delete/markdelete/broker/DelayedMessages" = some m.cls := findClass_of_methodNamed Bd.named
  have hnm := (name_of_methodNamed Bd.named Bd.method).1
  have hlk : meth.locks = false := BodyLoose.notSynchronized Bd
  have X0 : Stand p l e ({ frames := 1, cells := 0, slots := 0, locals := 14 } : Room) s m #[(.ref a0), (.long q1), (.long q2)] below meth c s₁ [] 0 0 := Stand.of_body Bd
  have eh0 : s₁.heap = h0 := by rw [← hh, Bd.state]; rfl
  have N0 := Fr.nil n0
  show Rest p.tables e below s (QA1y Z a0 q1 q2 da ea k1 k2 d0 d1 u0 u1 h0 n0) _ _ (s₁.setTop (entryFrame m #[(.ref a0), (.long q1), (.long q2)] 6))
  refine Rest.via (fun t k => castTop (ef_A1y m a0 q1 q2) k) ?_
  have D0 := D
  obtain ⟨E_a0, F_d, F_e, F_s, V_d, V_e, n1, n2, n3⟩ := D0
  show Rest p.tables e below s _ _ _ (s₁.setTop (mkF m 0 #[.val (.ref a0), .val (.long q1), .second, .val (.long q2), .second, .unset] []))
  refine Rest.via (fun t k => XS.aloadN X0.here hx rfl (hb hby d3_0) rfl rfl k) ?_
  show Rest p.tables e below s _ _ _ (s₁.setTop (mkF m 1 #[.val (.ref a0), .val (.long q1), .second, .val (.long q2), .second, .unset] [(.ref a0)]))
  obtain ⟨T1, X1, e1, st1⟩ := getF X0 hx hZ hown (host := "") (Or.inl (hw _ (List.mem_of_getElem? (i := 19) rfl))) Via.refl eh0 F_s (g := (mkF m 1 #[.val (.ref a0), .val (.long q1), .second, .val (.long q2), .second, .unset] [(.ref a0)])) rfl rfl (hb hby d3_1)
  refine Rest.via (fun t k => st1 t k) ?_
  show Rest p.tables e below s _ _ _ (T1.setTop (mkF m 4 #[.val (.ref a0), .val (.long q1), .second, .val (.long q2), .second, .unset] [(.int (1 : Int32))]))
  refine Rest.via (fun t k => XS.aloadN X1.here hx rfl (hb hby d3_4) rfl rfl k) ?_
  show Rest p.tables e below s _ _ _ (T1.setTop (mkF m 5 #[.val (.ref a0), .val (.long q1), .second, .val (.long q2), .second, .unset] [(.ref a0), (.int (1 : Int32))]))
  obtain ⟨T2, X2, e2, st2⟩ := getF X1 hx hZ hown (host := "") (Or.inl (hw _ (List.mem_of_getElem? (i := 10) rfl))) Via.refl e1 F_d (g := (mkF m 5 #[.val (.ref a0), .val (.long q1), .second, .val (.long q2), .second, .unset] [(.ref a0), (.int (1 : Int32))])) rfl rfl (hb hby d3_5)
  refine Rest.via (fun t k => st2 t k) ?_
  show Rest p.tables e below s _ _ _ (T2.setTop (mkF m 8 #[.val (.ref a0), .val (.long q1), .second, .val (.long q2), .second, .unset] [(.ref da), (.int (1 : Int32))]))
  obtain ⟨cl3, Ar3, -, S3, P3, -, -⟩ := id V_d
  refine Rest.via (fun t k => X2.arraylength hx (by rw [e2]; exact Ar3.1) (State.isArrayOf_alike hZ.alike Ar3.2.1) (g := (mkF m 8 #[.val (.ref a0), .val (.long q1), .second, .val (.long q2), .second, .unset] [(.ref da), (.int (1 : Int32))])) rfl rfl (hb hby d3_8) t k) ?_
  rw [len_of S3 P3]
  show Rest p.tables e below s _ _ _ (T2.setTop (mkF m 9 #[.val (.ref a0), .val (.long q1), .second, .val (.long q2), .second, .unset] [(.int (16 : Int32)), (.int (1 : Int32))]))
  refine Rest.via (fun t k => XS.icmpYes X2.here hx rfl (pc0 := 9) (pc' := 16) rfl (hb hby d3_9) rfl (feq (by decide : ¬ ((1 : Int32) = (16 : Int32)))).2 (by decide) (by decide) k) ?_
  show Rest p.tables e below s _ _ _ (T2.setTop (mkF m 16 #[.val (.ref a0), .val (.long q1), .second, .val (.long q2), .second, .unset] []))
  refine Rest.via (fun t k => XS.aloadN X2.here hx rfl (hb hby d3_16) rfl rfl k) ?_
  show Rest p.tables e below s _ _ _ (T2.setTop (mkF m 17 #[.val (.ref a0), .val (.long q1), .second, .val (.long q2), .second, .unset] [(.ref a0)]))
  refine Rest.via (fun t k => XS.dup X2.here hx rfl (hb hby d3_17) rfl rfl k) ?_
  show Rest p.tables e below s _ _ _ (T2.setTop (mkF m 18 #[.val (.ref a0), .val (.long q1), .second, .val (.long q2), .second, .unset] [(.ref a0), (.ref a0)]))
  obtain ⟨T4, X4, e4, st4⟩ := getF X2 hx hZ hown (host := "") (Or.inl (hw _ (List.mem_of_getElem? (i := 19) rfl))) Via.refl e2 F_s (g := (mkF m 18 #[.val (.ref a0), .val (.long q1), .second, .val (.long q2), .second, .unset] [(.ref a0), (.ref a0)])) rfl rfl (hb hby d3_18)
  refine Rest.via (fun t k => st4 t k) ?_
  show Rest p.tables e below s _ _ _ (T4.setTop (mkF m 21 #[.val (.ref a0), .val (.long q1), .second, .val (.long q2), .second, .unset] [(.int (1 : Int32)), (.ref a0)]))
  refine Rest.via (fun t k => XS.dupX1 X4.here hx rfl (hb hby d3_21) rfl rfl rfl k) ?_
  show Rest p.tables e below s _ _ _ (T4.setTop (mkF m 22 #[.val (.ref a0), .val (.long q1), .second, .val (.long q2), .second, .unset] [(.int (1 : Int32)), (.ref a0), (.int (1 : Int32))]))
  refine Rest.via (fun t k => XS.iconst X4.here hx rfl (hb hby d3_22) k) ?_
  show Rest p.tables e below s _ _ _ (T4.setTop (mkF m 23 #[.val (.ref a0), .val (.long q1), .second, .val (.long q2), .second, .unset] [(.int (1 : Int32)), (.int (1 : Int32)), (.ref a0), (.int (1 : Int32))]))
  refine Rest.via (fun t k => XS.iadd X4.here hx rfl (hb hby d3_23) rfl k) ?_
  show Rest p.tables e below s _ _ _ (T4.setTop (mkF m 24 #[.val (.ref a0), .val (.long q1), .second, .val (.long q2), .second, .unset] [(.int ((1 : Int32) + (1 : Int32))), (.ref a0), (.int (1 : Int32))]))
  rw [(by decide : (1 : Int32) + (1 : Int32) = (2 : Int32))]
  show Rest p.tables e below s _ _ _ (T4.setTop (mkF m 24 #[.val (.ref a0), .val (.long q1), .second, .val (.long q2), .second, .unset] [(.int (2 : Int32)), (.ref a0), (.int (1 : Int32))]))
  have Fo5 := F_s
  obtain ⟨T5, h5, X5, e5, W5, st5⟩ := putF X4 hx hZ hown (host := "") (Or.inl (hw _ (List.mem_of_getElem? (i := 19) rfl))) Via.refl e4 Fo5 E_a0 (Or.inl (hw _ (List.mem_of_getElem? (i := 20) rfl))) (hw _ (List.mem_of_getElem? (i := 1) rfl)) (ty := .int) (by decide) rfl rfl (g := (mkF m 24 #[.val (.ref a0), .val (.long q1), .second, .val (.long q2), .second, .unset] [(.int (2 : Int32)), (.ref a0), (.int (1 : Int32))])) rfl rfl (hb hby d3_24)
  refine Rest.via (fun t k => st5 t k) ?_
  have N5 := Fr.snoc X5 N0 g_a0
  have K5 : Keep h0 h5 [a0, da, ea] := (Keep.refl h0 [a0, da, ea]).wr W5 (Or.inl (List.mem_of_getElem? (i := 0) rfl))
  have Fw5 := Fo5.same W5
  show Rest p.tables e below s _ _ _ (T5.setTop (mkF m 27 #[.val (.ref a0), .val (.long q1), .second, .val (.long q2), .second, .unset] [(.int (1 : Int32))]))
  refine Rest.via (fun t k => XS.istore X5.here hx rfl (hb hby d3_27) rfl (l' := #[.val (.ref a0), .val (.long q1), .second, .val (.long q2), .second, .val (.int (1 : Int32))]) rfl k) ?_
  show Rest p.tables e below s _ _ _ (T5.setTop (mkF m 29 #[.val (.ref a0), .val (.long q1), .second, .val (.long q2), .second, .val (.int (1 : Int32))] []))
  refine Rest.via (fun t k => XS.iload X5.here hx rfl (hb hby d3_29) rfl k) ?_
  show Rest p.tables e below s _ _ _ (T5.setTop (mkF m 31 #[.val (.ref a0), .val (.long q1), .second, .val (.long q2), .second, .val (.int (1 : Int32))] [(.int (1 : Int32))]))
  refine Rest.via (fun t k => XS.ifNo X5.here hx rfl (hb hby d3_31) rfl ((if0 _ _).trans (tlt (by decide : (0 : Int32) < (1 : Int32))).2.2.2) k) ?_
  show Rest p.tables e below s _ _ _ (T5.setTop (mkF m 34 #[.val (.ref a0), .val (.long q1), .second, .val (.long q2), .second, .val (.int (1 : Int32))] []))
  refine Rest.via (fun t k => XS.aloadN X5.here hx rfl (hb hby d3_34) rfl rfl k) ?_
  show Rest p.tables e below s _ _ _ (T5.setTop (mkF m 35 #[.val (.ref a0), .val (.long q1), .second, .val (.long q2), .second, .val (.int (1 : Int32))] [(.ref a0)]))
  obtain ⟨T6, X6, e6, st6⟩ := getF X5 hx hZ hown (host := "") (Or.inl (hw _ (List.mem_of_getElem? (i := 10) rfl))) Via.refl e5 (F_d.other W5 (Or.inr (slot_ne (Or.inl (hw _ (List.mem_of_getElem? (i := 11) rfl))) (Or.inl (hw _ (List.mem_of_getElem? (i := 20) rfl))) (by decide) (t := (.array .long)) (t' := .int) (by decide) (by decide)))) (g := (mkF m 35 #[.val (.ref a0), .val (.long q1), .second, .val (.long q2), .second, .val (.int (1 : Int32))] [(.ref a0)])) rfl rfl (hb hby d3_35)
  refine Rest.via (fun t k => st6 t k) ?_
  show Rest p.tables e below s _ _ _ (T6.setTop (mkF m 38 #[.val (.ref a0), .val (.long q1), .second, .val (.long q2), .second, .val (.int (1 : Int32))] [(.ref da)]))
  refine Rest.via (fun t k => XS.iload X6.here hx rfl (hb hby d3_38) rfl k) ?_
  show Rest p.tables e below s _ _ _ (T6.setTop (mkF m 40 #[.val (.ref a0), .val (.long q1), .second, .val (.long q2), .second, .val (.int (1 : Int32))] [(.int (1 : Int32)), (.ref da)]))
  obtain ⟨_, _, ⟨T7, L7, k7, n7⟩, -, X7, ⟨Lc7, hQ7, l7, y7, z7⟩, st7⟩ := Jvm.LawKit.callS X6 hx (y := (⟨"com/example/mark_delete/markdelete/broker/DelayedMessages", "parent", "(I)I"⟩ : MethodName)) hown (mvT hZ (hw _ (List.mem_of_getElem? (i := 22) rfl))) (mvT hZ (hw _ (List.mem_of_getElem? (i := 23) rfl))) (mvT hZ (hw _ (List.mem_of_getElem? (i := 2) rfl))) (mvT hZ (hw _ (List.mem_of_getElem? (i := 24) rfl))) (by decide) (backOf (W := 1) (rmP l Z aw hw []   h5 n0 (Nat.le_trans Z0 K5.1) ) hZ (hw _ (List.mem_of_getElem? (i := 24) rfl)) (hw _ (List.mem_of_getElem? (i := 2) rfl)) (by decide) (by decide)) (g := (mkF m 40 #[.val (.ref a0), .val (.long q1), .second, .val (.long q2), .second, .val (.int (1 : Int32))] [(.int (1 : Int32)), (.ref da)])) rfl (by rw [hml]; rfl) (argsL := [(.int (1 : Int32))]) (rest := [(.ref da)]) (lenOf pd_0 rfl) rfl (by show 2 * 0 + _ ≤ _; exact Nat.le_of_eq rfl) (hb hby d3_40) (fun _ _ => ⟨rfl, e6, (by decide : 0 + 0 ≤ _), (by decide : 0 + 0 ≤ _)⟩)
  dsimp only [Pt.U, Pt.locs, Pt.cells, Pt.slots] at X7 l7 y7 z7 st7 hQ7
  subst l7 y7 z7
  obtain ⟨rfl, Nq7, e7⟩ := hQ7
  have N7 := Fr.app N5 Nq7
  refine Rest.via (fun t k => st7 t k) ?_
  show Rest p.tables e below s _ _ _ (T7.setTop (mkF m 43 #[.val (.ref a0), .val (.long q1), .second, .val (.long q2), .second, .val (.int (1 : Int32))] [(.int (0 : Int32)), (.ref da)]))
  obtain ⟨cl8, Ar8, qa8, Sa8, Pa8, Ha8, Ga8⟩ := id (V_d.other W5 (Ne.symm n1))
  have hin8 := inb_of (j := (0 : Int32)) Sa8 ⟨by decide, by decide⟩
  have hat8 : cl8.slots[((0 : Int32)).toNatClampNeg]? = some (.long d0) := Has.at Ha8 hin8 rfl
  refine Rest.via (fun t k => X7.laload hx (j := (0 : Int32)) (v := (.long d0)) (by rw [e7]; exact Ar8.1) (State.isArrayOf_alike hZ.alike Ar8.2.1) Ar8.2.2 hin8 hat8 (g := (mkF m 43 #[.val (.ref a0), .val (.long q1), .second, .val (.long q2), .second, .val (.int (1 : Int32))] [(.int (0 : Int32)), (.ref da)])) rfl rfl (hb hby d3_43) t k) ?_
  show Rest p.tables e below s _ _ _ (T7.setTop (mkF m 44 #[.val (.ref a0), .val (.long q1), .second, .val (.long q2), .second, .val (.int (1 : Int32))] [(.long d0)]))
  refine Rest.via (fun t k => XS.lloadN X7.here hx rfl (hb hby d3_44) rfl k) ?_
  show Rest p.tables e below s _ _ _ (T7.setTop (mkF m 45 #[.val (.ref a0), .val (.long q1), .second, .val (.long q2), .second, .val (.int (1 : Int32))] [(.long q1), (.long d0)]))
  refine Rest.via (fun t k => XS.lcmp X7.here hx rfl (hb hby d3_45) rfl k) ?_
  show Rest p.tables e below s _ _ _ (T7.setTop (mkF m 46 #[.val (.ref a0), .val (.long q1), .second, .val (.long q2), .second, .val (.int (1 : Int32))] [(.int (lcmpW d0 q1))]))
  refine Rest.via (fun t k => XS.ifNo X7.here hx rfl (hb hby d3_46) rfl ((if0 _ _).trans (tlt ((lw_gt _ _).mpr (hq : q1 < d0))).2.2.2) k) ?_
  show Rest p.tables e below s _ _ _ (T7.setTop (mkF m 49 #[.val (.ref a0), .val (.long q1), .second, .val (.long q2), .second, .val (.int (1 : Int32))] []))
  refine Rest.via (fun t k => XS.aloadN X7.here hx rfl (hb hby d3_49) rfl rfl k) ?_
  show Rest p.tables e below s _ _ _ (T7.setTop (mkF m 50 #[.val (.ref a0), .val (.long q1), .second, .val (.long q2), .second, .val (.int (1 : Int32))] [(.ref a0)]))
  refine Rest.via (fun t k => XS.iload X7.here hx rfl (hb hby d3_50) rfl k) ?_
  show Rest p.tables e below s _ _ _ (T7.setTop (mkF m 52 #[.val (.ref a0), .val (.long q1), .second, .val (.long q2), .second, .val (.int (1 : Int32))] [(.int (1 : Int32)), (.ref a0)]))
  obtain ⟨_, _, ⟨T9, L9, k9, n9⟩, -, X9, ⟨Lc9, hQ9, l9, y9, z9⟩, st9⟩ := Jvm.LawKit.callS X7 hx (y := (⟨"com/example/mark_delete/markdelete/broker/DelayedMessages", "parent", "(I)I"⟩ : MethodName)) hown (mvT hZ (hw _ (List.mem_of_getElem? (i := 22) rfl))) (mvT hZ (hw _ (List.mem_of_getElem? (i := 23) rfl))) (mvT hZ (hw _ (List.mem_of_getElem? (i := 2) rfl))) (mvT hZ (hw _ (List.mem_of_getElem? (i := 24) rfl))) (by decide) (backOf (W := 1) (rmP l Z aw hw []   h5 n0 (Nat.le_trans Z0 K5.1) ) hZ (hw _ (List.mem_of_getElem? (i := 24) rfl)) (hw _ (List.mem_of_getElem? (i := 2) rfl)) (by decide) (by decide)) (g := (mkF m 52 #[.val (.ref a0), .val (.long q1), .second, .val (.long q2), .second, .val (.int (1 : Int32))] [(.int (1 : Int32)), (.ref a0)])) rfl (by rw [hml]; rfl) (argsL := [(.int (1 : Int32))]) (rest := [(.ref a0)]) (lenOf pd_0 rfl) rfl (by show 2 * 0 + _ ≤ _; exact Nat.le_of_eq rfl) (hb hby d3_52) (fun _ _ => ⟨rfl, e7, (by decide : 0 + 0 ≤ _), (by decide : 0 + 0 ≤ _)⟩)
  dsimp only [Pt.U, Pt.locs, Pt.cells, Pt.slots] at X9 l9 y9 z9 st9 hQ9
  subst l9 y9 z9
  obtain ⟨rfl, Nq9, e9⟩ := hQ9
  have N9 := Fr.app N7 Nq9
  refine Rest.via (fun t k => st9 t k) ?_
  show Rest p.tables e below s _ _ _ (T9.setTop (mkF m 55 #[.val (.ref a0), .val (.long q1), .second, .val (.long q2), .second, .val (.int (1 : Int32))] [(.int (0 : Int32)), (.ref a0)]))
  refine Rest.via (fun t k => XS.iload X9.here hx rfl (hb hby d3_55) rfl k) ?_
  show Rest p.tables e below s _ _ _ (T9.setTop (mkF m 57 #[.val (.ref a0), .val (.long q1), .second, .val (.long q2), .second, .val (.int (1 : Int32))] [(.int (1 : Int32)), (.int (0 : Int32)), (.ref a0)]))
  obtain ⟨cq10, q10, q10'⟩ := ((E_a0.wr W5)).cell
  obtain ⟨_, _, ⟨T10, L10, k10, n10⟩, -, X10, ⟨Lc10, hQ10, l10, y10, z10⟩, st10⟩ := X9.privateBack hx (y := (⟨"com/example/mark_delete/markdelete/broker/DelayedMessages", "move", "(II)V"⟩ : MethodName)) hown (mvT hZ (hw _ (List.mem_of_getElem? (i := 25) rfl))) (mvT hZ (hw _ (List.mem_of_getElem? (i := 26) rfl))) (own_selpriv (mvT hZ (hw _ (List.mem_of_getElem? (i := 1) rfl)) (args := #[])) (mvP hZ (hw _ (List.mem_of_getElem? (i := 27) rfl)) (args := #[])) (mvT hZ (hw _ (List.mem_of_getElem? (i := 26) rfl)) (args := #[])) (by decide)) (Cond.privateMethod_at (mvP hZ (hw _ (List.mem_of_getElem? (i := 27) rfl)) (args := #[]))) (mvT hZ (hw _ (List.mem_of_getElem? (i := 28) rfl))) (by decide) (backOf (W := 0) (rmM l Z aw hw [] a0 da ea k1 k2 d0 d1 u0 u1 (2 : Int32) h5 n0 (Nat.le_trans Z0 K5.1) ⟨(E_a0.wr W5), (F_d.other W5 (Or.inr (slot_ne (Or.inl (hw _ (List.mem_of_getElem? (i := 11) rfl))) (Or.inl (hw _ (List.mem_of_getElem? (i := 20) rfl))) (by decide) (t := (.array .long)) (t' := .int) (by decide) (by decide)))), (F_e.other W5 (Or.inr (slot_ne (Or.inl (hw _ (List.mem_of_getElem? (i := 13) rfl))) (Or.inl (hw _ (List.mem_of_getElem? (i := 20) rfl))) (by decide) (t := (.array .long)) (t' := .int) (by decide) (by decide)))), Fw5, (V_d.other W5 (Ne.symm n1)), (V_e.other W5 (Ne.symm n2)), n1, n2, n3⟩ g_a0 g_da g_ea) hZ (hw _ (List.mem_of_getElem? (i := 28) rfl)) (hw _ (List.mem_of_getElem? (i := 2) rfl)) (by decide) (by decide)) (g := (mkF m 57 #[.val (.ref a0), .val (.long q1), .second, .val (.long q2), .second, .val (.int (1 : Int32))] [(.int (1 : Int32)), (.int (0 : Int32)), (.ref a0)])) rfl (by rw [hml]; rfl) (Steps.refl _) (a := a0) (by rw [e9]; exact q10) q10' (argsL := [(.int (0 : Int32)), (.int (1 : Int32))]) (rest := []) (lenOf pd_1 rfl) rfl (by show 2 * 0 + _ ≤ _; exact Nat.le_of_eq rfl) (hb hby d3_57) (fun _ _ => ⟨rfl, e9, (by decide : 0 + 0 ≤ _), (by decide : 0 + 0 ≤ _)⟩)
  dsimp only [Pt.U, Pt.locs, Pt.cells, Pt.slots] at X10 l10 y10 z10 st10 hQ10
  subst l10 y10 z10
  obtain ⟨h10, e10⟩ : ∃ z, T10.heap = z := ⟨_, rfl⟩
  rw [e10] at hQ10
  obtain ⟨rfl, Nq10, Kq10, Dm10⟩ := hQ10
  have N10 := Fr.app N9 Nq10
  have K10 : Keep h0 h10 [a0, da, ea] := K5.trans Kq10 (allS (Or.inl (List.mem_of_getElem? (i := 0) rfl)) (allS (Or.inl (List.mem_of_getElem? (i := 1) rfl)) (allS (Or.inl (List.mem_of_getElem? (i := 2) rfl)) all0)))
  refine Rest.via (fun t k => st10.trans k) ?_
  show Rest p.tables e below s _ _ _ (T10.setTop (mkF m 60 #[.val (.ref a0), .val (.long q1), .second, .val (.long q2), .second, .val (.int (1 : Int32))] []))
  refine Rest.via (fun t k => XS.iload X10.here hx rfl (hb hby d3_60) rfl k) ?_
  show Rest p.tables e below s _ _ _ (T10.setTop (mkF m 62 #[.val (.ref a0), .val (.long q1), .second, .val (.long q2), .second, .val (.int (1 : Int32))] [(.int (1 : Int32))]))
  obtain ⟨_, _, ⟨T11, L11, k11, n11⟩, -, X11, ⟨Lc11, hQ11, l11, y11, z11⟩, st11⟩ := Jvm.LawKit.callS X10 hx (y := (⟨"com/example/mark_delete/markdelete/broker/DelayedMessages", "parent", "(I)I"⟩ : MethodName)) hown (mvT hZ (hw _ (List.mem_of_getElem? (i := 22) rfl))) (mvT hZ (hw _ (List.mem_of_getElem? (i := 23) rfl))) (mvT hZ (hw _ (List.mem_of_getElem? (i := 2) rfl))) (mvT hZ (hw _ (List.mem_of_getElem? (i := 24) rfl))) (by decide) (backOf (W := 0) (rmP l Z aw hw []   h10 n0 (Nat.le_trans Z0 K10.1) ) hZ (hw _ (List.mem_of_getElem? (i := 24) rfl)) (hw _ (List.mem_of_getElem? (i := 2) rfl)) (by decide) (by decide)) (g := (mkF m 62 #[.val (.ref a0), .val (.long q1), .second, .val (.long q2), .second, .val (.int (1 : Int32))] [(.int (1 : Int32))])) rfl (by rw [hml]; rfl) (argsL := [(.int (1 : Int32))]) (rest := []) (lenOf pd_0 rfl) rfl (by show 2 * 0 + _ ≤ _; exact Nat.le_of_eq rfl) (hb hby d3_62) (fun _ _ => ⟨rfl, e10, (by decide : 0 + 0 ≤ _), (by decide : 0 + 0 ≤ _)⟩)
  dsimp only [Pt.U, Pt.locs, Pt.cells, Pt.slots] at X11 l11 y11 z11 st11 hQ11
  subst l11 y11 z11
  obtain ⟨rfl, Nq11, e11⟩ := hQ11
  have N11 := Fr.app N10 Nq11
  refine Rest.via (fun t k => st11 t k) ?_
  show Rest p.tables e below s _ _ _ (T11.setTop (mkF m 65 #[.val (.ref a0), .val (.long q1), .second, .val (.long q2), .second, .val (.int (1 : Int32))] [(.int (0 : Int32))]))
  refine Rest.via (fun t k => XS.istore X11.here hx rfl (hb hby d3_65) rfl (l' := #[.val (.ref a0), .val (.long q1), .second, .val (.long q2), .second, .val (.int (0 : Int32))]) rfl k) ?_
  show Rest p.tables e below s _ _ _ (T11.setTop (mkF m 67 #[.val (.ref a0), .val (.long q1), .second, .val (.long q2), .second, .val (.int (0 : Int32))] []))
  refine Rest.via (fun t k => XS.goto X11.here hx rfl (pc0 := 67) (pc' := 29) rfl (hb hby d3_67) (by decide) (by decide) k) ?_
  show Rest p.tables e below s _ _ _ (T11.setTop (mkF m 29 #[.val (.ref a0), .val (.long q1), .second, .val (.long q2), .second, .val (.int (0 : Int32))] []))
  refine Rest.via (fun t k => XS.iload X11.here hx rfl (hb hby d3_29) rfl k) ?_
  show Rest p.tables e below s _ _ _ (T11.setTop (mkF m 31 #[.val (.ref a0), .val (.long q1), .second, .val (.long q2), .second, .val (.int (0 : Int32))] [(.int (0 : Int32))]))
  refine Rest.via (fun t k => XS.ifYes X11.here hx rfl (pc0 := 31) (pc' := 70) rfl (hb hby d3_31) rfl ((if0 _ _).trans (flt (by decide : ¬ ((0 : Int32) < (0 : Int32)))).2.2.2) (by decide) (by decide) k) ?_
  show Rest p.tables e below s _ _ _ (T11.setTop (mkF m 70 #[.val (.ref a0), .val (.long q1), .second, .val (.long q2), .second, .val (.int (0 : Int32))] []))
  refine Rest.via (fun t k => XS.aloadN X11.here hx rfl (hb hby d3_70) rfl rfl k) ?_
  show Rest p.tables e below s _ _ _ (T11.setTop (mkF m 71 #[.val (.ref a0), .val (.long q1), .second, .val (.long q2), .second, .val (.int (0 : Int32))] [(.ref a0)]))
  obtain ⟨T12, X12, e12, st12⟩ := getF X11 hx hZ hown (host := "") (Or.inl (hw _ (List.mem_of_getElem? (i := 10) rfl))) Via.refl e11 Dm10.2.1 (g := (mkF m 71 #[.val (.ref a0), .val (.long q1), .second, .val (.long q2), .second, .val (.int (0 : Int32))] [(.ref a0)])) rfl rfl (hb hby d3_71)
  refine Rest.via (fun t k => st12 t k) ?_
  show Rest p.tables e below s _ _ _ (T12.setTop (mkF m 74 #[.val (.ref a0), .val (.long q1), .second, .val (.long q2), .second, .val (.int (0 : Int32))] [(.ref da)]))
  refine Rest.via (fun t k => XS.iload X12.here hx rfl (hb hby d3_74) rfl k) ?_
  show Rest p.tables e below s _ _ _ (T12.setTop (mkF m 76 #[.val (.ref a0), .val (.long q1), .second, .val (.long q2), .second, .val (.int (0 : Int32))] [(.int (0 : Int32)), (.ref da)]))
  refine Rest.via (fun t k => XS.lloadN X12.here hx rfl (hb hby d3_76) rfl k) ?_
  show Rest p.tables e below s _ _ _ (T12.setTop (mkF m 77 #[.val (.ref a0), .val (.long q1), .second, .val (.long q2), .second, .val (.int (0 : Int32))] [(.long q1), (.int (0 : Int32)), (.ref da)]))
  obtain ⟨cl13, Ar13, qa13, Sa13, Pa13, Ha13, Ga13⟩ := id Dm10.2.2.2.2.1
  have hin13 := inb_of (j := (0 : Int32)) Sa13 ⟨by decide, by decide⟩
  obtain ⟨T13, h13, X13, e13, W13, st13⟩ := stJ X12 hx hZ e12 Ar13 (j := (0 : Int32)) hin13 (g := (mkF m 77 #[.val (.ref a0), .val (.long q1), .second, .val (.long q2), .second, .val (.int (0 : Int32))] [(.long q1), (.int (0 : Int32)), (.ref da)])) rfl rfl (hb hby d3_77)
  refine Rest.via (fun t k => st13 t k) ?_
  have N13 := Fr.snoc X13 N11 g_da
  have K13 : Keep h0 h13 [a0, da, ea] := K10.wr W13 (Or.inl (List.mem_of_getElem? (i := 1) rfl))
  have V13 : Arv Z h13 da k1 .long (16 : Int32) [(.long q1), (.long d0)] (.long (0 : Int64)) := Arv.set Ar13 qa13 Sa13 Pa13 Ha13 Ga13 rfl W13 0 rfl (Nat.le_of_ble_eq_true rfl)
  show Rest p.tables e below s _ _ _ (T13.setTop (mkF m 78 #[.val (.ref a0), .val (.long q1), .second, .val (.long q2), .second, .val (.int (0 : Int32))] []))
  refine Rest.via (fun t k => XS.aloadN X13.here hx rfl (hb hby d3_78) rfl rfl k) ?_
  show Rest p.tables e below s _ _ _ (T13.setTop (mkF m 79 #[.val (.ref a0), .val (.long q1), .second, .val (.long q2), .second, .val (.int (0 : Int32))] [(.ref a0)]))
  obtain ⟨T14, X14, e14, st14⟩ := getF X13 hx hZ hown (host := "") (Or.inl (hw _ (List.mem_of_getElem? (i := 12) rfl))) Via.refl e13 (Dm10.2.2.1.other W13 (Or.inl n1)) (g := (mkF m 79 #[.val (.ref a0), .val (.long q1), .second, .val (.long q2), .second, .val (.int (0 : Int32))] [(.ref a0)])) rfl rfl (hb hby d3_79)
  refine Rest.via (fun t k => st14 t k) ?_
  show Rest p.tables e below s _ _ _ (T14.setTop (mkF m 82 #[.val (.ref a0), .val (.long q1), .second, .val (.long q2), .second, .val (.int (0 : Int32))] [(.ref ea)]))
  refine Rest.via (fun t k => XS.iload X14.here hx rfl (hb hby d3_82) rfl k) ?_
  show Rest p.tables e below s _ _ _ (T14.setTop (mkF m 84 #[.val (.ref a0), .val (.long q1), .second, .val (.long q2), .second, .val (.int (0 : Int32))] [(.int (0 : Int32)), (.ref ea)]))
  refine Rest.via (fun t k => XS.lloadN X14.here hx rfl (hb hby d3_84) rfl k) ?_
  show Rest p.tables e below s _ _ _ (T14.setTop (mkF m 85 #[.val (.ref a0), .val (.long q1), .second, .val (.long q2), .second, .val (.int (0 : Int32))] [(.long q2), (.int (0 : Int32)), (.ref ea)]))
  obtain ⟨cl15, Ar15, qa15, Sa15, Pa15, Ha15, Ga15⟩ := id (Dm10.2.2.2.2.2.1.other W13 (Ne.symm n3))
  have hin15 := inb_of (j := (0 : Int32)) Sa15 ⟨by decide, by decide⟩
  obtain ⟨T15, h15, X15, e15, W15, st15⟩ := stJ X14 hx hZ e14 Ar15 (j := (0 : Int32)) hin15 (g := (mkF m 85 #[.val (.ref a0), .val (.long q1), .second, .val (.long q2), .second, .val (.int (0 : Int32))] [(.long q2), (.int (0 : Int32)), (.ref ea)])) rfl rfl (hb hby d3_85)
  refine Rest.via (fun t k => st15 t k) ?_
  have N15 := Fr.snoc X15 N13 g_ea
  have K15 : Keep h0 h15 [a0, da, ea] := K13.wr W15 (Or.inl (List.mem_of_getElem? (i := 2) rfl))
  have V15 : Arv Z h15 ea k2 .long (16 : Int32) [(.long q2), (.long u0)] (.long (0 : Int64)) := Arv.set Ar15 qa15 Sa15 Pa15 Ha15 Ga15 rfl W15 0 rfl (Nat.le_of_ble_eq_true rfl)
  show Rest p.tables e below s _ _ _ (T15.setTop (mkF m 86 #[.val (.ref a0), .val (.long q1), .second, .val (.long q2), .second, .val (.int (0 : Int32))] []))
  refine Rest.ret X15 (v := none) (fun _ => rfl) hlk (fun fs hr => X15.returnOut hx Bd.returns (hb hby d3_86) hr) ?_ (by decide) (by decide)
  rw [e15]
  exact ⟨rfl, N15, K15, ⟨((Dm10.1.wr W13).wr W15), ((Dm10.2.1.other W13 (Or.inl n1)).other W15 (Or.inl n2)), ((Dm10.2.2.1.other W13 (Or.inl n1)).other W15 (Or.inl n2)), ((Dm10.2.2.2.1.other W13 (Or.inl n1)).other W15 (Or.inl n2)), (V13.other W15 n3), V15, n1, n2, n3⟩⟩
theorem ef_A1n (m : MethodId) (a0 : Addr) (q1 : Int64) (q2 : Int64) : entryFrame m #[(.ref a0), (.long q1), (.long q2)] 6 = mkF m 0 #[.val (.ref a0), .val (.long q1), .second, .val (.long q2), .second, .unset] [] := by first | (simp [entryFrame, mkF, argsToLocals, Value.category, maxLocals]; done) | rfl
def QA1n (Z : State) (a0 : Addr) (q1 : Int64) (q2 : Int64) (da : Addr) (ea : Addr) (k1 : ClassId) (k2 : ClassId) (d0 : Int64) (d1 : Int64) (u0 : Int64) (u1 : Int64) (h0 : Heap) (n0 : Nat) (v : Option Value) (h : Heap) (L : List Loc) : Prop := v = none ∧ Fr n0 L ∧ Keep h0 h [a0, da, ea] ∧ own_DM Z h a0 da ea k1 k2 (2 : Int32) d0 q1 u0 q2
set_option maxRecDepth 65536 in
set_option maxHeartbeats 40000000 in
theorem rmA1n (l : Launch) (Z : State) (aw : Array Value) (hw : ∀ d ∈ tables_1, d.before aw Z = true) (ws : List Jvm.Cond) (a0 : Addr) (q1 : Int64) (q2 : Int64) (da : Addr) (ea : Addr) (k1 : ClassId) (k2 : ClassId) (d0 : Int64) (d1 : Int64) (u0 : Int64) (u1 : Int64) (h0 : Heap) (n0 : Nat) (Z0 : n0 ≤ h0.size) (D : own_DM Z h0 a0 da ea k1 k2 (1 : Int32) d0 d1 u0 u1) (g_a0 : n0 ≤ a0) (g_da : n0 ≤ da) (g_ea : n0 ≤ ea) (hq : ¬ (q1 < d0)) :
    MetFree l (⟨"com/example/mark_delete/markdelete/broker/DelayedMessages", "add", "(JJ)V"⟩ : MethodName) (head1 (Jvm.Cond.code (⟨"com/example/mark_delete/markdelete/broker/DelayedMessages", "add", "(JJ)V"⟩ : MethodName) prog_4_method_3_code 6 none :: ws) ({ frames := 1, cells := 0, slots := 0, locals := 13 } : Room)) (fun a U => a = #[(.ref a0), (.long q1), (.long q2)] ∧ Z.Warmed39 U.vm ∧ U.heap = h0) (fun _ _ _ _ _ => True) (fun _ U o U' => ∃ v L, o = .returned v ∧ QA1n Z a0 q1 q2 da ea k1 k2 d0 d1 u0 u1 h0 n0 v U'.heap L ∧ FrameEnd U o U' L ({ frames := 1, cells := 0, slots := 0, locals := 13 } : Room).cells ({ frames := 1, cells := 0, slots := 0, locals := 13 } : Room).slots) := by
  refine MetFree.of_bodySF (plainFor_of_name pn_0) hisR ?_
  intro p e s m args below meth c s₁ Bd hml0 hP hK
  obtain ⟨rfl, hZ, hh⟩ := hP
  have hx := Bd.exec
  have hby := Bd.bytes
  have hml : c.maxLocals = 6 := hml0
  have hown : s.vm.findClass "com/example/mark_delete/markdelete/broker/DelayedMessages" = some m.cls := findClass_of_methodNamed Bd.named
  have hnm := (name_of_methodNamed Bd.named Bd.method).1
  have hlk : meth.locks = false := BodyLoose.notSynchronized Bd
  have X0 : Stand p l e ({ frames := 1, cells := 0, slots := 0, locals := 13 } : Room) s m #[(.ref a0), (.long q1), (.long q2)] below meth c s₁ [] 0 0 := Stand.of_body Bd
  have eh0 : s₁.heap = h0 := by rw [← hh, Bd.state]; rfl
  have N0 := Fr.nil n0
  show Rest p.tables e below s (QA1n Z a0 q1 q2 da ea k1 k2 d0 d1 u0 u1 h0 n0) _ _ (s₁.setTop (entryFrame m #[(.ref a0), (.long q1), (.long q2)] 6))
  refine Rest.via (fun t k => castTop (ef_A1n m a0 q1 q2) k) ?_
  have D0 := D
  obtain ⟨E_a0, F_d, F_e, F_s, V_d, V_e, n1, n2, n3⟩ := D0
  show Rest p.tables e below s _ _ _ (s₁.setTop (mkF m 0 #[.val (.ref a0), .val (.long q1), .second, .val (.long q2), .second, .unset] []))
  refine Rest.via (fun t k => XS.aloadN X0.here hx rfl (hb hby d3_0) rfl rfl k) ?_
  show Rest p.tables e below s _ _ _ (s₁.setTop (mkF m 1 #[.val (.ref a0), .val (.long q1), .second, .val (.long q2), .second, .unset] [(.ref a0)]))
  obtain ⟨T1, X1, e1, st1⟩ := getF X0 hx hZ hown (host := "") (Or.inl (hw _ (List.mem_of_getElem? (i := 19) rfl))) Via.refl eh0 F_s (g := (mkF m 1 #[.val (.ref a0), .val (.long q1), .second, .val (.long q2), .second, .unset] [(.ref a0)])) rfl rfl (hb hby d3_1)
  refine Rest.via (fun t k => st1 t k) ?_
  show Rest p.tables e below s _ _ _ (T1.setTop (mkF m 4 #[.val (.ref a0), .val (.long q1), .second, .val (.long q2), .second, .unset] [(.int (1 : Int32))]))
  refine Rest.via (fun t k => XS.aloadN X1.here hx rfl (hb hby d3_4) rfl rfl k) ?_
  show Rest p.tables e below s _ _ _ (T1.setTop (mkF m 5 #[.val (.ref a0), .val (.long q1), .second, .val (.long q2), .second, .unset] [(.ref a0), (.int (1 : Int32))]))
  obtain ⟨T2, X2, e2, st2⟩ := getF X1 hx hZ hown (host := "") (Or.inl (hw _ (List.mem_of_getElem? (i := 10) rfl))) Via.refl e1 F_d (g := (mkF m 5 #[.val (.ref a0), .val (.long q1), .second, .val (.long q2), .second, .unset] [(.ref a0), (.int (1 : Int32))])) rfl rfl (hb hby d3_5)
  refine Rest.via (fun t k => st2 t k) ?_
  show Rest p.tables e below s _ _ _ (T2.setTop (mkF m 8 #[.val (.ref a0), .val (.long q1), .second, .val (.long q2), .second, .unset] [(.ref da), (.int (1 : Int32))]))
  obtain ⟨cl3, Ar3, -, S3, P3, -, -⟩ := id V_d
  refine Rest.via (fun t k => X2.arraylength hx (by rw [e2]; exact Ar3.1) (State.isArrayOf_alike hZ.alike Ar3.2.1) (g := (mkF m 8 #[.val (.ref a0), .val (.long q1), .second, .val (.long q2), .second, .unset] [(.ref da), (.int (1 : Int32))])) rfl rfl (hb hby d3_8) t k) ?_
  rw [len_of S3 P3]
  show Rest p.tables e below s _ _ _ (T2.setTop (mkF m 9 #[.val (.ref a0), .val (.long q1), .second, .val (.long q2), .second, .unset] [(.int (16 : Int32)), (.int (1 : Int32))]))
  refine Rest.via (fun t k => XS.icmpYes X2.here hx rfl (pc0 := 9) (pc' := 16) rfl (hb hby d3_9) rfl (feq (by decide : ¬ ((1 : Int32) = (16 : Int32)))).2 (by decide) (by decide) k) ?_
  show Rest p.tables e below s _ _ _ (T2.setTop (mkF m 16 #[.val (.ref a0), .val (.long q1), .second, .val (.long q2), .second, .unset] []))
  refine Rest.via (fun t k => XS.aloadN X2.here hx rfl (hb hby d3_16) rfl rfl k) ?_
  show Rest p.tables e below s _ _ _ (T2.setTop (mkF m 17 #[.val (.ref a0), .val (.long q1), .second, .val (.long q2), .second, .unset] [(.ref a0)]))
  refine Rest.via (fun t k => XS.dup X2.here hx rfl (hb hby d3_17) rfl rfl k) ?_
  show Rest p.tables e below s _ _ _ (T2.setTop (mkF m 18 #[.val (.ref a0), .val (.long q1), .second, .val (.long q2), .second, .unset] [(.ref a0), (.ref a0)]))
  obtain ⟨T4, X4, e4, st4⟩ := getF X2 hx hZ hown (host := "") (Or.inl (hw _ (List.mem_of_getElem? (i := 19) rfl))) Via.refl e2 F_s (g := (mkF m 18 #[.val (.ref a0), .val (.long q1), .second, .val (.long q2), .second, .unset] [(.ref a0), (.ref a0)])) rfl rfl (hb hby d3_18)
  refine Rest.via (fun t k => st4 t k) ?_
  show Rest p.tables e below s _ _ _ (T4.setTop (mkF m 21 #[.val (.ref a0), .val (.long q1), .second, .val (.long q2), .second, .unset] [(.int (1 : Int32)), (.ref a0)]))
  refine Rest.via (fun t k => XS.dupX1 X4.here hx rfl (hb hby d3_21) rfl rfl rfl k) ?_
  show Rest p.tables e below s _ _ _ (T4.setTop (mkF m 22 #[.val (.ref a0), .val (.long q1), .second, .val (.long q2), .second, .unset] [(.int (1 : Int32)), (.ref a0), (.int (1 : Int32))]))
  refine Rest.via (fun t k => XS.iconst X4.here hx rfl (hb hby d3_22) k) ?_
  show Rest p.tables e below s _ _ _ (T4.setTop (mkF m 23 #[.val (.ref a0), .val (.long q1), .second, .val (.long q2), .second, .unset] [(.int (1 : Int32)), (.int (1 : Int32)), (.ref a0), (.int (1 : Int32))]))
  refine Rest.via (fun t k => XS.iadd X4.here hx rfl (hb hby d3_23) rfl k) ?_
  show Rest p.tables e below s _ _ _ (T4.setTop (mkF m 24 #[.val (.ref a0), .val (.long q1), .second, .val (.long q2), .second, .unset] [(.int ((1 : Int32) + (1 : Int32))), (.ref a0), (.int (1 : Int32))]))
  rw [(by decide : (1 : Int32) + (1 : Int32) = (2 : Int32))]
  show Rest p.tables e below s _ _ _ (T4.setTop (mkF m 24 #[.val (.ref a0), .val (.long q1), .second, .val (.long q2), .second, .unset] [(.int (2 : Int32)), (.ref a0), (.int (1 : Int32))]))
  have Fo5 := F_s
  obtain ⟨T5, h5, X5, e5, W5, st5⟩ := putF X4 hx hZ hown (host := "") (Or.inl (hw _ (List.mem_of_getElem? (i := 19) rfl))) Via.refl e4 Fo5 E_a0 (Or.inl (hw _ (List.mem_of_getElem? (i := 20) rfl))) (hw _ (List.mem_of_getElem? (i := 1) rfl)) (ty := .int) (by decide) rfl rfl (g := (mkF m 24 #[.val (.ref a0), .val (.long q1), .second, .val (.long q2), .second, .unset] [(.int (2 : Int32)), (.ref a0), (.int (1 : Int32))])) rfl rfl (hb hby d3_24)
  refine Rest.via (fun t k => st5 t k) ?_
  have N5 := Fr.snoc X5 N0 g_a0
  have K5 : Keep h0 h5 [a0, da, ea] := (Keep.refl h0 [a0, da, ea]).wr W5 (Or.inl (List.mem_of_getElem? (i := 0) rfl))
  have Fw5 := Fo5.same W5
  show Rest p.tables e below s _ _ _ (T5.setTop (mkF m 27 #[.val (.ref a0), .val (.long q1), .second, .val (.long q2), .second, .unset] [(.int (1 : Int32))]))
  refine Rest.via (fun t k => XS.istore X5.here hx rfl (hb hby d3_27) rfl (l' := #[.val (.ref a0), .val (.long q1), .second, .val (.long q2), .second, .val (.int (1 : Int32))]) rfl k) ?_
  show Rest p.tables e below s _ _ _ (T5.setTop (mkF m 29 #[.val (.ref a0), .val (.long q1), .second, .val (.long q2), .second, .val (.int (1 : Int32))] []))
  refine Rest.via (fun t k => XS.iload X5.here hx rfl (hb hby d3_29) rfl k) ?_
  show Rest p.tables e below s _ _ _ (T5.setTop (mkF m 31 #[.val (.ref a0), .val (.long q1), .second, .val (.long q2), .second, .val (.int (1 : Int32))] [(.int (1 : Int32))]))
  refine Rest.via (fun t k => XS.ifNo X5.here hx rfl (hb hby d3_31) rfl ((if0 _ _).trans (tlt (by decide : (0 : Int32) < (1 : Int32))).2.2.2) k) ?_
  show Rest p.tables e below s _ _ _ (T5.setTop (mkF m 34 #[.val (.ref a0), .val (.long q1), .second, .val (.long q2), .second, .val (.int (1 : Int32))] []))
  refine Rest.via (fun t k => XS.aloadN X5.here hx rfl (hb hby d3_34) rfl rfl k) ?_
  show Rest p.tables e below s _ _ _ (T5.setTop (mkF m 35 #[.val (.ref a0), .val (.long q1), .second, .val (.long q2), .second, .val (.int (1 : Int32))] [(.ref a0)]))
  obtain ⟨T6, X6, e6, st6⟩ := getF X5 hx hZ hown (host := "") (Or.inl (hw _ (List.mem_of_getElem? (i := 10) rfl))) Via.refl e5 (F_d.other W5 (Or.inr (slot_ne (Or.inl (hw _ (List.mem_of_getElem? (i := 11) rfl))) (Or.inl (hw _ (List.mem_of_getElem? (i := 20) rfl))) (by decide) (t := (.array .long)) (t' := .int) (by decide) (by decide)))) (g := (mkF m 35 #[.val (.ref a0), .val (.long q1), .second, .val (.long q2), .second, .val (.int (1 : Int32))] [(.ref a0)])) rfl rfl (hb hby d3_35)
  refine Rest.via (fun t k => st6 t k) ?_
  show Rest p.tables e below s _ _ _ (T6.setTop (mkF m 38 #[.val (.ref a0), .val (.long q1), .second, .val (.long q2), .second, .val (.int (1 : Int32))] [(.ref da)]))
  refine Rest.via (fun t k => XS.iload X6.here hx rfl (hb hby d3_38) rfl k) ?_
  show Rest p.tables e below s _ _ _ (T6.setTop (mkF m 40 #[.val (.ref a0), .val (.long q1), .second, .val (.long q2), .second, .val (.int (1 : Int32))] [(.int (1 : Int32)), (.ref da)]))
  obtain ⟨_, _, ⟨T7, L7, k7, n7⟩, -, X7, ⟨Lc7, hQ7, l7, y7, z7⟩, st7⟩ := Jvm.LawKit.callS X6 hx (y := (⟨"com/example/mark_delete/markdelete/broker/DelayedMessages", "parent", "(I)I"⟩ : MethodName)) hown (mvT hZ (hw _ (List.mem_of_getElem? (i := 22) rfl))) (mvT hZ (hw _ (List.mem_of_getElem? (i := 23) rfl))) (mvT hZ (hw _ (List.mem_of_getElem? (i := 2) rfl))) (mvT hZ (hw _ (List.mem_of_getElem? (i := 24) rfl))) (by decide) (backOf (W := 1) (rmP l Z aw hw []   h5 n0 (Nat.le_trans Z0 K5.1) ) hZ (hw _ (List.mem_of_getElem? (i := 24) rfl)) (hw _ (List.mem_of_getElem? (i := 2) rfl)) (by decide) (by decide)) (g := (mkF m 40 #[.val (.ref a0), .val (.long q1), .second, .val (.long q2), .second, .val (.int (1 : Int32))] [(.int (1 : Int32)), (.ref da)])) rfl (by rw [hml]; rfl) (argsL := [(.int (1 : Int32))]) (rest := [(.ref da)]) (lenOf pd_0 rfl) rfl (by show 2 * 0 + _ ≤ _; exact Nat.le_of_eq rfl) (hb hby d3_40) (fun _ _ => ⟨rfl, e6, (by decide : 0 + 0 ≤ _), (by decide : 0 + 0 ≤ _)⟩)
  dsimp only [Pt.U, Pt.locs, Pt.cells, Pt.slots] at X7 l7 y7 z7 st7 hQ7
  subst l7 y7 z7
  obtain ⟨rfl, Nq7, e7⟩ := hQ7
  have N7 := Fr.app N5 Nq7
  refine Rest.via (fun t k => st7 t k) ?_
  show Rest p.tables e below s _ _ _ (T7.setTop (mkF m 43 #[.val (.ref a0), .val (.long q1), .second, .val (.long q2), .second, .val (.int (1 : Int32))] [(.int (0 : Int32)), (.ref da)]))
  obtain ⟨cl8, Ar8, qa8, Sa8, Pa8, Ha8, Ga8⟩ := id (V_d.other W5 (Ne.symm n1))
  have hin8 := inb_of (j := (0 : Int32)) Sa8 ⟨by decide, by decide⟩
  have hat8 : cl8.slots[((0 : Int32)).toNatClampNeg]? = some (.long d0) := Has.at Ha8 hin8 rfl
  refine Rest.via (fun t k => X7.laload hx (j := (0 : Int32)) (v := (.long d0)) (by rw [e7]; exact Ar8.1) (State.isArrayOf_alike hZ.alike Ar8.2.1) Ar8.2.2 hin8 hat8 (g := (mkF m 43 #[.val (.ref a0), .val (.long q1), .second, .val (.long q2), .second, .val (.int (1 : Int32))] [(.int (0 : Int32)), (.ref da)])) rfl rfl (hb hby d3_43) t k) ?_
  show Rest p.tables e below s _ _ _ (T7.setTop (mkF m 44 #[.val (.ref a0), .val (.long q1), .second, .val (.long q2), .second, .val (.int (1 : Int32))] [(.long d0)]))
  refine Rest.via (fun t k => XS.lloadN X7.here hx rfl (hb hby d3_44) rfl k) ?_
  show Rest p.tables e below s _ _ _ (T7.setTop (mkF m 45 #[.val (.ref a0), .val (.long q1), .second, .val (.long q2), .second, .val (.int (1 : Int32))] [(.long q1), (.long d0)]))
  refine Rest.via (fun t k => XS.lcmp X7.here hx rfl (hb hby d3_45) rfl k) ?_
  show Rest p.tables e below s _ _ _ (T7.setTop (mkF m 46 #[.val (.ref a0), .val (.long q1), .second, .val (.long q2), .second, .val (.int (1 : Int32))] [(.int (lcmpW d0 q1))]))
  refine Rest.via (fun t k => XS.ifYes X7.here hx rfl (pc0 := 46) (pc' := 70) rfl (hb hby d3_46) rfl ((if0 _ _).trans (flt (fun q => (hq : ¬ (q1 < d0)) ((lw_gt _ _).mp q))).2.2.2) (by decide) (by decide) k) ?_
  show Rest p.tables e below s _ _ _ (T7.setTop (mkF m 70 #[.val (.ref a0), .val (.long q1), .second, .val (.long q2), .second, .val (.int (1 : Int32))] []))
  refine Rest.via (fun t k => XS.aloadN X7.here hx rfl (hb hby d3_70) rfl rfl k) ?_
  show Rest p.tables e below s _ _ _ (T7.setTop (mkF m 71 #[.val (.ref a0), .val (.long q1), .second, .val (.long q2), .second, .val (.int (1 : Int32))] [(.ref a0)]))
  obtain ⟨T9, X9, e9, st9⟩ := getF X7 hx hZ hown (host := "") (Or.inl (hw _ (List.mem_of_getElem? (i := 10) rfl))) Via.refl e7 (F_d.other W5 (Or.inr (slot_ne (Or.inl (hw _ (List.mem_of_getElem? (i := 11) rfl))) (Or.inl (hw _ (List.mem_of_getElem? (i := 20) rfl))) (by decide) (t := (.array .long)) (t' := .int) (by decide) (by decide)))) (g := (mkF m 71 #[.val (.ref a0), .val (.long q1), .second, .val (.long q2), .second, .val (.int (1 : Int32))] [(.ref a0)])) rfl rfl (hb hby d3_71)
  refine Rest.via (fun t k => st9 t k) ?_
  show Rest p.tables e below s _ _ _ (T9.setTop (mkF m 74 #[.val (.ref a0), .val (.long q1), .second, .val (.long q2), .second, .val (.int (1 : Int32))] [(.ref da)]))
  refine Rest.via (fun t k => XS.iload X9.here hx rfl (hb hby d3_74) rfl k) ?_
  show Rest p.tables e below s _ _ _ (T9.setTop (mkF m 76 #[.val (.ref a0), .val (.long q1), .second, .val (.long q2), .second, .val (.int (1 : Int32))] [(.int (1 : Int32)), (.ref da)]))
  refine Rest.via (fun t k => XS.lloadN X9.here hx rfl (hb hby d3_76) rfl k) ?_
  show Rest p.tables e below s _ _ _ (T9.setTop (mkF m 77 #[.val (.ref a0), .val (.long q1), .second, .val (.long q2), .second, .val (.int (1 : Int32))] [(.long q1), (.int (1 : Int32)), (.ref da)]))
  obtain ⟨cl10, Ar10, qa10, Sa10, Pa10, Ha10, Ga10⟩ := id (V_d.other W5 (Ne.symm n1))
  have hin10 := inb_of (j := (1 : Int32)) Sa10 ⟨by decide, by decide⟩
  obtain ⟨T10, h10, X10, e10, W10, st10⟩ := stJ X9 hx hZ e9 Ar10 (j := (1 : Int32)) hin10 (g := (mkF m 77 #[.val (.ref a0), .val (.long q1), .second, .val (.long q2), .second, .val (.int (1 : Int32))] [(.long q1), (.int (1 : Int32)), (.ref da)])) rfl rfl (hb hby d3_77)
  refine Rest.via (fun t k => st10 t k) ?_
  have N10 := Fr.snoc X10 N7 g_da
  have K10 : Keep h0 h10 [a0, da, ea] := K5.wr W10 (Or.inl (List.mem_of_getElem? (i := 1) rfl))
  have V10 : Arv Z h10 da k1 .long (16 : Int32) [(.long d0), (.long q1)] (.long (0 : Int64)) := Arv.set Ar10 qa10 Sa10 Pa10 Ha10 Ga10 rfl W10 1 rfl (Nat.le_of_ble_eq_true rfl)
  show Rest p.tables e below s _ _ _ (T10.setTop (mkF m 78 #[.val (.ref a0), .val (.long q1), .second, .val (.long q2), .second, .val (.int (1 : Int32))] []))
  refine Rest.via (fun t k => XS.aloadN X10.here hx rfl (hb hby d3_78) rfl rfl k) ?_
  show Rest p.tables e below s _ _ _ (T10.setTop (mkF m 79 #[.val (.ref a0), .val (.long q1), .second, .val (.long q2), .second, .val (.int (1 : Int32))] [(.ref a0)]))
  obtain ⟨T11, X11, e11, st11⟩ := getF X10 hx hZ hown (host := "") (Or.inl (hw _ (List.mem_of_getElem? (i := 12) rfl))) Via.refl e10 ((F_e.other W5 (Or.inr (slot_ne (Or.inl (hw _ (List.mem_of_getElem? (i := 13) rfl))) (Or.inl (hw _ (List.mem_of_getElem? (i := 20) rfl))) (by decide) (t := (.array .long)) (t' := .int) (by decide) (by decide)))).other W10 (Or.inl n1)) (g := (mkF m 79 #[.val (.ref a0), .val (.long q1), .second, .val (.long q2), .second, .val (.int (1 : Int32))] [(.ref a0)])) rfl rfl (hb hby d3_79)
  refine Rest.via (fun t k => st11 t k) ?_
  show Rest p.tables e below s _ _ _ (T11.setTop (mkF m 82 #[.val (.ref a0), .val (.long q1), .second, .val (.long q2), .second, .val (.int (1 : Int32))] [(.ref ea)]))
  refine Rest.via (fun t k => XS.iload X11.here hx rfl (hb hby d3_82) rfl k) ?_
  show Rest p.tables e below s _ _ _ (T11.setTop (mkF m 84 #[.val (.ref a0), .val (.long q1), .second, .val (.long q2), .second, .val (.int (1 : Int32))] [(.int (1 : Int32)), (.ref ea)]))
  refine Rest.via (fun t k => XS.lloadN X11.here hx rfl (hb hby d3_84) rfl k) ?_
  show Rest p.tables e below s _ _ _ (T11.setTop (mkF m 85 #[.val (.ref a0), .val (.long q1), .second, .val (.long q2), .second, .val (.int (1 : Int32))] [(.long q2), (.int (1 : Int32)), (.ref ea)]))
  obtain ⟨cl12, Ar12, qa12, Sa12, Pa12, Ha12, Ga12⟩ := id ((V_e.other W5 (Ne.symm n2)).other W10 (Ne.symm n3))
  have hin12 := inb_of (j := (1 : Int32)) Sa12 ⟨by decide, by decide⟩
  obtain ⟨T12, h12, X12, e12, W12, st12⟩ := stJ X11 hx hZ e11 Ar12 (j := (1 : Int32)) hin12 (g := (mkF m 85 #[.val (.ref a0), .val (.long q1), .second, .val (.long q2), .second, .val (.int (1 : Int32))] [(.long q2), (.int (1 : Int32)), (.ref ea)])) rfl rfl (hb hby d3_85)
  refine Rest.via (fun t k => st12 t k) ?_
  have N12 := Fr.snoc X12 N10 g_ea
  have K12 : Keep h0 h12 [a0, da, ea] := K10.wr W12 (Or.inl (List.mem_of_getElem? (i := 2) rfl))
  have V12 : Arv Z h12 ea k2 .long (16 : Int32) [(.long u0), (.long q2)] (.long (0 : Int64)) := Arv.set Ar12 qa12 Sa12 Pa12 Ha12 Ga12 rfl W12 1 rfl (Nat.le_of_ble_eq_true rfl)
  show Rest p.tables e below s _ _ _ (T12.setTop (mkF m 86 #[.val (.ref a0), .val (.long q1), .second, .val (.long q2), .second, .val (.int (1 : Int32))] []))
  refine Rest.ret X12 (v := none) (fun _ => rfl) hlk (fun fs hr => X12.returnOut hx Bd.returns (hb hby d3_86) hr) ?_ (by decide) (by decide)
  rw [e12]
  exact ⟨rfl, N12, K12, ⟨(((E_a0.wr W5).wr W10).wr W12), (((F_d.other W5 (Or.inr (slot_ne (Or.inl (hw _ (List.mem_of_getElem? (i := 11) rfl))) (Or.inl (hw _ (List.mem_of_getElem? (i := 20) rfl))) (by decide) (t := (.array .long)) (t' := .int) (by decide) (by decide)))).other W10 (Or.inl n1)).other W12 (Or.inl n2)), (((F_e.other W5 (Or.inr (slot_ne (Or.inl (hw _ (List.mem_of_getElem? (i := 13) rfl))) (Or.inl (hw _ (List.mem_of_getElem? (i := 20) rfl))) (by decide) (t := (.array .long)) (t' := .int) (by decide) (by decide)))).other W10 (Or.inl n1)).other W12 (Or.inl n2)), ((Fw5.other W10 (Or.inl n1)).other W12 (Or.inl n2)), (V10.other W12 n3), V12, n1, n2, n3⟩⟩
theorem d9_0 : decode prog_4_method_5_code 0 = .ok (.aload_n 0, 1) := by decide +kernel
theorem d9_1 : decode prog_4_method_5_code 1 = .ok (.getfield 18, 3) := by decide +kernel
theorem d9_4 : decode prog_4_method_5_code 4 = .ok (.ifCond .ne 13, 3) := by decide +kernel
theorem d9_17 : decode prog_4_method_5_code 17 = .ok (.aload_n 0, 1) := by decide +kernel
theorem d9_18 : decode prog_4_method_5_code 18 = .ok (.getfield 15, 3) := by decide +kernel
theorem d9_21 : decode prog_4_method_5_code 21 = .ok (.iconst 0, 1) := by decide +kernel
theorem d9_22 : decode prog_4_method_5_code 22 = .ok (.laload, 1) := by decide +kernel
theorem d9_23 : decode prog_4_method_5_code 23 = .ok (.lstore_n 1, 1) := by decide +kernel
theorem d9_24 : decode prog_4_method_5_code 24 = .ok (.aload_n 0, 1) := by decide +kernel
theorem d9_25 : decode prog_4_method_5_code 25 = .ok (.dup, 1) := by decide +kernel
theorem d9_26 : decode prog_4_method_5_code 26 = .ok (.getfield 18, 3) := by decide +kernel
theorem d9_29 : decode prog_4_method_5_code 29 = .ok (.iconst 1, 1) := by decide +kernel
theorem d9_30 : decode prog_4_method_5_code 30 = .ok (.isub, 1) := by decide +kernel
theorem d9_31 : decode prog_4_method_5_code 31 = .ok (.putfield 18, 3) := by decide +kernel
theorem d9_34 : decode prog_4_method_5_code 34 = .ok (.aload_n 0, 1) := by decide +kernel
theorem d9_35 : decode prog_4_method_5_code 35 = .ok (.getfield 11, 3) := by decide +kernel
theorem d9_38 : decode prog_4_method_5_code 38 = .ok (.aload_n 0, 1) := by decide +kernel
theorem d9_39 : decode prog_4_method_5_code 39 = .ok (.getfield 18, 3) := by decide +kernel
theorem d9_42 : decode prog_4_method_5_code 42 = .ok (.laload, 1) := by decide +kernel
theorem d9_43 : decode prog_4_method_5_code 43 = .ok (.lstore_n 3, 1) := by decide +kernel
theorem d9_44 : decode prog_4_method_5_code 44 = .ok (.aload_n 0, 1) := by decide +kernel
theorem d9_45 : decode prog_4_method_5_code 45 = .ok (.getfield 15, 3) := by decide +kernel
theorem d9_48 : decode prog_4_method_5_code 48 = .ok (.aload_n 0, 1) := by decide +kernel
theorem d9_49 : decode prog_4_method_5_code 49 = .ok (.getfield 18, 3) := by decide +kernel
theorem d9_52 : decode prog_4_method_5_code 52 = .ok (.laload, 1) := by decide +kernel
theorem d9_53 : decode prog_4_method_5_code 53 = .ok (.lstore 5, 2) := by decide +kernel
theorem d9_55 : decode prog_4_method_5_code 55 = .ok (.iconst 0, 1) := by decide +kernel
theorem d9_56 : decode prog_4_method_5_code 56 = .ok (.istore 7, 2) := by decide +kernel
theorem d9_58 : decode prog_4_method_5_code 58 = .ok (.iconst 1, 1) := by decide +kernel
theorem d9_59 : decode prog_4_method_5_code 59 = .ok (.istore 8, 2) := by decide +kernel
theorem d9_61 : decode prog_4_method_5_code 61 = .ok (.iload 8, 2) := by decide +kernel
theorem d9_63 : decode prog_4_method_5_code 63 = .ok (.aload_n 0, 1) := by decide +kernel
theorem d9_64 : decode prog_4_method_5_code 64 = .ok (.getfield 18, 3) := by decide +kernel
theorem d9_67 : decode prog_4_method_5_code 67 = .ok (.if_icmp .ge 75, 3) := by decide +kernel
theorem d9_142 : decode prog_4_method_5_code 142 = .ok (.aload_n 0, 1) := by decide +kernel
theorem d9_143 : decode prog_4_method_5_code 143 = .ok (.getfield 11, 3) := by decide +kernel
theorem d9_146 : decode prog_4_method_5_code 146 = .ok (.iload 7, 2) := by decide +kernel
theorem d9_148 : decode prog_4_method_5_code 148 = .ok (.lload_n 3, 1) := by decide +kernel
theorem d9_149 : decode prog_4_method_5_code 149 = .ok (.lastore, 1) := by decide +kernel
theorem d9_150 : decode prog_4_method_5_code 150 = .ok (.aload_n 0, 1) := by decide +kernel
theorem d9_151 : decode prog_4_method_5_code 151 = .ok (.getfield 15, 3) := by decide +kernel
theorem d9_154 : decode prog_4_method_5_code 154 = .ok (.iload 7, 2) := by decide +kernel
theorem d9_156 : decode prog_4_method_5_code 156 = .ok (.lload 5, 2) := by decide +kernel
theorem d9_158 : decode prog_4_method_5_code 158 = .ok (.lastore, 1) := by decide +kernel
theorem d9_159 : decode prog_4_method_5_code 159 = .ok (.lload_n 1, 1) := by decide +kernel
theorem d9_160 : decode prog_4_method_5_code 160 = .ok (.lreturn, 1) := by decide +kernel
theorem ef_T2 (m : MethodId) (a0 : Addr) : entryFrame m #[(.ref a0)] 9 = mkF m 0 #[.val (.ref a0), .unset, .unset, .unset, .unset, .unset, .unset, .unset, .unset] [] := by first | (simp [entryFrame, mkF, argsToLocals, Value.category, maxLocals]; done) | rfl
def QT2 (Z : State) (a0 : Addr) (da : Addr) (ea : Addr) (k1 : ClassId) (k2 : ClassId) (d0 : Int64) (d1 : Int64) (u0 : Int64) (u1 : Int64) (h0 : Heap) (n0 : Nat) (v : Option Value) (h : Heap) (L : List Loc) : Prop := v = some (.long u0) ∧ Fr n0 L ∧ Keep h0 h [a0, da, ea] ∧ own_DM Z h a0 da ea k1 k2 (1 : Int32) d1 d1 u1 u1
set_option maxRecDepth 65536 in
set_option maxHeartbeats 40000000 in
theorem rmT2 (l : Launch) (Z : State) (aw : Array Value) (hw : ∀ d ∈ tables_1, d.before aw Z = true) (ws : List Jvm.Cond) (a0 : Addr) (da : Addr) (ea : Addr) (k1 : ClassId) (k2 : ClassId) (d0 : Int64) (d1 : Int64) (u0 : Int64) (u1 : Int64) (h0 : Heap) (n0 : Nat) (Z0 : n0 ≤ h0.size) (D : own_DM Z h0 a0 da ea k1 k2 (2 : Int32) d0 d1 u0 u1) (g_a0 : n0 ≤ a0) (g_da : n0 ≤ da) (g_ea : n0 ≤ ea) :
    MetFree l (⟨"com/example/mark_delete/markdelete/broker/DelayedMessages", "takeEarliest", "()J"⟩ : MethodName) (head1 (Jvm.Cond.code (⟨"com/example/mark_delete/markdelete/broker/DelayedMessages", "takeEarliest", "()J"⟩ : MethodName) prog_4_method_5_code 9 (some .long) :: ws) ({ frames := 0, cells := 0, slots := 0, locals := 0 } : Room)) (fun a U => a = #[(.ref a0)] ∧ Z.Warmed39 U.vm ∧ U.heap = h0) (fun _ _ _ _ _ => True) (fun _ U o U' => ∃ v L, o = .returned v ∧ QT2 Z a0 da ea k1 k2 d0 d1 u0 u1 h0 n0 v U'.heap L ∧ FrameEnd U o U' L ({ frames := 0, cells := 0, slots := 0, locals := 0 } : Room).cells ({ frames := 0, cells := 0, slots := 0, locals := 0 } : Room).slots) := by
  refine MetFree.of_bodySF (plainFor_of_name pn_0) hisR ?_
  intro p e s m args below meth c s₁ Bd hml0 hP hK
  obtain ⟨rfl, hZ, hh⟩ := hP
  have hx := Bd.exec
  have hby := Bd.bytes
  have hml : c.maxLocals = 9 := hml0
  have hown : s.vm.findClass "com/example/mark_delete/markdelete/broker/DelayedMessages" = some m.cls := findClass_of_methodNamed Bd.named
  have hnm := (name_of_methodNamed Bd.named Bd.method).1
  have hlk : meth.locks = false := BodyLoose.notSynchronized Bd
  have X0 : Stand p l e ({ frames := 0, cells := 0, slots := 0, locals := 0 } : Room) s m #[(.ref a0)] below meth c s₁ [] 0 0 := Stand.of_body Bd
  have eh0 : s₁.heap = h0 := by rw [← hh, Bd.state]; rfl
  have N0 := Fr.nil n0
  show Rest p.tables e below s (QT2 Z a0 da ea k1 k2 d0 d1 u0 u1 h0 n0) _ _ (s₁.setTop (entryFrame m #[(.ref a0)] 9))
  refine Rest.via (fun t k => castTop (ef_T2 m a0) k) ?_
  have D0 := D
  obtain ⟨E_a0, F_d, F_e, F_s, V_d, V_e, n1, n2, n3⟩ := D0
  show Rest p.tables e below s _ _ _ (s₁.setTop (mkF m 0 #[.val (.ref a0), .unset, .unset, .unset, .unset, .unset, .unset, .unset, .unset] []))
  refine Rest.via (fun t k => XS.aloadN X0.here hx rfl (hb hby d9_0) rfl rfl k) ?_
  show Rest p.tables e below s _ _ _ (s₁.setTop (mkF m 1 #[.val (.ref a0), .unset, .unset, .unset, .unset, .unset, .unset, .unset, .unset] [(.ref a0)]))
  obtain ⟨T1, X1, e1, st1⟩ := getF X0 hx hZ hown (host := "") (Or.inl (hw _ (List.mem_of_getElem? (i := 19) rfl))) Via.refl eh0 F_s (g := (mkF m 1 #[.val (.ref a0), .unset, .unset, .unset, .unset, .unset, .unset, .unset, .unset] [(.ref a0)])) rfl rfl (hb hby d9_1)
  refine Rest.via (fun t k => st1 t k) ?_
  show Rest p.tables e below s _ _ _ (T1.setTop (mkF m 4 #[.val (.ref a0), .unset, .unset, .unset, .unset, .unset, .unset, .unset, .unset] [(.int (2 : Int32))]))
  refine Rest.via (fun t k => XS.ifYes X1.here hx rfl (pc0 := 4) (pc' := 17) rfl (hb hby d9_4) rfl ((if0 _ _).trans (feq (by decide : ¬ ((2 : Int32) = (0 : Int32)))).2) (by decide) (by decide) k) ?_
  show Rest p.tables e below s _ _ _ (T1.setTop (mkF m 17 #[.val (.ref a0), .unset, .unset, .unset, .unset, .unset, .unset, .unset, .unset] []))
  refine Rest.via (fun t k => XS.aloadN X1.here hx rfl (hb hby d9_17) rfl rfl k) ?_
  show Rest p.tables e below s _ _ _ (T1.setTop (mkF m 18 #[.val (.ref a0), .unset, .unset, .unset, .unset, .unset, .unset, .unset, .unset] [(.ref a0)]))
  obtain ⟨T2, X2, e2, st2⟩ := getF X1 hx hZ hown (host := "") (Or.inl (hw _ (List.mem_of_getElem? (i := 12) rfl))) Via.refl e1 F_e (g := (mkF m 18 #[.val (.ref a0), .unset, .unset, .unset, .unset, .unset, .unset, .unset, .unset] [(.ref a0)])) rfl rfl (hb hby d9_18)
  refine Rest.via (fun t k => st2 t k) ?_
  show Rest p.tables e below s _ _ _ (T2.setTop (mkF m 21 #[.val (.ref a0), .unset, .unset, .unset, .unset, .unset, .unset, .unset, .unset] [(.ref ea)]))
  refine Rest.via (fun t k => XS.iconst X2.here hx rfl (hb hby d9_21) k) ?_
  show Rest p.tables e below s _ _ _ (T2.setTop (mkF m 22 #[.val (.ref a0), .unset, .unset, .unset, .unset, .unset, .unset, .unset, .unset] [(.int (0 : Int32)), (.ref ea)]))
  obtain ⟨cl3, Ar3, qa3, Sa3, Pa3, Ha3, Ga3⟩ := id V_e
  have hin3 := inb_of (j := (0 : Int32)) Sa3 ⟨by decide, by decide⟩
  have hat3 : cl3.slots[((0 : Int32)).toNatClampNeg]? = some (.long u0) := Has.at Ha3 hin3 rfl
  refine Rest.via (fun t k => X2.laload hx (j := (0 : Int32)) (v := (.long u0)) (by rw [e2]; exact Ar3.1) (State.isArrayOf_alike hZ.alike Ar3.2.1) Ar3.2.2 hin3 hat3 (g := (mkF m 22 #[.val (.ref a0), .unset, .unset, .unset, .unset, .unset, .unset, .unset, .unset] [(.int (0 : Int32)), (.ref ea)])) rfl rfl (hb hby d9_22) t k) ?_
  show Rest p.tables e below s _ _ _ (T2.setTop (mkF m 23 #[.val (.ref a0), .unset, .unset, .unset, .unset, .unset, .unset, .unset, .unset] [(.long u0)]))
  refine Rest.via (fun t k => XS.lstoreN X2.here hx rfl (hb hby d9_23) rfl (l' := #[.val (.ref a0), .val (.long u0), .second, .unset, .unset, .unset, .unset, .unset, .unset]) rfl k) ?_
  show Rest p.tables e below s _ _ _ (T2.setTop (mkF m 24 #[.val (.ref a0), .val (.long u0), .second, .unset, .unset, .unset, .unset, .unset, .unset] []))
  refine Rest.via (fun t k => XS.aloadN X2.here hx rfl (hb hby d9_24) rfl rfl k) ?_
  show Rest p.tables e below s _ _ _ (T2.setTop (mkF m 25 #[.val (.ref a0), .val (.long u0), .second, .unset, .unset, .unset, .unset, .unset, .unset] [(.ref a0)]))
  refine Rest.via (fun t k => XS.dup X2.here hx rfl (hb hby d9_25) rfl rfl k) ?_
  show Rest p.tables e below s _ _ _ (T2.setTop (mkF m 26 #[.val (.ref a0), .val (.long u0), .second, .unset, .unset, .unset, .unset, .unset, .unset] [(.ref a0), (.ref a0)]))
  obtain ⟨T4, X4, e4, st4⟩ := getF X2 hx hZ hown (host := "") (Or.inl (hw _ (List.mem_of_getElem? (i := 19) rfl))) Via.refl e2 F_s (g := (mkF m 26 #[.val (.ref a0), .val (.long u0), .second, .unset, .unset, .unset, .unset, .unset, .unset] [(.ref a0), (.ref a0)])) rfl rfl (hb hby d9_26)
  refine Rest.via (fun t k => st4 t k) ?_
  show Rest p.tables e below s _ _ _ (T4.setTop (mkF m 29 #[.val (.ref a0), .val (.long u0), .second, .unset, .unset, .unset, .unset, .unset, .unset] [(.int (2 : Int32)), (.ref a0)]))
  refine Rest.via (fun t k => XS.iconst X4.here hx rfl (hb hby d9_29) k) ?_
  show Rest p.tables e below s _ _ _ (T4.setTop (mkF m 30 #[.val (.ref a0), .val (.long u0), .second, .unset, .unset, .unset, .unset, .unset, .unset] [(.int (1 : Int32)), (.int (2 : Int32)), (.ref a0)]))
  refine Rest.via (fun t k => XS.isub X4.here hx rfl (hb hby d9_30) rfl k) ?_
  show Rest p.tables e below s _ _ _ (T4.setTop (mkF m 31 #[.val (.ref a0), .val (.long u0), .second, .unset, .unset, .unset, .unset, .unset, .unset] [(.int ((2 : Int32) - (1 : Int32))), (.ref a0)]))
  rw [(by decide : (2 : Int32) - (1 : Int32) = (1 : Int32))]
  show Rest p.tables e below s _ _ _ (T4.setTop (mkF m 31 #[.val (.ref a0), .val (.long u0), .second, .unset, .unset, .unset, .unset, .unset, .unset] [(.int (1 : Int32)), (.ref a0)]))
  have Fo5 := F_s
  obtain ⟨T5, h5, X5, e5, W5, st5⟩ := putF X4 hx hZ hown (host := "") (Or.inl (hw _ (List.mem_of_getElem? (i := 19) rfl))) Via.refl e4 Fo5 E_a0 (Or.inl (hw _ (List.mem_of_getElem? (i := 20) rfl))) (hw _ (List.mem_of_getElem? (i := 1) rfl)) (ty := .int) (by decide) rfl rfl (g := (mkF m 31 #[.val (.ref a0), .val (.long u0), .second, .unset, .unset, .unset, .unset, .unset, .unset] [(.int (1 : Int32)), (.ref a0)])) rfl rfl (hb hby d9_31)
  refine Rest.via (fun t k => st5 t k) ?_
  have N5 := Fr.snoc X5 N0 g_a0
  have K5 : Keep h0 h5 [a0, da, ea] := (Keep.refl h0 [a0, da, ea]).wr W5 (Or.inl (List.mem_of_getElem? (i := 0) rfl))
  have Fw5 := Fo5.same W5
  show Rest p.tables e below s _ _ _ (T5.setTop (mkF m 34 #[.val (.ref a0), .val (.long u0), .second, .unset, .unset, .unset, .unset, .unset, .unset] []))
  refine Rest.via (fun t k => XS.aloadN X5.here hx rfl (hb hby d9_34) rfl rfl k) ?_
  show Rest p.tables e below s _ _ _ (T5.setTop (mkF m 35 #[.val (.ref a0), .val (.long u0), .second, .unset, .unset, .unset, .unset, .unset, .unset] [(.ref a0)]))
  obtain ⟨T6, X6, e6, st6⟩ := getF X5 hx hZ hown (host := "") (Or.inl (hw _ (List.mem_of_getElem? (i := 10) rfl))) Via.refl e5 (F_d.other W5 (Or.inr (slot_ne (Or.inl (hw _ (List.mem_of_getElem? (i := 11) rfl))) (Or.inl (hw _ (List.mem_of_getElem? (i := 20) rfl))) (by decide) (t := (.array .long)) (t' := .int) (by decide) (by decide)))) (g := (mkF m 35 #[.val (.ref a0), .val (.long u0), .second, .unset, .unset, .unset, .unset, .unset, .unset] [(.ref a0)])) rfl rfl (hb hby d9_35)
  refine Rest.via (fun t k => st6 t k) ?_
  show Rest p.tables e below s _ _ _ (T6.setTop (mkF m 38 #[.val (.ref a0), .val (.long u0), .second, .unset, .unset, .unset, .unset, .unset, .unset] [(.ref da)]))
  refine Rest.via (fun t k => XS.aloadN X6.here hx rfl (hb hby d9_38) rfl rfl k) ?_
  show Rest p.tables e below s _ _ _ (T6.setTop (mkF m 39 #[.val (.ref a0), .val (.long u0), .second, .unset, .unset, .unset, .unset, .unset, .unset] [(.ref a0), (.ref da)]))
  obtain ⟨T7, X7, e7, st7⟩ := getF X6 hx hZ hown (host := "") (Or.inl (hw _ (List.mem_of_getElem? (i := 19) rfl))) Via.refl e6 Fw5 (g := (mkF m 39 #[.val (.ref a0), .val (.long u0), .second, .unset, .unset, .unset, .unset, .unset, .unset] [(.ref a0), (.ref da)])) rfl rfl (hb hby d9_39)
  refine Rest.via (fun t k => st7 t k) ?_
  show Rest p.tables e below s _ _ _ (T7.setTop (mkF m 42 #[.val (.ref a0), .val (.long u0), .second, .unset, .unset, .unset, .unset, .unset, .unset] [(.int (1 : Int32)), (.ref da)]))
  obtain ⟨cl8, Ar8, qa8, Sa8, Pa8, Ha8, Ga8⟩ := id (V_d.other W5 (Ne.symm n1))
  have hin8 := inb_of (j := (1 : Int32)) Sa8 ⟨by decide, by decide⟩
  have hat8 : cl8.slots[((1 : Int32)).toNatClampNeg]? = some (.long d1) := Has.at Ha8 hin8 rfl
  refine Rest.via (fun t k => X7.laload hx (j := (1 : Int32)) (v := (.long d1)) (by rw [e7]; exact Ar8.1) (State.isArrayOf_alike hZ.alike Ar8.2.1) Ar8.2.2 hin8 hat8 (g := (mkF m 42 #[.val (.ref a0), .val (.long u0), .second, .unset, .unset, .unset, .unset, .unset, .unset] [(.int (1 : Int32)), (.ref da)])) rfl rfl (hb hby d9_42) t k) ?_
  show Rest p.tables e below s _ _ _ (T7.setTop (mkF m 43 #[.val (.ref a0), .val (.long u0), .second, .unset, .unset, .unset, .unset, .unset, .unset] [(.long d1)]))
  refine Rest.via (fun t k => XS.lstoreN X7.here hx rfl (hb hby d9_43) rfl (l' := #[.val (.ref a0), .val (.long u0), .second, .val (.long d1), .second, .unset, .unset, .unset, .unset]) rfl k) ?_
  show Rest p.tables e below s _ _ _ (T7.setTop (mkF m 44 #[.val (.ref a0), .val (.long u0), .second, .val (.long d1), .second, .unset, .unset, .unset, .unset] []))
  refine Rest.via (fun t k => XS.aloadN X7.here hx rfl (hb hby d9_44) rfl rfl k) ?_
  show Rest p.tables e below s _ _ _ (T7.setTop (mkF m 45 #[.val (.ref a0), .val (.long u0), .second, .val (.long d1), .second, .unset, .unset, .unset, .unset] [(.ref a0)]))
  obtain ⟨T9, X9, e9, st9⟩ := getF X7 hx hZ hown (host := "") (Or.inl (hw _ (List.mem_of_getElem? (i := 12) rfl))) Via.refl e7 (F_e.other W5 (Or.inr (slot_ne (Or.inl (hw _ (List.mem_of_getElem? (i := 13) rfl))) (Or.inl (hw _ (List.mem_of_getElem? (i := 20) rfl))) (by decide) (t := (.array .long)) (t' := .int) (by decide) (by decide)))) (g := (mkF m 45 #[.val (.ref a0), .val (.long u0), .second, .val (.long d1), .second, .unset, .unset, .unset, .unset] [(.ref a0)])) rfl rfl (hb hby d9_45)
  refine Rest.via (fun t k => st9 t k) ?_
  show Rest p.tables e below s _ _ _ (T9.setTop (mkF m 48 #[.val (.ref a0), .val (.long u0), .second, .val (.long d1), .second, .unset, .unset, .unset, .unset] [(.ref ea)]))
  refine Rest.via (fun t k => XS.aloadN X9.here hx rfl (hb hby d9_48) rfl rfl k) ?_
  show Rest p.tables e below s _ _ _ (T9.setTop (mkF m 49 #[.val (.ref a0), .val (.long u0), .second, .val (.long d1), .second, .unset, .unset, .unset, .unset] [(.ref a0), (.ref ea)]))
  obtain ⟨T10, X10, e10, st10⟩ := getF X9 hx hZ hown (host := "") (Or.inl (hw _ (List.mem_of_getElem? (i := 19) rfl))) Via.refl e9 Fw5 (g := (mkF m 49 #[.val (.ref a0), .val (.long u0), .second, .val (.long d1), .second, .unset, .unset, .unset, .unset] [(.ref a0), (.ref ea)])) rfl rfl (hb hby d9_49)
  refine Rest.via (fun t k => st10 t k) ?_
  show Rest p.tables e below s _ _ _ (T10.setTop (mkF m 52 #[.val (.ref a0), .val (.long u0), .second, .val (.long d1), .second, .unset, .unset, .unset, .unset] [(.int (1 : Int32)), (.ref ea)]))
  obtain ⟨cl11, Ar11, qa11, Sa11, Pa11, Ha11, Ga11⟩ := id (V_e.other W5 (Ne.symm n2))
  have hin11 := inb_of (j := (1 : Int32)) Sa11 ⟨by decide, by decide⟩
  have hat11 : cl11.slots[((1 : Int32)).toNatClampNeg]? = some (.long u1) := Has.at Ha11 hin11 rfl
  refine Rest.via (fun t k => X10.laload hx (j := (1 : Int32)) (v := (.long u1)) (by rw [e10]; exact Ar11.1) (State.isArrayOf_alike hZ.alike Ar11.2.1) Ar11.2.2 hin11 hat11 (g := (mkF m 52 #[.val (.ref a0), .val (.long u0), .second, .val (.long d1), .second, .unset, .unset, .unset, .unset] [(.int (1 : Int32)), (.ref ea)])) rfl rfl (hb hby d9_52) t k) ?_
  show Rest p.tables e below s _ _ _ (T10.setTop (mkF m 53 #[.val (.ref a0), .val (.long u0), .second, .val (.long d1), .second, .unset, .unset, .unset, .unset] [(.long u1)]))
  refine Rest.via (fun t k => XS.lstore X10.here hx rfl (hb hby d9_53) rfl (l' := #[.val (.ref a0), .val (.long u0), .second, .val (.long d1), .second, .val (.long u1), .second, .unset, .unset]) rfl k) ?_
  show Rest p.tables e below s _ _ _ (T10.setTop (mkF m 55 #[.val (.ref a0), .val (.long u0), .second, .val (.long d1), .second, .val (.long u1), .second, .unset, .unset] []))
  refine Rest.via (fun t k => XS.iconst X10.here hx rfl (hb hby d9_55) k) ?_
  show Rest p.tables e below s _ _ _ (T10.setTop (mkF m 56 #[.val (.ref a0), .val (.long u0), .second, .val (.long d1), .second, .val (.long u1), .second, .unset, .unset] [(.int (0 : Int32))]))
  refine Rest.via (fun t k => XS.istore X10.here hx rfl (hb hby d9_56) rfl (l' := #[.val (.ref a0), .val (.long u0), .second, .val (.long d1), .second, .val (.long u1), .second, .val (.int (0 : Int32)), .unset]) rfl k) ?_
  show Rest p.tables e below s _ _ _ (T10.setTop (mkF m 58 #[.val (.ref a0), .val (.long u0), .second, .val (.long d1), .second, .val (.long u1), .second, .val (.int (0 : Int32)), .unset] []))
  refine Rest.via (fun t k => XS.iconst X10.here hx rfl (hb hby d9_58) k) ?_
  show Rest p.tables e below s _ _ _ (T10.setTop (mkF m 59 #[.val (.ref a0), .val (.long u0), .second, .val (.long d1), .second, .val (.long u1), .second, .val (.int (0 : Int32)), .unset] [(.int (1 : Int32))]))
  refine Rest.via (fun t k => XS.istore X10.here hx rfl (hb hby d9_59) rfl (l' := #[.val (.ref a0), .val (.long u0), .second, .val (.long d1), .second, .val (.long u1), .second, .val (.int (0 : Int32)), .val (.int (1 : Int32))]) rfl k) ?_
  show Rest p.tables e below s _ _ _ (T10.setTop (mkF m 61 #[.val (.ref a0), .val (.long u0), .second, .val (.long d1), .second, .val (.long u1), .second, .val (.int (0 : Int32)), .val (.int (1 : Int32))] []))
  refine Rest.via (fun t k => XS.iload X10.here hx rfl (hb hby d9_61) rfl k) ?_
  show Rest p.tables e below s _ _ _ (T10.setTop (mkF m 63 #[.val (.ref a0), .val (.long u0), .second, .val (.long d1), .second, .val (.long u1), .second, .val (.int (0 : Int32)), .val (.int (1 : Int32))] [(.int (1 : Int32))]))
  refine Rest.via (fun t k => XS.aloadN X10.here hx rfl (hb hby d9_63) rfl rfl k) ?_
  show Rest p.tables e below s _ _ _ (T10.setTop (mkF m 64 #[.val (.ref a0), .val (.long u0), .second, .val (.long d1), .second, .val (.long u1), .second, .val (.int (0 : Int32)), .val (.int (1 : Int32))] [(.ref a0), (.int (1 : Int32))]))
  obtain ⟨T12, X12, e12, st12⟩ := getF X10 hx hZ hown (host := "") (Or.inl (hw _ (List.mem_of_getElem? (i := 19) rfl))) Via.refl e10 Fw5 (g := (mkF m 64 #[.val (.ref a0), .val (.long u0), .second, .val (.long d1), .second, .val (.long u1), .second, .val (.int (0 : Int32)), .val (.int (1 : Int32))] [(.ref a0), (.int (1 : Int32))])) rfl rfl (hb hby d9_64)
  refine Rest.via (fun t k => st12 t k) ?_
  show Rest p.tables e below s _ _ _ (T12.setTop (mkF m 67 #[.val (.ref a0), .val (.long u0), .second, .val (.long d1), .second, .val (.long u1), .second, .val (.int (0 : Int32)), .val (.int (1 : Int32))] [(.int (1 : Int32)), (.int (1 : Int32))]))
  refine Rest.via (fun t k => XS.icmpYes X12.here hx rfl (pc0 := 67) (pc' := 142) rfl (hb hby d9_67) rfl (flt (by decide : ¬ ((1 : Int32) < (1 : Int32)))).2.1 (by decide) (by decide) k) ?_
  show Rest p.tables e below s _ _ _ (T12.setTop (mkF m 142 #[.val (.ref a0), .val (.long u0), .second, .val (.long d1), .second, .val (.long u1), .second, .val (.int (0 : Int32)), .val (.int (1 : Int32))] []))
  refine Rest.via (fun t k => XS.aloadN X12.here hx rfl (hb hby d9_142) rfl rfl k) ?_
  show Rest p.tables e below s _ _ _ (T12.setTop (mkF m 143 #[.val (.ref a0), .val (.long u0), .second, .val (.long d1), .second, .val (.long u1), .second, .val (.int (0 : Int32)), .val (.int (1 : Int32))] [(.ref a0)]))
  obtain ⟨T13, X13, e13, st13⟩ := getF X12 hx hZ hown (host := "") (Or.inl (hw _ (List.mem_of_getElem? (i := 10) rfl))) Via.refl e12 (F_d.other W5 (Or.inr (slot_ne (Or.inl (hw _ (List.mem_of_getElem? (i := 11) rfl))) (Or.inl (hw _ (List.mem_of_getElem? (i := 20) rfl))) (by decide) (t := (.array .long)) (t' := .int) (by decide) (by decide)))) (g := (mkF m 143 #[.val (.ref a0), .val (.long u0), .second, .val (.long d1), .second, .val (.long u1), .second, .val (.int (0 : Int32)), .val (.int (1 : Int32))] [(.ref a0)])) rfl rfl (hb hby d9_143)
  refine Rest.via (fun t k => st13 t k) ?_
  show Rest p.tables e below s _ _ _ (T13.setTop (mkF m 146 #[.val (.ref a0), .val (.long u0), .second, .val (.long d1), .second, .val (.long u1), .second, .val (.int (0 : Int32)), .val (.int (1 : Int32))] [(.ref da)]))
  refine Rest.via (fun t k => XS.iload X13.here hx rfl (hb hby d9_146) rfl k) ?_
  show Rest p.tables e below s _ _ _ (T13.setTop (mkF m 148 #[.val (.ref a0), .val (.long u0), .second, .val (.long d1), .second, .val (.long u1), .second, .val (.int (0 : Int32)), .val (.int (1 : Int32))] [(.int (0 : Int32)), (.ref da)]))
  refine Rest.via (fun t k => XS.lloadN X13.here hx rfl (hb hby d9_148) rfl k) ?_
  show Rest p.tables e below s _ _ _ (T13.setTop (mkF m 149 #[.val (.ref a0), .val (.long u0), .second, .val (.long d1), .second, .val (.long u1), .second, .val (.int (0 : Int32)), .val (.int (1 : Int32))] [(.long d1), (.int (0 : Int32)), (.ref da)]))
  obtain ⟨cl14, Ar14, qa14, Sa14, Pa14, Ha14, Ga14⟩ := id (V_d.other W5 (Ne.symm n1))
  have hin14 := inb_of (j := (0 : Int32)) Sa14 ⟨by decide, by decide⟩
  obtain ⟨T14, h14, X14, e14, W14, st14⟩ := stJ X13 hx hZ e13 Ar14 (j := (0 : Int32)) hin14 (g := (mkF m 149 #[.val (.ref a0), .val (.long u0), .second, .val (.long d1), .second, .val (.long u1), .second, .val (.int (0 : Int32)), .val (.int (1 : Int32))] [(.long d1), (.int (0 : Int32)), (.ref da)])) rfl rfl (hb hby d9_149)
  refine Rest.via (fun t k => st14 t k) ?_
  have N14 := Fr.snoc X14 N5 g_da
  have K14 : Keep h0 h14 [a0, da, ea] := K5.wr W14 (Or.inl (List.mem_of_getElem? (i := 1) rfl))
  have V14 : Arv Z h14 da k1 .long (16 : Int32) [(.long d1), (.long d1)] (.long (0 : Int64)) := Arv.set Ar14 qa14 Sa14 Pa14 Ha14 Ga14 rfl W14 0 rfl (Nat.le_of_ble_eq_true rfl)
  show Rest p.tables e below s _ _ _ (T14.setTop (mkF m 150 #[.val (.ref a0), .val (.long u0), .second, .val (.long d1), .second, .val (.long u1), .second, .val (.int (0 : Int32)), .val (.int (1 : Int32))] []))
  refine Rest.via (fun t k => XS.aloadN X14.here hx rfl (hb hby d9_150) rfl rfl k) ?_
  show Rest p.tables e below s _ _ _ (T14.setTop (mkF m 151 #[.val (.ref a0), .val (.long u0), .second, .val (.long d1), .second, .val (.long u1), .second, .val (.int (0 : Int32)), .val (.int (1 : Int32))] [(.ref a0)]))
  obtain ⟨T15, X15, e15, st15⟩ := getF X14 hx hZ hown (host := "") (Or.inl (hw _ (List.mem_of_getElem? (i := 12) rfl))) Via.refl e14 ((F_e.other W5 (Or.inr (slot_ne (Or.inl (hw _ (List.mem_of_getElem? (i := 13) rfl))) (Or.inl (hw _ (List.mem_of_getElem? (i := 20) rfl))) (by decide) (t := (.array .long)) (t' := .int) (by decide) (by decide)))).other W14 (Or.inl n1)) (g := (mkF m 151 #[.val (.ref a0), .val (.long u0), .second, .val (.long d1), .second, .val (.long u1), .second, .val (.int (0 : Int32)), .val (.int (1 : Int32))] [(.ref a0)])) rfl rfl (hb hby d9_151)
  refine Rest.via (fun t k => st15 t k) ?_
  show Rest p.tables e below s _ _ _ (T15.setTop (mkF m 154 #[.val (.ref a0), .val (.long u0), .second, .val (.long d1), .second, .val (.long u1), .second, .val (.int (0 : Int32)), .val (.int (1 : Int32))] [(.ref ea)]))
  refine Rest.via (fun t k => XS.iload X15.here hx rfl (hb hby d9_154) rfl k) ?_
  show Rest p.tables e below s _ _ _ (T15.setTop (mkF m 156 #[.val (.ref a0), .val (.long u0), .second, .val (.long d1), .second, .val (.long u1), .second, .val (.int (0 : Int32)), .val (.int (1 : Int32))] [(.int (0 : Int32)), (.ref ea)]))
  refine Rest.via (fun t k => XS.lload X15.here hx rfl (hb hby d9_156) rfl k) ?_
  show Rest p.tables e below s _ _ _ (T15.setTop (mkF m 158 #[.val (.ref a0), .val (.long u0), .second, .val (.long d1), .second, .val (.long u1), .second, .val (.int (0 : Int32)), .val (.int (1 : Int32))] [(.long u1), (.int (0 : Int32)), (.ref ea)]))
  obtain ⟨cl16, Ar16, qa16, Sa16, Pa16, Ha16, Ga16⟩ := id ((V_e.other W5 (Ne.symm n2)).other W14 (Ne.symm n3))
  have hin16 := inb_of (j := (0 : Int32)) Sa16 ⟨by decide, by decide⟩
  obtain ⟨T16, h16, X16, e16, W16, st16⟩ := stJ X15 hx hZ e15 Ar16 (j := (0 : Int32)) hin16 (g := (mkF m 158 #[.val (.ref a0), .val (.long u0), .second, .val (.long d1), .second, .val (.long u1), .second, .val (.int (0 : Int32)), .val (.int (1 : Int32))] [(.long u1), (.int (0 : Int32)), (.ref ea)])) rfl rfl (hb hby d9_158)
  refine Rest.via (fun t k => st16 t k) ?_
  have N16 := Fr.snoc X16 N14 g_ea
  have K16 : Keep h0 h16 [a0, da, ea] := K14.wr W16 (Or.inl (List.mem_of_getElem? (i := 2) rfl))
  have V16 : Arv Z h16 ea k2 .long (16 : Int32) [(.long u1), (.long u1)] (.long (0 : Int64)) := Arv.set Ar16 qa16 Sa16 Pa16 Ha16 Ga16 rfl W16 0 rfl (Nat.le_of_ble_eq_true rfl)
  show Rest p.tables e below s _ _ _ (T16.setTop (mkF m 159 #[.val (.ref a0), .val (.long u0), .second, .val (.long d1), .second, .val (.long u1), .second, .val (.int (0 : Int32)), .val (.int (1 : Int32))] []))
  refine Rest.via (fun t k => XS.lloadN X16.here hx rfl (hb hby d9_159) rfl k) ?_
  show Rest p.tables e below s _ _ _ (T16.setTop (mkF m 160 #[.val (.ref a0), .val (.long u0), .second, .val (.long d1), .second, .val (.long u1), .second, .val (.int (0 : Int32)), .val (.int (1 : Int32))] [(.long u0)]))
  refine Rest.ret X16 (v := some (.long u0)) (fun h => by rw [Bd.returns] at h; cases h) hlk (fun fs hr => retOut X16 hx Bd.returns rfl (Or.inr (Or.inl ⟨rfl, rfl, _, rfl⟩)) (hb hby d9_160) hr) ?_ (by decide) (by decide)
  rw [e16]
  exact ⟨rfl, N16, K16, ⟨(((E_a0.wr W5).wr W14).wr W16), (((F_d.other W5 (Or.inr (slot_ne (Or.inl (hw _ (List.mem_of_getElem? (i := 11) rfl))) (Or.inl (hw _ (List.mem_of_getElem? (i := 20) rfl))) (by decide) (t := (.array .long)) (t' := .int) (by decide) (by decide)))).other W14 (Or.inl n1)).other W16 (Or.inl n2)), (((F_e.other W5 (Or.inr (slot_ne (Or.inl (hw _ (List.mem_of_getElem? (i := 13) rfl))) (Or.inl (hw _ (List.mem_of_getElem? (i := 20) rfl))) (by decide) (t := (.array .long)) (t' := .int) (by decide) (by decide)))).other W14 (Or.inl n1)).other W16 (Or.inl n2)), ((Fw5.other W14 (Or.inl n1)).other W16 (Or.inl n2)), (V14.other W16 n3), V16, n1, n2, n3⟩⟩
theorem ef_T1 (m : MethodId) (a0 : Addr) : entryFrame m #[(.ref a0)] 9 = mkF m 0 #[.val (.ref a0), .unset, .unset, .unset, .unset, .unset, .unset, .unset, .unset] [] := by first | (simp [entryFrame, mkF, argsToLocals, Value.category, maxLocals]; done) | rfl
def QT1 (Z : State) (a0 : Addr) (da : Addr) (ea : Addr) (k1 : ClassId) (k2 : ClassId) (d0 : Int64) (d1 : Int64) (u0 : Int64) (u1 : Int64) (h0 : Heap) (n0 : Nat) (v : Option Value) (h : Heap) (L : List Loc) : Prop := v = some (.long u0) ∧ Fr n0 L ∧ Keep h0 h [a0, da, ea] ∧ own_DM Z h a0 da ea k1 k2 (0 : Int32) d0 d1 u0 u1
set_option maxRecDepth 65536 in
set_option maxHeartbeats 40000000 in
theorem rmT1 (l : Launch) (Z : State) (aw : Array Value) (hw : ∀ d ∈ tables_1, d.before aw Z = true) (ws : List Jvm.Cond) (a0 : Addr) (da : Addr) (ea : Addr) (k1 : ClassId) (k2 : ClassId) (d0 : Int64) (d1 : Int64) (u0 : Int64) (u1 : Int64) (h0 : Heap) (n0 : Nat) (Z0 : n0 ≤ h0.size) (D : own_DM Z h0 a0 da ea k1 k2 (1 : Int32) d0 d1 u0 u1) (g_a0 : n0 ≤ a0) (g_da : n0 ≤ da) (g_ea : n0 ≤ ea) :
    MetFree l (⟨"com/example/mark_delete/markdelete/broker/DelayedMessages", "takeEarliest", "()J"⟩ : MethodName) (head1 (Jvm.Cond.code (⟨"com/example/mark_delete/markdelete/broker/DelayedMessages", "takeEarliest", "()J"⟩ : MethodName) prog_4_method_5_code 9 (some .long) :: ws) ({ frames := 0, cells := 0, slots := 0, locals := 0 } : Room)) (fun a U => a = #[(.ref a0)] ∧ Z.Warmed39 U.vm ∧ U.heap = h0) (fun _ _ _ _ _ => True) (fun _ U o U' => ∃ v L, o = .returned v ∧ QT1 Z a0 da ea k1 k2 d0 d1 u0 u1 h0 n0 v U'.heap L ∧ FrameEnd U o U' L ({ frames := 0, cells := 0, slots := 0, locals := 0 } : Room).cells ({ frames := 0, cells := 0, slots := 0, locals := 0 } : Room).slots) := by
  refine MetFree.of_bodySF (plainFor_of_name pn_0) hisR ?_
  intro p e s m args below meth c s₁ Bd hml0 hP hK
  obtain ⟨rfl, hZ, hh⟩ := hP
  have hx := Bd.exec
  have hby := Bd.bytes
  have hml : c.maxLocals = 9 := hml0
  have hown : s.vm.findClass "com/example/mark_delete/markdelete/broker/DelayedMessages" = some m.cls := findClass_of_methodNamed Bd.named
  have hnm := (name_of_methodNamed Bd.named Bd.method).1
  have hlk : meth.locks = false := BodyLoose.notSynchronized Bd
  have X0 : Stand p l e ({ frames := 0, cells := 0, slots := 0, locals := 0 } : Room) s m #[(.ref a0)] below meth c s₁ [] 0 0 := Stand.of_body Bd
  have eh0 : s₁.heap = h0 := by rw [← hh, Bd.state]; rfl
  have N0 := Fr.nil n0
  show Rest p.tables e below s (QT1 Z a0 da ea k1 k2 d0 d1 u0 u1 h0 n0) _ _ (s₁.setTop (entryFrame m #[(.ref a0)] 9))
  refine Rest.via (fun t k => castTop (ef_T1 m a0) k) ?_
  have D0 := D
  obtain ⟨E_a0, F_d, F_e, F_s, V_d, V_e, n1, n2, n3⟩ := D0
  show Rest p.tables e below s _ _ _ (s₁.setTop (mkF m 0 #[.val (.ref a0), .unset, .unset, .unset, .unset, .unset, .unset, .unset, .unset] []))
  refine Rest.via (fun t k => XS.aloadN X0.here hx rfl (hb hby d9_0) rfl rfl k) ?_
  show Rest p.tables e below s _ _ _ (s₁.setTop (mkF m 1 #[.val (.ref a0), .unset, .unset, .unset, .unset, .unset, .unset, .unset, .unset] [(.ref a0)]))
  obtain ⟨T1, X1, e1, st1⟩ := getF X0 hx hZ hown (host := "") (Or.inl (hw _ (List.mem_of_getElem? (i := 19) rfl))) Via.refl eh0 F_s (g := (mkF m 1 #[.val (.ref a0), .unset, .unset, .unset, .unset, .unset, .unset, .unset, .unset] [(.ref a0)])) rfl rfl (hb hby d9_1)
  refine Rest.via (fun t k => st1 t k) ?_
  show Rest p.tables e below s _ _ _ (T1.setTop (mkF m 4 #[.val (.ref a0), .unset, .unset, .unset, .unset, .unset, .unset, .unset, .unset] [(.int (1 : Int32))]))
  refine Rest.via (fun t k => XS.ifYes X1.here hx rfl (pc0 := 4) (pc' := 17) rfl (hb hby d9_4) rfl ((if0 _ _).trans (feq (by decide : ¬ ((1 : Int32) = (0 : Int32)))).2) (by decide) (by decide) k) ?_
  show Rest p.tables e below s _ _ _ (T1.setTop (mkF m 17 #[.val (.ref a0), .unset, .unset, .unset, .unset, .unset, .unset, .unset, .unset] []))
  refine Rest.via (fun t k => XS.aloadN X1.here hx rfl (hb hby d9_17) rfl rfl k) ?_
  show Rest p.tables e below s _ _ _ (T1.setTop (mkF m 18 #[.val (.ref a0), .unset, .unset, .unset, .unset, .unset, .unset, .unset, .unset] [(.ref a0)]))
  obtain ⟨T2, X2, e2, st2⟩ := getF X1 hx hZ hown (host := "") (Or.inl (hw _ (List.mem_of_getElem? (i := 12) rfl))) Via.refl e1 F_e (g := (mkF m 18 #[.val (.ref a0), .unset, .unset, .unset, .unset, .unset, .unset, .unset, .unset] [(.ref a0)])) rfl rfl (hb hby d9_18)
  refine Rest.via (fun t k => st2 t k) ?_
  show Rest p.tables e below s _ _ _ (T2.setTop (mkF m 21 #[.val (.ref a0), .unset, .unset, .unset, .unset, .unset, .unset, .unset, .unset] [(.ref ea)]))
  refine Rest.via (fun t k => XS.iconst X2.here hx rfl (hb hby d9_21) k) ?_
  show Rest p.tables e below s _ _ _ (T2.setTop (mkF m 22 #[.val (.ref a0), .unset, .unset, .unset, .unset, .unset, .unset, .unset, .unset] [(.int (0 : Int32)), (.ref ea)]))
  obtain ⟨cl3, Ar3, qa3, Sa3, Pa3, Ha3, Ga3⟩ := id V_e
  have hin3 := inb_of (j := (0 : Int32)) Sa3 ⟨by decide, by decide⟩
  have hat3 : cl3.slots[((0 : Int32)).toNatClampNeg]? = some (.long u0) := Has.at Ha3 hin3 rfl
  refine Rest.via (fun t k => X2.laload hx (j := (0 : Int32)) (v := (.long u0)) (by rw [e2]; exact Ar3.1) (State.isArrayOf_alike hZ.alike Ar3.2.1) Ar3.2.2 hin3 hat3 (g := (mkF m 22 #[.val (.ref a0), .unset, .unset, .unset, .unset, .unset, .unset, .unset, .unset] [(.int (0 : Int32)), (.ref ea)])) rfl rfl (hb hby d9_22) t k) ?_
  show Rest p.tables e below s _ _ _ (T2.setTop (mkF m 23 #[.val (.ref a0), .unset, .unset, .unset, .unset, .unset, .unset, .unset, .unset] [(.long u0)]))
  refine Rest.via (fun t k => XS.lstoreN X2.here hx rfl (hb hby d9_23) rfl (l' := #[.val (.ref a0), .val (.long u0), .second, .unset, .unset, .unset, .unset, .unset, .unset]) rfl k) ?_
  show Rest p.tables e below s _ _ _ (T2.setTop (mkF m 24 #[.val (.ref a0), .val (.long u0), .second, .unset, .unset, .unset, .unset, .unset, .unset] []))
  refine Rest.via (fun t k => XS.aloadN X2.here hx rfl (hb hby d9_24) rfl rfl k) ?_
  show Rest p.tables e below s _ _ _ (T2.setTop (mkF m 25 #[.val (.ref a0), .val (.long u0), .second, .unset, .unset, .unset, .unset, .unset, .unset] [(.ref a0)]))
  refine Rest.via (fun t k => XS.dup X2.here hx rfl (hb hby d9_25) rfl rfl k) ?_
  show Rest p.tables e below s _ _ _ (T2.setTop (mkF m 26 #[.val (.ref a0), .val (.long u0), .second, .unset, .unset, .unset, .unset, .unset, .unset] [(.ref a0), (.ref a0)]))
  obtain ⟨T4, X4, e4, st4⟩ := getF X2 hx hZ hown (host := "") (Or.inl (hw _ (List.mem_of_getElem? (i := 19) rfl))) Via.refl e2 F_s (g := (mkF m 26 #[.val (.ref a0), .val (.long u0), .second, .unset, .unset, .unset, .unset, .unset, .unset] [(.ref a0), (.ref a0)])) rfl rfl (hb hby d9_26)
  refine Rest.via (fun t k => st4 t k) ?_
  show Rest p.tables e below s _ _ _ (T4.setTop (mkF m 29 #[.val (.ref a0), .val (.long u0), .second, .unset, .unset, .unset, .unset, .unset, .unset] [(.int (1 : Int32)), (.ref a0)]))
  refine Rest.via (fun t k => XS.iconst X4.here hx rfl (hb hby d9_29) k) ?_
  show Rest p.tables e below s _ _ _ (T4.setTop (mkF m 30 #[.val (.ref a0), .val (.long u0), .second, .unset, .unset, .unset, .unset, .unset, .unset] [(.int (1 : Int32)), (.int (1 : Int32)), (.ref a0)]))
  refine Rest.via (fun t k => XS.isub X4.here hx rfl (hb hby d9_30) rfl k) ?_
  show Rest p.tables e below s _ _ _ (T4.setTop (mkF m 31 #[.val (.ref a0), .val (.long u0), .second, .unset, .unset, .unset, .unset, .unset, .unset] [(.int ((1 : Int32) - (1 : Int32))), (.ref a0)]))
  rw [(by decide : (1 : Int32) - (1 : Int32) = (0 : Int32))]
  show Rest p.tables e below s _ _ _ (T4.setTop (mkF m 31 #[.val (.ref a0), .val (.long u0), .second, .unset, .unset, .unset, .unset, .unset, .unset] [(.int (0 : Int32)), (.ref a0)]))
  have Fo5 := F_s
  obtain ⟨T5, h5, X5, e5, W5, st5⟩ := putF X4 hx hZ hown (host := "") (Or.inl (hw _ (List.mem_of_getElem? (i := 19) rfl))) Via.refl e4 Fo5 E_a0 (Or.inl (hw _ (List.mem_of_getElem? (i := 20) rfl))) (hw _ (List.mem_of_getElem? (i := 1) rfl)) (ty := .int) (by decide) rfl rfl (g := (mkF m 31 #[.val (.ref a0), .val (.long u0), .second, .unset, .unset, .unset, .unset, .unset, .unset] [(.int (0 : Int32)), (.ref a0)])) rfl rfl (hb hby d9_31)
  refine Rest.via (fun t k => st5 t k) ?_
  have N5 := Fr.snoc X5 N0 g_a0
  have K5 : Keep h0 h5 [a0, da, ea] := (Keep.refl h0 [a0, da, ea]).wr W5 (Or.inl (List.mem_of_getElem? (i := 0) rfl))
  have Fw5 := Fo5.same W5
  show Rest p.tables e below s _ _ _ (T5.setTop (mkF m 34 #[.val (.ref a0), .val (.long u0), .second, .unset, .unset, .unset, .unset, .unset, .unset] []))
  refine Rest.via (fun t k => XS.aloadN X5.here hx rfl (hb hby d9_34) rfl rfl k) ?_
  show Rest p.tables e below s _ _ _ (T5.setTop (mkF m 35 #[.val (.ref a0), .val (.long u0), .second, .unset, .unset, .unset, .unset, .unset, .unset] [(.ref a0)]))
  obtain ⟨T6, X6, e6, st6⟩ := getF X5 hx hZ hown (host := "") (Or.inl (hw _ (List.mem_of_getElem? (i := 10) rfl))) Via.refl e5 (F_d.other W5 (Or.inr (slot_ne (Or.inl (hw _ (List.mem_of_getElem? (i := 11) rfl))) (Or.inl (hw _ (List.mem_of_getElem? (i := 20) rfl))) (by decide) (t := (.array .long)) (t' := .int) (by decide) (by decide)))) (g := (mkF m 35 #[.val (.ref a0), .val (.long u0), .second, .unset, .unset, .unset, .unset, .unset, .unset] [(.ref a0)])) rfl rfl (hb hby d9_35)
  refine Rest.via (fun t k => st6 t k) ?_
  show Rest p.tables e below s _ _ _ (T6.setTop (mkF m 38 #[.val (.ref a0), .val (.long u0), .second, .unset, .unset, .unset, .unset, .unset, .unset] [(.ref da)]))
  refine Rest.via (fun t k => XS.aloadN X6.here hx rfl (hb hby d9_38) rfl rfl k) ?_
  show Rest p.tables e below s _ _ _ (T6.setTop (mkF m 39 #[.val (.ref a0), .val (.long u0), .second, .unset, .unset, .unset, .unset, .unset, .unset] [(.ref a0), (.ref da)]))
  obtain ⟨T7, X7, e7, st7⟩ := getF X6 hx hZ hown (host := "") (Or.inl (hw _ (List.mem_of_getElem? (i := 19) rfl))) Via.refl e6 Fw5 (g := (mkF m 39 #[.val (.ref a0), .val (.long u0), .second, .unset, .unset, .unset, .unset, .unset, .unset] [(.ref a0), (.ref da)])) rfl rfl (hb hby d9_39)
  refine Rest.via (fun t k => st7 t k) ?_
  show Rest p.tables e below s _ _ _ (T7.setTop (mkF m 42 #[.val (.ref a0), .val (.long u0), .second, .unset, .unset, .unset, .unset, .unset, .unset] [(.int (0 : Int32)), (.ref da)]))
  obtain ⟨cl8, Ar8, qa8, Sa8, Pa8, Ha8, Ga8⟩ := id (V_d.other W5 (Ne.symm n1))
  have hin8 := inb_of (j := (0 : Int32)) Sa8 ⟨by decide, by decide⟩
  have hat8 : cl8.slots[((0 : Int32)).toNatClampNeg]? = some (.long d0) := Has.at Ha8 hin8 rfl
  refine Rest.via (fun t k => X7.laload hx (j := (0 : Int32)) (v := (.long d0)) (by rw [e7]; exact Ar8.1) (State.isArrayOf_alike hZ.alike Ar8.2.1) Ar8.2.2 hin8 hat8 (g := (mkF m 42 #[.val (.ref a0), .val (.long u0), .second, .unset, .unset, .unset, .unset, .unset, .unset] [(.int (0 : Int32)), (.ref da)])) rfl rfl (hb hby d9_42) t k) ?_
  show Rest p.tables e below s _ _ _ (T7.setTop (mkF m 43 #[.val (.ref a0), .val (.long u0), .second, .unset, .unset, .unset, .unset, .unset, .unset] [(.long d0)]))
  refine Rest.via (fun t k => XS.lstoreN X7.here hx rfl (hb hby d9_43) rfl (l' := #[.val (.ref a0), .val (.long u0), .second, .val (.long d0), .second, .unset, .unset, .unset, .unset]) rfl k) ?_
  show Rest p.tables e below s _ _ _ (T7.setTop (mkF m 44 #[.val (.ref a0), .val (.long u0), .second, .val (.long d0), .second, .unset, .unset, .unset, .unset] []))
  refine Rest.via (fun t k => XS.aloadN X7.here hx rfl (hb hby d9_44) rfl rfl k) ?_
  show Rest p.tables e below s _ _ _ (T7.setTop (mkF m 45 #[.val (.ref a0), .val (.long u0), .second, .val (.long d0), .second, .unset, .unset, .unset, .unset] [(.ref a0)]))
  obtain ⟨T9, X9, e9, st9⟩ := getF X7 hx hZ hown (host := "") (Or.inl (hw _ (List.mem_of_getElem? (i := 12) rfl))) Via.refl e7 (F_e.other W5 (Or.inr (slot_ne (Or.inl (hw _ (List.mem_of_getElem? (i := 13) rfl))) (Or.inl (hw _ (List.mem_of_getElem? (i := 20) rfl))) (by decide) (t := (.array .long)) (t' := .int) (by decide) (by decide)))) (g := (mkF m 45 #[.val (.ref a0), .val (.long u0), .second, .val (.long d0), .second, .unset, .unset, .unset, .unset] [(.ref a0)])) rfl rfl (hb hby d9_45)
  refine Rest.via (fun t k => st9 t k) ?_
  show Rest p.tables e below s _ _ _ (T9.setTop (mkF m 48 #[.val (.ref a0), .val (.long u0), .second, .val (.long d0), .second, .unset, .unset, .unset, .unset] [(.ref ea)]))
  refine Rest.via (fun t k => XS.aloadN X9.here hx rfl (hb hby d9_48) rfl rfl k) ?_
  show Rest p.tables e below s _ _ _ (T9.setTop (mkF m 49 #[.val (.ref a0), .val (.long u0), .second, .val (.long d0), .second, .unset, .unset, .unset, .unset] [(.ref a0), (.ref ea)]))
  obtain ⟨T10, X10, e10, st10⟩ := getF X9 hx hZ hown (host := "") (Or.inl (hw _ (List.mem_of_getElem? (i := 19) rfl))) Via.refl e9 Fw5 (g := (mkF m 49 #[.val (.ref a0), .val (.long u0), .second, .val (.long d0), .second, .unset, .unset, .unset, .unset] [(.ref a0), (.ref ea)])) rfl rfl (hb hby d9_49)
  refine Rest.via (fun t k => st10 t k) ?_
  show Rest p.tables e below s _ _ _ (T10.setTop (mkF m 52 #[.val (.ref a0), .val (.long u0), .second, .val (.long d0), .second, .unset, .unset, .unset, .unset] [(.int (0 : Int32)), (.ref ea)]))
  obtain ⟨cl11, Ar11, qa11, Sa11, Pa11, Ha11, Ga11⟩ := id (V_e.other W5 (Ne.symm n2))
  have hin11 := inb_of (j := (0 : Int32)) Sa11 ⟨by decide, by decide⟩
  have hat11 : cl11.slots[((0 : Int32)).toNatClampNeg]? = some (.long u0) := Has.at Ha11 hin11 rfl
  refine Rest.via (fun t k => X10.laload hx (j := (0 : Int32)) (v := (.long u0)) (by rw [e10]; exact Ar11.1) (State.isArrayOf_alike hZ.alike Ar11.2.1) Ar11.2.2 hin11 hat11 (g := (mkF m 52 #[.val (.ref a0), .val (.long u0), .second, .val (.long d0), .second, .unset, .unset, .unset, .unset] [(.int (0 : Int32)), (.ref ea)])) rfl rfl (hb hby d9_52) t k) ?_
  show Rest p.tables e below s _ _ _ (T10.setTop (mkF m 53 #[.val (.ref a0), .val (.long u0), .second, .val (.long d0), .second, .unset, .unset, .unset, .unset] [(.long u0)]))
  refine Rest.via (fun t k => XS.lstore X10.here hx rfl (hb hby d9_53) rfl (l' := #[.val (.ref a0), .val (.long u0), .second, .val (.long d0), .second, .val (.long u0), .second, .unset, .unset]) rfl k) ?_
  show Rest p.tables e below s _ _ _ (T10.setTop (mkF m 55 #[.val (.ref a0), .val (.long u0), .second, .val (.long d0), .second, .val (.long u0), .second, .unset, .unset] []))
  refine Rest.via (fun t k => XS.iconst X10.here hx rfl (hb hby d9_55) k) ?_
  show Rest p.tables e below s _ _ _ (T10.setTop (mkF m 56 #[.val (.ref a0), .val (.long u0), .second, .val (.long d0), .second, .val (.long u0), .second, .unset, .unset] [(.int (0 : Int32))]))
  refine Rest.via (fun t k => XS.istore X10.here hx rfl (hb hby d9_56) rfl (l' := #[.val (.ref a0), .val (.long u0), .second, .val (.long d0), .second, .val (.long u0), .second, .val (.int (0 : Int32)), .unset]) rfl k) ?_
  show Rest p.tables e below s _ _ _ (T10.setTop (mkF m 58 #[.val (.ref a0), .val (.long u0), .second, .val (.long d0), .second, .val (.long u0), .second, .val (.int (0 : Int32)), .unset] []))
  refine Rest.via (fun t k => XS.iconst X10.here hx rfl (hb hby d9_58) k) ?_
  show Rest p.tables e below s _ _ _ (T10.setTop (mkF m 59 #[.val (.ref a0), .val (.long u0), .second, .val (.long d0), .second, .val (.long u0), .second, .val (.int (0 : Int32)), .unset] [(.int (1 : Int32))]))
  refine Rest.via (fun t k => XS.istore X10.here hx rfl (hb hby d9_59) rfl (l' := #[.val (.ref a0), .val (.long u0), .second, .val (.long d0), .second, .val (.long u0), .second, .val (.int (0 : Int32)), .val (.int (1 : Int32))]) rfl k) ?_
  show Rest p.tables e below s _ _ _ (T10.setTop (mkF m 61 #[.val (.ref a0), .val (.long u0), .second, .val (.long d0), .second, .val (.long u0), .second, .val (.int (0 : Int32)), .val (.int (1 : Int32))] []))
  refine Rest.via (fun t k => XS.iload X10.here hx rfl (hb hby d9_61) rfl k) ?_
  show Rest p.tables e below s _ _ _ (T10.setTop (mkF m 63 #[.val (.ref a0), .val (.long u0), .second, .val (.long d0), .second, .val (.long u0), .second, .val (.int (0 : Int32)), .val (.int (1 : Int32))] [(.int (1 : Int32))]))
  refine Rest.via (fun t k => XS.aloadN X10.here hx rfl (hb hby d9_63) rfl rfl k) ?_
  show Rest p.tables e below s _ _ _ (T10.setTop (mkF m 64 #[.val (.ref a0), .val (.long u0), .second, .val (.long d0), .second, .val (.long u0), .second, .val (.int (0 : Int32)), .val (.int (1 : Int32))] [(.ref a0), (.int (1 : Int32))]))
  obtain ⟨T12, X12, e12, st12⟩ := getF X10 hx hZ hown (host := "") (Or.inl (hw _ (List.mem_of_getElem? (i := 19) rfl))) Via.refl e10 Fw5 (g := (mkF m 64 #[.val (.ref a0), .val (.long u0), .second, .val (.long d0), .second, .val (.long u0), .second, .val (.int (0 : Int32)), .val (.int (1 : Int32))] [(.ref a0), (.int (1 : Int32))])) rfl rfl (hb hby d9_64)
  refine Rest.via (fun t k => st12 t k) ?_
  show Rest p.tables e below s _ _ _ (T12.setTop (mkF m 67 #[.val (.ref a0), .val (.long u0), .second, .val (.long d0), .second, .val (.long u0), .second, .val (.int (0 : Int32)), .val (.int (1 : Int32))] [(.int (0 : Int32)), (.int (1 : Int32))]))
  refine Rest.via (fun t k => XS.icmpYes X12.here hx rfl (pc0 := 67) (pc' := 142) rfl (hb hby d9_67) rfl (flt (by decide : ¬ ((1 : Int32) < (0 : Int32)))).2.1 (by decide) (by decide) k) ?_
  show Rest p.tables e below s _ _ _ (T12.setTop (mkF m 142 #[.val (.ref a0), .val (.long u0), .second, .val (.long d0), .second, .val (.long u0), .second, .val (.int (0 : Int32)), .val (.int (1 : Int32))] []))
  refine Rest.via (fun t k => XS.aloadN X12.here hx rfl (hb hby d9_142) rfl rfl k) ?_
  show Rest p.tables e below s _ _ _ (T12.setTop (mkF m 143 #[.val (.ref a0), .val (.long u0), .second, .val (.long d0), .second, .val (.long u0), .second, .val (.int (0 : Int32)), .val (.int (1 : Int32))] [(.ref a0)]))
  obtain ⟨T13, X13, e13, st13⟩ := getF X12 hx hZ hown (host := "") (Or.inl (hw _ (List.mem_of_getElem? (i := 10) rfl))) Via.refl e12 (F_d.other W5 (Or.inr (slot_ne (Or.inl (hw _ (List.mem_of_getElem? (i := 11) rfl))) (Or.inl (hw _ (List.mem_of_getElem? (i := 20) rfl))) (by decide) (t := (.array .long)) (t' := .int) (by decide) (by decide)))) (g := (mkF m 143 #[.val (.ref a0), .val (.long u0), .second, .val (.long d0), .second, .val (.long u0), .second, .val (.int (0 : Int32)), .val (.int (1 : Int32))] [(.ref a0)])) rfl rfl (hb hby d9_143)
  refine Rest.via (fun t k => st13 t k) ?_
  show Rest p.tables e below s _ _ _ (T13.setTop (mkF m 146 #[.val (.ref a0), .val (.long u0), .second, .val (.long d0), .second, .val (.long u0), .second, .val (.int (0 : Int32)), .val (.int (1 : Int32))] [(.ref da)]))
  refine Rest.via (fun t k => XS.iload X13.here hx rfl (hb hby d9_146) rfl k) ?_
  show Rest p.tables e below s _ _ _ (T13.setTop (mkF m 148 #[.val (.ref a0), .val (.long u0), .second, .val (.long d0), .second, .val (.long u0), .second, .val (.int (0 : Int32)), .val (.int (1 : Int32))] [(.int (0 : Int32)), (.ref da)]))
  refine Rest.via (fun t k => XS.lloadN X13.here hx rfl (hb hby d9_148) rfl k) ?_
  show Rest p.tables e below s _ _ _ (T13.setTop (mkF m 149 #[.val (.ref a0), .val (.long u0), .second, .val (.long d0), .second, .val (.long u0), .second, .val (.int (0 : Int32)), .val (.int (1 : Int32))] [(.long d0), (.int (0 : Int32)), (.ref da)]))
  obtain ⟨cl14, Ar14, qa14, Sa14, Pa14, Ha14, Ga14⟩ := id (V_d.other W5 (Ne.symm n1))
  have hin14 := inb_of (j := (0 : Int32)) Sa14 ⟨by decide, by decide⟩
  obtain ⟨T14, h14, X14, e14, W14, st14⟩ := stJ X13 hx hZ e13 Ar14 (j := (0 : Int32)) hin14 (g := (mkF m 149 #[.val (.ref a0), .val (.long u0), .second, .val (.long d0), .second, .val (.long u0), .second, .val (.int (0 : Int32)), .val (.int (1 : Int32))] [(.long d0), (.int (0 : Int32)), (.ref da)])) rfl rfl (hb hby d9_149)
  refine Rest.via (fun t k => st14 t k) ?_
  have N14 := Fr.snoc X14 N5 g_da
  have K14 : Keep h0 h14 [a0, da, ea] := K5.wr W14 (Or.inl (List.mem_of_getElem? (i := 1) rfl))
  have V14 : Arv Z h14 da k1 .long (16 : Int32) [(.long d0), (.long d1)] (.long (0 : Int64)) := Arv.set Ar14 qa14 Sa14 Pa14 Ha14 Ga14 rfl W14 0 rfl (Nat.le_of_ble_eq_true rfl)
  show Rest p.tables e below s _ _ _ (T14.setTop (mkF m 150 #[.val (.ref a0), .val (.long u0), .second, .val (.long d0), .second, .val (.long u0), .second, .val (.int (0 : Int32)), .val (.int (1 : Int32))] []))
  refine Rest.via (fun t k => XS.aloadN X14.here hx rfl (hb hby d9_150) rfl rfl k) ?_
  show Rest p.tables e below s _ _ _ (T14.setTop (mkF m 151 #[.val (.ref a0), .val (.long u0), .second, .val (.long d0), .second, .val (.long u0), .second, .val (.int (0 : Int32)), .val (.int (1 : Int32))] [(.ref a0)]))
  obtain ⟨T15, X15, e15, st15⟩ := getF X14 hx hZ hown (host := "") (Or.inl (hw _ (List.mem_of_getElem? (i := 12) rfl))) Via.refl e14 ((F_e.other W5 (Or.inr (slot_ne (Or.inl (hw _ (List.mem_of_getElem? (i := 13) rfl))) (Or.inl (hw _ (List.mem_of_getElem? (i := 20) rfl))) (by decide) (t := (.array .long)) (t' := .int) (by decide) (by decide)))).other W14 (Or.inl n1)) (g := (mkF m 151 #[.val (.ref a0), .val (.long u0), .second, .val (.long d0), .second, .val (.long u0), .second, .val (.int (0 : Int32)), .val (.int (1 : Int32))] [(.ref a0)])) rfl rfl (hb hby d9_151)
  refine Rest.via (fun t k => st15 t k) ?_
  show Rest p.tables e below s _ _ _ (T15.setTop (mkF m 154 #[.val (.ref a0), .val (.long u0), .second, .val (.long d0), .second, .val (.long u0), .second, .val (.int (0 : Int32)), .val (.int (1 : Int32))] [(.ref ea)]))
  refine Rest.via (fun t k => XS.iload X15.here hx rfl (hb hby d9_154) rfl k) ?_
  show Rest p.tables e below s _ _ _ (T15.setTop (mkF m 156 #[.val (.ref a0), .val (.long u0), .second, .val (.long d0), .second, .val (.long u0), .second, .val (.int (0 : Int32)), .val (.int (1 : Int32))] [(.int (0 : Int32)), (.ref ea)]))
  refine Rest.via (fun t k => XS.lload X15.here hx rfl (hb hby d9_156) rfl k) ?_
  show Rest p.tables e below s _ _ _ (T15.setTop (mkF m 158 #[.val (.ref a0), .val (.long u0), .second, .val (.long d0), .second, .val (.long u0), .second, .val (.int (0 : Int32)), .val (.int (1 : Int32))] [(.long u0), (.int (0 : Int32)), (.ref ea)]))
  obtain ⟨cl16, Ar16, qa16, Sa16, Pa16, Ha16, Ga16⟩ := id ((V_e.other W5 (Ne.symm n2)).other W14 (Ne.symm n3))
  have hin16 := inb_of (j := (0 : Int32)) Sa16 ⟨by decide, by decide⟩
  obtain ⟨T16, h16, X16, e16, W16, st16⟩ := stJ X15 hx hZ e15 Ar16 (j := (0 : Int32)) hin16 (g := (mkF m 158 #[.val (.ref a0), .val (.long u0), .second, .val (.long d0), .second, .val (.long u0), .second, .val (.int (0 : Int32)), .val (.int (1 : Int32))] [(.long u0), (.int (0 : Int32)), (.ref ea)])) rfl rfl (hb hby d9_158)
  refine Rest.via (fun t k => st16 t k) ?_
  have N16 := Fr.snoc X16 N14 g_ea
  have K16 : Keep h0 h16 [a0, da, ea] := K14.wr W16 (Or.inl (List.mem_of_getElem? (i := 2) rfl))
  have V16 : Arv Z h16 ea k2 .long (16 : Int32) [(.long u0), (.long u1)] (.long (0 : Int64)) := Arv.set Ar16 qa16 Sa16 Pa16 Ha16 Ga16 rfl W16 0 rfl (Nat.le_of_ble_eq_true rfl)
  show Rest p.tables e below s _ _ _ (T16.setTop (mkF m 159 #[.val (.ref a0), .val (.long u0), .second, .val (.long d0), .second, .val (.long u0), .second, .val (.int (0 : Int32)), .val (.int (1 : Int32))] []))
  refine Rest.via (fun t k => XS.lloadN X16.here hx rfl (hb hby d9_159) rfl k) ?_
  show Rest p.tables e below s _ _ _ (T16.setTop (mkF m 160 #[.val (.ref a0), .val (.long u0), .second, .val (.long d0), .second, .val (.long u0), .second, .val (.int (0 : Int32)), .val (.int (1 : Int32))] [(.long u0)]))
  refine Rest.ret X16 (v := some (.long u0)) (fun h => by rw [Bd.returns] at h; cases h) hlk (fun fs hr => retOut X16 hx Bd.returns rfl (Or.inr (Or.inl ⟨rfl, rfl, _, rfl⟩)) (hb hby d9_160) hr) ?_ (by decide) (by decide)
  rw [e16]
  exact ⟨rfl, N16, K16, ⟨(((E_a0.wr W5).wr W14).wr W16), (((F_d.other W5 (Or.inr (slot_ne (Or.inl (hw _ (List.mem_of_getElem? (i := 11) rfl))) (Or.inl (hw _ (List.mem_of_getElem? (i := 20) rfl))) (by decide) (t := (.array .long)) (t' := .int) (by decide) (by decide)))).other W14 (Or.inl n1)).other W16 (Or.inl n2)), (((F_e.other W5 (Or.inr (slot_ne (Or.inl (hw _ (List.mem_of_getElem? (i := 13) rfl))) (Or.inl (hw _ (List.mem_of_getElem? (i := 20) rfl))) (by decide) (t := (.array .long)) (t' := .int) (by decide) (by decide)))).other W14 (Or.inl n1)).other W16 (Or.inl n2)), ((Fw5.other W14 (Or.inl n1)).other W16 (Or.inl n2)), (V14.other W16 n3), V16, n1, n2, n3⟩⟩
theorem pd_2 : parseMethodDescriptor "()V" = some ⟨[], none⟩ := by decide +kernel
theorem pd_3 : parseMethodDescriptor "()Z" = some ⟨[], some .boolean⟩ := by decide +kernel
theorem pd_4 : parseMethodDescriptor "()J" = some ⟨[], some .long⟩ := by decide +kernel
theorem pd_5 : parseMethodDescriptor "(JJ)V" = some ⟨[.long, .long], none⟩ := by decide +kernel
theorem pn_1 : plainName "com/example/mark_delete/markdelete/broker/DelayedMessagesClearPinLaw" = true := by first | (simp [plainName, overriddenIn]; done) | decide +kernel
theorem ef_0 (m : MethodId) (q0 : Int64) (q1 : Int64) (q2 : Int64) (q3 : Int64) (p4 : Int32) : entryFrame m #[(.long q0), (.long q1), (.long q2), (.long q3), (.int p4)] maxLocals = mkF m 0 #[.val (.long q0), .second, .val (.long q1), .second, .val (.long q2), .second, .val (.long q3), .second, .val (.int p4), .unset, .unset, .unset, .unset, .unset, .unset, .unset, .unset, .unset, .unset] [] := by first | (simp [entryFrame, mkF, argsToLocals, Value.category, maxLocals]; done) | rfl
def Q0 (Z : State) (q0 : Int64) (q1 : Int64) (q2 : Int64) (q3 : Int64) (p4 : Int32) (h0 : Heap) (n0 : Nat) (v : Option Value) (h : Heap) (L : List Loc) : Prop := v = some (.int 1) ∧ Fr n0 L
set_option maxRecDepth 65536 in
set_option maxHeartbeats 40000000 in
theorem rm0 (l : Launch) (Z : State) (aw : Array Value) (hw : ∀ d ∈ tables_1, d.before aw Z = true) (ws : List Jvm.Cond) (q0 : Int64) (q1 : Int64) (q2 : Int64) (q3 : Int64) (p4 : Int32) (h0 : Heap) (n0 : Nat) (Z0 : n0 ≤ h0.size)  :
    MetFree l x (head1 (Jvm.Cond.code x code maxLocals ret :: ws) room_1) (fun a U => a = #[(.long q0), (.long q1), (.long q2), (.long q3), (.int p4)] ∧ Z.Warmed39 U.vm ∧ U.heap = h0) (fun _ _ _ _ _ => True) (fun _ U o U' => ∃ v L, o = .returned v ∧ Q0 Z q0 q1 q2 q3 p4 h0 n0 v U'.heap L ∧ FrameEnd U o U' L 5 67) := by
  refine MetFree.of_bodySF (plainFor_of_name pn_1) hisR ?_
  intro p e s m args below meth c s₁ Bd hml0 hP hK
  obtain ⟨rfl, hZ, hh⟩ := hP
  have hx := Bd.exec
  have hby := Bd.bytes
  have hml : c.maxLocals = 19 := hml0
  have hown : s.vm.findClass "com/example/mark_delete/markdelete/broker/DelayedMessagesClearPinLaw" = some m.cls := findClass_of_methodNamed Bd.named
  have hnm := (name_of_methodNamed Bd.named Bd.method).1
  have hlk : meth.locks = false := BodyLoose.notSynchronized Bd
  have X0 : Stand p l e room_1 s m #[(.long q0), (.long q1), (.long q2), (.long q3), (.int p4)] below meth c s₁ [] 0 0 := Stand.of_body Bd
  have eh0 : s₁.heap = h0 := by rw [← hh, Bd.state]; rfl
  have N0 := Fr.nil n0
  show Rest p.tables e below s (Q0 Z q0 q1 q2 q3 p4 h0 n0) _ _ (s₁.setTop (entryFrame m #[(.long q0), (.long q1), (.long q2), (.long q3), (.int p4)] maxLocals))
  refine Rest.via (fun t k => castTop (ef_0 m q0 q1 q2 q3 p4) k) ?_
  show Rest p.tables e below s _ _ _ (s₁.setTop (mkF m 0 #[.val (.long q0), .second, .val (.long q1), .second, .val (.long q2), .second, .val (.long q3), .second, .val (.int p4), .unset, .unset, .unset, .unset, .unset, .unset, .unset, .unset, .unset, .unset] []))
  obtain ⟨T1, h1, X1, e1, E1, A1, D1, -, st1⟩ := newO X0 hx hZ hown (hw _ (List.mem_of_getElem? (i := 0) rfl)) (hw _ (List.mem_of_getElem? (i := 1) rfl)) (hw _ (List.mem_of_getElem? (i := 2) rfl)) eh0 (g := (mkF m 0 #[.val (.long q0), .second, .val (.long q1), .second, .val (.long q2), .second, .val (.long q3), .second, .val (.int p4), .unset, .unset, .unset, .unset, .unset, .unset, .unset, .unset, .unset, .unset] [])) rfl (hb hby at_0) (by decide) (by decide)
  obtain ⟨b1, gq1⟩ : ∃ z, z = h0.size := ⟨_, rfl⟩
  rw [← gq1] at A1 D1 st1
  have sz_b1 : h0.size ≤ b1 := Nat.le_trans (Keep.refl h0 []).1 (Nat.le_of_eq gq1.symm)
  have g_b1 : n0 ≤ b1 := Nat.le_trans Z0 sz_b1
  have K1 : Keep h0 h1 [] := (Keep.refl h0 []).ext E1
  have E_b1 := A1
  have F_deliverAts_b1 : Fld Z h1 b1 "com/example/mark_delete/markdelete/broker/DelayedMessages" "deliverAts" "[J" .null := D1 (Or.inl (hw _ (List.mem_of_getElem? (i := 11) rfl))) (ty := (.array .long)) (by decide)
  have F_entryIds_b1 : Fld Z h1 b1 "com/example/mark_delete/markdelete/broker/DelayedMessages" "entryIds" "[J" .null := D1 (Or.inl (hw _ (List.mem_of_getElem? (i := 13) rfl))) (ty := (.array .long)) (by decide)
  have F_size_b1 : Fld Z h1 b1 "com/example/mark_delete/markdelete/broker/DelayedMessages" "size" "I" (.int (0 : Int32)) := D1 (Or.inl (hw _ (List.mem_of_getElem? (i := 20) rfl))) (ty := .int) (by decide)
  refine Rest.via (fun t k => st1 t k) ?_
  show Rest p.tables e below s _ _ _ (T1.setTop (mkF m 3 #[.val (.long q0), .second, .val (.long q1), .second, .val (.long q2), .second, .val (.long q3), .second, .val (.int p4), .unset, .unset, .unset, .unset, .unset, .unset, .unset, .unset, .unset, .unset] [(.ref b1)]))
  refine Rest.via (fun t k => XS.dup X1.here hx rfl (hb hby at_3) rfl rfl k) ?_
  show Rest p.tables e below s _ _ _ (T1.setTop (mkF m 4 #[.val (.long q0), .second, .val (.long q1), .second, .val (.long q2), .second, .val (.long q3), .second, .val (.int p4), .unset, .unset, .unset, .unset, .unset, .unset, .unset, .unset, .unset, .unset] [(.ref b1), (.ref b1)]))
  obtain ⟨_, _, ⟨T2, L2, k2, n2⟩, -, X2, ⟨Lc2, hQ2, l2, y2, z2⟩, st2⟩ := X1.specialBack hx (y := (⟨"com/example/mark_delete/markdelete/broker/DelayedMessages", "<init>", "()V"⟩ : MethodName)) rfl hown (mvT hZ (hw _ (List.mem_of_getElem? (i := 3) rfl))) (mvT hZ (hw _ (List.mem_of_getElem? (i := 4) rfl))) (mvT hZ (hw _ (List.mem_of_getElem? (i := 5) rfl))) (by decide) (backOf (W := 1) (rmI l Z aw hw [] b1  h1 n0 (Nat.le_trans Z0 K1.1) E_b1 F_deliverAts_b1 F_entryIds_b1 F_size_b1 g_b1) hZ (hw _ (List.mem_of_getElem? (i := 5) rfl)) (hw _ (List.mem_of_getElem? (i := 2) rfl)) (by decide) (by decide)) (g := (mkF m 4 #[.val (.long q0), .second, .val (.long q1), .second, .val (.long q2), .second, .val (.long q3), .second, .val (.int p4), .unset, .unset, .unset, .unset, .unset, .unset, .unset, .unset, .unset, .unset] [(.ref b1), (.ref b1)])) rfl (by rw [hml]; rfl) (Steps.refl _) (a := b1) (argsL := []) (rest := [(.ref b1)]) (lenOf pd_2 rfl) rfl (by show 2 * 0 + _ ≤ _; exact Nat.le_of_eq rfl) (hb hby at_4) (fun _ _ => ⟨rfl, e1, (by decide : 1 + 2 ≤ _), (by decide : 3 + 32 ≤ _)⟩)
  dsimp only [Pt.U, Pt.locs, Pt.cells, Pt.slots] at X2 l2 y2 z2 st2 hQ2
  subst l2 y2 z2
  obtain ⟨h2, e2⟩ : ∃ z, T2.heap = z := ⟨_, rfl⟩
  rw [e2] at hQ2
  obtain ⟨rfl, Nq2, Kq2, da2, ea2, ka2, kb2, sd2, se2, D2⟩ := hQ2
  have N2 := Fr.app N0 Nq2
  have sz_da2 : h0.size ≤ da2 := Nat.le_trans K1.1 sd2
  have sz_ea2 : h0.size ≤ ea2 := Nat.le_trans K1.1 se2
  have g_da2 : n0 ≤ da2 := Nat.le_trans Z0 sz_da2
  have g_ea2 : n0 ≤ ea2 := Nat.le_trans Z0 sz_ea2
  have K2 : Keep h0 h2 [] := K1.trans Kq2 (allS (Or.inr sz_b1) all0)
  refine Rest.via (fun t k => st2.trans k) ?_
  show Rest p.tables e below s _ _ _ (T2.setTop (mkF m 7 #[.val (.long q0), .second, .val (.long q1), .second, .val (.long q2), .second, .val (.long q3), .second, .val (.int p4), .unset, .unset, .unset, .unset, .unset, .unset, .unset, .unset, .unset, .unset] [(.ref b1)]))
  refine Rest.via (fun t k => XS.astore X2.here hx rfl (hb hby at_7) rfl rfl (l' := #[.val (.long q0), .second, .val (.long q1), .second, .val (.long q2), .second, .val (.long q3), .second, .val (.int p4), .val (.ref b1), .unset, .unset, .unset, .unset, .unset, .unset, .unset, .unset, .unset]) rfl k) ?_
  show Rest p.tables e below s _ _ _ (T2.setTop (mkF m 9 #[.val (.long q0), .second, .val (.long q1), .second, .val (.long q2), .second, .val (.long q3), .second, .val (.int p4), .val (.ref b1), .unset, .unset, .unset, .unset, .unset, .unset, .unset, .unset, .unset] []))
  have J39 : ∀ (T39 : State) (L39 : List Loc) (h39 : Heap) (X39 : Stand p l e room_1 s m #[(.long q0), (.long q1), (.long q2), (.long q3), (.int p4)] below meth c T39 L39 3 35) (e39 : T39.heap = h39) (N39 : Fr n0 L39) (K39 : Keep h0 h39 []) (da39 ea39 : Addr) (sz39 : Int32) (E39 : Exa Z h39 b1 "com/example/mark_delete/markdelete/broker/DelayedMessages") (Fd39 : Fld Z h39 b1 "com/example/mark_delete/markdelete/broker/DelayedMessages" "deliverAts" "[J" (.ref da39)) (Fe39 : Fld Z h39 b1 "com/example/mark_delete/markdelete/broker/DelayedMessages" "entryIds" "[J" (.ref ea39)) (Fs39 : Fld Z h39 b1 "com/example/mark_delete/markdelete/broker/DelayedMessages" "size" "I" (.int sz39)), Rest p.tables e below s (Q0 Z q0 q1 q2 q3 p4 h0 n0) 5 67 (T39.setTop (mkF m 39 #[.val (.long q0), .second, .val (.long q1), .second, .val (.long q2), .second, .val (.long q3), .second, .val (.int p4), .val (.ref b1), .unset, .unset, .unset, .unset, .unset, .unset, .unset, .unset, .unset] [])) := by
    intro T39 L39 h39 X39 e39 N39 K39 da39 ea39 sz39 E39 Fd39 Fe39 Fs39
    show Rest p.tables e below s _ _ _ (T39.setTop (mkF m 39 #[.val (.long q0), .second, .val (.long q1), .second, .val (.long q2), .second, .val (.long q3), .second, .val (.int p4), .val (.ref b1), .unset, .unset, .unset, .unset, .unset, .unset, .unset, .unset, .unset] []))
    refine Rest.via (fun t k => XS.aload X39.here hx rfl (hb hby at_39) rfl rfl k) ?_
    show Rest p.tables e below s _ _ _ (T39.setTop (mkF m 41 #[.val (.long q0), .second, .val (.long q1), .second, .val (.long q2), .second, .val (.long q3), .second, .val (.int p4), .val (.ref b1), .unset, .unset, .unset, .unset, .unset, .unset, .unset, .unset, .unset] [(.ref b1)]))
    obtain ⟨cq3, kq3, q3a, q3b, q3c⟩ := isOf hZ e39 E39
    obtain ⟨_, _, ⟨T3, L3, k3, n3⟩, -, X3, ⟨Lc3, hQ3, l3, y3, z3⟩, st3⟩ := X39.virtualBack hx (y := (⟨"com/example/mark_delete/markdelete/broker/DelayedMessages", "clear", "()V"⟩ : MethodName)) (z := (⟨"com/example/mark_delete/markdelete/broker/DelayedMessages", "clear", "()V"⟩ : MethodName)) hown (mvT hZ (hw _ (List.mem_of_getElem? (i := 29) rfl))) (mvT hZ (hw _ (List.mem_of_getElem? (i := 30) rfl))) (notFace_of_selects (args := #[]) (mvT hZ (hw _ (List.mem_of_getElem? (i := 32) rfl)))) (mvT hZ (hw _ (List.mem_of_getElem? (i := 32) rfl))) (mvT hZ (hw _ (List.mem_of_getElem? (i := 31) rfl))) (by decide) (backOf (W := 0) (rmC l Z aw hw [] b1 _ _ _ h39 n0 (Nat.le_trans Z0 K39.1) E39 Fd39 Fe39 Fs39 g_b1) hZ (hw _ (List.mem_of_getElem? (i := 33) rfl)) (hw _ (List.mem_of_getElem? (i := 2) rfl)) (by decide) (by decide)) q3a q3c (g := (mkF m 41 #[.val (.long q0), .second, .val (.long q1), .second, .val (.long q2), .second, .val (.long q3), .second, .val (.int p4), .val (.ref b1), .unset, .unset, .unset, .unset, .unset, .unset, .unset, .unset, .unset] [(.ref b1)])) rfl (by rw [hml]; rfl) (Steps.refl _) (argsL := []) (rest := []) (lenOf pd_2 rfl) rfl (by show 2 * 0 + _ ≤ _; exact Nat.le_of_eq rfl) (hb hby at_41) (fun _ _ => ⟨rfl, e39, (by decide : 3 + 2 ≤ _), (by decide : 35 + 32 ≤ _)⟩)
    dsimp only [Pt.U, Pt.locs, Pt.cells, Pt.slots] at X3 l3 y3 z3 st3 hQ3
    subst l3 y3 z3
    obtain ⟨h3, e3⟩ : ∃ z, T3.heap = z := ⟨_, rfl⟩
    rw [e3] at hQ3
    obtain ⟨rfl, Nq3, Kq3, da3, ea3, ka3, kb3, sd3, se3, D3⟩ := hQ3
    have N3 := Fr.app N39 Nq3
    have sz_da3 : h0.size ≤ da3 := Nat.le_trans K39.1 sd3
    have sz_ea3 : h0.size ≤ ea3 := Nat.le_trans K39.1 se3
    have g_da3 : n0 ≤ da3 := Nat.le_trans Z0 sz_da3
    have g_ea3 : n0 ≤ ea3 := Nat.le_trans Z0 sz_ea3
    have K3 : Keep h0 h3 [] := K39.trans Kq3 (allS (Or.inr sz_b1) all0)
    refine Rest.via (fun t k => st3.trans k) ?_
    show Rest p.tables e below s _ _ _ (T3.setTop (mkF m 44 #[.val (.long q0), .second, .val (.long q1), .second, .val (.long q2), .second, .val (.long q3), .second, .val (.int p4), .val (.ref b1), .unset, .unset, .unset, .unset, .unset, .unset, .unset, .unset, .unset] []))
    refine Rest.via (fun t k => XS.aload X3.here hx rfl (hb hby at_44) rfl rfl k) ?_
    show Rest p.tables e below s _ _ _ (T3.setTop (mkF m 46 #[.val (.long q0), .second, .val (.long q1), .second, .val (.long q2), .second, .val (.long q3), .second, .val (.int p4), .val (.ref b1), .unset, .unset, .unset, .unset, .unset, .unset, .unset, .unset, .unset] [(.ref b1)]))
    obtain ⟨cq4, kq4, q4a, q4b, q4c⟩ := isOf hZ e3 D3.1
    obtain ⟨_, _, ⟨T4, L4, k4, n4⟩, -, X4, ⟨Lc4, hQ4, l4, y4, z4⟩, st4⟩ := X3.virtualBack hx (y := (⟨"com/example/mark_delete/markdelete/broker/DelayedMessages", "isEmpty", "()Z"⟩ : MethodName)) (z := (⟨"com/example/mark_delete/markdelete/broker/DelayedMessages", "isEmpty", "()Z"⟩ : MethodName)) hown (mvT hZ (hw _ (List.mem_of_getElem? (i := 34) rfl))) (mvT hZ (hw _ (List.mem_of_getElem? (i := 35) rfl))) (notFace_of_selects (args := #[]) (mvT hZ (hw _ (List.mem_of_getElem? (i := 37) rfl)))) (mvT hZ (hw _ (List.mem_of_getElem? (i := 37) rfl))) (mvT hZ (hw _ (List.mem_of_getElem? (i := 36) rfl))) (by decide) (backOf (W := 0) (rmE l Z aw hw [] b1 da3 ea3 ka3 kb3 (0 : Int64) (0 : Int64) (0 : Int64) (0 : Int64) h3 n0 (Nat.le_trans Z0 K3.1) D3) hZ (hw _ (List.mem_of_getElem? (i := 38) rfl)) (hw _ (List.mem_of_getElem? (i := 2) rfl)) (by decide) (by decide)) q4a q4c (g := (mkF m 46 #[.val (.long q0), .second, .val (.long q1), .second, .val (.long q2), .second, .val (.long q3), .second, .val (.int p4), .val (.ref b1), .unset, .unset, .unset, .unset, .unset, .unset, .unset, .unset, .unset] [(.ref b1)])) rfl (by rw [hml]; rfl) (Steps.refl _) (argsL := []) (rest := []) (lenOf pd_3 rfl) rfl (by show 2 * 0 + _ ≤ _; exact Nat.le_of_eq rfl) (hb hby at_46) (fun _ _ => ⟨rfl, e3, (by decide : 5 + 0 ≤ _), (by decide : 67 + 0 ≤ _)⟩)
    dsimp only [Pt.U, Pt.locs, Pt.cells, Pt.slots] at X4 l4 y4 z4 st4 hQ4
    subst l4 y4 z4
    obtain ⟨rfl, Nq4, e4⟩ := hQ4
    have N4 := Fr.app N3 Nq4
    refine Rest.via (fun t k => st4.trans k) ?_
    show Rest p.tables e below s _ _ _ (T4.setTop (mkF m 49 #[.val (.long q0), .second, .val (.long q1), .second, .val (.long q2), .second, .val (.long q3), .second, .val (.int p4), .val (.ref b1), .unset, .unset, .unset, .unset, .unset, .unset, .unset, .unset, .unset] [(.int (1 : Int32))]))
    refine Rest.via (fun t k => XS.istore X4.here hx rfl (hb hby at_49) rfl (l' := #[.val (.long q0), .second, .val (.long q1), .second, .val (.long q2), .second, .val (.long q3), .second, .val (.int p4), .val (.ref b1), .val (.int (1 : Int32)), .unset, .unset, .unset, .unset, .unset, .unset, .unset, .unset]) rfl k) ?_
    show Rest p.tables e below s _ _ _ (T4.setTop (mkF m 51 #[.val (.long q0), .second, .val (.long q1), .second, .val (.long q2), .second, .val (.long q3), .second, .val (.int p4), .val (.ref b1), .val (.int (1 : Int32)), .unset, .unset, .unset, .unset, .unset, .unset, .unset, .unset] []))
    refine Rest.via (fun t k => XS.iload X4.here hx rfl (hb hby at_51) rfl k) ?_
    show Rest p.tables e below s _ _ _ (T4.setTop (mkF m 53 #[.val (.long q0), .second, .val (.long q1), .second, .val (.long q2), .second, .val (.long q3), .second, .val (.int p4), .val (.ref b1), .val (.int (1 : Int32)), .unset, .unset, .unset, .unset, .unset, .unset, .unset, .unset] [(.int (1 : Int32))]))
    refine Rest.via (fun t k => XS.ifNo X4.here hx rfl (hb hby at_53) rfl ((if0 _ _).trans (feq (by decide : ¬ ((1 : Int32) = (0 : Int32)))).1) k) ?_
    show Rest p.tables e below s _ _ _ (T4.setTop (mkF m 56 #[.val (.long q0), .second, .val (.long q1), .second, .val (.long q2), .second, .val (.long q3), .second, .val (.int p4), .val (.ref b1), .val (.int (1 : Int32)), .unset, .unset, .unset, .unset, .unset, .unset, .unset, .unset] []))
    refine Rest.via (fun t k => XS.aload X4.here hx rfl (hb hby at_56) rfl rfl k) ?_
    show Rest p.tables e below s _ _ _ (T4.setTop (mkF m 58 #[.val (.long q0), .second, .val (.long q1), .second, .val (.long q2), .second, .val (.long q3), .second, .val (.int p4), .val (.ref b1), .val (.int (1 : Int32)), .unset, .unset, .unset, .unset, .unset, .unset, .unset, .unset] [(.ref b1)]))
    obtain ⟨cq5, kq5, q5a, q5b, q5c⟩ := isOf hZ e4 D3.1
    obtain ⟨_, _, ⟨T5, L5, k5, n5⟩, -, X5, ⟨Lc5, hQ5, l5, y5, z5⟩, st5⟩ := X4.virtualBack hx (y := (⟨"com/example/mark_delete/markdelete/broker/DelayedMessages", "earliestDeliverAt", "()J"⟩ : MethodName)) (z := (⟨"com/example/mark_delete/markdelete/broker/DelayedMessages", "earliestDeliverAt", "()J"⟩ : MethodName)) hown (mvT hZ (hw _ (List.mem_of_getElem? (i := 39) rfl))) (mvT hZ (hw _ (List.mem_of_getElem? (i := 40) rfl))) (notFace_of_selects (args := #[]) (mvT hZ (hw _ (List.mem_of_getElem? (i := 42) rfl)))) (mvT hZ (hw _ (List.mem_of_getElem? (i := 42) rfl))) (mvT hZ (hw _ (List.mem_of_getElem? (i := 41) rfl))) (by decide) (backOf (W := 0) (rmL l Z aw hw [] b1 da3 ea3 ka3 kb3 (0 : Int64) (0 : Int64) (0 : Int64) (0 : Int64) h3 n0 (Nat.le_trans Z0 K3.1) D3) hZ (hw _ (List.mem_of_getElem? (i := 43) rfl)) (hw _ (List.mem_of_getElem? (i := 2) rfl)) (by decide) (by decide)) q5a q5c (g := (mkF m 58 #[.val (.long q0), .second, .val (.long q1), .second, .val (.long q2), .second, .val (.long q3), .second, .val (.int p4), .val (.ref b1), .val (.int (1 : Int32)), .unset, .unset, .unset, .unset, .unset, .unset, .unset, .unset] [(.ref b1)])) rfl (by rw [hml]; rfl) (Steps.refl _) (argsL := []) (rest := []) (lenOf pd_4 rfl) rfl (by show 2 * 0 + _ ≤ _; exact Nat.le_of_eq rfl) (hb hby at_58) (fun _ _ => ⟨rfl, e4, (by decide : 5 + 0 ≤ _), (by decide : 67 + 0 ≤ _)⟩)
    dsimp only [Pt.U, Pt.locs, Pt.cells, Pt.slots] at X5 l5 y5 z5 st5 hQ5
    subst l5 y5 z5
    obtain ⟨rfl, Nq5, e5⟩ := hQ5
    have N5 := Fr.app N4 Nq5
    refine Rest.via (fun t k => st5.trans k) ?_
    show Rest p.tables e below s _ _ _ (T5.setTop (mkF m 61 #[.val (.long q0), .second, .val (.long q1), .second, .val (.long q2), .second, .val (.long q3), .second, .val (.int p4), .val (.ref b1), .val (.int (1 : Int32)), .unset, .unset, .unset, .unset, .unset, .unset, .unset, .unset] [(.long (9223372036854775807 : Int64))]))
    refine Rest.via (fun t k => X5.ldc2Long hx hown (mvT hZ (hw _ (List.mem_of_getElem? (i := 45) rfl))) (g := (mkF m 61 #[.val (.long q0), .second, .val (.long q1), .second, .val (.long q2), .second, .val (.long q3), .second, .val (.int p4), .val (.ref b1), .val (.int (1 : Int32)), .unset, .unset, .unset, .unset, .unset, .unset, .unset, .unset] [(.long (9223372036854775807 : Int64))])) rfl (hb hby at_61) t k) ?_
    show Rest p.tables e below s _ _ _ (T5.setTop (mkF m 64 #[.val (.long q0), .second, .val (.long q1), .second, .val (.long q2), .second, .val (.long q3), .second, .val (.int p4), .val (.ref b1), .val (.int (1 : Int32)), .unset, .unset, .unset, .unset, .unset, .unset, .unset, .unset] [(.long (9223372036854775807 : Int64)), (.long (9223372036854775807 : Int64))]))
    refine Rest.via (fun t k => XS.lcmp X5.here hx rfl (hb hby at_64) rfl k) ?_
    show Rest p.tables e below s _ _ _ (T5.setTop (mkF m 65 #[.val (.long q0), .second, .val (.long q1), .second, .val (.long q2), .second, .val (.long q3), .second, .val (.int p4), .val (.ref b1), .val (.int (1 : Int32)), .unset, .unset, .unset, .unset, .unset, .unset, .unset, .unset] [(.int (lcmpW (9223372036854775807 : Int64) (9223372036854775807 : Int64)))]))
    refine Rest.via (fun t k => XS.ifNo X5.here hx rfl (hb hby at_65) rfl ((if0 _ _).trans (teq ((lw_eq _ _).mpr (by decide : (9223372036854775807 : Int64) = (9223372036854775807 : Int64)))).2) k) ?_
    show Rest p.tables e below s _ _ _ (T5.setTop (mkF m 68 #[.val (.long q0), .second, .val (.long q1), .second, .val (.long q2), .second, .val (.long q3), .second, .val (.int p4), .val (.ref b1), .val (.int (1 : Int32)), .unset, .unset, .unset, .unset, .unset, .unset, .unset, .unset] []))
    refine Rest.via (fun t k => XS.iconst X5.here hx rfl (hb hby at_68) k) ?_
    show Rest p.tables e below s _ _ _ (T5.setTop (mkF m 69 #[.val (.long q0), .second, .val (.long q1), .second, .val (.long q2), .second, .val (.long q3), .second, .val (.int p4), .val (.ref b1), .val (.int (1 : Int32)), .unset, .unset, .unset, .unset, .unset, .unset, .unset, .unset] [(.int (1 : Int32))]))
    refine Rest.via (fun t k => XS.goto X5.here hx rfl (pc0 := 69) (pc' := 73) rfl (hb hby at_69) (by decide) (by decide) k) ?_
    show Rest p.tables e below s _ _ _ (T5.setTop (mkF m 73 #[.val (.long q0), .second, .val (.long q1), .second, .val (.long q2), .second, .val (.long q3), .second, .val (.int p4), .val (.ref b1), .val (.int (1 : Int32)), .unset, .unset, .unset, .unset, .unset, .unset, .unset, .unset] [(.int (1 : Int32))]))
    refine Rest.via (fun t k => XS.istore X5.here hx rfl (hb hby at_73) rfl (l' := #[.val (.long q0), .second, .val (.long q1), .second, .val (.long q2), .second, .val (.long q3), .second, .val (.int p4), .val (.ref b1), .val (.int (1 : Int32)), .unset, .unset, .unset, .unset, .unset, .unset, .unset, .unset]) rfl k) ?_
    show Rest p.tables e below s _ _ _ (T5.setTop (mkF m 75 #[.val (.long q0), .second, .val (.long q1), .second, .val (.long q2), .second, .val (.long q3), .second, .val (.int p4), .val (.ref b1), .val (.int (1 : Int32)), .unset, .unset, .unset, .unset, .unset, .unset, .unset, .unset] []))
    refine Rest.via (fun t k => XS.aload X5.here hx rfl (hb hby at_75) rfl rfl k) ?_
    show Rest p.tables e below s _ _ _ (T5.setTop (mkF m 77 #[.val (.long q0), .second, .val (.long q1), .second, .val (.long q2), .second, .val (.long q3), .second, .val (.int p4), .val (.ref b1), .val (.int (1 : Int32)), .unset, .unset, .unset, .unset, .unset, .unset, .unset, .unset] [(.ref b1)]))
    refine Rest.via (fun t k => XS.lload X5.here hx rfl (hb hby at_77) rfl k) ?_
    show Rest p.tables e below s _ _ _ (T5.setTop (mkF m 79 #[.val (.long q0), .second, .val (.long q1), .second, .val (.long q2), .second, .val (.long q3), .second, .val (.int p4), .val (.ref b1), .val (.int (1 : Int32)), .unset, .unset, .unset, .unset, .unset, .unset, .unset, .unset] [(.long q2), (.ref b1)]))
    refine Rest.via (fun t k => X5.ldc2Long hx hown (mvT hZ (hw _ (List.mem_of_getElem? (i := 46) rfl))) (g := (mkF m 79 #[.val (.long q0), .second, .val (.long q1), .second, .val (.long q2), .second, .val (.long q3), .second, .val (.int p4), .val (.ref b1), .val (.int (1 : Int32)), .unset, .unset, .unset, .unset, .unset, .unset, .unset, .unset] [(.long q2), (.ref b1)])) rfl (hb hby at_79) t k) ?_
    show Rest p.tables e below s _ _ _ (T5.setTop (mkF m 82 #[.val (.long q0), .second, .val (.long q1), .second, .val (.long q2), .second, .val (.long q3), .second, .val (.int p4), .val (.ref b1), .val (.int (1 : Int32)), .unset, .unset, .unset, .unset, .unset, .unset, .unset, .unset] [(.long (10 : Int64)), (.long q2), (.ref b1)]))
    obtain ⟨cq6, kq6, q6a, q6b, q6c⟩ := isOf hZ e5 D3.1
    obtain ⟨_, _, ⟨T6, L6, k6, n6⟩, -, X6, ⟨Lc6, hQ6, l6, y6, z6⟩, st6⟩ := X5.virtualBack hx (y := (⟨"com/example/mark_delete/markdelete/broker/DelayedMessages", "add", "(JJ)V"⟩ : MethodName)) (z := (⟨"com/example/mark_delete/markdelete/broker/DelayedMessages", "add", "(JJ)V"⟩ : MethodName)) hown (mvT hZ (hw _ (List.mem_of_getElem? (i := 14) rfl))) (mvT hZ (hw _ (List.mem_of_getElem? (i := 15) rfl))) (notFace_of_selects (args := #[]) (mvT hZ (hw _ (List.mem_of_getElem? (i := 17) rfl)))) (mvT hZ (hw _ (List.mem_of_getElem? (i := 17) rfl))) (mvT hZ (hw _ (List.mem_of_getElem? (i := 16) rfl))) (by decide) (backOf (W := 0) (rmA0 l Z aw hw [] b1 q2 (10 : Int64) da3 ea3 ka3 kb3 (0 : Int64) (0 : Int64) (0 : Int64) (0 : Int64) h3 n0 (Nat.le_trans Z0 K3.1) D3 g_b1 g_da3 g_ea3) hZ (hw _ (List.mem_of_getElem? (i := 18) rfl)) (hw _ (List.mem_of_getElem? (i := 2) rfl)) (by decide) (by decide)) q6a q6c (g := (mkF m 82 #[.val (.long q0), .second, .val (.long q1), .second, .val (.long q2), .second, .val (.long q3), .second, .val (.int p4), .val (.ref b1), .val (.int (1 : Int32)), .unset, .unset, .unset, .unset, .unset, .unset, .unset, .unset] [(.long (10 : Int64)), (.long q2), (.ref b1)])) rfl (by rw [hml]; rfl) (Steps.refl _) (argsL := [(.long q2), (.long (10 : Int64))]) (rest := []) (lenOf pd_5 rfl) rfl (by show 2 * 0 + _ ≤ _; exact Nat.le_of_eq rfl) (hb hby at_82) (fun _ _ => ⟨rfl, e5, (by decide : 5 + 0 ≤ _), (by decide : 67 + 0 ≤ _)⟩)
    dsimp only [Pt.U, Pt.locs, Pt.cells, Pt.slots] at X6 l6 y6 z6 st6 hQ6
    subst l6 y6 z6
    obtain ⟨h6, e6⟩ : ∃ z, T6.heap = z := ⟨_, rfl⟩
    rw [e6] at hQ6
    obtain ⟨rfl, Nq6, Kq6, Dm6⟩ := hQ6
    have N6 := Fr.app N5 Nq6
    have K6 : Keep h0 h6 [] := K3.trans Kq6 (allS (Or.inr sz_b1) (allS (Or.inr sz_da3) (allS (Or.inr sz_ea3) all0)))
    refine Rest.via (fun t k => st6.trans k) ?_
    show Rest p.tables e below s _ _ _ (T6.setTop (mkF m 85 #[.val (.long q0), .second, .val (.long q1), .second, .val (.long q2), .second, .val (.long q3), .second, .val (.int p4), .val (.ref b1), .val (.int (1 : Int32)), .unset, .unset, .unset, .unset, .unset, .unset, .unset, .unset] []))
    by_cases hl92 : q3 < q2
    · show Rest p.tables e below s _ _ _ (T6.setTop (mkF m 85 #[.val (.long q0), .second, .val (.long q1), .second, .val (.long q2), .second, .val (.long q3), .second, .val (.int p4), .val (.ref b1), .val (.int (1 : Int32)), .unset, .unset, .unset, .unset, .unset, .unset, .unset, .unset] []))
      refine Rest.via (fun t k => XS.aload X6.here hx rfl (hb hby at_85) rfl rfl k) ?_
      show Rest p.tables e below s _ _ _ (T6.setTop (mkF m 87 #[.val (.long q0), .second, .val (.long q1), .second, .val (.long q2), .second, .val (.long q3), .second, .val (.int p4), .val (.ref b1), .val (.int (1 : Int32)), .unset, .unset, .unset, .unset, .unset, .unset, .unset, .unset] [(.ref b1)]))
      refine Rest.via (fun t k => XS.lload X6.here hx rfl (hb hby at_87) rfl k) ?_
      show Rest p.tables e below s _ _ _ (T6.setTop (mkF m 89 #[.val (.long q0), .second, .val (.long q1), .second, .val (.long q2), .second, .val (.long q3), .second, .val (.int p4), .val (.ref b1), .val (.int (1 : Int32)), .unset, .unset, .unset, .unset, .unset, .unset, .unset, .unset] [(.long q3), (.ref b1)]))
      refine Rest.via (fun t k => X6.ldc2Long hx hown (mvT hZ (hw _ (List.mem_of_getElem? (i := 47) rfl))) (g := (mkF m 89 #[.val (.long q0), .second, .val (.long q1), .second, .val (.long q2), .second, .val (.long q3), .second, .val (.int p4), .val (.ref b1), .val (.int (1 : Int32)), .unset, .unset, .unset, .unset, .unset, .unset, .unset, .unset] [(.long q3), (.ref b1)])) rfl (hb hby at_89) t k) ?_
      show Rest p.tables e below s _ _ _ (T6.setTop (mkF m 92 #[.val (.long q0), .second, .val (.long q1), .second, .val (.long q2), .second, .val (.long q3), .second, .val (.int p4), .val (.ref b1), .val (.int (1 : Int32)), .unset, .unset, .unset, .unset, .unset, .unset, .unset, .unset] [(.long (20 : Int64)), (.long q3), (.ref b1)]))
      obtain ⟨cq7, kq7, q7a, q7b, q7c⟩ := isOf hZ e6 Dm6.1
      obtain ⟨_, _, ⟨T7, L7, k7, n7⟩, -, X7, ⟨Lc7, hQ7, l7, y7, z7⟩, st7⟩ := X6.virtualBack hx (y := (⟨"com/example/mark_delete/markdelete/broker/DelayedMessages", "add", "(JJ)V"⟩ : MethodName)) (z := (⟨"com/example/mark_delete/markdelete/broker/DelayedMessages", "add", "(JJ)V"⟩ : MethodName)) hown (mvT hZ (hw _ (List.mem_of_getElem? (i := 14) rfl))) (mvT hZ (hw _ (List.mem_of_getElem? (i := 15) rfl))) (notFace_of_selects (args := #[]) (mvT hZ (hw _ (List.mem_of_getElem? (i := 17) rfl)))) (mvT hZ (hw _ (List.mem_of_getElem? (i := 17) rfl))) (mvT hZ (hw _ (List.mem_of_getElem? (i := 16) rfl))) (by decide) (backOf (W := 0) (rmA1y l Z aw hw [] b1 q3 (20 : Int64) da3 ea3 ka3 kb3 q2 (0 : Int64) (10 : Int64) (0 : Int64) h6 n0 (Nat.le_trans Z0 K6.1) Dm6 g_b1 g_da3 g_ea3 hl92) hZ (hw _ (List.mem_of_getElem? (i := 18) rfl)) (hw _ (List.mem_of_getElem? (i := 2) rfl)) (by decide) (by decide)) q7a q7c (g := (mkF m 92 #[.val (.long q0), .second, .val (.long q1), .second, .val (.long q2), .second, .val (.long q3), .second, .val (.int p4), .val (.ref b1), .val (.int (1 : Int32)), .unset, .unset, .unset, .unset, .unset, .unset, .unset, .unset] [(.long (20 : Int64)), (.long q3), (.ref b1)])) rfl (by rw [hml]; rfl) (Steps.refl _) (argsL := [(.long q3), (.long (20 : Int64))]) (rest := []) (lenOf pd_5 rfl) rfl (by show 2 * 0 + _ ≤ _; exact Nat.le_of_eq rfl) (hb hby at_92) (fun _ _ => ⟨rfl, e6, (by decide : 5 + 0 ≤ _), (by decide : 67 + 0 ≤ _)⟩)
      dsimp only [Pt.U, Pt.locs, Pt.cells, Pt.slots] at X7 l7 y7 z7 st7 hQ7
      subst l7 y7 z7
      obtain ⟨h7, e7⟩ : ∃ z, T7.heap = z := ⟨_, rfl⟩
      rw [e7] at hQ7
      obtain ⟨rfl, Nq7, Kq7, Dm7⟩ := hQ7
      have N7 := Fr.app N6 Nq7
      have K7 : Keep h0 h7 [] := K6.trans Kq7 (allS (Or.inr sz_b1) (allS (Or.inr sz_da3) (allS (Or.inr sz_ea3) all0)))
      refine Rest.via (fun t k => st7.trans k) ?_
      show Rest p.tables e below s _ _ _ (T7.setTop (mkF m 95 #[.val (.long q0), .second, .val (.long q1), .second, .val (.long q2), .second, .val (.long q3), .second, .val (.int p4), .val (.ref b1), .val (.int (1 : Int32)), .unset, .unset, .unset, .unset, .unset, .unset, .unset, .unset] []))
      refine Rest.via (fun t k => XS.aload X7.here hx rfl (hb hby at_95) rfl rfl k) ?_
      show Rest p.tables e below s _ _ _ (T7.setTop (mkF m 97 #[.val (.long q0), .second, .val (.long q1), .second, .val (.long q2), .second, .val (.long q3), .second, .val (.int p4), .val (.ref b1), .val (.int (1 : Int32)), .unset, .unset, .unset, .unset, .unset, .unset, .unset, .unset] [(.ref b1)]))
      obtain ⟨cq8, kq8, q8a, q8b, q8c⟩ := isOf hZ e7 Dm7.1
      obtain ⟨_, _, ⟨T8, L8, k8, n8⟩, -, X8, ⟨Lc8, hQ8, l8, y8, z8⟩, st8⟩ := X7.virtualBack hx (y := (⟨"com/example/mark_delete/markdelete/broker/DelayedMessages", "takeEarliest", "()J"⟩ : MethodName)) (z := (⟨"com/example/mark_delete/markdelete/broker/DelayedMessages", "takeEarliest", "()J"⟩ : MethodName)) hown (mvT hZ (hw _ (List.mem_of_getElem? (i := 48) rfl))) (mvT hZ (hw _ (List.mem_of_getElem? (i := 49) rfl))) (notFace_of_selects (args := #[]) (mvT hZ (hw _ (List.mem_of_getElem? (i := 51) rfl)))) (mvT hZ (hw _ (List.mem_of_getElem? (i := 51) rfl))) (mvT hZ (hw _ (List.mem_of_getElem? (i := 50) rfl))) (by decide) (backOf (W := 0) (rmT2 l Z aw hw [] b1 da3 ea3 ka3 kb3 q3 q2 (20 : Int64) (10 : Int64) h7 n0 (Nat.le_trans Z0 K7.1) Dm7 g_b1 g_da3 g_ea3) hZ (hw _ (List.mem_of_getElem? (i := 52) rfl)) (hw _ (List.mem_of_getElem? (i := 2) rfl)) (by decide) (by decide)) q8a q8c (g := (mkF m 97 #[.val (.long q0), .second, .val (.long q1), .second, .val (.long q2), .second, .val (.long q3), .second, .val (.int p4), .val (.ref b1), .val (.int (1 : Int32)), .unset, .unset, .unset, .unset, .unset, .unset, .unset, .unset] [(.ref b1)])) rfl (by rw [hml]; rfl) (Steps.refl _) (argsL := []) (rest := []) (lenOf pd_4 rfl) rfl (by show 2 * 0 + _ ≤ _; exact Nat.le_of_eq rfl) (hb hby at_97) (fun _ _ => ⟨rfl, e7, (by decide : 5 + 0 ≤ _), (by decide : 67 + 0 ≤ _)⟩)
      dsimp only [Pt.U, Pt.locs, Pt.cells, Pt.slots] at X8 l8 y8 z8 st8 hQ8
      subst l8 y8 z8
      obtain ⟨h8, e8⟩ : ∃ z, T8.heap = z := ⟨_, rfl⟩
      rw [e8] at hQ8
      obtain ⟨rfl, Nq8, Kq8, Dm8⟩ := hQ8
      have N8 := Fr.app N7 Nq8
      have K8 : Keep h0 h8 [] := K7.trans Kq8 (allS (Or.inr sz_b1) (allS (Or.inr sz_da3) (allS (Or.inr sz_ea3) all0)))
      refine Rest.via (fun t k => st8.trans k) ?_
      show Rest p.tables e below s _ _ _ (T8.setTop (mkF m 100 #[.val (.long q0), .second, .val (.long q1), .second, .val (.long q2), .second, .val (.long q3), .second, .val (.int p4), .val (.ref b1), .val (.int (1 : Int32)), .unset, .unset, .unset, .unset, .unset, .unset, .unset, .unset] [(.long (20 : Int64))]))
      refine Rest.via (fun t k => XS.lstore X8.here hx rfl (hb hby at_100) rfl (l' := #[.val (.long q0), .second, .val (.long q1), .second, .val (.long q2), .second, .val (.long q3), .second, .val (.int p4), .val (.ref b1), .val (.int (1 : Int32)), .val (.long (20 : Int64)), .second, .unset, .unset, .unset, .unset, .unset, .unset]) rfl k) ?_
      show Rest p.tables e below s _ _ _ (T8.setTop (mkF m 102 #[.val (.long q0), .second, .val (.long q1), .second, .val (.long q2), .second, .val (.long q3), .second, .val (.int p4), .val (.ref b1), .val (.int (1 : Int32)), .val (.long (20 : Int64)), .second, .unset, .unset, .unset, .unset, .unset, .unset] []))
      refine Rest.via (fun t k => XS.aload X8.here hx rfl (hb hby at_102) rfl rfl k) ?_
      show Rest p.tables e below s _ _ _ (T8.setTop (mkF m 104 #[.val (.long q0), .second, .val (.long q1), .second, .val (.long q2), .second, .val (.long q3), .second, .val (.int p4), .val (.ref b1), .val (.int (1 : Int32)), .val (.long (20 : Int64)), .second, .unset, .unset, .unset, .unset, .unset, .unset] [(.ref b1)]))
      obtain ⟨cq9, kq9, q9a, q9b, q9c⟩ := isOf hZ e8 Dm8.1
      obtain ⟨_, _, ⟨T9, L9, k9, n9⟩, -, X9, ⟨Lc9, hQ9, l9, y9, z9⟩, st9⟩ := X8.virtualBack hx (y := (⟨"com/example/mark_delete/markdelete/broker/DelayedMessages", "takeEarliest", "()J"⟩ : MethodName)) (z := (⟨"com/example/mark_delete/markdelete/broker/DelayedMessages", "takeEarliest", "()J"⟩ : MethodName)) hown (mvT hZ (hw _ (List.mem_of_getElem? (i := 48) rfl))) (mvT hZ (hw _ (List.mem_of_getElem? (i := 49) rfl))) (notFace_of_selects (args := #[]) (mvT hZ (hw _ (List.mem_of_getElem? (i := 51) rfl)))) (mvT hZ (hw _ (List.mem_of_getElem? (i := 51) rfl))) (mvT hZ (hw _ (List.mem_of_getElem? (i := 50) rfl))) (by decide) (backOf (W := 0) (rmT1 l Z aw hw [] b1 da3 ea3 ka3 kb3 q2 q2 (10 : Int64) (10 : Int64) h8 n0 (Nat.le_trans Z0 K8.1) Dm8 g_b1 g_da3 g_ea3) hZ (hw _ (List.mem_of_getElem? (i := 52) rfl)) (hw _ (List.mem_of_getElem? (i := 2) rfl)) (by decide) (by decide)) q9a q9c (g := (mkF m 104 #[.val (.long q0), .second, .val (.long q1), .second, .val (.long q2), .second, .val (.long q3), .second, .val (.int p4), .val (.ref b1), .val (.int (1 : Int32)), .val (.long (20 : Int64)), .second, .unset, .unset, .unset, .unset, .unset, .unset] [(.ref b1)])) rfl (by rw [hml]; rfl) (Steps.refl _) (argsL := []) (rest := []) (lenOf pd_4 rfl) rfl (by show 2 * 0 + _ ≤ _; exact Nat.le_of_eq rfl) (hb hby at_104) (fun _ _ => ⟨rfl, e8, (by decide : 5 + 0 ≤ _), (by decide : 67 + 0 ≤ _)⟩)
      dsimp only [Pt.U, Pt.locs, Pt.cells, Pt.slots] at X9 l9 y9 z9 st9 hQ9
      subst l9 y9 z9
      obtain ⟨h9, e9⟩ : ∃ z, T9.heap = z := ⟨_, rfl⟩
      rw [e9] at hQ9
      obtain ⟨rfl, Nq9, Kq9, Dm9⟩ := hQ9
      have N9 := Fr.app N8 Nq9
      have K9 : Keep h0 h9 [] := K8.trans Kq9 (allS (Or.inr sz_b1) (allS (Or.inr sz_da3) (allS (Or.inr sz_ea3) all0)))
      refine Rest.via (fun t k => st9.trans k) ?_
      show Rest p.tables e below s _ _ _ (T9.setTop (mkF m 107 #[.val (.long q0), .second, .val (.long q1), .second, .val (.long q2), .second, .val (.long q3), .second, .val (.int p4), .val (.ref b1), .val (.int (1 : Int32)), .val (.long (20 : Int64)), .second, .unset, .unset, .unset, .unset, .unset, .unset] [(.long (10 : Int64))]))
      refine Rest.via (fun t k => XS.lstore X9.here hx rfl (hb hby at_107) rfl (l' := #[.val (.long q0), .second, .val (.long q1), .second, .val (.long q2), .second, .val (.long q3), .second, .val (.int p4), .val (.ref b1), .val (.int (1 : Int32)), .val (.long (20 : Int64)), .second, .val (.long (10 : Int64)), .second, .unset, .unset, .unset, .unset]) rfl k) ?_
      show Rest p.tables e below s _ _ _ (T9.setTop (mkF m 109 #[.val (.long q0), .second, .val (.long q1), .second, .val (.long q2), .second, .val (.long q3), .second, .val (.int p4), .val (.ref b1), .val (.int (1 : Int32)), .val (.long (20 : Int64)), .second, .val (.long (10 : Int64)), .second, .unset, .unset, .unset, .unset] []))
      refine Rest.via (fun t k => XS.lload X9.here hx rfl (hb hby at_109) rfl k) ?_
      show Rest p.tables e below s _ _ _ (T9.setTop (mkF m 111 #[.val (.long q0), .second, .val (.long q1), .second, .val (.long q2), .second, .val (.long q3), .second, .val (.int p4), .val (.ref b1), .val (.int (1 : Int32)), .val (.long (20 : Int64)), .second, .val (.long (10 : Int64)), .second, .unset, .unset, .unset, .unset] [(.long q3)]))
      refine Rest.via (fun t k => XS.lload X9.here hx rfl (hb hby at_111) rfl k) ?_
      show Rest p.tables e below s _ _ _ (T9.setTop (mkF m 113 #[.val (.long q0), .second, .val (.long q1), .second, .val (.long q2), .second, .val (.long q3), .second, .val (.int p4), .val (.ref b1), .val (.int (1 : Int32)), .val (.long (20 : Int64)), .second, .val (.long (10 : Int64)), .second, .unset, .unset, .unset, .unset] [(.long q2), (.long q3)]))
      refine Rest.via (fun t k => XS.lcmp X9.here hx rfl (hb hby at_113) rfl k) ?_
      show Rest p.tables e below s _ _ _ (T9.setTop (mkF m 114 #[.val (.long q0), .second, .val (.long q1), .second, .val (.long q2), .second, .val (.long q3), .second, .val (.int p4), .val (.ref b1), .val (.int (1 : Int32)), .val (.long (20 : Int64)), .second, .val (.long (10 : Int64)), .second, .unset, .unset, .unset, .unset] [(.int (lcmpW q3 q2))]))
      refine Rest.via (fun t k => XS.ifNo X9.here hx rfl (hb hby at_114) rfl ((if0 _ _).trans (tlt ((lw_lt _ _).mpr (hl92 : q3 < q2))).2.1) k) ?_
      show Rest p.tables e below s _ _ _ (T9.setTop (mkF m 117 #[.val (.long q0), .second, .val (.long q1), .second, .val (.long q2), .second, .val (.long q3), .second, .val (.int p4), .val (.ref b1), .val (.int (1 : Int32)), .val (.long (20 : Int64)), .second, .val (.long (10 : Int64)), .second, .unset, .unset, .unset, .unset] []))
      refine Rest.via (fun t k => X9.ldc2Long hx hown (mvT hZ (hw _ (List.mem_of_getElem? (i := 47) rfl))) (g := (mkF m 117 #[.val (.long q0), .second, .val (.long q1), .second, .val (.long q2), .second, .val (.long q3), .second, .val (.int p4), .val (.ref b1), .val (.int (1 : Int32)), .val (.long (20 : Int64)), .second, .val (.long (10 : Int64)), .second, .unset, .unset, .unset, .unset] [])) rfl (hb hby at_117) t k) ?_
      show Rest p.tables e below s _ _ _ (T9.setTop (mkF m 120 #[.val (.long q0), .second, .val (.long q1), .second, .val (.long q2), .second, .val (.long q3), .second, .val (.int p4), .val (.ref b1), .val (.int (1 : Int32)), .val (.long (20 : Int64)), .second, .val (.long (10 : Int64)), .second, .unset, .unset, .unset, .unset] [(.long (20 : Int64))]))
      refine Rest.via (fun t k => XS.goto X9.here hx rfl (pc0 := 120) (pc' := 126) rfl (hb hby at_120) (by decide) (by decide) k) ?_
      show Rest p.tables e below s _ _ _ (T9.setTop (mkF m 126 #[.val (.long q0), .second, .val (.long q1), .second, .val (.long q2), .second, .val (.long q3), .second, .val (.int p4), .val (.ref b1), .val (.int (1 : Int32)), .val (.long (20 : Int64)), .second, .val (.long (10 : Int64)), .second, .unset, .unset, .unset, .unset] [(.long (20 : Int64))]))
      refine Rest.via (fun t k => XS.lstore X9.here hx rfl (hb hby at_126) rfl (l' := #[.val (.long q0), .second, .val (.long q1), .second, .val (.long q2), .second, .val (.long q3), .second, .val (.int p4), .val (.ref b1), .val (.int (1 : Int32)), .val (.long (20 : Int64)), .second, .val (.long (10 : Int64)), .second, .val (.long (20 : Int64)), .second, .unset, .unset]) rfl k) ?_
      show Rest p.tables e below s _ _ _ (T9.setTop (mkF m 128 #[.val (.long q0), .second, .val (.long q1), .second, .val (.long q2), .second, .val (.long q3), .second, .val (.int p4), .val (.ref b1), .val (.int (1 : Int32)), .val (.long (20 : Int64)), .second, .val (.long (10 : Int64)), .second, .val (.long (20 : Int64)), .second, .unset, .unset] []))
      refine Rest.via (fun t k => XS.lload X9.here hx rfl (hb hby at_128) rfl k) ?_
      show Rest p.tables e below s _ _ _ (T9.setTop (mkF m 130 #[.val (.long q0), .second, .val (.long q1), .second, .val (.long q2), .second, .val (.long q3), .second, .val (.int p4), .val (.ref b1), .val (.int (1 : Int32)), .val (.long (20 : Int64)), .second, .val (.long (10 : Int64)), .second, .val (.long (20 : Int64)), .second, .unset, .unset] [(.long q3)]))
      refine Rest.via (fun t k => XS.lload X9.here hx rfl (hb hby at_130) rfl k) ?_
      show Rest p.tables e below s _ _ _ (T9.setTop (mkF m 132 #[.val (.long q0), .second, .val (.long q1), .second, .val (.long q2), .second, .val (.long q3), .second, .val (.int p4), .val (.ref b1), .val (.int (1 : Int32)), .val (.long (20 : Int64)), .second, .val (.long (10 : Int64)), .second, .val (.long (20 : Int64)), .second, .unset, .unset] [(.long q2), (.long q3)]))
      refine Rest.via (fun t k => XS.lcmp X9.here hx rfl (hb hby at_132) rfl k) ?_
      show Rest p.tables e below s _ _ _ (T9.setTop (mkF m 133 #[.val (.long q0), .second, .val (.long q1), .second, .val (.long q2), .second, .val (.long q3), .second, .val (.int p4), .val (.ref b1), .val (.int (1 : Int32)), .val (.long (20 : Int64)), .second, .val (.long (10 : Int64)), .second, .val (.long (20 : Int64)), .second, .unset, .unset] [(.int (lcmpW q3 q2))]))
      refine Rest.via (fun t k => XS.ifNo X9.here hx rfl (hb hby at_133) rfl ((if0 _ _).trans (tlt ((lw_lt _ _).mpr (hl92 : q3 < q2))).2.1) k) ?_
      show Rest p.tables e below s _ _ _ (T9.setTop (mkF m 136 #[.val (.long q0), .second, .val (.long q1), .second, .val (.long q2), .second, .val (.long q3), .second, .val (.int p4), .val (.ref b1), .val (.int (1 : Int32)), .val (.long (20 : Int64)), .second, .val (.long (10 : Int64)), .second, .val (.long (20 : Int64)), .second, .unset, .unset] []))
      refine Rest.via (fun t k => X9.ldc2Long hx hown (mvT hZ (hw _ (List.mem_of_getElem? (i := 46) rfl))) (g := (mkF m 136 #[.val (.long q0), .second, .val (.long q1), .second, .val (.long q2), .second, .val (.long q3), .second, .val (.int p4), .val (.ref b1), .val (.int (1 : Int32)), .val (.long (20 : Int64)), .second, .val (.long (10 : Int64)), .second, .val (.long (20 : Int64)), .second, .unset, .unset] [])) rfl (hb hby at_136) t k) ?_
      show Rest p.tables e below s _ _ _ (T9.setTop (mkF m 139 #[.val (.long q0), .second, .val (.long q1), .second, .val (.long q2), .second, .val (.long q3), .second, .val (.int p4), .val (.ref b1), .val (.int (1 : Int32)), .val (.long (20 : Int64)), .second, .val (.long (10 : Int64)), .second, .val (.long (20 : Int64)), .second, .unset, .unset] [(.long (10 : Int64))]))
      refine Rest.via (fun t k => XS.goto X9.here hx rfl (pc0 := 139) (pc' := 145) rfl (hb hby at_139) (by decide) (by decide) k) ?_
      show Rest p.tables e below s _ _ _ (T9.setTop (mkF m 145 #[.val (.long q0), .second, .val (.long q1), .second, .val (.long q2), .second, .val (.long q3), .second, .val (.int p4), .val (.ref b1), .val (.int (1 : Int32)), .val (.long (20 : Int64)), .second, .val (.long (10 : Int64)), .second, .val (.long (20 : Int64)), .second, .unset, .unset] [(.long (10 : Int64))]))
      refine Rest.via (fun t k => XS.lstore X9.here hx rfl (hb hby at_145) rfl (l' := #[.val (.long q0), .second, .val (.long q1), .second, .val (.long q2), .second, .val (.long q3), .second, .val (.int p4), .val (.ref b1), .val (.int (1 : Int32)), .val (.long (20 : Int64)), .second, .val (.long (10 : Int64)), .second, .val (.long (20 : Int64)), .second, .val (.long (10 : Int64)), .second]) rfl k) ?_
      show Rest p.tables e below s _ _ _ (T9.setTop (mkF m 147 #[.val (.long q0), .second, .val (.long q1), .second, .val (.long q2), .second, .val (.long q3), .second, .val (.int p4), .val (.ref b1), .val (.int (1 : Int32)), .val (.long (20 : Int64)), .second, .val (.long (10 : Int64)), .second, .val (.long (20 : Int64)), .second, .val (.long (10 : Int64)), .second] []))
      refine Rest.via (fun t k => XS.iload X9.here hx rfl (hb hby at_147) rfl k) ?_
      show Rest p.tables e below s _ _ _ (T9.setTop (mkF m 149 #[.val (.long q0), .second, .val (.long q1), .second, .val (.long q2), .second, .val (.long q3), .second, .val (.int p4), .val (.ref b1), .val (.int (1 : Int32)), .val (.long (20 : Int64)), .second, .val (.long (10 : Int64)), .second, .val (.long (20 : Int64)), .second, .val (.long (10 : Int64)), .second] [(.int (1 : Int32))]))
      refine Rest.via (fun t k => XS.ifNo X9.here hx rfl (hb hby at_149) rfl ((if0 _ _).trans (feq (by decide : ¬ ((1 : Int32) = (0 : Int32)))).1) k) ?_
      show Rest p.tables e below s _ _ _ (T9.setTop (mkF m 152 #[.val (.long q0), .second, .val (.long q1), .second, .val (.long q2), .second, .val (.long q3), .second, .val (.int p4), .val (.ref b1), .val (.int (1 : Int32)), .val (.long (20 : Int64)), .second, .val (.long (10 : Int64)), .second, .val (.long (20 : Int64)), .second, .val (.long (10 : Int64)), .second] []))
      refine Rest.via (fun t k => XS.lload X9.here hx rfl (hb hby at_152) rfl k) ?_
      show Rest p.tables e below s _ _ _ (T9.setTop (mkF m 154 #[.val (.long q0), .second, .val (.long q1), .second, .val (.long q2), .second, .val (.long q3), .second, .val (.int p4), .val (.ref b1), .val (.int (1 : Int32)), .val (.long (20 : Int64)), .second, .val (.long (10 : Int64)), .second, .val (.long (20 : Int64)), .second, .val (.long (10 : Int64)), .second] [(.long (20 : Int64))]))
      refine Rest.via (fun t k => XS.lload X9.here hx rfl (hb hby at_154) rfl k) ?_
      show Rest p.tables e below s _ _ _ (T9.setTop (mkF m 156 #[.val (.long q0), .second, .val (.long q1), .second, .val (.long q2), .second, .val (.long q3), .second, .val (.int p4), .val (.ref b1), .val (.int (1 : Int32)), .val (.long (20 : Int64)), .second, .val (.long (10 : Int64)), .second, .val (.long (20 : Int64)), .second, .val (.long (10 : Int64)), .second] [(.long (20 : Int64)), (.long (20 : Int64))]))
      refine Rest.via (fun t k => XS.lcmp X9.here hx rfl (hb hby at_156) rfl k) ?_
      show Rest p.tables e below s _ _ _ (T9.setTop (mkF m 157 #[.val (.long q0), .second, .val (.long q1), .second, .val (.long q2), .second, .val (.long q3), .second, .val (.int p4), .val (.ref b1), .val (.int (1 : Int32)), .val (.long (20 : Int64)), .second, .val (.long (10 : Int64)), .second, .val (.long (20 : Int64)), .second, .val (.long (10 : Int64)), .second] [(.int (lcmpW (20 : Int64) (20 : Int64)))]))
      refine Rest.via (fun t k => XS.ifNo X9.here hx rfl (hb hby at_157) rfl ((if0 _ _).trans (teq ((lw_eq _ _).mpr (by decide : (20 : Int64) = (20 : Int64)))).2) k) ?_
      show Rest p.tables e below s _ _ _ (T9.setTop (mkF m 160 #[.val (.long q0), .second, .val (.long q1), .second, .val (.long q2), .second, .val (.long q3), .second, .val (.int p4), .val (.ref b1), .val (.int (1 : Int32)), .val (.long (20 : Int64)), .second, .val (.long (10 : Int64)), .second, .val (.long (20 : Int64)), .second, .val (.long (10 : Int64)), .second] []))
      refine Rest.via (fun t k => XS.lload X9.here hx rfl (hb hby at_160) rfl k) ?_
      show Rest p.tables e below s _ _ _ (T9.setTop (mkF m 162 #[.val (.long q0), .second, .val (.long q1), .second, .val (.long q2), .second, .val (.long q3), .second, .val (.int p4), .val (.ref b1), .val (.int (1 : Int32)), .val (.long (20 : Int64)), .second, .val (.long (10 : Int64)), .second, .val (.long (20 : Int64)), .second, .val (.long (10 : Int64)), .second] [(.long (10 : Int64))]))
      refine Rest.via (fun t k => XS.lload X9.here hx rfl (hb hby at_162) rfl k) ?_
      show Rest p.tables e below s _ _ _ (T9.setTop (mkF m 164 #[.val (.long q0), .second, .val (.long q1), .second, .val (.long q2), .second, .val (.long q3), .second, .val (.int p4), .val (.ref b1), .val (.int (1 : Int32)), .val (.long (20 : Int64)), .second, .val (.long (10 : Int64)), .second, .val (.long (20 : Int64)), .second, .val (.long (10 : Int64)), .second] [(.long (10 : Int64)), (.long (10 : Int64))]))
      refine Rest.via (fun t k => XS.lcmp X9.here hx rfl (hb hby at_164) rfl k) ?_
      show Rest p.tables e below s _ _ _ (T9.setTop (mkF m 165 #[.val (.long q0), .second, .val (.long q1), .second, .val (.long q2), .second, .val (.long q3), .second, .val (.int p4), .val (.ref b1), .val (.int (1 : Int32)), .val (.long (20 : Int64)), .second, .val (.long (10 : Int64)), .second, .val (.long (20 : Int64)), .second, .val (.long (10 : Int64)), .second] [(.int (lcmpW (10 : Int64) (10 : Int64)))]))
      refine Rest.via (fun t k => XS.ifNo X9.here hx rfl (hb hby at_165) rfl ((if0 _ _).trans (teq ((lw_eq _ _).mpr (by decide : (10 : Int64) = (10 : Int64)))).2) k) ?_
      show Rest p.tables e below s _ _ _ (T9.setTop (mkF m 168 #[.val (.long q0), .second, .val (.long q1), .second, .val (.long q2), .second, .val (.long q3), .second, .val (.int p4), .val (.ref b1), .val (.int (1 : Int32)), .val (.long (20 : Int64)), .second, .val (.long (10 : Int64)), .second, .val (.long (20 : Int64)), .second, .val (.long (10 : Int64)), .second] []))
      refine Rest.via (fun t k => XS.iconst X9.here hx rfl (hb hby at_168) k) ?_
      show Rest p.tables e below s _ _ _ (T9.setTop (mkF m 169 #[.val (.long q0), .second, .val (.long q1), .second, .val (.long q2), .second, .val (.long q3), .second, .val (.int p4), .val (.ref b1), .val (.int (1 : Int32)), .val (.long (20 : Int64)), .second, .val (.long (10 : Int64)), .second, .val (.long (20 : Int64)), .second, .val (.long (10 : Int64)), .second] [(.int (1 : Int32))]))
      refine Rest.via (fun t k => XS.goto X9.here hx rfl (pc0 := 169) (pc' := 173) rfl (hb hby at_169) (by decide) (by decide) k) ?_
      show Rest p.tables e below s _ _ _ (T9.setTop (mkF m 173 #[.val (.long q0), .second, .val (.long q1), .second, .val (.long q2), .second, .val (.long q3), .second, .val (.int p4), .val (.ref b1), .val (.int (1 : Int32)), .val (.long (20 : Int64)), .second, .val (.long (10 : Int64)), .second, .val (.long (20 : Int64)), .second, .val (.long (10 : Int64)), .second] [(.int (1 : Int32))]))
      refine Rest.ret X9 (v := some (.int (nar .boolean (1 : Int32)))) (fun h => by rw [Bd.returns] at h; cases h) hlk (fun fs hr => retN X9 hx (t := .boolean) Bd.returns (by simp) (hb hby at_173) hr) ?_ (by decide) (by decide)
      rw [e9]
      exact ⟨rfl, N9⟩
    · show Rest p.tables e below s _ _ _ (T6.setTop (mkF m 85 #[.val (.long q0), .second, .val (.long q1), .second, .val (.long q2), .second, .val (.long q3), .second, .val (.int p4), .val (.ref b1), .val (.int (1 : Int32)), .unset, .unset, .unset, .unset, .unset, .unset, .unset, .unset] []))
      refine Rest.via (fun t k => XS.aload X6.here hx rfl (hb hby at_85) rfl rfl k) ?_
      show Rest p.tables e below s _ _ _ (T6.setTop (mkF m 87 #[.val (.long q0), .second, .val (.long q1), .second, .val (.long q2), .second, .val (.long q3), .second, .val (.int p4), .val (.ref b1), .val (.int (1 : Int32)), .unset, .unset, .unset, .unset, .unset, .unset, .unset, .unset] [(.ref b1)]))
      refine Rest.via (fun t k => XS.lload X6.here hx rfl (hb hby at_87) rfl k) ?_
      show Rest p.tables e below s _ _ _ (T6.setTop (mkF m 89 #[.val (.long q0), .second, .val (.long q1), .second, .val (.long q2), .second, .val (.long q3), .second, .val (.int p4), .val (.ref b1), .val (.int (1 : Int32)), .unset, .unset, .unset, .unset, .unset, .unset, .unset, .unset] [(.long q3), (.ref b1)]))
      refine Rest.via (fun t k => X6.ldc2Long hx hown (mvT hZ (hw _ (List.mem_of_getElem? (i := 47) rfl))) (g := (mkF m 89 #[.val (.long q0), .second, .val (.long q1), .second, .val (.long q2), .second, .val (.long q3), .second, .val (.int p4), .val (.ref b1), .val (.int (1 : Int32)), .unset, .unset, .unset, .unset, .unset, .unset, .unset, .unset] [(.long q3), (.ref b1)])) rfl (hb hby at_89) t k) ?_
      show Rest p.tables e below s _ _ _ (T6.setTop (mkF m 92 #[.val (.long q0), .second, .val (.long q1), .second, .val (.long q2), .second, .val (.long q3), .second, .val (.int p4), .val (.ref b1), .val (.int (1 : Int32)), .unset, .unset, .unset, .unset, .unset, .unset, .unset, .unset] [(.long (20 : Int64)), (.long q3), (.ref b1)]))
      obtain ⟨cq10, kq10, q10a, q10b, q10c⟩ := isOf hZ e6 Dm6.1
      obtain ⟨_, _, ⟨T10, L10, k10, n10⟩, -, X10, ⟨Lc10, hQ10, l10, y10, z10⟩, st10⟩ := X6.virtualBack hx (y := (⟨"com/example/mark_delete/markdelete/broker/DelayedMessages", "add", "(JJ)V"⟩ : MethodName)) (z := (⟨"com/example/mark_delete/markdelete/broker/DelayedMessages", "add", "(JJ)V"⟩ : MethodName)) hown (mvT hZ (hw _ (List.mem_of_getElem? (i := 14) rfl))) (mvT hZ (hw _ (List.mem_of_getElem? (i := 15) rfl))) (notFace_of_selects (args := #[]) (mvT hZ (hw _ (List.mem_of_getElem? (i := 17) rfl)))) (mvT hZ (hw _ (List.mem_of_getElem? (i := 17) rfl))) (mvT hZ (hw _ (List.mem_of_getElem? (i := 16) rfl))) (by decide) (backOf (W := 0) (rmA1n l Z aw hw [] b1 q3 (20 : Int64) da3 ea3 ka3 kb3 q2 (0 : Int64) (10 : Int64) (0 : Int64) h6 n0 (Nat.le_trans Z0 K6.1) Dm6 g_b1 g_da3 g_ea3 hl92) hZ (hw _ (List.mem_of_getElem? (i := 18) rfl)) (hw _ (List.mem_of_getElem? (i := 2) rfl)) (by decide) (by decide)) q10a q10c (g := (mkF m 92 #[.val (.long q0), .second, .val (.long q1), .second, .val (.long q2), .second, .val (.long q3), .second, .val (.int p4), .val (.ref b1), .val (.int (1 : Int32)), .unset, .unset, .unset, .unset, .unset, .unset, .unset, .unset] [(.long (20 : Int64)), (.long q3), (.ref b1)])) rfl (by rw [hml]; rfl) (Steps.refl _) (argsL := [(.long q3), (.long (20 : Int64))]) (rest := []) (lenOf pd_5 rfl) rfl (by show 2 * 0 + _ ≤ _; exact Nat.le_of_eq rfl) (hb hby at_92) (fun _ _ => ⟨rfl, e6, (by decide : 5 + 0 ≤ _), (by decide : 67 + 0 ≤ _)⟩)
      dsimp only [Pt.U, Pt.locs, Pt.cells, Pt.slots] at X10 l10 y10 z10 st10 hQ10
      subst l10 y10 z10
      obtain ⟨h10, e10⟩ : ∃ z, T10.heap = z := ⟨_, rfl⟩
      rw [e10] at hQ10
      obtain ⟨rfl, Nq10, Kq10, Dm10⟩ := hQ10
      have N10 := Fr.app N6 Nq10
      have K10 : Keep h0 h10 [] := K6.trans Kq10 (allS (Or.inr sz_b1) (allS (Or.inr sz_da3) (allS (Or.inr sz_ea3) all0)))
      refine Rest.via (fun t k => st10.trans k) ?_
      show Rest p.tables e below s _ _ _ (T10.setTop (mkF m 95 #[.val (.long q0), .second, .val (.long q1), .second, .val (.long q2), .second, .val (.long q3), .second, .val (.int p4), .val (.ref b1), .val (.int (1 : Int32)), .unset, .unset, .unset, .unset, .unset, .unset, .unset, .unset] []))
      refine Rest.via (fun t k => XS.aload X10.here hx rfl (hb hby at_95) rfl rfl k) ?_
      show Rest p.tables e below s _ _ _ (T10.setTop (mkF m 97 #[.val (.long q0), .second, .val (.long q1), .second, .val (.long q2), .second, .val (.long q3), .second, .val (.int p4), .val (.ref b1), .val (.int (1 : Int32)), .unset, .unset, .unset, .unset, .unset, .unset, .unset, .unset] [(.ref b1)]))
      obtain ⟨cq11, kq11, q11a, q11b, q11c⟩ := isOf hZ e10 Dm10.1
      obtain ⟨_, _, ⟨T11, L11, k11, n11⟩, -, X11, ⟨Lc11, hQ11, l11, y11, z11⟩, st11⟩ := X10.virtualBack hx (y := (⟨"com/example/mark_delete/markdelete/broker/DelayedMessages", "takeEarliest", "()J"⟩ : MethodName)) (z := (⟨"com/example/mark_delete/markdelete/broker/DelayedMessages", "takeEarliest", "()J"⟩ : MethodName)) hown (mvT hZ (hw _ (List.mem_of_getElem? (i := 48) rfl))) (mvT hZ (hw _ (List.mem_of_getElem? (i := 49) rfl))) (notFace_of_selects (args := #[]) (mvT hZ (hw _ (List.mem_of_getElem? (i := 51) rfl)))) (mvT hZ (hw _ (List.mem_of_getElem? (i := 51) rfl))) (mvT hZ (hw _ (List.mem_of_getElem? (i := 50) rfl))) (by decide) (backOf (W := 0) (rmT2 l Z aw hw [] b1 da3 ea3 ka3 kb3 q2 q3 (10 : Int64) (20 : Int64) h10 n0 (Nat.le_trans Z0 K10.1) Dm10 g_b1 g_da3 g_ea3) hZ (hw _ (List.mem_of_getElem? (i := 52) rfl)) (hw _ (List.mem_of_getElem? (i := 2) rfl)) (by decide) (by decide)) q11a q11c (g := (mkF m 97 #[.val (.long q0), .second, .val (.long q1), .second, .val (.long q2), .second, .val (.long q3), .second, .val (.int p4), .val (.ref b1), .val (.int (1 : Int32)), .unset, .unset, .unset, .unset, .unset, .unset, .unset, .unset] [(.ref b1)])) rfl (by rw [hml]; rfl) (Steps.refl _) (argsL := []) (rest := []) (lenOf pd_4 rfl) rfl (by show 2 * 0 + _ ≤ _; exact Nat.le_of_eq rfl) (hb hby at_97) (fun _ _ => ⟨rfl, e10, (by decide : 5 + 0 ≤ _), (by decide : 67 + 0 ≤ _)⟩)
      dsimp only [Pt.U, Pt.locs, Pt.cells, Pt.slots] at X11 l11 y11 z11 st11 hQ11
      subst l11 y11 z11
      obtain ⟨h11, e11⟩ : ∃ z, T11.heap = z := ⟨_, rfl⟩
      rw [e11] at hQ11
      obtain ⟨rfl, Nq11, Kq11, Dm11⟩ := hQ11
      have N11 := Fr.app N10 Nq11
      have K11 : Keep h0 h11 [] := K10.trans Kq11 (allS (Or.inr sz_b1) (allS (Or.inr sz_da3) (allS (Or.inr sz_ea3) all0)))
      refine Rest.via (fun t k => st11.trans k) ?_
      show Rest p.tables e below s _ _ _ (T11.setTop (mkF m 100 #[.val (.long q0), .second, .val (.long q1), .second, .val (.long q2), .second, .val (.long q3), .second, .val (.int p4), .val (.ref b1), .val (.int (1 : Int32)), .unset, .unset, .unset, .unset, .unset, .unset, .unset, .unset] [(.long (10 : Int64))]))
      refine Rest.via (fun t k => XS.lstore X11.here hx rfl (hb hby at_100) rfl (l' := #[.val (.long q0), .second, .val (.long q1), .second, .val (.long q2), .second, .val (.long q3), .second, .val (.int p4), .val (.ref b1), .val (.int (1 : Int32)), .val (.long (10 : Int64)), .second, .unset, .unset, .unset, .unset, .unset, .unset]) rfl k) ?_
      show Rest p.tables e below s _ _ _ (T11.setTop (mkF m 102 #[.val (.long q0), .second, .val (.long q1), .second, .val (.long q2), .second, .val (.long q3), .second, .val (.int p4), .val (.ref b1), .val (.int (1 : Int32)), .val (.long (10 : Int64)), .second, .unset, .unset, .unset, .unset, .unset, .unset] []))
      refine Rest.via (fun t k => XS.aload X11.here hx rfl (hb hby at_102) rfl rfl k) ?_
      show Rest p.tables e below s _ _ _ (T11.setTop (mkF m 104 #[.val (.long q0), .second, .val (.long q1), .second, .val (.long q2), .second, .val (.long q3), .second, .val (.int p4), .val (.ref b1), .val (.int (1 : Int32)), .val (.long (10 : Int64)), .second, .unset, .unset, .unset, .unset, .unset, .unset] [(.ref b1)]))
      obtain ⟨cq12, kq12, q12a, q12b, q12c⟩ := isOf hZ e11 Dm11.1
      obtain ⟨_, _, ⟨T12, L12, k12, n12⟩, -, X12, ⟨Lc12, hQ12, l12, y12, z12⟩, st12⟩ := X11.virtualBack hx (y := (⟨"com/example/mark_delete/markdelete/broker/DelayedMessages", "takeEarliest", "()J"⟩ : MethodName)) (z := (⟨"com/example/mark_delete/markdelete/broker/DelayedMessages", "takeEarliest", "()J"⟩ : MethodName)) hown (mvT hZ (hw _ (List.mem_of_getElem? (i := 48) rfl))) (mvT hZ (hw _ (List.mem_of_getElem? (i := 49) rfl))) (notFace_of_selects (args := #[]) (mvT hZ (hw _ (List.mem_of_getElem? (i := 51) rfl)))) (mvT hZ (hw _ (List.mem_of_getElem? (i := 51) rfl))) (mvT hZ (hw _ (List.mem_of_getElem? (i := 50) rfl))) (by decide) (backOf (W := 0) (rmT1 l Z aw hw [] b1 da3 ea3 ka3 kb3 q3 q3 (20 : Int64) (20 : Int64) h11 n0 (Nat.le_trans Z0 K11.1) Dm11 g_b1 g_da3 g_ea3) hZ (hw _ (List.mem_of_getElem? (i := 52) rfl)) (hw _ (List.mem_of_getElem? (i := 2) rfl)) (by decide) (by decide)) q12a q12c (g := (mkF m 104 #[.val (.long q0), .second, .val (.long q1), .second, .val (.long q2), .second, .val (.long q3), .second, .val (.int p4), .val (.ref b1), .val (.int (1 : Int32)), .val (.long (10 : Int64)), .second, .unset, .unset, .unset, .unset, .unset, .unset] [(.ref b1)])) rfl (by rw [hml]; rfl) (Steps.refl _) (argsL := []) (rest := []) (lenOf pd_4 rfl) rfl (by show 2 * 0 + _ ≤ _; exact Nat.le_of_eq rfl) (hb hby at_104) (fun _ _ => ⟨rfl, e11, (by decide : 5 + 0 ≤ _), (by decide : 67 + 0 ≤ _)⟩)
      dsimp only [Pt.U, Pt.locs, Pt.cells, Pt.slots] at X12 l12 y12 z12 st12 hQ12
      subst l12 y12 z12
      obtain ⟨h12, e12⟩ : ∃ z, T12.heap = z := ⟨_, rfl⟩
      rw [e12] at hQ12
      obtain ⟨rfl, Nq12, Kq12, Dm12⟩ := hQ12
      have N12 := Fr.app N11 Nq12
      have K12 : Keep h0 h12 [] := K11.trans Kq12 (allS (Or.inr sz_b1) (allS (Or.inr sz_da3) (allS (Or.inr sz_ea3) all0)))
      refine Rest.via (fun t k => st12.trans k) ?_
      show Rest p.tables e below s _ _ _ (T12.setTop (mkF m 107 #[.val (.long q0), .second, .val (.long q1), .second, .val (.long q2), .second, .val (.long q3), .second, .val (.int p4), .val (.ref b1), .val (.int (1 : Int32)), .val (.long (10 : Int64)), .second, .unset, .unset, .unset, .unset, .unset, .unset] [(.long (20 : Int64))]))
      refine Rest.via (fun t k => XS.lstore X12.here hx rfl (hb hby at_107) rfl (l' := #[.val (.long q0), .second, .val (.long q1), .second, .val (.long q2), .second, .val (.long q3), .second, .val (.int p4), .val (.ref b1), .val (.int (1 : Int32)), .val (.long (10 : Int64)), .second, .val (.long (20 : Int64)), .second, .unset, .unset, .unset, .unset]) rfl k) ?_
      show Rest p.tables e below s _ _ _ (T12.setTop (mkF m 109 #[.val (.long q0), .second, .val (.long q1), .second, .val (.long q2), .second, .val (.long q3), .second, .val (.int p4), .val (.ref b1), .val (.int (1 : Int32)), .val (.long (10 : Int64)), .second, .val (.long (20 : Int64)), .second, .unset, .unset, .unset, .unset] []))
      refine Rest.via (fun t k => XS.lload X12.here hx rfl (hb hby at_109) rfl k) ?_
      show Rest p.tables e below s _ _ _ (T12.setTop (mkF m 111 #[.val (.long q0), .second, .val (.long q1), .second, .val (.long q2), .second, .val (.long q3), .second, .val (.int p4), .val (.ref b1), .val (.int (1 : Int32)), .val (.long (10 : Int64)), .second, .val (.long (20 : Int64)), .second, .unset, .unset, .unset, .unset] [(.long q3)]))
      refine Rest.via (fun t k => XS.lload X12.here hx rfl (hb hby at_111) rfl k) ?_
      show Rest p.tables e below s _ _ _ (T12.setTop (mkF m 113 #[.val (.long q0), .second, .val (.long q1), .second, .val (.long q2), .second, .val (.long q3), .second, .val (.int p4), .val (.ref b1), .val (.int (1 : Int32)), .val (.long (10 : Int64)), .second, .val (.long (20 : Int64)), .second, .unset, .unset, .unset, .unset] [(.long q2), (.long q3)]))
      refine Rest.via (fun t k => XS.lcmp X12.here hx rfl (hb hby at_113) rfl k) ?_
      show Rest p.tables e below s _ _ _ (T12.setTop (mkF m 114 #[.val (.long q0), .second, .val (.long q1), .second, .val (.long q2), .second, .val (.long q3), .second, .val (.int p4), .val (.ref b1), .val (.int (1 : Int32)), .val (.long (10 : Int64)), .second, .val (.long (20 : Int64)), .second, .unset, .unset, .unset, .unset] [(.int (lcmpW q3 q2))]))
      refine Rest.via (fun t k => XS.ifYes X12.here hx rfl (pc0 := 114) (pc' := 123) rfl (hb hby at_114) rfl ((if0 _ _).trans (flt (fun q => (hl92 : ¬ (q3 < q2)) ((lw_lt _ _).mp q))).2.1) (by decide) (by decide) k) ?_
      show Rest p.tables e below s _ _ _ (T12.setTop (mkF m 123 #[.val (.long q0), .second, .val (.long q1), .second, .val (.long q2), .second, .val (.long q3), .second, .val (.int p4), .val (.ref b1), .val (.int (1 : Int32)), .val (.long (10 : Int64)), .second, .val (.long (20 : Int64)), .second, .unset, .unset, .unset, .unset] []))
      refine Rest.via (fun t k => X12.ldc2Long hx hown (mvT hZ (hw _ (List.mem_of_getElem? (i := 46) rfl))) (g := (mkF m 123 #[.val (.long q0), .second, .val (.long q1), .second, .val (.long q2), .second, .val (.long q3), .second, .val (.int p4), .val (.ref b1), .val (.int (1 : Int32)), .val (.long (10 : Int64)), .second, .val (.long (20 : Int64)), .second, .unset, .unset, .unset, .unset] [])) rfl (hb hby at_123) t k) ?_
      show Rest p.tables e below s _ _ _ (T12.setTop (mkF m 126 #[.val (.long q0), .second, .val (.long q1), .second, .val (.long q2), .second, .val (.long q3), .second, .val (.int p4), .val (.ref b1), .val (.int (1 : Int32)), .val (.long (10 : Int64)), .second, .val (.long (20 : Int64)), .second, .unset, .unset, .unset, .unset] [(.long (10 : Int64))]))
      refine Rest.via (fun t k => XS.lstore X12.here hx rfl (hb hby at_126) rfl (l' := #[.val (.long q0), .second, .val (.long q1), .second, .val (.long q2), .second, .val (.long q3), .second, .val (.int p4), .val (.ref b1), .val (.int (1 : Int32)), .val (.long (10 : Int64)), .second, .val (.long (20 : Int64)), .second, .val (.long (10 : Int64)), .second, .unset, .unset]) rfl k) ?_
      show Rest p.tables e below s _ _ _ (T12.setTop (mkF m 128 #[.val (.long q0), .second, .val (.long q1), .second, .val (.long q2), .second, .val (.long q3), .second, .val (.int p4), .val (.ref b1), .val (.int (1 : Int32)), .val (.long (10 : Int64)), .second, .val (.long (20 : Int64)), .second, .val (.long (10 : Int64)), .second, .unset, .unset] []))
      refine Rest.via (fun t k => XS.lload X12.here hx rfl (hb hby at_128) rfl k) ?_
      show Rest p.tables e below s _ _ _ (T12.setTop (mkF m 130 #[.val (.long q0), .second, .val (.long q1), .second, .val (.long q2), .second, .val (.long q3), .second, .val (.int p4), .val (.ref b1), .val (.int (1 : Int32)), .val (.long (10 : Int64)), .second, .val (.long (20 : Int64)), .second, .val (.long (10 : Int64)), .second, .unset, .unset] [(.long q3)]))
      refine Rest.via (fun t k => XS.lload X12.here hx rfl (hb hby at_130) rfl k) ?_
      show Rest p.tables e below s _ _ _ (T12.setTop (mkF m 132 #[.val (.long q0), .second, .val (.long q1), .second, .val (.long q2), .second, .val (.long q3), .second, .val (.int p4), .val (.ref b1), .val (.int (1 : Int32)), .val (.long (10 : Int64)), .second, .val (.long (20 : Int64)), .second, .val (.long (10 : Int64)), .second, .unset, .unset] [(.long q2), (.long q3)]))
      refine Rest.via (fun t k => XS.lcmp X12.here hx rfl (hb hby at_132) rfl k) ?_
      show Rest p.tables e below s _ _ _ (T12.setTop (mkF m 133 #[.val (.long q0), .second, .val (.long q1), .second, .val (.long q2), .second, .val (.long q3), .second, .val (.int p4), .val (.ref b1), .val (.int (1 : Int32)), .val (.long (10 : Int64)), .second, .val (.long (20 : Int64)), .second, .val (.long (10 : Int64)), .second, .unset, .unset] [(.int (lcmpW q3 q2))]))
      refine Rest.via (fun t k => XS.ifYes X12.here hx rfl (pc0 := 133) (pc' := 142) rfl (hb hby at_133) rfl ((if0 _ _).trans (flt (fun q => (hl92 : ¬ (q3 < q2)) ((lw_lt _ _).mp q))).2.1) (by decide) (by decide) k) ?_
      show Rest p.tables e below s _ _ _ (T12.setTop (mkF m 142 #[.val (.long q0), .second, .val (.long q1), .second, .val (.long q2), .second, .val (.long q3), .second, .val (.int p4), .val (.ref b1), .val (.int (1 : Int32)), .val (.long (10 : Int64)), .second, .val (.long (20 : Int64)), .second, .val (.long (10 : Int64)), .second, .unset, .unset] []))
      refine Rest.via (fun t k => X12.ldc2Long hx hown (mvT hZ (hw _ (List.mem_of_getElem? (i := 47) rfl))) (g := (mkF m 142 #[.val (.long q0), .second, .val (.long q1), .second, .val (.long q2), .second, .val (.long q3), .second, .val (.int p4), .val (.ref b1), .val (.int (1 : Int32)), .val (.long (10 : Int64)), .second, .val (.long (20 : Int64)), .second, .val (.long (10 : Int64)), .second, .unset, .unset] [])) rfl (hb hby at_142) t k) ?_
      show Rest p.tables e below s _ _ _ (T12.setTop (mkF m 145 #[.val (.long q0), .second, .val (.long q1), .second, .val (.long q2), .second, .val (.long q3), .second, .val (.int p4), .val (.ref b1), .val (.int (1 : Int32)), .val (.long (10 : Int64)), .second, .val (.long (20 : Int64)), .second, .val (.long (10 : Int64)), .second, .unset, .unset] [(.long (20 : Int64))]))
      refine Rest.via (fun t k => XS.lstore X12.here hx rfl (hb hby at_145) rfl (l' := #[.val (.long q0), .second, .val (.long q1), .second, .val (.long q2), .second, .val (.long q3), .second, .val (.int p4), .val (.ref b1), .val (.int (1 : Int32)), .val (.long (10 : Int64)), .second, .val (.long (20 : Int64)), .second, .val (.long (10 : Int64)), .second, .val (.long (20 : Int64)), .second]) rfl k) ?_
      show Rest p.tables e below s _ _ _ (T12.setTop (mkF m 147 #[.val (.long q0), .second, .val (.long q1), .second, .val (.long q2), .second, .val (.long q3), .second, .val (.int p4), .val (.ref b1), .val (.int (1 : Int32)), .val (.long (10 : Int64)), .second, .val (.long (20 : Int64)), .second, .val (.long (10 : Int64)), .second, .val (.long (20 : Int64)), .second] []))
      refine Rest.via (fun t k => XS.iload X12.here hx rfl (hb hby at_147) rfl k) ?_
      show Rest p.tables e below s _ _ _ (T12.setTop (mkF m 149 #[.val (.long q0), .second, .val (.long q1), .second, .val (.long q2), .second, .val (.long q3), .second, .val (.int p4), .val (.ref b1), .val (.int (1 : Int32)), .val (.long (10 : Int64)), .second, .val (.long (20 : Int64)), .second, .val (.long (10 : Int64)), .second, .val (.long (20 : Int64)), .second] [(.int (1 : Int32))]))
      refine Rest.via (fun t k => XS.ifNo X12.here hx rfl (hb hby at_149) rfl ((if0 _ _).trans (feq (by decide : ¬ ((1 : Int32) = (0 : Int32)))).1) k) ?_
      show Rest p.tables e below s _ _ _ (T12.setTop (mkF m 152 #[.val (.long q0), .second, .val (.long q1), .second, .val (.long q2), .second, .val (.long q3), .second, .val (.int p4), .val (.ref b1), .val (.int (1 : Int32)), .val (.long (10 : Int64)), .second, .val (.long (20 : Int64)), .second, .val (.long (10 : Int64)), .second, .val (.long (20 : Int64)), .second] []))
      refine Rest.via (fun t k => XS.lload X12.here hx rfl (hb hby at_152) rfl k) ?_
      show Rest p.tables e below s _ _ _ (T12.setTop (mkF m 154 #[.val (.long q0), .second, .val (.long q1), .second, .val (.long q2), .second, .val (.long q3), .second, .val (.int p4), .val (.ref b1), .val (.int (1 : Int32)), .val (.long (10 : Int64)), .second, .val (.long (20 : Int64)), .second, .val (.long (10 : Int64)), .second, .val (.long (20 : Int64)), .second] [(.long (10 : Int64))]))
      refine Rest.via (fun t k => XS.lload X12.here hx rfl (hb hby at_154) rfl k) ?_
      show Rest p.tables e below s _ _ _ (T12.setTop (mkF m 156 #[.val (.long q0), .second, .val (.long q1), .second, .val (.long q2), .second, .val (.long q3), .second, .val (.int p4), .val (.ref b1), .val (.int (1 : Int32)), .val (.long (10 : Int64)), .second, .val (.long (20 : Int64)), .second, .val (.long (10 : Int64)), .second, .val (.long (20 : Int64)), .second] [(.long (10 : Int64)), (.long (10 : Int64))]))
      refine Rest.via (fun t k => XS.lcmp X12.here hx rfl (hb hby at_156) rfl k) ?_
      show Rest p.tables e below s _ _ _ (T12.setTop (mkF m 157 #[.val (.long q0), .second, .val (.long q1), .second, .val (.long q2), .second, .val (.long q3), .second, .val (.int p4), .val (.ref b1), .val (.int (1 : Int32)), .val (.long (10 : Int64)), .second, .val (.long (20 : Int64)), .second, .val (.long (10 : Int64)), .second, .val (.long (20 : Int64)), .second] [(.int (lcmpW (10 : Int64) (10 : Int64)))]))
      refine Rest.via (fun t k => XS.ifNo X12.here hx rfl (hb hby at_157) rfl ((if0 _ _).trans (teq ((lw_eq _ _).mpr (by decide : (10 : Int64) = (10 : Int64)))).2) k) ?_
      show Rest p.tables e below s _ _ _ (T12.setTop (mkF m 160 #[.val (.long q0), .second, .val (.long q1), .second, .val (.long q2), .second, .val (.long q3), .second, .val (.int p4), .val (.ref b1), .val (.int (1 : Int32)), .val (.long (10 : Int64)), .second, .val (.long (20 : Int64)), .second, .val (.long (10 : Int64)), .second, .val (.long (20 : Int64)), .second] []))
      refine Rest.via (fun t k => XS.lload X12.here hx rfl (hb hby at_160) rfl k) ?_
      show Rest p.tables e below s _ _ _ (T12.setTop (mkF m 162 #[.val (.long q0), .second, .val (.long q1), .second, .val (.long q2), .second, .val (.long q3), .second, .val (.int p4), .val (.ref b1), .val (.int (1 : Int32)), .val (.long (10 : Int64)), .second, .val (.long (20 : Int64)), .second, .val (.long (10 : Int64)), .second, .val (.long (20 : Int64)), .second] [(.long (20 : Int64))]))
      refine Rest.via (fun t k => XS.lload X12.here hx rfl (hb hby at_162) rfl k) ?_
      show Rest p.tables e below s _ _ _ (T12.setTop (mkF m 164 #[.val (.long q0), .second, .val (.long q1), .second, .val (.long q2), .second, .val (.long q3), .second, .val (.int p4), .val (.ref b1), .val (.int (1 : Int32)), .val (.long (10 : Int64)), .second, .val (.long (20 : Int64)), .second, .val (.long (10 : Int64)), .second, .val (.long (20 : Int64)), .second] [(.long (20 : Int64)), (.long (20 : Int64))]))
      refine Rest.via (fun t k => XS.lcmp X12.here hx rfl (hb hby at_164) rfl k) ?_
      show Rest p.tables e below s _ _ _ (T12.setTop (mkF m 165 #[.val (.long q0), .second, .val (.long q1), .second, .val (.long q2), .second, .val (.long q3), .second, .val (.int p4), .val (.ref b1), .val (.int (1 : Int32)), .val (.long (10 : Int64)), .second, .val (.long (20 : Int64)), .second, .val (.long (10 : Int64)), .second, .val (.long (20 : Int64)), .second] [(.int (lcmpW (20 : Int64) (20 : Int64)))]))
      refine Rest.via (fun t k => XS.ifNo X12.here hx rfl (hb hby at_165) rfl ((if0 _ _).trans (teq ((lw_eq _ _).mpr (by decide : (20 : Int64) = (20 : Int64)))).2) k) ?_
      show Rest p.tables e below s _ _ _ (T12.setTop (mkF m 168 #[.val (.long q0), .second, .val (.long q1), .second, .val (.long q2), .second, .val (.long q3), .second, .val (.int p4), .val (.ref b1), .val (.int (1 : Int32)), .val (.long (10 : Int64)), .second, .val (.long (20 : Int64)), .second, .val (.long (10 : Int64)), .second, .val (.long (20 : Int64)), .second] []))
      refine Rest.via (fun t k => XS.iconst X12.here hx rfl (hb hby at_168) k) ?_
      show Rest p.tables e below s _ _ _ (T12.setTop (mkF m 169 #[.val (.long q0), .second, .val (.long q1), .second, .val (.long q2), .second, .val (.long q3), .second, .val (.int p4), .val (.ref b1), .val (.int (1 : Int32)), .val (.long (10 : Int64)), .second, .val (.long (20 : Int64)), .second, .val (.long (10 : Int64)), .second, .val (.long (20 : Int64)), .second] [(.int (1 : Int32))]))
      refine Rest.via (fun t k => XS.goto X12.here hx rfl (pc0 := 169) (pc' := 173) rfl (hb hby at_169) (by decide) (by decide) k) ?_
      show Rest p.tables e below s _ _ _ (T12.setTop (mkF m 173 #[.val (.long q0), .second, .val (.long q1), .second, .val (.long q2), .second, .val (.long q3), .second, .val (.int p4), .val (.ref b1), .val (.int (1 : Int32)), .val (.long (10 : Int64)), .second, .val (.long (20 : Int64)), .second, .val (.long (10 : Int64)), .second, .val (.long (20 : Int64)), .second] [(.int (1 : Int32))]))
      refine Rest.ret X12 (v := some (.int (nar .boolean (1 : Int32)))) (fun h => by rw [Bd.returns] at h; cases h) hlk (fun fs hr => retN X12 hx (t := .boolean) Bd.returns (by simp) (hb hby at_173) hr) ?_ (by decide) (by decide)
      rw [e12]
      exact ⟨rfl, N12⟩
  show Rest p.tables e below s _ _ _ (T2.setTop (mkF m 9 #[.val (.long q0), .second, .val (.long q1), .second, .val (.long q2), .second, .val (.long q3), .second, .val (.int p4), .val (.ref b1), .unset, .unset, .unset, .unset, .unset, .unset, .unset, .unset, .unset] []))
  refine Rest.via (fun t k => XS.iload X2.here hx rfl (hb hby at_9) rfl k) ?_
  show Rest p.tables e below s _ _ _ (T2.setTop (mkF m 11 #[.val (.long q0), .second, .val (.long q1), .second, .val (.long q2), .second, .val (.long q3), .second, .val (.int p4), .val (.ref b1), .unset, .unset, .unset, .unset, .unset, .unset, .unset, .unset, .unset] [(.int p4)]))
  refine Rest.via (fun t k => XS.iconst X2.here hx rfl (hb hby at_11) k) ?_
  show Rest p.tables e below s _ _ _ (T2.setTop (mkF m 12 #[.val (.long q0), .second, .val (.long q1), .second, .val (.long q2), .second, .val (.long q3), .second, .val (.int p4), .val (.ref b1), .unset, .unset, .unset, .unset, .unset, .unset, .unset, .unset, .unset] [(.int (1 : Int32)), (.int p4)]))
  refine Rest.via (fun t k => XS.iand X2.here hx rfl (hb hby at_12) rfl k) ?_
  show Rest p.tables e below s _ _ _ (T2.setTop (mkF m 13 #[.val (.long q0), .second, .val (.long q1), .second, .val (.long q2), .second, .val (.long q3), .second, .val (.int p4), .val (.ref b1), .unset, .unset, .unset, .unset, .unset, .unset, .unset, .unset, .unset] [(.int (p4 &&& (1 : Int32)))]))
  by_cases hc13 : (p4 &&& (1 : Int32)) = (0 : Int32)
  · refine Rest.via (fun t k => XS.ifYes X2.here hx rfl (pc0 := 13) (pc' := 23) rfl (hb hby at_13) rfl ((if0 _ _).trans (teq hc13).1) (by decide) (by decide) k) ?_
    show Rest p.tables e below s _ _ _ (T2.setTop (mkF m 23 #[.val (.long q0), .second, .val (.long q1), .second, .val (.long q2), .second, .val (.long q3), .second, .val (.int p4), .val (.ref b1), .unset, .unset, .unset, .unset, .unset, .unset, .unset, .unset, .unset] []))
    refine Rest.via (fun t k => XS.iload X2.here hx rfl (hb hby at_23) rfl k) ?_
    show Rest p.tables e below s _ _ _ (T2.setTop (mkF m 25 #[.val (.long q0), .second, .val (.long q1), .second, .val (.long q2), .second, .val (.long q3), .second, .val (.int p4), .val (.ref b1), .unset, .unset, .unset, .unset, .unset, .unset, .unset, .unset, .unset] [(.int p4)]))
    refine Rest.via (fun t k => XS.iconst X2.here hx rfl (hb hby at_25) k) ?_
    show Rest p.tables e below s _ _ _ (T2.setTop (mkF m 26 #[.val (.long q0), .second, .val (.long q1), .second, .val (.long q2), .second, .val (.long q3), .second, .val (.int p4), .val (.ref b1), .unset, .unset, .unset, .unset, .unset, .unset, .unset, .unset, .unset] [(.int (2 : Int32)), (.int p4)]))
    refine Rest.via (fun t k => XS.iand X2.here hx rfl (hb hby at_26) rfl k) ?_
    show Rest p.tables e below s _ _ _ (T2.setTop (mkF m 27 #[.val (.long q0), .second, .val (.long q1), .second, .val (.long q2), .second, .val (.long q3), .second, .val (.int p4), .val (.ref b1), .unset, .unset, .unset, .unset, .unset, .unset, .unset, .unset, .unset] [(.int (p4 &&& (2 : Int32)))]))
    by_cases hc27 : (p4 &&& (2 : Int32)) = (0 : Int32)
    · refine Rest.via (fun t k => XS.ifYes X2.here hx rfl (pc0 := 27) (pc' := 39) rfl (hb hby at_27) rfl ((if0 _ _).trans (teq hc27).1) (by decide) (by decide) k) ?_
      show Rest p.tables e below s _ _ _ (T2.setTop (mkF m 39 #[.val (.long q0), .second, .val (.long q1), .second, .val (.long q2), .second, .val (.long q3), .second, .val (.int p4), .val (.ref b1), .unset, .unset, .unset, .unset, .unset, .unset, .unset, .unset, .unset] []))
      exact J39 _ _ _ X2 e2 N2 K2 _ _ _ D2.1 D2.2.1 D2.2.2.1 D2.2.2.2.1
    · refine Rest.via (fun t k => XS.ifNo X2.here hx rfl (hb hby at_27) rfl ((if0 _ _).trans (feq hc27).1) k) ?_
      show Rest p.tables e below s _ _ _ (T2.setTop (mkF m 30 #[.val (.long q0), .second, .val (.long q1), .second, .val (.long q2), .second, .val (.long q3), .second, .val (.int p4), .val (.ref b1), .unset, .unset, .unset, .unset, .unset, .unset, .unset, .unset, .unset] []))
      refine Rest.via (fun t k => XS.aload X2.here hx rfl (hb hby at_30) rfl rfl k) ?_
      show Rest p.tables e below s _ _ _ (T2.setTop (mkF m 32 #[.val (.long q0), .second, .val (.long q1), .second, .val (.long q2), .second, .val (.long q3), .second, .val (.int p4), .val (.ref b1), .unset, .unset, .unset, .unset, .unset, .unset, .unset, .unset, .unset] [(.ref b1)]))
      refine Rest.via (fun t k => XS.lloadN X2.here hx rfl (hb hby at_32) rfl k) ?_
      show Rest p.tables e below s _ _ _ (T2.setTop (mkF m 33 #[.val (.long q0), .second, .val (.long q1), .second, .val (.long q2), .second, .val (.long q3), .second, .val (.int p4), .val (.ref b1), .unset, .unset, .unset, .unset, .unset, .unset, .unset, .unset, .unset] [(.long q1), (.ref b1)]))
      refine Rest.via (fun t k => X2.ldc2Long hx hown (mvT hZ (hw _ (List.mem_of_getElem? (i := 21) rfl))) (g := (mkF m 33 #[.val (.long q0), .second, .val (.long q1), .second, .val (.long q2), .second, .val (.long q3), .second, .val (.int p4), .val (.ref b1), .unset, .unset, .unset, .unset, .unset, .unset, .unset, .unset, .unset] [(.long q1), (.ref b1)])) rfl (hb hby at_33) t k) ?_
      show Rest p.tables e below s _ _ _ (T2.setTop (mkF m 36 #[.val (.long q0), .second, .val (.long q1), .second, .val (.long q2), .second, .val (.long q3), .second, .val (.int p4), .val (.ref b1), .unset, .unset, .unset, .unset, .unset, .unset, .unset, .unset, .unset] [(.long (2 : Int64)), (.long q1), (.ref b1)]))
      obtain ⟨cq13, kq13, q13a, q13b, q13c⟩ := isOf hZ e2 D2.1
      obtain ⟨_, _, ⟨T13, L13, k13, n13⟩, -, X13, ⟨Lc13, hQ13, l13, y13, z13⟩, st13⟩ := X2.virtualBack hx (y := (⟨"com/example/mark_delete/markdelete/broker/DelayedMessages", "add", "(JJ)V"⟩ : MethodName)) (z := (⟨"com/example/mark_delete/markdelete/broker/DelayedMessages", "add", "(JJ)V"⟩ : MethodName)) hown (mvT hZ (hw _ (List.mem_of_getElem? (i := 14) rfl))) (mvT hZ (hw _ (List.mem_of_getElem? (i := 15) rfl))) (notFace_of_selects (args := #[]) (mvT hZ (hw _ (List.mem_of_getElem? (i := 17) rfl)))) (mvT hZ (hw _ (List.mem_of_getElem? (i := 17) rfl))) (mvT hZ (hw _ (List.mem_of_getElem? (i := 16) rfl))) (by decide) (backOf (W := 0) (rmA0 l Z aw hw [] b1 q1 (2 : Int64) da2 ea2 ka2 kb2 (0 : Int64) (0 : Int64) (0 : Int64) (0 : Int64) h2 n0 (Nat.le_trans Z0 K2.1) D2 g_b1 g_da2 g_ea2) hZ (hw _ (List.mem_of_getElem? (i := 18) rfl)) (hw _ (List.mem_of_getElem? (i := 2) rfl)) (by decide) (by decide)) q13a q13c (g := (mkF m 36 #[.val (.long q0), .second, .val (.long q1), .second, .val (.long q2), .second, .val (.long q3), .second, .val (.int p4), .val (.ref b1), .unset, .unset, .unset, .unset, .unset, .unset, .unset, .unset, .unset] [(.long (2 : Int64)), (.long q1), (.ref b1)])) rfl (by rw [hml]; rfl) (Steps.refl _) (argsL := [(.long q1), (.long (2 : Int64))]) (rest := []) (lenOf pd_5 rfl) rfl (by show 2 * 0 + _ ≤ _; exact Nat.le_of_eq rfl) (hb hby at_36) (fun _ _ => ⟨rfl, e2, (by decide : 3 + 0 ≤ _), (by decide : 35 + 0 ≤ _)⟩)
      dsimp only [Pt.U, Pt.locs, Pt.cells, Pt.slots] at X13 l13 y13 z13 st13 hQ13
      subst l13 y13 z13
      obtain ⟨h13, e13⟩ : ∃ z, T13.heap = z := ⟨_, rfl⟩
      rw [e13] at hQ13
      obtain ⟨rfl, Nq13, Kq13, Dm13⟩ := hQ13
      have N13 := Fr.app N2 Nq13
      have K13 : Keep h0 h13 [] := K2.trans Kq13 (allS (Or.inr sz_b1) (allS (Or.inr sz_da2) (allS (Or.inr sz_ea2) all0)))
      refine Rest.via (fun t k => st13.trans k) ?_
      show Rest p.tables e below s _ _ _ (T13.setTop (mkF m 39 #[.val (.long q0), .second, .val (.long q1), .second, .val (.long q2), .second, .val (.long q3), .second, .val (.int p4), .val (.ref b1), .unset, .unset, .unset, .unset, .unset, .unset, .unset, .unset, .unset] []))
      exact J39 _ _ _ X13 e13 N13 K13 _ _ _ Dm13.1 Dm13.2.1 Dm13.2.2.1 Dm13.2.2.2.1
  · refine Rest.via (fun t k => XS.ifNo X2.here hx rfl (hb hby at_13) rfl ((if0 _ _).trans (feq hc13).1) k) ?_
    show Rest p.tables e below s _ _ _ (T2.setTop (mkF m 16 #[.val (.long q0), .second, .val (.long q1), .second, .val (.long q2), .second, .val (.long q3), .second, .val (.int p4), .val (.ref b1), .unset, .unset, .unset, .unset, .unset, .unset, .unset, .unset, .unset] []))
    refine Rest.via (fun t k => XS.aload X2.here hx rfl (hb hby at_16) rfl rfl k) ?_
    show Rest p.tables e below s _ _ _ (T2.setTop (mkF m 18 #[.val (.long q0), .second, .val (.long q1), .second, .val (.long q2), .second, .val (.long q3), .second, .val (.int p4), .val (.ref b1), .unset, .unset, .unset, .unset, .unset, .unset, .unset, .unset, .unset] [(.ref b1)]))
    refine Rest.via (fun t k => XS.lloadN X2.here hx rfl (hb hby at_18) rfl k) ?_
    show Rest p.tables e below s _ _ _ (T2.setTop (mkF m 19 #[.val (.long q0), .second, .val (.long q1), .second, .val (.long q2), .second, .val (.long q3), .second, .val (.int p4), .val (.ref b1), .unset, .unset, .unset, .unset, .unset, .unset, .unset, .unset, .unset] [(.long q0), (.ref b1)]))
    refine Rest.via (fun t k => XS.lconst X2.here hx rfl (hb hby at_19) k) ?_
    show Rest p.tables e below s _ _ _ (T2.setTop (mkF m 20 #[.val (.long q0), .second, .val (.long q1), .second, .val (.long q2), .second, .val (.long q3), .second, .val (.int p4), .val (.ref b1), .unset, .unset, .unset, .unset, .unset, .unset, .unset, .unset, .unset] [(.long (1 : Int64)), (.long q0), (.ref b1)]))
    obtain ⟨cq14, kq14, q14a, q14b, q14c⟩ := isOf hZ e2 D2.1
    obtain ⟨_, _, ⟨T14, L14, k14, n14⟩, -, X14, ⟨Lc14, hQ14, l14, y14, z14⟩, st14⟩ := X2.virtualBack hx (y := (⟨"com/example/mark_delete/markdelete/broker/DelayedMessages", "add", "(JJ)V"⟩ : MethodName)) (z := (⟨"com/example/mark_delete/markdelete/broker/DelayedMessages", "add", "(JJ)V"⟩ : MethodName)) hown (mvT hZ (hw _ (List.mem_of_getElem? (i := 14) rfl))) (mvT hZ (hw _ (List.mem_of_getElem? (i := 15) rfl))) (notFace_of_selects (args := #[]) (mvT hZ (hw _ (List.mem_of_getElem? (i := 17) rfl)))) (mvT hZ (hw _ (List.mem_of_getElem? (i := 17) rfl))) (mvT hZ (hw _ (List.mem_of_getElem? (i := 16) rfl))) (by decide) (backOf (W := 0) (rmA0 l Z aw hw [] b1 q0 (1 : Int64) da2 ea2 ka2 kb2 (0 : Int64) (0 : Int64) (0 : Int64) (0 : Int64) h2 n0 (Nat.le_trans Z0 K2.1) D2 g_b1 g_da2 g_ea2) hZ (hw _ (List.mem_of_getElem? (i := 18) rfl)) (hw _ (List.mem_of_getElem? (i := 2) rfl)) (by decide) (by decide)) q14a q14c (g := (mkF m 20 #[.val (.long q0), .second, .val (.long q1), .second, .val (.long q2), .second, .val (.long q3), .second, .val (.int p4), .val (.ref b1), .unset, .unset, .unset, .unset, .unset, .unset, .unset, .unset, .unset] [(.long (1 : Int64)), (.long q0), (.ref b1)])) rfl (by rw [hml]; rfl) (Steps.refl _) (argsL := [(.long q0), (.long (1 : Int64))]) (rest := []) (lenOf pd_5 rfl) rfl (by show 2 * 0 + _ ≤ _; exact Nat.le_of_eq rfl) (hb hby at_20) (fun _ _ => ⟨rfl, e2, (by decide : 3 + 0 ≤ _), (by decide : 35 + 0 ≤ _)⟩)
    dsimp only [Pt.U, Pt.locs, Pt.cells, Pt.slots] at X14 l14 y14 z14 st14 hQ14
    subst l14 y14 z14
    obtain ⟨h14, e14⟩ : ∃ z, T14.heap = z := ⟨_, rfl⟩
    rw [e14] at hQ14
    obtain ⟨rfl, Nq14, Kq14, Dm14⟩ := hQ14
    have N14 := Fr.app N2 Nq14
    have K14 : Keep h0 h14 [] := K2.trans Kq14 (allS (Or.inr sz_b1) (allS (Or.inr sz_da2) (allS (Or.inr sz_ea2) all0)))
    refine Rest.via (fun t k => st14.trans k) ?_
    show Rest p.tables e below s _ _ _ (T14.setTop (mkF m 23 #[.val (.long q0), .second, .val (.long q1), .second, .val (.long q2), .second, .val (.long q3), .second, .val (.int p4), .val (.ref b1), .unset, .unset, .unset, .unset, .unset, .unset, .unset, .unset, .unset] []))
    refine Rest.via (fun t k => XS.iload X14.here hx rfl (hb hby at_23) rfl k) ?_
    show Rest p.tables e below s _ _ _ (T14.setTop (mkF m 25 #[.val (.long q0), .second, .val (.long q1), .second, .val (.long q2), .second, .val (.long q3), .second, .val (.int p4), .val (.ref b1), .unset, .unset, .unset, .unset, .unset, .unset, .unset, .unset, .unset] [(.int p4)]))
    refine Rest.via (fun t k => XS.iconst X14.here hx rfl (hb hby at_25) k) ?_
    show Rest p.tables e below s _ _ _ (T14.setTop (mkF m 26 #[.val (.long q0), .second, .val (.long q1), .second, .val (.long q2), .second, .val (.long q3), .second, .val (.int p4), .val (.ref b1), .unset, .unset, .unset, .unset, .unset, .unset, .unset, .unset, .unset] [(.int (2 : Int32)), (.int p4)]))
    refine Rest.via (fun t k => XS.iand X14.here hx rfl (hb hby at_26) rfl k) ?_
    show Rest p.tables e below s _ _ _ (T14.setTop (mkF m 27 #[.val (.long q0), .second, .val (.long q1), .second, .val (.long q2), .second, .val (.long q3), .second, .val (.int p4), .val (.ref b1), .unset, .unset, .unset, .unset, .unset, .unset, .unset, .unset, .unset] [(.int (p4 &&& (2 : Int32)))]))
    by_cases hc27 : (p4 &&& (2 : Int32)) = (0 : Int32)
    · refine Rest.via (fun t k => XS.ifYes X14.here hx rfl (pc0 := 27) (pc' := 39) rfl (hb hby at_27) rfl ((if0 _ _).trans (teq hc27).1) (by decide) (by decide) k) ?_
      show Rest p.tables e below s _ _ _ (T14.setTop (mkF m 39 #[.val (.long q0), .second, .val (.long q1), .second, .val (.long q2), .second, .val (.long q3), .second, .val (.int p4), .val (.ref b1), .unset, .unset, .unset, .unset, .unset, .unset, .unset, .unset, .unset] []))
      exact J39 _ _ _ X14 e14 N14 K14 _ _ _ Dm14.1 Dm14.2.1 Dm14.2.2.1 Dm14.2.2.2.1
    · refine Rest.via (fun t k => XS.ifNo X14.here hx rfl (hb hby at_27) rfl ((if0 _ _).trans (feq hc27).1) k) ?_
      show Rest p.tables e below s _ _ _ (T14.setTop (mkF m 30 #[.val (.long q0), .second, .val (.long q1), .second, .val (.long q2), .second, .val (.long q3), .second, .val (.int p4), .val (.ref b1), .unset, .unset, .unset, .unset, .unset, .unset, .unset, .unset, .unset] []))
      by_cases hl30 : q1 < q0
      · show Rest p.tables e below s _ _ _ (T14.setTop (mkF m 30 #[.val (.long q0), .second, .val (.long q1), .second, .val (.long q2), .second, .val (.long q3), .second, .val (.int p4), .val (.ref b1), .unset, .unset, .unset, .unset, .unset, .unset, .unset, .unset, .unset] []))
        refine Rest.via (fun t k => XS.aload X14.here hx rfl (hb hby at_30) rfl rfl k) ?_
        show Rest p.tables e below s _ _ _ (T14.setTop (mkF m 32 #[.val (.long q0), .second, .val (.long q1), .second, .val (.long q2), .second, .val (.long q3), .second, .val (.int p4), .val (.ref b1), .unset, .unset, .unset, .unset, .unset, .unset, .unset, .unset, .unset] [(.ref b1)]))
        refine Rest.via (fun t k => XS.lloadN X14.here hx rfl (hb hby at_32) rfl k) ?_
        show Rest p.tables e below s _ _ _ (T14.setTop (mkF m 33 #[.val (.long q0), .second, .val (.long q1), .second, .val (.long q2), .second, .val (.long q3), .second, .val (.int p4), .val (.ref b1), .unset, .unset, .unset, .unset, .unset, .unset, .unset, .unset, .unset] [(.long q1), (.ref b1)]))
        refine Rest.via (fun t k => X14.ldc2Long hx hown (mvT hZ (hw _ (List.mem_of_getElem? (i := 21) rfl))) (g := (mkF m 33 #[.val (.long q0), .second, .val (.long q1), .second, .val (.long q2), .second, .val (.long q3), .second, .val (.int p4), .val (.ref b1), .unset, .unset, .unset, .unset, .unset, .unset, .unset, .unset, .unset] [(.long q1), (.ref b1)])) rfl (hb hby at_33) t k) ?_
        show Rest p.tables e below s _ _ _ (T14.setTop (mkF m 36 #[.val (.long q0), .second, .val (.long q1), .second, .val (.long q2), .second, .val (.long q3), .second, .val (.int p4), .val (.ref b1), .unset, .unset, .unset, .unset, .unset, .unset, .unset, .unset, .unset] [(.long (2 : Int64)), (.long q1), (.ref b1)]))
        obtain ⟨cq15, kq15, q15a, q15b, q15c⟩ := isOf hZ e14 Dm14.1
        obtain ⟨_, _, ⟨T15, L15, k15, n15⟩, -, X15, ⟨Lc15, hQ15, l15, y15, z15⟩, st15⟩ := X14.virtualBack hx (y := (⟨"com/example/mark_delete/markdelete/broker/DelayedMessages", "add", "(JJ)V"⟩ : MethodName)) (z := (⟨"com/example/mark_delete/markdelete/broker/DelayedMessages", "add", "(JJ)V"⟩ : MethodName)) hown (mvT hZ (hw _ (List.mem_of_getElem? (i := 14) rfl))) (mvT hZ (hw _ (List.mem_of_getElem? (i := 15) rfl))) (notFace_of_selects (args := #[]) (mvT hZ (hw _ (List.mem_of_getElem? (i := 17) rfl)))) (mvT hZ (hw _ (List.mem_of_getElem? (i := 17) rfl))) (mvT hZ (hw _ (List.mem_of_getElem? (i := 16) rfl))) (by decide) (backOf (W := 0) (rmA1y l Z aw hw [] b1 q1 (2 : Int64) da2 ea2 ka2 kb2 q0 (0 : Int64) (1 : Int64) (0 : Int64) h14 n0 (Nat.le_trans Z0 K14.1) Dm14 g_b1 g_da2 g_ea2 hl30) hZ (hw _ (List.mem_of_getElem? (i := 18) rfl)) (hw _ (List.mem_of_getElem? (i := 2) rfl)) (by decide) (by decide)) q15a q15c (g := (mkF m 36 #[.val (.long q0), .second, .val (.long q1), .second, .val (.long q2), .second, .val (.long q3), .second, .val (.int p4), .val (.ref b1), .unset, .unset, .unset, .unset, .unset, .unset, .unset, .unset, .unset] [(.long (2 : Int64)), (.long q1), (.ref b1)])) rfl (by rw [hml]; rfl) (Steps.refl _) (argsL := [(.long q1), (.long (2 : Int64))]) (rest := []) (lenOf pd_5 rfl) rfl (by show 2 * 0 + _ ≤ _; exact Nat.le_of_eq rfl) (hb hby at_36) (fun _ _ => ⟨rfl, e14, (by decide : 3 + 0 ≤ _), (by decide : 35 + 0 ≤ _)⟩)
        dsimp only [Pt.U, Pt.locs, Pt.cells, Pt.slots] at X15 l15 y15 z15 st15 hQ15
        subst l15 y15 z15
        obtain ⟨h15, e15⟩ : ∃ z, T15.heap = z := ⟨_, rfl⟩
        rw [e15] at hQ15
        obtain ⟨rfl, Nq15, Kq15, Dm15⟩ := hQ15
        have N15 := Fr.app N14 Nq15
        have K15 : Keep h0 h15 [] := K14.trans Kq15 (allS (Or.inr sz_b1) (allS (Or.inr sz_da2) (allS (Or.inr sz_ea2) all0)))
        refine Rest.via (fun t k => st15.trans k) ?_
        show Rest p.tables e below s _ _ _ (T15.setTop (mkF m 39 #[.val (.long q0), .second, .val (.long q1), .second, .val (.long q2), .second, .val (.long q3), .second, .val (.int p4), .val (.ref b1), .unset, .unset, .unset, .unset, .unset, .unset, .unset, .unset, .unset] []))
        exact J39 _ _ _ X15 e15 N15 K15 _ _ _ Dm15.1 Dm15.2.1 Dm15.2.2.1 Dm15.2.2.2.1
      · show Rest p.tables e below s _ _ _ (T14.setTop (mkF m 30 #[.val (.long q0), .second, .val (.long q1), .second, .val (.long q2), .second, .val (.long q3), .second, .val (.int p4), .val (.ref b1), .unset, .unset, .unset, .unset, .unset, .unset, .unset, .unset, .unset] []))
        refine Rest.via (fun t k => XS.aload X14.here hx rfl (hb hby at_30) rfl rfl k) ?_
        show Rest p.tables e below s _ _ _ (T14.setTop (mkF m 32 #[.val (.long q0), .second, .val (.long q1), .second, .val (.long q2), .second, .val (.long q3), .second, .val (.int p4), .val (.ref b1), .unset, .unset, .unset, .unset, .unset, .unset, .unset, .unset, .unset] [(.ref b1)]))
        refine Rest.via (fun t k => XS.lloadN X14.here hx rfl (hb hby at_32) rfl k) ?_
        show Rest p.tables e below s _ _ _ (T14.setTop (mkF m 33 #[.val (.long q0), .second, .val (.long q1), .second, .val (.long q2), .second, .val (.long q3), .second, .val (.int p4), .val (.ref b1), .unset, .unset, .unset, .unset, .unset, .unset, .unset, .unset, .unset] [(.long q1), (.ref b1)]))
        refine Rest.via (fun t k => X14.ldc2Long hx hown (mvT hZ (hw _ (List.mem_of_getElem? (i := 21) rfl))) (g := (mkF m 33 #[.val (.long q0), .second, .val (.long q1), .second, .val (.long q2), .second, .val (.long q3), .second, .val (.int p4), .val (.ref b1), .unset, .unset, .unset, .unset, .unset, .unset, .unset, .unset, .unset] [(.long q1), (.ref b1)])) rfl (hb hby at_33) t k) ?_
        show Rest p.tables e below s _ _ _ (T14.setTop (mkF m 36 #[.val (.long q0), .second, .val (.long q1), .second, .val (.long q2), .second, .val (.long q3), .second, .val (.int p4), .val (.ref b1), .unset, .unset, .unset, .unset, .unset, .unset, .unset, .unset, .unset] [(.long (2 : Int64)), (.long q1), (.ref b1)]))
        obtain ⟨cq16, kq16, q16a, q16b, q16c⟩ := isOf hZ e14 Dm14.1
        obtain ⟨_, _, ⟨T16, L16, k16, n16⟩, -, X16, ⟨Lc16, hQ16, l16, y16, z16⟩, st16⟩ := X14.virtualBack hx (y := (⟨"com/example/mark_delete/markdelete/broker/DelayedMessages", "add", "(JJ)V"⟩ : MethodName)) (z := (⟨"com/example/mark_delete/markdelete/broker/DelayedMessages", "add", "(JJ)V"⟩ : MethodName)) hown (mvT hZ (hw _ (List.mem_of_getElem? (i := 14) rfl))) (mvT hZ (hw _ (List.mem_of_getElem? (i := 15) rfl))) (notFace_of_selects (args := #[]) (mvT hZ (hw _ (List.mem_of_getElem? (i := 17) rfl)))) (mvT hZ (hw _ (List.mem_of_getElem? (i := 17) rfl))) (mvT hZ (hw _ (List.mem_of_getElem? (i := 16) rfl))) (by decide) (backOf (W := 0) (rmA1n l Z aw hw [] b1 q1 (2 : Int64) da2 ea2 ka2 kb2 q0 (0 : Int64) (1 : Int64) (0 : Int64) h14 n0 (Nat.le_trans Z0 K14.1) Dm14 g_b1 g_da2 g_ea2 hl30) hZ (hw _ (List.mem_of_getElem? (i := 18) rfl)) (hw _ (List.mem_of_getElem? (i := 2) rfl)) (by decide) (by decide)) q16a q16c (g := (mkF m 36 #[.val (.long q0), .second, .val (.long q1), .second, .val (.long q2), .second, .val (.long q3), .second, .val (.int p4), .val (.ref b1), .unset, .unset, .unset, .unset, .unset, .unset, .unset, .unset, .unset] [(.long (2 : Int64)), (.long q1), (.ref b1)])) rfl (by rw [hml]; rfl) (Steps.refl _) (argsL := [(.long q1), (.long (2 : Int64))]) (rest := []) (lenOf pd_5 rfl) rfl (by show 2 * 0 + _ ≤ _; exact Nat.le_of_eq rfl) (hb hby at_36) (fun _ _ => ⟨rfl, e14, (by decide : 3 + 0 ≤ _), (by decide : 35 + 0 ≤ _)⟩)
        dsimp only [Pt.U, Pt.locs, Pt.cells, Pt.slots] at X16 l16 y16 z16 st16 hQ16
        subst l16 y16 z16
        obtain ⟨h16, e16⟩ : ∃ z, T16.heap = z := ⟨_, rfl⟩
        rw [e16] at hQ16
        obtain ⟨rfl, Nq16, Kq16, Dm16⟩ := hQ16
        have N16 := Fr.app N14 Nq16
        have K16 : Keep h0 h16 [] := K14.trans Kq16 (allS (Or.inr sz_b1) (allS (Or.inr sz_da2) (allS (Or.inr sz_ea2) all0)))
        refine Rest.via (fun t k => st16.trans k) ?_
        show Rest p.tables e below s _ _ _ (T16.setTop (mkF m 39 #[.val (.long q0), .second, .val (.long q1), .second, .val (.long q2), .second, .val (.long q3), .second, .val (.int p4), .val (.ref b1), .unset, .unset, .unset, .unset, .unset, .unset, .unset, .unset, .unset] []))
        exact J39 _ _ _ X16 e16 N16 K16 _ _ _ Dm16.1 Dm16.2.1 Dm16.2.2.1 Dm16.2.2.2.1
set_option maxRecDepth 65536 in
set_option maxHeartbeats 40000000 in
theorem comes_1 {Post : Tables → Env → Array Value → State → Outcome → State → Prop} (hpost : ∀ tb e args s v u, (limb_1_1.after args s (.returned v) u = true ∧ limb_1_2.after args s (.returned v) u = true ∧ True) → FrameEnd s (.returned v) u (Jvm.fieldLocs frame_1_writes args s ++ Jvm.arrayLocs frame_1_arrays args s ++ Jvm.staticLocs frame_1_statics s) 24 256 → Post tb e args s (.returned v) u) :
    ArmFor flags0 classFile x code maxLocals ret World_1 tables_1 room_1 Calls_1 rest_1 Pre_1 Post := by
  intro l hfl _ _ p e ha hc hk s m args below hf hA hF happ hP
  obtain ⟨hcalls, hrest, hpre⟩ := hP
  obtain ⟨-, -, -, hnamed, -, -, -, hat⟩ := (Spec.applies_iff hf).mp happ
  obtain ⟨hg, hn⟩ := and_e (Cond.before_iff.mp (show (Jvm.Cond.and given_1 narrow_1).before args s = true from hpre))
  obtain ⟨hcnt, hg0⟩ := and_e hg
  obtain ⟨ha0, hg1⟩ := and_e hg0
  obtain ⟨ha1, hg2⟩ := and_e hg1
  obtain ⟨ha2, hg3⟩ := and_e hg2
  obtain ⟨ha3, hg4⟩ := and_e hg3
  have ha4 := hg4
  obtain ⟨w0, w1, w2, w3, w4, rfl⟩ : ∃ w0 w1 w2 w3 w4 : Value, args = #[w0, w1, w2, w3, w4] := by
    have hs : args.size = 5 := by simpa [Cond.value, given_1] using hcnt
    obtain ⟨L⟩ := args
    match L, hs with
    | [w0, w1, w2, w3, w4], _ => exact ⟨w0, w1, w2, w3, w4, rfl⟩
  have hw := fun d (hd : d ∈ tables_1) => atoms_spec (ws := Jvm.Cond.code x code maxLocals ret :: tables_1) hat d (List.mem_cons_of_mem _ hd)
  have hfit : Fit s := fun {y c} hc i hi => by
    obtain ⟨ha, rfl⟩ := Array.getElem?_eq_some_iff.mp hc
    have q := List.all_eq_true.mp ((Array.all_eq_true_iff_forall_mem.mp hF) _ (Array.getElem_mem ha)) i (List.mem_range.mpr hi)
    simpa [Array.getElem?_eq_getElem hi] using q
  obtain ⟨i0, ei0⟩ := isL_v ha0
  obtain rfl : w0 = (.long i0) := Option.some.inj ei0
  obtain ⟨i1, ei1⟩ := isL_v ha1
  obtain rfl : w1 = (.long i1) := Option.some.inj ei1
  obtain ⟨i2, ei2⟩ := isL_v ha2
  obtain rfl : w2 = (.long i2) := Option.some.inj ei2
  obtain ⟨i3, ei3⟩ := isL_v ha3
  obtain rfl : w3 = (.long i3) := Option.some.inj ei3
  obtain ⟨i4, ei4⟩ := is_v ha4
  obtain rfl : w4 = (.int i4) := Option.some.inj ei4
  obtain ⟨n, o, h1, h2, h3, _, L, rfl, ⟨rfl, N⟩, hq⟩ := rm0 l s _ hw tables_1 i0 i1 i2 i3 i4  s.heap s.heap.size (Nat.le_refl _)  p e ha hc hk s m _ below hf ((Spec.applies_iff_loose hf).mp happ).1 ⟨rfl, State.Warmed39.refl s, rfl⟩ trivial
  refine ⟨n, _, h1, h2, h3, hpost _ _ _ _ _ _ ⟨Cond.after_iff.mpr rfl, Cond.after_iff.mpr (eq_i res_at (Term.int_eval (1)) rfl), trivial⟩ ⟨hq.1, hq.2.1, (hq.2.2.sift fun y hy => Or.inr (N y hy)).mono (by decide) (by decide)⟩⟩
theorem main_1_1 : Claimed_1_1 := comes_1 fun _ _ _ _ _ _ h hF => ⟨h.1, hF⟩
theorem main_1_2 : Claimed_1_2 := comes_1 fun _ _ _ _ _ _ h hF => ⟨h.2.1, hF⟩
end Jvm.Pilot.@@N@@
namespace Jvm.Pilot.@@N@@
open Jvm Jvm.ClassFile Sem Op Lib Jvm.Free Jvm.Stand Jvm.Pilot.@@N@@.Jvm.D
/-! MADE BY PROGRAM (witnessworld.py) out of the Statement's table words and the real class files: 11 classes; the members and pool entries that the words name. The judged class is class 1, her method 1. -/
namespace start1
open Jvm.ClassFile
def u (s : String) : CpInfo := .utf8 (stringToUtf16 s)
/-- a pool by its gaps: so many unusable entries, then the entry; so many at the end -/
def gap : Nat → List CpInfo → List CpInfo
  | 0, r => r
  | n + 1, r => .unusable :: gap n r
def poolList (es : List (Nat × CpInfo)) (last : Nat) : List CpInfo := es.foldr (fun e r => gap e.1 (e.2 :: r)) (gap last [])
def pool (es : List (Nat × CpInfo)) (last : Nat) : Array CpInfo := ⟨poolList es last⟩
def fileOf (pool : Array CpInfo) (this : Nat) (attrs : Array Attribute := #[]) (ms : Array MethodInfo := #[]) (fl : Nat := 33) (sup : Nat := 0) (ifs : Array Nat := #[]) (fds : Array FieldInfo := #[]) : ClassFile where
  minorVersion := 0
  majorVersion := 65
  constantPool := pool
  accessFlags := fl
  thisClass := this
  superClass := sup
  interfaces := ifs
  fields := fds
  methods := ms
  attributes := attrs
def plain (name : String) (sup : Option ClassId) : Class where
  name := name
  kind := .ordinary
  loader := none
  accessFlags := 33
  super := sup
  interfaces := #[]
  cf := none
  fields := #[]
  methods := #[]
  instanceTypes := #[]
  staticTypes := #[]
  resolved := #[]
  callSites := []
  init := .initialized
  statics := none
  mirror := none

def pool0 : Array CpInfo := pool [(5, u "<init>"), (0, u "()V"), (1, .class_ 10), (1, u "java/lang/Object")] 113

def k0c0 : Code := { maxStack := 0, maxLocals := 1, code := object_method_1_code, exceptionTable := #[], attributes := #[] }
def k0m0 : Method := { name := "<init>", desc := "()V", sig := { parameters := [], returnType := none }, accessFlags := 1, code := some k0c0 }
/-- java/lang/Object -/
def k0 : Class := { plain "java/lang/Object" none with
  accessFlags := 33
  interfaces := #[]
  cf := some (fileOf pool0 8 #[] #[{ accessFlags := 1, nameIndex := 5, descriptorIndex := 6, attributes := #[] }] 33 0 #[] #[])
  fields := #[]
  methods := #[k0m0]
  instanceTypes := #[]
  staticTypes := #[]
  resolved := Array.replicate 124 none
  statics := none }

def pool1 : Array CpInfo := pool [(2, .class_ 4), (0, .nameAndType 5 6), (0, u "java/lang/Object"), (0, u "<init>"), (0, u "()V"), (0, .class_ 8), (0, u "com/example/mark_delete/markdelete/broker/DelayedMessages"), (0, .methodref 7 3), (0, .methodref 7 11), (0, .nameAndType 12 13), (0, u "add"), (0, u "(JJ)V"), (0, .long 2), (1, .methodref 7 17), (0, .nameAndType 18 6), (0, u "clear"), (0, .methodref 7 20), (0, .nameAndType 21 22), (0, u "isEmpty"), (0, u "()Z"), (0, .methodref 7 24), (0, .nameAndType 25 26), (0, u "earliestDeliverAt"), (0, u "()J"), (2, .long 9223372036854775807), (1, .long 10), (1, .long 20), (1, .methodref 7 36), (0, .nameAndType 37 26), (0, u "takeEarliest"), (0, .class_ 39), (0, u "com/example/mark_delete/markdelete/broker/DelayedMessagesClearPinLaw"), (2, u "law"), (0, u "(JJJJI)Z")] 3

def k1m0 : Method := { name := "<init>", desc := "()V", sig := { parameters := [], returnType := none }, accessFlags := 1, code := none }
def k1c1 : Code := { maxStack := 5, maxLocals := 19, code := code, exceptionTable := #[], attributes := #[] }
def k1m1 : Method := { name := "law", desc := "(JJJJI)Z", sig := { parameters := [.long, .long, .long, .long, .int], returnType := some .boolean }, accessFlags := 9, code := some k1c1 }
/-- com/example/mark_delete/markdelete/broker/DelayedMessagesClearPinLaw -/
def k1 : Class := { plain "com/example/mark_delete/markdelete/broker/DelayedMessagesClearPinLaw" (some 0) with
  accessFlags := 49
  interfaces := #[]
  cf := some (fileOf pool1 38 #[] #[{ accessFlags := 1, nameIndex := 5, descriptorIndex := 6, attributes := #[] }, { accessFlags := 9, nameIndex := 42, descriptorIndex := 43, attributes := #[] }] 49 2 #[] #[])
  fields := #[]
  methods := #[k1m0, k1m1]
  instanceTypes := #[]
  staticTypes := #[]
  resolved := Array.replicate 47 none
  statics := none }

def pool2 : Array CpInfo := pool [(3, .methodref 4 5), (0, .class_ 6), (0, .nameAndType 7 8), (0, u "java/lang/Object"), (0, u "<init>"), (0, u "()V"), (0, .class_ 10), (0, u "com/example/mark_delete/markdelete/broker/DelayedMessages"), (0, .fieldref 9 12), (0, .nameAndType 13 14), (0, u "deliverAts"), (0, u "[J"), (0, .fieldref 9 16), (0, .nameAndType 17 14), (0, u "entryIds"), (0, .fieldref 9 19), (0, .nameAndType 20 21), (0, u "size"), (0, u "I"), (3, .methodref 9 26), (0, .nameAndType 27 28), (0, u "parent"), (0, u "(I)I"), (0, .methodref 9 30), (0, .nameAndType 31 32), (0, u "move"), (0, u "(II)V"), (2, .long 9223372036854775807), (29, u "INITIAL_CAPACITY"), (2, u "MAX_CAPACITY"), (2, u "isEmpty"), (0, u "()Z"), (1, u "add"), (0, u "(JJ)V"), (0, u "earliestDeliverAt"), (0, u "()J"), (0, u "takeEarliest"), (0, u "clear")] 17

def k2c0 : Code := { maxStack := 2, maxLocals := 1, code := prog_4_method_1_code, exceptionTable := #[], attributes := #[] }
def k2m0 : Method := { name := "<init>", desc := "()V", sig := { parameters := [], returnType := none }, accessFlags := 0, code := some k2c0 }
def k2c1 : Code := { maxStack := 1, maxLocals := 1, code := prog_4_method_2_code, exceptionTable := #[], attributes := #[] }
def k2m1 : Method := { name := "isEmpty", desc := "()Z", sig := { parameters := [], returnType := some .boolean }, accessFlags := 0, code := some k2c1 }
def k2c2 : Code := { maxStack := 4, maxLocals := 6, code := prog_4_method_3_code, exceptionTable := #[], attributes := #[] }
def k2m2 : Method := { name := "add", desc := "(JJ)V", sig := { parameters := [.long, .long], returnType := none }, accessFlags := 0, code := some k2c2 }
def k2c3 : Code := { maxStack := 2, maxLocals := 1, code := prog_4_method_4_code, exceptionTable := #[], attributes := #[] }
def k2m3 : Method := { name := "earliestDeliverAt", desc := "()J", sig := { parameters := [], returnType := some .long }, accessFlags := 0, code := some k2c3 }
def k2c4 : Code := { maxStack := 4, maxLocals := 9, code := prog_4_method_5_code, exceptionTable := #[], attributes := #[] }
def k2m4 : Method := { name := "takeEarliest", desc := "()J", sig := { parameters := [], returnType := some .long }, accessFlags := 0, code := some k2c4 }
def k2c5 : Code := { maxStack := 2, maxLocals := 1, code := prog_4_method_6_code, exceptionTable := #[], attributes := #[] }
def k2m5 : Method := { name := "clear", desc := "()V", sig := { parameters := [], returnType := none }, accessFlags := 0, code := some k2c5 }
def k2c6 : Code := { maxStack := 2, maxLocals := 1, code := prog_4_method_7_code, exceptionTable := #[], attributes := #[] }
def k2m6 : Method := { name := "parent", desc := "(I)I", sig := { parameters := [.int], returnType := some .int }, accessFlags := 10, code := some k2c6 }
def k2c7 : Code := { maxStack := 4, maxLocals := 3, code := prog_4_method_8_code, exceptionTable := #[], attributes := #[] }
def k2m7 : Method := { name := "move", desc := "(II)V", sig := { parameters := [.int, .int], returnType := none }, accessFlags := 2, code := some k2c7 }
/-- com/example/mark_delete/markdelete/broker/DelayedMessages -/
def k2 : Class := { plain "com/example/mark_delete/markdelete/broker/DelayedMessages" (some 0) with
  accessFlags := 48
  interfaces := #[]
  cf := some (fileOf pool2 9 #[] #[{ accessFlags := 0, nameIndex := 7, descriptorIndex := 8, attributes := #[] }, { accessFlags := 0, nameIndex := 71, descriptorIndex := 72, attributes := #[] }, { accessFlags := 0, nameIndex := 74, descriptorIndex := 75, attributes := #[] }, { accessFlags := 0, nameIndex := 76, descriptorIndex := 77, attributes := #[] }, { accessFlags := 0, nameIndex := 78, descriptorIndex := 77, attributes := #[] }, { accessFlags := 0, nameIndex := 79, descriptorIndex := 8, attributes := #[] }, { accessFlags := 10, nameIndex := 27, descriptorIndex := 28, attributes := #[] }, { accessFlags := 2, nameIndex := 31, descriptorIndex := 32, attributes := #[] }] 48 4 #[] #[{ accessFlags := 26, nameIndex := 65, descriptorIndex := 21, attributes := #[] }, { accessFlags := 26, nameIndex := 68, descriptorIndex := 21, attributes := #[] }, { accessFlags := 2, nameIndex := 13, descriptorIndex := 14, attributes := #[] }, { accessFlags := 2, nameIndex := 17, descriptorIndex := 14, attributes := #[] }, { accessFlags := 2, nameIndex := 20, descriptorIndex := 21, attributes := #[] }])
  fields := #[{ name := "INITIAL_CAPACITY", type := .int, accessFlags := 26, slot := 0, constantValue := 0 }, { name := "MAX_CAPACITY", type := .int, accessFlags := 26, slot := 1, constantValue := 0 }, { name := "deliverAts", type := (.array .long), accessFlags := 2, slot := 0, constantValue := 0 }, { name := "entryIds", type := (.array .long), accessFlags := 2, slot := 1, constantValue := 0 }, { name := "size", type := .int, accessFlags := 2, slot := 2, constantValue := 0 }]
  methods := #[k2m0, k2m1, k2m2, k2m3, k2m4, k2m5, k2m6, k2m7]
  instanceTypes := #[(.array .long), (.array .long), .int]
  staticTypes := #[.int, .int]
  resolved := Array.replicate 97 none
  statics := none }

def pool3 : Array CpInfo := pool [(1, u "java/lang/Cloneable"), (0, .class_ 1), (0, u "java/lang/Object"), (0, .class_ 3)] 3

/-- java/lang/Cloneable -/
def k3 : Class := { plain "java/lang/Cloneable" (some 0) with
  accessFlags := 1537
  interfaces := #[]
  cf := some (fileOf pool3 2 #[] #[] 1537 4 #[] #[])
  fields := #[]
  methods := #[]
  instanceTypes := #[]
  staticTypes := #[]
  resolved := Array.replicate 8 none
  statics := none }

def pool4 : Array CpInfo := pool [(1, u "java/io/Serializable"), (0, .class_ 1), (0, u "java/lang/Object"), (0, .class_ 3)] 3

/-- java/io/Serializable -/
def k4 : Class := { plain "java/io/Serializable" (some 0) with
  accessFlags := 1537
  interfaces := #[]
  cf := some (fileOf pool4 2 #[] #[] 1537 4 #[] #[])
  fields := #[]
  methods := #[]
  instanceTypes := #[]
  staticTypes := #[]
  resolved := Array.replicate 8 none
  statics := none }

/-- the primitive byte -/
def k5 : Class := { plain "byte" none with kind := .primitive 'B', accessFlags := 0x411 }
/-- [B -/
def k6 : Class := { plain "[B" (some 0) with kind := .array 5 .byte, interfaces := #[3, 4], accessFlags := 1041 }

/-- the primitive int -/
def k7 : Class := { plain "int" none with kind := .primitive 'I', accessFlags := 0x411 }
/-- [I -/
def k8 : Class := { plain "[I" (some 0) with kind := .array 7 .int, interfaces := #[3, 4], accessFlags := 1041 }

/-- the primitive long -/
def k9 : Class := { plain "long" none with kind := .primitive 'J', accessFlags := 0x411 }
/-- [J -/
def k10 : Class := { plain "[J" (some 0) with kind := .array 9 .long, interfaces := #[3, 4], accessFlags := 1041 }

def heap : Heap := #[]
def classes : Array Class := #[k0, k1, k2, k3, k4, k5, k6, k7, k8, k9, k10]
def interned : List (Array UInt16 × Addr) := []
def slotsUsed : Nat := 0
def theMethod : MethodId := ⟨1, 1⟩
def args0 : Array Value := #[.long 5, .long 6, .long 7, .long 8, .int 3]
def aboutOver (below : List Frame) : State where
  vm := { classes := classes, interned := interned.toArray }
  heap := heap
  slotsUsed := slotsUsed
  threads := #[{ frames := .invoking theMethod args0 :: below }]
def below0 : List Frame := [.native { method := ⟨0, 0⟩, args := #[] }]
def about1 : State := aboutOver below0
def p0 : Program := .bare "" "" ""
def e0 : Env := launch0.env 0 0 0
theorem w_frames : about1.frames = Frame.invoking theMethod args0 :: below0 := rfl
set_option maxRecDepth 65536 in
theorem w_args : argsFit about1.vm theMethod args0 = true := by decide +kernel
set_option maxRecDepth 65536 in
theorem w_heap : heapFits about1 = true := by decide +kernel
set_option maxRecDepth 65536 in
theorem w_runnable : about1.curStatus? = some .runnable := by decide +kernel
set_option maxRecDepth 65536 in
theorem w_alone : about1.alone = true := by decide +kernel
set_option maxRecDepth 65536 in
theorem w_named : about1.methodNamed? x = some theMethod := by decide +kernel
set_option maxRecDepth 65536 in
theorem w_hears : about1.hears theMethod below0 = true := by decide +kernel
set_option maxRecDepth 65536 in
theorem w_ripe : about1.ripe theMethod args0 below0 = true := by decide +kernel
theorem w_running : about1.status = .running := rfl
set_option maxRecDepth 65536 in
theorem w_room : about1.hasRoom e0.platform room_1 = true :=
  launch0.hasRoom_least _ room_1 (by decide +kernel) (by decide +kernel) (by decide +kernel) (by decide +kernel) (by decide +kernel) (by decide +kernel)
theorem allAtoms_all (ts : List Jvm.Cond) (a : Array Jvm.Value) (st : Jvm.State) : (allAtoms ts).before a st = ts.all (fun c => c.before a st) := by
  induction ts with
  | nil => rfl
  | cons c t ih =>
    show (Jvm.Cond.and c (allAtoms t)).before a st = _
    rw [Jvm.Cond.before_and, ih, List.all_cons]
def words1 : List Jvm.Cond := Jvm.Cond.code x code maxLocals ret :: tables_1
/-- a 'code' word, met by the world's own term for the bytes: nothing is compared byte by byte -/
theorem code_word {y : MethodName} {bytes : ByteArray} {mx : Nat} {rt : Option FieldType} {a : Array Value} {s : State} {m : MethodId} {meth : Method} {c : Code} (h1 : s.methodNamed? y = some m) (h2 : s.vm.method? m = some meth) (h3 : meth.code = some c) (h4 : c.code = bytes)
    (h5 : (c.maxLocals == mx && c.exceptionTable.isEmpty && decide (c.maxStack ≤ mostOperands) && decide (meth.sig.returnType = rt) && !meth.locks && decide (parseMethodDescriptor y.desc = some meth.sig)) = true) : (Jvm.Cond.code y bytes mx rt).before a s = true := by
  simp only [Bool.and_eq_true, beq_iff_eq, Bool.not_eq_true', decide_eq_true_eq] at h5
  obtain ⟨⟨⟨⟨⟨g1, g2⟩, g3⟩, g4⟩, g5⟩, g6⟩ := h5
  simp [Cond.before, Cond.holds, Cond.value, h1, h2, h3, h4, g1, g2, g3, g4, g5, g6]
def isCode : Jvm.Cond → Bool
  | .code _ _ _ _ => true
  | _ => false
theorem all_split {L : List Jvm.Cond} {P : Jvm.Cond → Bool} (h1 : L.all (fun c => isCode c || P c) = true) (h2 : ∀ c ∈ L.filter isCode, P c = true) : L.all P = true := by
  refine List.all_eq_true.mpr fun c hc => ?_
  have h := List.all_eq_true.mp h1 c hc
  rcases Bool.eq_false_or_eq_true (isCode c) with hi | hi
  · exact h2 c (List.mem_filter.mpr ⟨hc, hi⟩)
  · simpa [hi] using h
set_option maxRecDepth 65536 in
theorem w_c0 : (Jvm.Cond.code x code maxLocals ret).before args0 about1 = true := code_word (m := ⟨1, 1⟩) (meth := k1m1) (c := k1c1) (by decide +kernel) rfl rfl rfl (by decide +kernel)
set_option maxRecDepth 65536 in
theorem w_c1 : (Jvm.Cond.code ({ cls := "com/example/mark_delete/markdelete/broker/DelayedMessages", name := "<init>", desc := "()V" } : Jvm.MethodName) prog_4_method_1_code (1 : Nat) (Option.none : Option Jvm.ClassFile.FieldType)).before args0 about1 = true := code_word (m := ⟨2, 0⟩) (meth := k2m0) (c := k2c0) (by decide +kernel) rfl rfl rfl (by decide +kernel)
set_option maxRecDepth 65536 in
theorem w_c2 : (Jvm.Cond.code ({ cls := "java/lang/Object", name := "<init>", desc := "()V" } : Jvm.MethodName) object_method_1_code (1 : Nat) (Option.none : Option Jvm.ClassFile.FieldType)).before args0 about1 = true := code_word (m := ⟨0, 0⟩) (meth := k0m0) (c := k0c0) (by decide +kernel) rfl rfl rfl (by decide +kernel)
set_option maxRecDepth 65536 in
theorem w_c3 : (Jvm.Cond.code ({ cls := "com/example/mark_delete/markdelete/broker/DelayedMessages", name := "add", desc := "(JJ)V" } : Jvm.MethodName) prog_4_method_3_code (6 : Nat) (Option.none : Option Jvm.ClassFile.FieldType)).before args0 about1 = true := code_word (m := ⟨2, 2⟩) (meth := k2m2) (c := k2c2) (by decide +kernel) rfl rfl rfl (by decide +kernel)
set_option maxRecDepth 65536 in
theorem w_c4 : (Jvm.Cond.code ({ cls := "com/example/mark_delete/markdelete/broker/DelayedMessages", name := "parent", desc := "(I)I" } : Jvm.MethodName) prog_4_method_7_code (1 : Nat) (Option.some Jvm.ClassFile.FieldType.int)).before args0 about1 = true := code_word (m := ⟨2, 6⟩) (meth := k2m6) (c := k2c6) (by decide +kernel) rfl rfl rfl (by decide +kernel)
set_option maxRecDepth 65536 in
theorem w_c5 : (Jvm.Cond.code ({ cls := "com/example/mark_delete/markdelete/broker/DelayedMessages", name := "move", desc := "(II)V" } : Jvm.MethodName) prog_4_method_8_code (3 : Nat) (Option.none : Option Jvm.ClassFile.FieldType)).before args0 about1 = true := code_word (m := ⟨2, 7⟩) (meth := k2m7) (c := k2c7) (by decide +kernel) rfl rfl rfl (by decide +kernel)
set_option maxRecDepth 65536 in
theorem w_c6 : (Jvm.Cond.code ({ cls := "com/example/mark_delete/markdelete/broker/DelayedMessages", name := "clear", desc := "()V" } : Jvm.MethodName) prog_4_method_6_code (1 : Nat) (Option.none : Option Jvm.ClassFile.FieldType)).before args0 about1 = true := code_word (m := ⟨2, 5⟩) (meth := k2m5) (c := k2c5) (by decide +kernel) rfl rfl rfl (by decide +kernel)
set_option maxRecDepth 65536 in
theorem w_c7 : (Jvm.Cond.code ({ cls := "com/example/mark_delete/markdelete/broker/DelayedMessages", name := "isEmpty", desc := "()Z" } : Jvm.MethodName) prog_4_method_2_code (1 : Nat) (Option.some Jvm.ClassFile.FieldType.boolean)).before args0 about1 = true := code_word (m := ⟨2, 1⟩) (meth := k2m1) (c := k2c1) (by decide +kernel) rfl rfl rfl (by decide +kernel)
set_option maxRecDepth 65536 in
theorem w_c8 : (Jvm.Cond.code ({ cls := "com/example/mark_delete/markdelete/broker/DelayedMessages", name := "earliestDeliverAt", desc := "()J" } : Jvm.MethodName) prog_4_method_4_code (1 : Nat) (Option.some Jvm.ClassFile.FieldType.long)).before args0 about1 = true := code_word (m := ⟨2, 3⟩) (meth := k2m3) (c := k2c3) (by decide +kernel) rfl rfl rfl (by decide +kernel)
set_option maxRecDepth 65536 in
theorem w_c9 : (Jvm.Cond.code ({ cls := "com/example/mark_delete/markdelete/broker/DelayedMessages", name := "takeEarliest", desc := "()J" } : Jvm.MethodName) prog_4_method_5_code (9 : Nat) (Option.some Jvm.ClassFile.FieldType.long)).before args0 about1 = true := code_word (m := ⟨2, 4⟩) (meth := k2m4) (c := k2c4) (by decide +kernel) rfl rfl rfl (by decide +kernel)
def codes1 : List Jvm.Cond := [Jvm.Cond.code x code maxLocals ret, Jvm.Cond.code ({ cls := "com/example/mark_delete/markdelete/broker/DelayedMessages", name := "<init>", desc := "()V" } : Jvm.MethodName) prog_4_method_1_code (1 : Nat) (Option.none : Option Jvm.ClassFile.FieldType), Jvm.Cond.code ({ cls := "java/lang/Object", name := "<init>", desc := "()V" } : Jvm.MethodName) object_method_1_code (1 : Nat) (Option.none : Option Jvm.ClassFile.FieldType), Jvm.Cond.code ({ cls := "com/example/mark_delete/markdelete/broker/DelayedMessages", name := "add", desc := "(JJ)V" } : Jvm.MethodName) prog_4_method_3_code (6 : Nat) (Option.none : Option Jvm.ClassFile.FieldType), Jvm.Cond.code ({ cls := "com/example/mark_delete/markdelete/broker/DelayedMessages", name := "parent", desc := "(I)I" } : Jvm.MethodName) prog_4_method_7_code (1 : Nat) (Option.some Jvm.ClassFile.FieldType.int), Jvm.Cond.code ({ cls := "com/example/mark_delete/markdelete/broker/DelayedMessages", name := "move", desc := "(II)V" } : Jvm.MethodName) prog_4_method_8_code (3 : Nat) (Option.none : Option Jvm.ClassFile.FieldType), Jvm.Cond.code ({ cls := "com/example/mark_delete/markdelete/broker/DelayedMessages", name := "clear", desc := "()V" } : Jvm.MethodName) prog_4_method_6_code (1 : Nat) (Option.none : Option Jvm.ClassFile.FieldType), Jvm.Cond.code ({ cls := "com/example/mark_delete/markdelete/broker/DelayedMessages", name := "isEmpty", desc := "()Z" } : Jvm.MethodName) prog_4_method_2_code (1 : Nat) (Option.some Jvm.ClassFile.FieldType.boolean), Jvm.Cond.code ({ cls := "com/example/mark_delete/markdelete/broker/DelayedMessages", name := "earliestDeliverAt", desc := "()J" } : Jvm.MethodName) prog_4_method_4_code (1 : Nat) (Option.some Jvm.ClassFile.FieldType.long), Jvm.Cond.code ({ cls := "com/example/mark_delete/markdelete/broker/DelayedMessages", name := "takeEarliest", desc := "()J" } : Jvm.MethodName) prog_4_method_5_code (9 : Nat) (Option.some Jvm.ClassFile.FieldType.long)]
set_option maxRecDepth 65536 in
theorem codes_eq : words1.filter isCode = codes1 := rfl
theorem w_codes : ∀ c ∈ words1.filter isCode, c.before args0 about1 = true := by
  rw [codes_eq]
  intro c hc
  simp only [codes1, List.mem_cons, List.not_mem_nil, or_false] at hc
  rcases hc with rfl | rfl | rfl | rfl | rfl | rfl | rfl | rfl | rfl | rfl
  · exact w_c0
  · exact w_c1
  · exact w_c2
  · exact w_c3
  · exact w_c4
  · exact w_c5
  · exact w_c6
  · exact w_c7
  · exact w_c8
  · exact w_c9
set_option maxRecDepth 65536 in
theorem w_t1 : (words1.take 24).all (fun c => isCode c || c.before args0 about1) = true := by decide +kernel
set_option maxRecDepth 65536 in
theorem w_t2 : ((words1.drop 24).take 24).all (fun c => isCode c || c.before args0 about1) = true := by decide +kernel
set_option maxRecDepth 65536 in
theorem w_t3 : ((words1.drop 24).drop 24).all (fun c => isCode c || c.before args0 about1) = true := by decide +kernel
theorem w_tables : (allAtoms (Jvm.Cond.code x code maxLocals ret :: tables_1)).before args0 about1 = true := by
  rw [allAtoms_all]
  show words1.all (fun c => c.before args0 about1) = true
  refine all_split ?_ w_codes
  rw [← List.take_append_drop 24 words1, List.all_append, w_t1, ← List.take_append_drop 24 (words1.drop 24), List.all_append, w_t2, w_t3]
  rfl
set_option maxRecDepth 65536 in
theorem w_case : (Jvm.Cond.and given_1 narrow_1).before args0 about1 = true := by decide +kernel
theorem w_applies : (headSpec (Jvm.Cond.code x code maxLocals ret :: tables_1) room_1).applies x e0.platform about1 = true :=
  (Spec.applies_iff w_frames).mpr ⟨w_running, w_runnable, w_alone, w_named, w_hears, w_ripe, w_room, w_tables⟩
theorem atStart : AtStart classFile x code maxLocals ret World_1 tables_1 room_1 Calls_1 rest_1 Pre_1 launch0 p0 e0 about1 theMethod args0 below0 :=
  ⟨lists_1, trivial, launch0.admits_env _ _ _, launch0.least_env, fairChoices_fair.cas, fairChoices_fair.clock, w_frames, w_args, w_heap, w_applies, trivial, trivial, w_case⟩
end start1
theorem witness_1 : WitnessClaimed_1 := ⟨start1.p0, start1.e0, start1.about1, start1.theMethod, start1.args0, start1.below0, start1.atStart⟩
end Jvm.Pilot.@@N@@
