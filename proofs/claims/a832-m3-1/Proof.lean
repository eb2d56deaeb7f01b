import JvmDerived
import JvmDerived.Pilot.@@N@@Statement
import JvmDerived.Pilot.@@N@@Code
set_option linter.unusedVariables false
set_option linter.unusedSimpArgs false
namespace Jvm.Pilot.@@N@@
open Jvm Jvm.ClassFile Sem Op Lib Jvm.Free Jvm.Stand Jvm.LawKit Jvm.RoadKit Bundle Jvm.Pilot.@@N@@.Jvm.D
/-- from S the method comes to its end, and what it leaves answers Q -/
def Rest (tb : Tables) (e : Env) (below : List Frame) (s : State) (Q : Option Value → Heap → List Loc → Prop) (k n : Nat) (S : State) : Prop :=
  ∃ t o, Steps tb e below S t ∧ t.status = .running ∧ Ended t below o ∧ ∃ v L, o = .returned v ∧ Q v t.heap L ∧ FrameEnd s o t L k n
theorem Rest.via {tb : Tables} {e : Env} {below : List Frame} {s : State} {Q : Option Value → Heap → List Loc → Prop} {k n : Nat} {S S' : State} (h : ∀ t, Steps tb e below S' t → Steps tb e below S t) (r : Rest tb e below s Q k n S') : Rest tb e below s Q k n S := by
  obtain ⟨t, o, h1, h2⟩ := r; exact ⟨t, o, h t h1, h2⟩
theorem Rest.ret {p : Program} {l : Launch} {e : Env} {R : Room} {s : State} {m : MethodId} {args : Array Value} {below : List Frame} {meth : Method} {c : Code} {T : State} {locs : List Loc} {cells slots : Nat} {Q : Option Value → Heap → List Loc → Prop} {k n : Nat} {S : State} {v : Option Value}
    (X : Stand p l e R s m args below meth c T locs cells slots) (hv : meth.sig.returnType = none → v = none) (hlocks : meth.locks = false)
    (st : ∀ fs, (∀ (f : JFrame) (acts : List Action), f.method = m → f.locked = none → f.entered = [] → (doReturn e (T.setTop f) acts v).1 = T.setFrames fs) → Steps p.tables e below S (T.setFrames fs))
    (hq : Q v T.heap locs) (hk : cells ≤ k) (hn : slots ≤ n) : Rest p.tables e below s Q k n S := by
  obtain ⟨fs, hr, hrun, hended, hW, hsame⟩ := X.leave (v := v) hv hlocks
  exact ⟨_, _, st fs hr, hrun, hended, _, _, rfl, hq, ⟨_, rfl⟩, hW, hsame.mono hk hn⟩
def own_by (c : Int32) : Int32 := c.toInt8.toInt32
theorem own_by_nar (c : Int32) : (c.toInt8.toInt32).toInt8.toInt32 = own_by c := by
  show (c.toInt8.toInt32).toInt8.toInt32 = c.toInt8.toInt32
  simp
def own_CS (Z : State) (ic : Int32) : Prop := Sta Z Z.heap "java/lang/String" "COMPACT_STRINGS" "Z" (.int ic) ∧ ¬ (ic = (0 : Int32))
def own_St (Z : State) (h : Heap) (t va : Addr) (k : ClassId) (n : Int32) (vs : List Value) : Prop := Exa Z h t "java/lang/String" ∧ Fld Z h t "java/lang/String" "value" "[B" (.ref va) ∧ Fld Z h t "java/lang/String" "coder" "B" (.int (0 : Int32)) ∧ Arv Z h va k .byte n vs (.int (0 : Int32))
theorem own_St_ext {Z : State} {h h' : Heap} {t va : Addr} {k : ClassId} {n : Int32} {vs : List Value} (E : Ext h h') (F : own_St Z h t va k n vs) : own_St Z h' t va k n vs := by
  obtain ⟨a, b, c, d⟩ := F
  exact ⟨a.ext E, b.ext E, c.ext E, d.ext E⟩
theorem own_St_keep {Z : State} {h h' : Heap} {t va : Addr} {k : ClassId} {n : Int32} {vs : List Value} {ws : List Addr} (F : own_St Z h t va k n vs) (K : Keep h h' ws) (q1 : t ∉ ws) (q2 : va ∉ ws) : own_St Z h' t va k n vs := by
  obtain ⟨a, b, c, d⟩ := F
  exact ⟨a.keep K, b.keep K q1, c.keep K q1, d.keep K q2⟩
theorem own_ite1 {P : Prop} [Decidable P] (h : ¬ (if P then (1 : Int32) else 0) = (0 : Int32)) : (if P then (1 : Int32) else 0) = (1 : Int32) := by
  by_cases q : P
  · rw [if_pos q]
  · rw [if_neg q] at h; exact absurd rfl h
theorem d5_0 : decode jdk_52_method_21_code 0 = .ok (.iconst 0, 1) := by decide +kernel
theorem d5_1 : decode jdk_52_method_21_code 1 = .ok (.istore 5, 2) := by decide +kernel
theorem d5_3 : decode jdk_52_method_21_code 3 = .ok (.iload 5, 2) := by decide +kernel
theorem d5_5 : decode jdk_52_method_21_code 5 = .ok (.iload 4, 2) := by decide +kernel
theorem d5_7 : decode jdk_52_method_21_code 7 = .ok (.if_icmp .ge 37, 3) := by decide +kernel
theorem d5_10 : decode jdk_52_method_21_code 10 = .ok (.aload_n 0, 1) := by decide +kernel
theorem d5_11 : decode jdk_52_method_21_code 11 = .ok (.iload_n 1, 1) := by decide +kernel
theorem d5_12 : decode jdk_52_method_21_code 12 = .ok (.caload, 1) := by decide +kernel
theorem d5_13 : decode jdk_52_method_21_code 13 = .ok (.istore 6, 2) := by decide +kernel
theorem d5_15 : decode jdk_52_method_21_code 15 = .ok (.iload 6, 2) := by decide +kernel
theorem d5_17 : decode jdk_52_method_21_code 17 = .ok (.sipush 255, 3) := by decide +kernel
theorem d5_20 : decode jdk_52_method_21_code 20 = .ok (.if_icmp .le 6, 3) := by decide +kernel
theorem d5_26 : decode jdk_52_method_21_code 26 = .ok (.aload_n 2, 1) := by decide +kernel
theorem d5_27 : decode jdk_52_method_21_code 27 = .ok (.iload_n 3, 1) := by decide +kernel
theorem d5_28 : decode jdk_52_method_21_code 28 = .ok (.iload 6, 2) := by decide +kernel
theorem d5_30 : decode jdk_52_method_21_code 30 = .ok (.i2b, 1) := by decide +kernel
theorem d5_31 : decode jdk_52_method_21_code 31 = .ok (.bastore, 1) := by decide +kernel
theorem d5_32 : decode jdk_52_method_21_code 32 = .ok (.iinc 1 1, 3) := by decide +kernel
theorem d5_35 : decode jdk_52_method_21_code 35 = .ok (.iinc 3 1, 3) := by decide +kernel
theorem d5_38 : decode jdk_52_method_21_code 38 = .ok (.iinc 5 1, 3) := by decide +kernel
theorem d5_41 : decode jdk_52_method_21_code 41 = .ok (.goto (-38), 3) := by decide +kernel
theorem d5_44 : decode jdk_52_method_21_code 44 = .ok (.iload 4, 2) := by decide +kernel
theorem d5_46 : decode jdk_52_method_21_code 46 = .ok (.ireturn, 1) := by decide +kernel
theorem pn_0 : plainName "java/lang/StringUTF16" = true := by first | (simp [plainName, overriddenIn]; done) | decide +kernel
theorem ef_U5 (m : MethodId) (a0 : Addr) (a2 : Addr) : entryFrame m #[(.ref a0), (.int (0 : Int32)), (.ref a2), (.int (0 : Int32)), (.int (5 : Int32))] 7 = mkF m 0 #[.val (.ref a0), .val (.int (0 : Int32)), .val (.ref a2), .val (.int (0 : Int32)), .val (.int (5 : Int32)), .unset, .unset] [] := by first | (simp [entryFrame, mkF, argsToLocals, Value.category, maxLocals]; done) | rfl
def QU5 (Z : State) (a0 : Addr) (a2 : Addr) (kc : ClassId) (kb : ClassId) (ca : Int32) (cb : Int32) (cc : Int32) (cd : Int32) (ce : Int32) (h0 : Heap) (n0 : Nat) (v : Option Value) (h : Heap) (L : List Loc) : Prop := v = some (.int (5 : Int32)) ∧ Fr n0 L ∧ Keep h0 h [a2] ∧ Arv Z h a2 kb .byte (5 : Int32) [(.int (own_by ca)), (.int (own_by cb)), (.int (own_by cc)), (.int (own_by cd)), (.int (own_by ce))] (.int (0 : Int32))
set_option maxRecDepth 65536 in
set_option maxHeartbeats 40000000 in
theorem rmU5 (l : Launch) (Z : State) (aw : Array Value) (hw : ∀ d ∈ tables_1, d.before aw Z = true) (ws : List Jvm.Cond) (a0 : Addr) (a2 : Addr) (kc : ClassId) (kb : ClassId) (ca : Int32) (cb : Int32) (cc : Int32) (cd : Int32) (ce : Int32) (h0 : Heap) (n0 : Nat) (Z0 : n0 ≤ h0.size) (V0 : Arv Z h0 a0 kc .char (5 : Int32) [(.int ca), (.int cb), (.int cc), (.int cd), (.int ce)] (.int (0 : Int32))) (V2 : Arv Z h0 a2 kb .byte (5 : Int32) [(.int (0 : Int32)), (.int (0 : Int32)), (.int (0 : Int32)), (.int (0 : Int32)), (.int (0 : Int32))] (.int (0 : Int32))) (n02 : a0 ≠ a2) (g_a2 : n0 ≤ a2) (hca : ¬ ((255 : Int32) < ca)) (hcb : ¬ ((255 : Int32) < cb)) (hcc : ¬ ((255 : Int32) < cc)) (hcd : ¬ ((255 : Int32) < cd)) (hce : ¬ ((255 : Int32) < ce)) :
    MetFree l (⟨"java/lang/StringUTF16", "compress", "([CI[BII)I"⟩ : MethodName) (head1 (Jvm.Cond.code (⟨"java/lang/StringUTF16", "compress", "([CI[BII)I"⟩ : MethodName) jdk_52_method_21_code 7 (some .int) :: ws) ({ frames := 0, cells := 0, slots := 0, locals := 0 } : Room)) (fun a U => a = #[(.ref a0), (.int (0 : Int32)), (.ref a2), (.int (0 : Int32)), (.int (5 : Int32))] ∧ Z.Warmed39 U.vm ∧ U.heap = h0) (fun _ _ _ _ _ => True) (fun _ U o U' => ∃ v L, o = .returned v ∧ QU5 Z a0 a2 kc kb ca cb cc cd ce h0 n0 v U'.heap L ∧ FrameEnd U o U' L ({ frames := 0, cells := 0, slots := 0, locals := 0 } : Room).cells ({ frames := 0, cells := 0, slots := 0, locals := 0 } : Room).slots) := by
  refine MetFree.of_bodySF (plainFor_of_name pn_0) hisR ?_
  intro p e s m args below meth c s₁ Bd hml0 hP hK
  obtain ⟨rfl, hZ, hh⟩ := hP
  have hx := Bd.exec
  have hby := Bd.bytes
  have hml : c.maxLocals = 7 := hml0
  have hown : s.vm.findClass "java/lang/StringUTF16" = some m.cls := findClass_of_methodNamed Bd.named
  have hnm := (name_of_methodNamed Bd.named Bd.method).1
  have hlk : meth.locks = false := BodyLoose.notSynchronized Bd
  have X0 : Stand p l e ({ frames := 0, cells := 0, slots := 0, locals := 0 } : Room) s m #[(.ref a0), (.int (0 : Int32)), (.ref a2), (.int (0 : Int32)), (.int (5 : Int32))] below meth c s₁ [] 0 0 := Stand.of_body Bd
  have eh0 : s₁.heap = h0 := by rw [← hh, Bd.state]; rfl
  have N0 := Fr.nil n0
  show Rest p.tables e below s (QU5 Z a0 a2 kc kb ca cb cc cd ce h0 n0) _ _ (s₁.setTop (entryFrame m #[(.ref a0), (.int (0 : Int32)), (.ref a2), (.int (0 : Int32)), (.int (5 : Int32))] 7))
  refine Rest.via (fun t k => castTop (ef_U5 m a0 a2) k) ?_
  show Rest p.tables e below s _ _ _ (s₁.setTop (mkF m 0 #[.val (.ref a0), .val (.int (0 : Int32)), .val (.ref a2), .val (.int (0 : Int32)), .val (.int (5 : Int32)), .unset, .unset] []))
  refine Rest.via (fun t k => XS.iconst X0.here hx rfl (hb hby d5_0) k) ?_
  show Rest p.tables e below s _ _ _ (s₁.setTop (mkF m 1 #[.val (.ref a0), .val (.int (0 : Int32)), .val (.ref a2), .val (.int (0 : Int32)), .val (.int (5 : Int32)), .unset, .unset] [(.int (0 : Int32))]))
  refine Rest.via (fun t k => XS.istore X0.here hx rfl (hb hby d5_1) rfl (l' := #[.val (.ref a0), .val (.int (0 : Int32)), .val (.ref a2), .val (.int (0 : Int32)), .val (.int (5 : Int32)), .val (.int (0 : Int32)), .unset]) rfl k) ?_
  show Rest p.tables e below s _ _ _ (s₁.setTop (mkF m 3 #[.val (.ref a0), .val (.int (0 : Int32)), .val (.ref a2), .val (.int (0 : Int32)), .val (.int (5 : Int32)), .val (.int (0 : Int32)), .unset] []))
  refine Rest.via (fun t k => XS.iload X0.here hx rfl (hb hby d5_3) rfl k) ?_
  show Rest p.tables e below s _ _ _ (s₁.setTop (mkF m 5 #[.val (.ref a0), .val (.int (0 : Int32)), .val (.ref a2), .val (.int (0 : Int32)), .val (.int (5 : Int32)), .val (.int (0 : Int32)), .unset] [(.int (0 : Int32))]))
  refine Rest.via (fun t k => XS.iload X0.here hx rfl (hb hby d5_5) rfl k) ?_
  show Rest p.tables e below s _ _ _ (s₁.setTop (mkF m 7 #[.val (.ref a0), .val (.int (0 : Int32)), .val (.ref a2), .val (.int (0 : Int32)), .val (.int (5 : Int32)), .val (.int (0 : Int32)), .unset] [(.int (5 : Int32)), (.int (0 : Int32))]))
  refine Rest.via (fun t k => XS.icmpNo X0.here hx rfl (hb hby d5_7) rfl (tlt (by decide : (0 : Int32) < (5 : Int32))).2.1 k) ?_
  show Rest p.tables e below s _ _ _ (s₁.setTop (mkF m 10 #[.val (.ref a0), .val (.int (0 : Int32)), .val (.ref a2), .val (.int (0 : Int32)), .val (.int (5 : Int32)), .val (.int (0 : Int32)), .unset] []))
  refine Rest.via (fun t k => XS.aloadN X0.here hx rfl (hb hby d5_10) rfl rfl k) ?_
  show Rest p.tables e below s _ _ _ (s₁.setTop (mkF m 11 #[.val (.ref a0), .val (.int (0 : Int32)), .val (.ref a2), .val (.int (0 : Int32)), .val (.int (5 : Int32)), .val (.int (0 : Int32)), .unset] [(.ref a0)]))
  refine Rest.via (fun t k => XS.iloadN X0.here hx rfl (hb hby d5_11) rfl k) ?_
  show Rest p.tables e below s _ _ _ (s₁.setTop (mkF m 12 #[.val (.ref a0), .val (.int (0 : Int32)), .val (.ref a2), .val (.int (0 : Int32)), .val (.int (5 : Int32)), .val (.int (0 : Int32)), .unset] [(.int (0 : Int32)), (.ref a0)]))
  obtain ⟨cl1, Ar1, qa1, Sa1, Pa1, Ha1, Ga1⟩ := id V0
  have hin1 := inb_of (j := (0 : Int32)) Sa1 ⟨by decide, by decide⟩
  have hat1 : cl1.slots[((0 : Int32)).toNatClampNeg]? = some (.int ca) := Has.at Ha1 hin1 rfl
  refine Rest.via (fun t k => X0.caload hx (j := (0 : Int32)) (v := (.int ca)) (by rw [eh0]; exact Ar1.1) (State.isArrayOf_alike hZ.alike Ar1.2.1) Ar1.2.2 hin1 hat1 (g := (mkF m 12 #[.val (.ref a0), .val (.int (0 : Int32)), .val (.ref a2), .val (.int (0 : Int32)), .val (.int (5 : Int32)), .val (.int (0 : Int32)), .unset] [(.int (0 : Int32)), (.ref a0)])) rfl rfl (hb hby d5_12) t k) ?_
  show Rest p.tables e below s _ _ _ (s₁.setTop (mkF m 13 #[.val (.ref a0), .val (.int (0 : Int32)), .val (.ref a2), .val (.int (0 : Int32)), .val (.int (5 : Int32)), .val (.int (0 : Int32)), .unset] [(.int ca)]))
  refine Rest.via (fun t k => XS.istore X0.here hx rfl (hb hby d5_13) rfl (l' := #[.val (.ref a0), .val (.int (0 : Int32)), .val (.ref a2), .val (.int (0 : Int32)), .val (.int (5 : Int32)), .val (.int (0 : Int32)), .val (.int ca)]) rfl k) ?_
  show Rest p.tables e below s _ _ _ (s₁.setTop (mkF m 15 #[.val (.ref a0), .val (.int (0 : Int32)), .val (.ref a2), .val (.int (0 : Int32)), .val (.int (5 : Int32)), .val (.int (0 : Int32)), .val (.int ca)] []))
  refine Rest.via (fun t k => XS.iload X0.here hx rfl (hb hby d5_15) rfl k) ?_
  show Rest p.tables e below s _ _ _ (s₁.setTop (mkF m 17 #[.val (.ref a0), .val (.int (0 : Int32)), .val (.ref a2), .val (.int (0 : Int32)), .val (.int (5 : Int32)), .val (.int (0 : Int32)), .val (.int ca)] [(.int ca)]))
  refine Rest.via (fun t k => XS.sipush X0.here hx rfl (hb hby d5_17) k) ?_
  show Rest p.tables e below s _ _ _ (s₁.setTop (mkF m 20 #[.val (.ref a0), .val (.int (0 : Int32)), .val (.ref a2), .val (.int (0 : Int32)), .val (.int (5 : Int32)), .val (.int (0 : Int32)), .val (.int ca)] [(.int (255 : Int32)), (.int ca)]))
  refine Rest.via (fun t k => XS.icmpYes X0.here hx rfl (pc0 := 20) (pc' := 26) rfl (hb hby d5_20) rfl (flt (hca : ¬ ((255 : Int32) < ca))).2.2.2 (by decide) (by decide) k) ?_
  show Rest p.tables e below s _ _ _ (s₁.setTop (mkF m 26 #[.val (.ref a0), .val (.int (0 : Int32)), .val (.ref a2), .val (.int (0 : Int32)), .val (.int (5 : Int32)), .val (.int (0 : Int32)), .val (.int ca)] []))
  refine Rest.via (fun t k => XS.aloadN X0.here hx rfl (hb hby d5_26) rfl rfl k) ?_
  show Rest p.tables e below s _ _ _ (s₁.setTop (mkF m 27 #[.val (.ref a0), .val (.int (0 : Int32)), .val (.ref a2), .val (.int (0 : Int32)), .val (.int (5 : Int32)), .val (.int (0 : Int32)), .val (.int ca)] [(.ref a2)]))
  refine Rest.via (fun t k => XS.iloadN X0.here hx rfl (hb hby d5_27) rfl k) ?_
  show Rest p.tables e below s _ _ _ (s₁.setTop (mkF m 28 #[.val (.ref a0), .val (.int (0 : Int32)), .val (.ref a2), .val (.int (0 : Int32)), .val (.int (5 : Int32)), .val (.int (0 : Int32)), .val (.int ca)] [(.int (0 : Int32)), (.ref a2)]))
  refine Rest.via (fun t k => XS.iload X0.here hx rfl (hb hby d5_28) rfl k) ?_
  show Rest p.tables e below s _ _ _ (s₁.setTop (mkF m 30 #[.val (.ref a0), .val (.int (0 : Int32)), .val (.ref a2), .val (.int (0 : Int32)), .val (.int (5 : Int32)), .val (.int (0 : Int32)), .val (.int ca)] [(.int ca), (.int (0 : Int32)), (.ref a2)]))
  refine Rest.via (fun t k => XS.i2b X0.here hx rfl (hb hby d5_30) rfl k) ?_
  show Rest p.tables e below s _ _ _ (s₁.setTop (mkF m 31 #[.val (.ref a0), .val (.int (0 : Int32)), .val (.ref a2), .val (.int (0 : Int32)), .val (.int (5 : Int32)), .val (.int (0 : Int32)), .val (.int ca)] [(.int (ca.toInt8.toInt32)), (.int (0 : Int32)), (.ref a2)]))
  obtain ⟨cl2, Ar2, qa2, Sa2, Pa2, Ha2, Ga2⟩ := id V2
  have hin2 := inb_of (j := (0 : Int32)) Sa2 ⟨by decide, by decide⟩
  obtain ⟨T2, h2, X2, e2, W2, st2⟩ := stB X0 hx hZ eh0 Ar2 (j := (0 : Int32)) hin2 (g := (mkF m 31 #[.val (.ref a0), .val (.int (0 : Int32)), .val (.ref a2), .val (.int (0 : Int32)), .val (.int (5 : Int32)), .val (.int (0 : Int32)), .val (.int ca)] [(.int (ca.toInt8.toInt32)), (.int (0 : Int32)), (.ref a2)])) rfl rfl (hb hby d5_31)
  refine Rest.via (fun t k => st2 t k) ?_
  have N2 := Fr.snoc X2 N0 g_a2
  have K2 : Keep h0 h2 [a2] := (Keep.refl h0 [a2]).wr W2 (Or.inl (List.mem_of_getElem? (i := 0) rfl))
  have V2 : Arv Z h2 a2 kb .byte (5 : Int32) [(.int (own_by ca)), (.int (0 : Int32)), (.int (0 : Int32)), (.int (0 : Int32)), (.int (0 : Int32))] (.int (0 : Int32)) := by have q := Arv.set Ar2 qa2 Sa2 Pa2 Ha2 Ga2 (fits_nar_byte _) W2 0 rfl (Nat.le_of_ble_eq_true rfl); rw [own_by_nar] at q; exact q
  show Rest p.tables e below s _ _ _ (T2.setTop (mkF m 32 #[.val (.ref a0), .val (.int (0 : Int32)), .val (.ref a2), .val (.int (0 : Int32)), .val (.int (5 : Int32)), .val (.int (0 : Int32)), .val (.int ca)] []))
  refine Rest.via (fun t k => XS.iinc X2.here hx rfl (hb hby d5_32) rfl (l' := #[.val (.ref a0), .val (.int ((0 : Int32) + (1 : Int32))), .val (.ref a2), .val (.int (0 : Int32)), .val (.int (5 : Int32)), .val (.int (0 : Int32)), .val (.int ca)]) rfl k) ?_
  show Rest p.tables e below s _ _ _ (T2.setTop (mkF m 35 #[.val (.ref a0), .val (.int ((0 : Int32) + (1 : Int32))), .val (.ref a2), .val (.int (0 : Int32)), .val (.int (5 : Int32)), .val (.int (0 : Int32)), .val (.int ca)] []))
  rw [(by decide : ((0 : Int32) + (1 : Int32)) = (1 : Int32))]
  show Rest p.tables e below s _ _ _ (T2.setTop (mkF m 35 #[.val (.ref a0), .val (.int (1 : Int32)), .val (.ref a2), .val (.int (0 : Int32)), .val (.int (5 : Int32)), .val (.int (0 : Int32)), .val (.int ca)] []))
  refine Rest.via (fun t k => XS.iinc X2.here hx rfl (hb hby d5_35) rfl (l' := #[.val (.ref a0), .val (.int (1 : Int32)), .val (.ref a2), .val (.int ((0 : Int32) + (1 : Int32))), .val (.int (5 : Int32)), .val (.int (0 : Int32)), .val (.int ca)]) rfl k) ?_
  show Rest p.tables e below s _ _ _ (T2.setTop (mkF m 38 #[.val (.ref a0), .val (.int (1 : Int32)), .val (.ref a2), .val (.int ((0 : Int32) + (1 : Int32))), .val (.int (5 : Int32)), .val (.int (0 : Int32)), .val (.int ca)] []))
  rw [(by decide : ((0 : Int32) + (1 : Int32)) = (1 : Int32))]
  show Rest p.tables e below s _ _ _ (T2.setTop (mkF m 38 #[.val (.ref a0), .val (.int (1 : Int32)), .val (.ref a2), .val (.int (1 : Int32)), .val (.int (5 : Int32)), .val (.int (0 : Int32)), .val (.int ca)] []))
  refine Rest.via (fun t k => XS.iinc X2.here hx rfl (hb hby d5_38) rfl (l' := #[.val (.ref a0), .val (.int (1 : Int32)), .val (.ref a2), .val (.int (1 : Int32)), .val (.int (5 : Int32)), .val (.int ((0 : Int32) + (1 : Int32))), .val (.int ca)]) rfl k) ?_
  show Rest p.tables e below s _ _ _ (T2.setTop (mkF m 41 #[.val (.ref a0), .val (.int (1 : Int32)), .val (.ref a2), .val (.int (1 : Int32)), .val (.int (5 : Int32)), .val (.int ((0 : Int32) + (1 : Int32))), .val (.int ca)] []))
  rw [(by decide : ((0 : Int32) + (1 : Int32)) = (1 : Int32))]
  show Rest p.tables e below s _ _ _ (T2.setTop (mkF m 41 #[.val (.ref a0), .val (.int (1 : Int32)), .val (.ref a2), .val (.int (1 : Int32)), .val (.int (5 : Int32)), .val (.int (1 : Int32)), .val (.int ca)] []))
  refine Rest.via (fun t k => XS.goto X2.here hx rfl (pc0 := 41) (pc' := 3) rfl (hb hby d5_41) (by decide) (by decide) k) ?_
  show Rest p.tables e below s _ _ _ (T2.setTop (mkF m 3 #[.val (.ref a0), .val (.int (1 : Int32)), .val (.ref a2), .val (.int (1 : Int32)), .val (.int (5 : Int32)), .val (.int (1 : Int32)), .val (.int ca)] []))
  refine Rest.via (fun t k => XS.iload X2.here hx rfl (hb hby d5_3) rfl k) ?_
  show Rest p.tables e below s _ _ _ (T2.setTop (mkF m 5 #[.val (.ref a0), .val (.int (1 : Int32)), .val (.ref a2), .val (.int (1 : Int32)), .val (.int (5 : Int32)), .val (.int (1 : Int32)), .val (.int ca)] [(.int (1 : Int32))]))
  refine Rest.via (fun t k => XS.iload X2.here hx rfl (hb hby d5_5) rfl k) ?_
  show Rest p.tables e below s _ _ _ (T2.setTop (mkF m 7 #[.val (.ref a0), .val (.int (1 : Int32)), .val (.ref a2), .val (.int (1 : Int32)), .val (.int (5 : Int32)), .val (.int (1 : Int32)), .val (.int ca)] [(.int (5 : Int32)), (.int (1 : Int32))]))
  refine Rest.via (fun t k => XS.icmpNo X2.here hx rfl (hb hby d5_7) rfl (tlt (by decide : (1 : Int32) < (5 : Int32))).2.1 k) ?_
  show Rest p.tables e below s _ _ _ (T2.setTop (mkF m 10 #[.val (.ref a0), .val (.int (1 : Int32)), .val (.ref a2), .val (.int (1 : Int32)), .val (.int (5 : Int32)), .val (.int (1 : Int32)), .val (.int ca)] []))
  refine Rest.via (fun t k => XS.aloadN X2.here hx rfl (hb hby d5_10) rfl rfl k) ?_
  show Rest p.tables e below s _ _ _ (T2.setTop (mkF m 11 #[.val (.ref a0), .val (.int (1 : Int32)), .val (.ref a2), .val (.int (1 : Int32)), .val (.int (5 : Int32)), .val (.int (1 : Int32)), .val (.int ca)] [(.ref a0)]))
  refine Rest.via (fun t k => XS.iloadN X2.here hx rfl (hb hby d5_11) rfl k) ?_
  show Rest p.tables e below s _ _ _ (T2.setTop (mkF m 12 #[.val (.ref a0), .val (.int (1 : Int32)), .val (.ref a2), .val (.int (1 : Int32)), .val (.int (5 : Int32)), .val (.int (1 : Int32)), .val (.int ca)] [(.int (1 : Int32)), (.ref a0)]))
  obtain ⟨cl3, Ar3, qa3, Sa3, Pa3, Ha3, Ga3⟩ := id (V0.other W2 n02)
  have hin3 := inb_of (j := (1 : Int32)) Sa3 ⟨by decide, by decide⟩
  have hat3 : cl3.slots[((1 : Int32)).toNatClampNeg]? = some (.int cb) := Has.at Ha3 hin3 rfl
  refine Rest.via (fun t k => X2.caload hx (j := (1 : Int32)) (v := (.int cb)) (by rw [e2]; exact Ar3.1) (State.isArrayOf_alike hZ.alike Ar3.2.1) Ar3.2.2 hin3 hat3 (g := (mkF m 12 #[.val (.ref a0), .val (.int (1 : Int32)), .val (.ref a2), .val (.int (1 : Int32)), .val (.int (5 : Int32)), .val (.int (1 : Int32)), .val (.int ca)] [(.int (1 : Int32)), (.ref a0)])) rfl rfl (hb hby d5_12) t k) ?_
  show Rest p.tables e below s _ _ _ (T2.setTop (mkF m 13 #[.val (.ref a0), .val (.int (1 : Int32)), .val (.ref a2), .val (.int (1 : Int32)), .val (.int (5 : Int32)), .val (.int (1 : Int32)), .val (.int ca)] [(.int cb)]))
  refine Rest.via (fun t k => XS.istore X2.here hx rfl (hb hby d5_13) rfl (l' := #[.val (.ref a0), .val (.int (1 : Int32)), .val (.ref a2), .val (.int (1 : Int32)), .val (.int (5 : Int32)), .val (.int (1 : Int32)), .val (.int cb)]) rfl k) ?_
  show Rest p.tables e below s _ _ _ (T2.setTop (mkF m 15 #[.val (.ref a0), .val (.int (1 : Int32)), .val (.ref a2), .val (.int (1 : Int32)), .val (.int (5 : Int32)), .val (.int (1 : Int32)), .val (.int cb)] []))
  refine Rest.via (fun t k => XS.iload X2.here hx rfl (hb hby d5_15) rfl k) ?_
  show Rest p.tables e below s _ _ _ (T2.setTop (mkF m 17 #[.val (.ref a0), .val (.int (1 : Int32)), .val (.ref a2), .val (.int (1 : Int32)), .val (.int (5 : Int32)), .val (.int (1 : Int32)), .val (.int cb)] [(.int cb)]))
  refine Rest.via (fun t k => XS.sipush X2.here hx rfl (hb hby d5_17) k) ?_
  show Rest p.tables e below s _ _ _ (T2.setTop (mkF m 20 #[.val (.ref a0), .val (.int (1 : Int32)), .val (.ref a2), .val (.int (1 : Int32)), .val (.int (5 : Int32)), .val (.int (1 : Int32)), .val (.int cb)] [(.int (255 : Int32)), (.int cb)]))
  refine Rest.via (fun t k => XS.icmpYes X2.here hx rfl (pc0 := 20) (pc' := 26) rfl (hb hby d5_20) rfl (flt (hcb : ¬ ((255 : Int32) < cb))).2.2.2 (by decide) (by decide) k) ?_
  show Rest p.tables e below s _ _ _ (T2.setTop (mkF m 26 #[.val (.ref a0), .val (.int (1 : Int32)), .val (.ref a2), .val (.int (1 : Int32)), .val (.int (5 : Int32)), .val (.int (1 : Int32)), .val (.int cb)] []))
  refine Rest.via (fun t k => XS.aloadN X2.here hx rfl (hb hby d5_26) rfl rfl k) ?_
  show Rest p.tables e below s _ _ _ (T2.setTop (mkF m 27 #[.val (.ref a0), .val (.int (1 : Int32)), .val (.ref a2), .val (.int (1 : Int32)), .val (.int (5 : Int32)), .val (.int (1 : Int32)), .val (.int cb)] [(.ref a2)]))
  refine Rest.via (fun t k => XS.iloadN X2.here hx rfl (hb hby d5_27) rfl k) ?_
  show Rest p.tables e below s _ _ _ (T2.setTop (mkF m 28 #[.val (.ref a0), .val (.int (1 : Int32)), .val (.ref a2), .val (.int (1 : Int32)), .val (.int (5 : Int32)), .val (.int (1 : Int32)), .val (.int cb)] [(.int (1 : Int32)), (.ref a2)]))
  refine Rest.via (fun t k => XS.iload X2.here hx rfl (hb hby d5_28) rfl k) ?_
  show Rest p.tables e below s _ _ _ (T2.setTop (mkF m 30 #[.val (.ref a0), .val (.int (1 : Int32)), .val (.ref a2), .val (.int (1 : Int32)), .val (.int (5 : Int32)), .val (.int (1 : Int32)), .val (.int cb)] [(.int cb), (.int (1 : Int32)), (.ref a2)]))
  refine Rest.via (fun t k => XS.i2b X2.here hx rfl (hb hby d5_30) rfl k) ?_
  show Rest p.tables e below s _ _ _ (T2.setTop (mkF m 31 #[.val (.ref a0), .val (.int (1 : Int32)), .val (.ref a2), .val (.int (1 : Int32)), .val (.int (5 : Int32)), .val (.int (1 : Int32)), .val (.int cb)] [(.int (cb.toInt8.toInt32)), (.int (1 : Int32)), (.ref a2)]))
  obtain ⟨cl4, Ar4, qa4, Sa4, Pa4, Ha4, Ga4⟩ := id V2
  have hin4 := inb_of (j := (1 : Int32)) Sa4 ⟨by decide, by decide⟩
  obtain ⟨T4, h4, X4, e4, W4, st4⟩ := stB X2 hx hZ e2 Ar4 (j := (1 : Int32)) hin4 (g := (mkF m 31 #[.val (.ref a0), .val (.int (1 : Int32)), .val (.ref a2), .val (.int (1 : Int32)), .val (.int (5 : Int32)), .val (.int (1 : Int32)), .val (.int cb)] [(.int (cb.toInt8.toInt32)), (.int (1 : Int32)), (.ref a2)])) rfl rfl (hb hby d5_31)
  refine Rest.via (fun t k => st4 t k) ?_
  have N4 := Fr.snoc X4 N2 g_a2
  have K4 : Keep h0 h4 [a2] := K2.wr W4 (Or.inl (List.mem_of_getElem? (i := 0) rfl))
  have V4 : Arv Z h4 a2 kb .byte (5 : Int32) [(.int (own_by ca)), (.int (own_by cb)), (.int (0 : Int32)), (.int (0 : Int32)), (.int (0 : Int32))] (.int (0 : Int32)) := by have q := Arv.set Ar4 qa4 Sa4 Pa4 Ha4 Ga4 (fits_nar_byte _) W4 1 rfl (Nat.le_of_ble_eq_true rfl); rw [own_by_nar] at q; exact q
  show Rest p.tables e below s _ _ _ (T4.setTop (mkF m 32 #[.val (.ref a0), .val (.int (1 : Int32)), .val (.ref a2), .val (.int (1 : Int32)), .val (.int (5 : Int32)), .val (.int (1 : Int32)), .val (.int cb)] []))
  refine Rest.via (fun t k => XS.iinc X4.here hx rfl (hb hby d5_32) rfl (l' := #[.val (.ref a0), .val (.int ((1 : Int32) + (1 : Int32))), .val (.ref a2), .val (.int (1 : Int32)), .val (.int (5 : Int32)), .val (.int (1 : Int32)), .val (.int cb)]) rfl k) ?_
  show Rest p.tables e below s _ _ _ (T4.setTop (mkF m 35 #[.val (.ref a0), .val (.int ((1 : Int32) + (1 : Int32))), .val (.ref a2), .val (.int (1 : Int32)), .val (.int (5 : Int32)), .val (.int (1 : Int32)), .val (.int cb)] []))
  rw [(by decide : ((1 : Int32) + (1 : Int32)) = (2 : Int32))]
  show Rest p.tables e below s _ _ _ (T4.setTop (mkF m 35 #[.val (.ref a0), .val (.int (2 : Int32)), .val (.ref a2), .val (.int (1 : Int32)), .val (.int (5 : Int32)), .val (.int (1 : Int32)), .val (.int cb)] []))
  refine Rest.via (fun t k => XS.iinc X4.here hx rfl (hb hby d5_35) rfl (l' := #[.val (.ref a0), .val (.int (2 : Int32)), .val (.ref a2), .val (.int ((1 : Int32) + (1 : Int32))), .val (.int (5 : Int32)), .val (.int (1 : Int32)), .val (.int cb)]) rfl k) ?_
  show Rest p.tables e below s _ _ _ (T4.setTop (mkF m 38 #[.val (.ref a0), .val (.int (2 : Int32)), .val (.ref a2), .val (.int ((1 : Int32) + (1 : Int32))), .val (.int (5 : Int32)), .val (.int (1 : Int32)), .val (.int cb)] []))
  rw [(by decide : ((1 : Int32) + (1 : Int32)) = (2 : Int32))]
  show Rest p.tables e below s _ _ _ (T4.setTop (mkF m 38 #[.val (.ref a0), .val (.int (2 : Int32)), .val (.ref a2), .val (.int (2 : Int32)), .val (.int (5 : Int32)), .val (.int (1 : Int32)), .val (.int cb)] []))
  refine Rest.via (fun t k => XS.iinc X4.here hx rfl (hb hby d5_38) rfl (l' := #[.val (.ref a0), .val (.int (2 : Int32)), .val (.ref a2), .val (.int (2 : Int32)), .val (.int (5 : Int32)), .val (.int ((1 : Int32) + (1 : Int32))), .val (.int cb)]) rfl k) ?_
  show Rest p.tables e below s _ _ _ (T4.setTop (mkF m 41 #[.val (.ref a0), .val (.int (2 : Int32)), .val (.ref a2), .val (.int (2 : Int32)), .val (.int (5 : Int32)), .val (.int ((1 : Int32) + (1 : Int32))), .val (.int cb)] []))
  rw [(by decide : ((1 : Int32) + (1 : Int32)) = (2 : Int32))]
  show Rest p.tables e below s _ _ _ (T4.setTop (mkF m 41 #[.val (.ref a0), .val (.int (2 : Int32)), .val (.ref a2), .val (.int (2 : Int32)), .val (.int (5 : Int32)), .val (.int (2 : Int32)), .val (.int cb)] []))
  refine Rest.via (fun t k => XS.goto X4.here hx rfl (pc0 := 41) (pc' := 3) rfl (hb hby d5_41) (by decide) (by decide) k) ?_
  show Rest p.tables e below s _ _ _ (T4.setTop (mkF m 3 #[.val (.ref a0), .val (.int (2 : Int32)), .val (.ref a2), .val (.int (2 : Int32)), .val (.int (5 : Int32)), .val (.int (2 : Int32)), .val (.int cb)] []))
  refine Rest.via (fun t k => XS.iload X4.here hx rfl (hb hby d5_3) rfl k) ?_
  show Rest p.tables e below s _ _ _ (T4.setTop (mkF m 5 #[.val (.ref a0), .val (.int (2 : Int32)), .val (.ref a2), .val (.int (2 : Int32)), .val (.int (5 : Int32)), .val (.int (2 : Int32)), .val (.int cb)] [(.int (2 : Int32))]))
  refine Rest.via (fun t k => XS.iload X4.here hx rfl (hb hby d5_5) rfl k) ?_
  show Rest p.tables e below s _ _ _ (T4.setTop (mkF m 7 #[.val (.ref a0), .val (.int (2 : Int32)), .val (.ref a2), .val (.int (2 : Int32)), .val (.int (5 : Int32)), .val (.int (2 : Int32)), .val (.int cb)] [(.int (5 : Int32)), (.int (2 : Int32))]))
  refine Rest.via (fun t k => XS.icmpNo X4.here hx rfl (hb hby d5_7) rfl (tlt (by decide : (2 : Int32) < (5 : Int32))).2.1 k) ?_
  show Rest p.tables e below s _ _ _ (T4.setTop (mkF m 10 #[.val (.ref a0), .val (.int (2 : Int32)), .val (.ref a2), .val (.int (2 : Int32)), .val (.int (5 : Int32)), .val (.int (2 : Int32)), .val (.int cb)] []))
  refine Rest.via (fun t k => XS.aloadN X4.here hx rfl (hb hby d5_10) rfl rfl k) ?_
  show Rest p.tables e below s _ _ _ (T4.setTop (mkF m 11 #[.val (.ref a0), .val (.int (2 : Int32)), .val (.ref a2), .val (.int (2 : Int32)), .val (.int (5 : Int32)), .val (.int (2 : Int32)), .val (.int cb)] [(.ref a0)]))
  refine Rest.via (fun t k => XS.iloadN X4.here hx rfl (hb hby d5_11) rfl k) ?_
  show Rest p.tables e below s _ _ _ (T4.setTop (mkF m 12 #[.val (.ref a0), .val (.int (2 : Int32)), .val (.ref a2), .val (.int (2 : Int32)), .val (.int (5 : Int32)), .val (.int (2 : Int32)), .val (.int cb)] [(.int (2 : Int32)), (.ref a0)]))
  obtain ⟨cl5, Ar5, qa5, Sa5, Pa5, Ha5, Ga5⟩ := id ((V0.other W2 n02).other W4 n02)
  have hin5 := inb_of (j := (2 : Int32)) Sa5 ⟨by decide, by decide⟩
  have hat5 : cl5.slots[((2 : Int32)).toNatClampNeg]? = some (.int cc) := Has.at Ha5 hin5 rfl
  refine Rest.via (fun t k => X4.caload hx (j := (2 : Int32)) (v := (.int cc)) (by rw [e4]; exact Ar5.1) (State.isArrayOf_alike hZ.alike Ar5.2.1) Ar5.2.2 hin5 hat5 (g := (mkF m 12 #[.val (.ref a0), .val (.int (2 : Int32)), .val (.ref a2), .val (.int (2 : Int32)), .val (.int (5 : Int32)), .val (.int (2 : Int32)), .val (.int cb)] [(.int (2 : Int32)), (.ref a0)])) rfl rfl (hb hby d5_12) t k) ?_
  show Rest p.tables e below s _ _ _ (T4.setTop (mkF m 13 #[.val (.ref a0), .val (.int (2 : Int32)), .val (.ref a2), .val (.int (2 : Int32)), .val (.int (5 : Int32)), .val (.int (2 : Int32)), .val (.int cb)] [(.int cc)]))
  refine Rest.via (fun t k => XS.istore X4.here hx rfl (hb hby d5_13) rfl (l' := #[.val (.ref a0), .val (.int (2 : Int32)), .val (.ref a2), .val (.int (2 : Int32)), .val (.int (5 : Int32)), .val (.int (2 : Int32)), .val (.int cc)]) rfl k) ?_
  show Rest p.tables e below s _ _ _ (T4.setTop (mkF m 15 #[.val (.ref a0), .val (.int (2 : Int32)), .val (.ref a2), .val (.int (2 : Int32)), .val (.int (5 : Int32)), .val (.int (2 : Int32)), .val (.int cc)] []))
  refine Rest.via (fun t k => XS.iload X4.here hx rfl (hb hby d5_15) rfl k) ?_
  show Rest p.tables e below s _ _ _ (T4.setTop (mkF m 17 #[.val (.ref a0), .val (.int (2 : Int32)), .val (.ref a2), .val (.int (2 : Int32)), .val (.int (5 : Int32)), .val (.int (2 : Int32)), .val (.int cc)] [(.int cc)]))
  refine Rest.via (fun t k => XS.sipush X4.here hx rfl (hb hby d5_17) k) ?_
  show Rest p.tables e below s _ _ _ (T4.setTop (mkF m 20 #[.val (.ref a0), .val (.int (2 : Int32)), .val (.ref a2), .val (.int (2 : Int32)), .val (.int (5 : Int32)), .val (.int (2 : Int32)), .val (.int cc)] [(.int (255 : Int32)), (.int cc)]))
  refine Rest.via (fun t k => XS.icmpYes X4.here hx rfl (pc0 := 20) (pc' := 26) rfl (hb hby d5_20) rfl (flt (hcc : ¬ ((255 : Int32) < cc))).2.2.2 (by decide) (by decide) k) ?_
  show Rest p.tables e below s _ _ _ (T4.setTop (mkF m 26 #[.val (.ref a0), .val (.int (2 : Int32)), .val (.ref a2), .val (.int (2 : Int32)), .val (.int (5 : Int32)), .val (.int (2 : Int32)), .val (.int cc)] []))
  refine Rest.via (fun t k => XS.aloadN X4.here hx rfl (hb hby d5_26) rfl rfl k) ?_
  show Rest p.tables e below s _ _ _ (T4.setTop (mkF m 27 #[.val (.ref a0), .val (.int (2 : Int32)), .val (.ref a2), .val (.int (2 : Int32)), .val (.int (5 : Int32)), .val (.int (2 : Int32)), .val (.int cc)] [(.ref a2)]))
  refine Rest.via (fun t k => XS.iloadN X4.here hx rfl (hb hby d5_27) rfl k) ?_
  show Rest p.tables e below s _ _ _ (T4.setTop (mkF m 28 #[.val (.ref a0), .val (.int (2 : Int32)), .val (.ref a2), .val (.int (2 : Int32)), .val (.int (5 : Int32)), .val (.int (2 : Int32)), .val (.int cc)] [(.int (2 : Int32)), (.ref a2)]))
  refine Rest.via (fun t k => XS.iload X4.here hx rfl (hb hby d5_28) rfl k) ?_
  show Rest p.tables e below s _ _ _ (T4.setTop (mkF m 30 #[.val (.ref a0), .val (.int (2 : Int32)), .val (.ref a2), .val (.int (2 : Int32)), .val (.int (5 : Int32)), .val (.int (2 : Int32)), .val (.int cc)] [(.int cc), (.int (2 : Int32)), (.ref a2)]))
  refine Rest.via (fun t k => XS.i2b X4.here hx rfl (hb hby d5_30) rfl k) ?_
  show Rest p.tables e below s _ _ _ (T4.setTop (mkF m 31 #[.val (.ref a0), .val (.int (2 : Int32)), .val (.ref a2), .val (.int (2 : Int32)), .val (.int (5 : Int32)), .val (.int (2 : Int32)), .val (.int cc)] [(.int (cc.toInt8.toInt32)), (.int (2 : Int32)), (.ref a2)]))
  obtain ⟨cl6, Ar6, qa6, Sa6, Pa6, Ha6, Ga6⟩ := id V4
  have hin6 := inb_of (j := (2 : Int32)) Sa6 ⟨by decide, by decide⟩
  obtain ⟨T6, h6, X6, e6, W6, st6⟩ := stB X4 hx hZ e4 Ar6 (j := (2 : Int32)) hin6 (g := (mkF m 31 #[.val (.ref a0), .val (.int (2 : Int32)), .val (.ref a2), .val (.int (2 : Int32)), .val (.int (5 : Int32)), .val (.int (2 : Int32)), .val (.int cc)] [(.int (cc.toInt8.toInt32)), (.int (2 : Int32)), (.ref a2)])) rfl rfl (hb hby d5_31)
  refine Rest.via (fun t k => st6 t k) ?_
  have N6 := Fr.snoc X6 N4 g_a2
  have K6 : Keep h0 h6 [a2] := K4.wr W6 (Or.inl (List.mem_of_getElem? (i := 0) rfl))
  have V6 : Arv Z h6 a2 kb .byte (5 : Int32) [(.int (own_by ca)), (.int (own_by cb)), (.int (own_by cc)), (.int (0 : Int32)), (.int (0 : Int32))] (.int (0 : Int32)) := by have q := Arv.set Ar6 qa6 Sa6 Pa6 Ha6 Ga6 (fits_nar_byte _) W6 2 rfl (Nat.le_of_ble_eq_true rfl); rw [own_by_nar] at q; exact q
  show Rest p.tables e below s _ _ _ (T6.setTop (mkF m 32 #[.val (.ref a0), .val (.int (2 : Int32)), .val (.ref a2), .val (.int (2 : Int32)), .val (.int (5 : Int32)), .val (.int (2 : Int32)), .val (.int cc)] []))
  refine Rest.via (fun t k => XS.iinc X6.here hx rfl (hb hby d5_32) rfl (l' := #[.val (.ref a0), .val (.int ((2 : Int32) + (1 : Int32))), .val (.ref a2), .val (.int (2 : Int32)), .val (.int (5 : Int32)), .val (.int (2 : Int32)), .val (.int cc)]) rfl k) ?_
  show Rest p.tables e below s _ _ _ (T6.setTop (mkF m 35 #[.val (.ref a0), .val (.int ((2 : Int32) + (1 : Int32))), .val (.ref a2), .val (.int (2 : Int32)), .val (.int (5 : Int32)), .val (.int (2 : Int32)), .val (.int cc)] []))
  rw [(by decide : ((2 : Int32) + (1 : Int32)) = (3 : Int32))]
  show Rest p.tables e below s _ _ _ (T6.setTop (mkF m 35 #[.val (.ref a0), .val (.int (3 : Int32)), .val (.ref a2), .val (.int (2 : Int32)), .val (.int (5 : Int32)), .val (.int (2 : Int32)), .val (.int cc)] []))
  refine Rest.via (fun t k => XS.iinc X6.here hx rfl (hb hby d5_35) rfl (l' := #[.val (.ref a0), .val (.int (3 : Int32)), .val (.ref a2), .val (.int ((2 : Int32) + (1 : Int32))), .val (.int (5 : Int32)), .val (.int (2 : Int32)), .val (.int cc)]) rfl k) ?_
  show Rest p.tables e below s _ _ _ (T6.setTop (mkF m 38 #[.val (.ref a0), .val (.int (3 : Int32)), .val (.ref a2), .val (.int ((2 : Int32) + (1 : Int32))), .val (.int (5 : Int32)), .val (.int (2 : Int32)), .val (.int cc)] []))
  rw [(by decide : ((2 : Int32) + (1 : Int32)) = (3 : Int32))]
  show Rest p.tables e below s _ _ _ (T6.setTop (mkF m 38 #[.val (.ref a0), .val (.int (3 : Int32)), .val (.ref a2), .val (.int (3 : Int32)), .val (.int (5 : Int32)), .val (.int (2 : Int32)), .val (.int cc)] []))
  refine Rest.via (fun t k => XS.iinc X6.here hx rfl (hb hby d5_38) rfl (l' := #[.val (.ref a0), .val (.int (3 : Int32)), .val (.ref a2), .val (.int (3 : Int32)), .val (.int (5 : Int32)), .val (.int ((2 : Int32) + (1 : Int32))), .val (.int cc)]) rfl k) ?_
  show Rest p.tables e below s _ _ _ (T6.setTop (mkF m 41 #[.val (.ref a0), .val (.int (3 : Int32)), .val (.ref a2), .val (.int (3 : Int32)), .val (.int (5 : Int32)), .val (.int ((2 : Int32) + (1 : Int32))), .val (.int cc)] []))
  rw [(by decide : ((2 : Int32) + (1 : Int32)) = (3 : Int32))]
  show Rest p.tables e below s _ _ _ (T6.setTop (mkF m 41 #[.val (.ref a0), .val (.int (3 : Int32)), .val (.ref a2), .val (.int (3 : Int32)), .val (.int (5 : Int32)), .val (.int (3 : Int32)), .val (.int cc)] []))
  refine Rest.via (fun t k => XS.goto X6.here hx rfl (pc0 := 41) (pc' := 3) rfl (hb hby d5_41) (by decide) (by decide) k) ?_
  show Rest p.tables e below s _ _ _ (T6.setTop (mkF m 3 #[.val (.ref a0), .val (.int (3 : Int32)), .val (.ref a2), .val (.int (3 : Int32)), .val (.int (5 : Int32)), .val (.int (3 : Int32)), .val (.int cc)] []))
  refine Rest.via (fun t k => XS.iload X6.here hx rfl (hb hby d5_3) rfl k) ?_
  show Rest p.tables e below s _ _ _ (T6.setTop (mkF m 5 #[.val (.ref a0), .val (.int (3 : Int32)), .val (.ref a2), .val (.int (3 : Int32)), .val (.int (5 : Int32)), .val (.int (3 : Int32)), .val (.int cc)] [(.int (3 : Int32))]))
  refine Rest.via (fun t k => XS.iload X6.here hx rfl (hb hby d5_5) rfl k) ?_
  show Rest p.tables e below s _ _ _ (T6.setTop (mkF m 7 #[.val (.ref a0), .val (.int (3 : Int32)), .val (.ref a2), .val (.int (3 : Int32)), .val (.int (5 : Int32)), .val (.int (3 : Int32)), .val (.int cc)] [(.int (5 : Int32)), (.int (3 : Int32))]))
  refine Rest.via (fun t k => XS.icmpNo X6.here hx rfl (hb hby d5_7) rfl (tlt (by decide : (3 : Int32) < (5 : Int32))).2.1 k) ?_
  show Rest p.tables e below s _ _ _ (T6.setTop (mkF m 10 #[.val (.ref a0), .val (.int (3 : Int32)), .val (.ref a2), .val (.int (3 : Int32)), .val (.int (5 : Int32)), .val (.int (3 : Int32)), .val (.int cc)] []))
  refine Rest.via (fun t k => XS.aloadN X6.here hx rfl (hb hby d5_10) rfl rfl k) ?_
  show Rest p.tables e below s _ _ _ (T6.setTop (mkF m 11 #[.val (.ref a0), .val (.int (3 : Int32)), .val (.ref a2), .val (.int (3 : Int32)), .val (.int (5 : Int32)), .val (.int (3 : Int32)), .val (.int cc)] [(.ref a0)]))
  refine Rest.via (fun t k => XS.iloadN X6.here hx rfl (hb hby d5_11) rfl k) ?_
  show Rest p.tables e below s _ _ _ (T6.setTop (mkF m 12 #[.val (.ref a0), .val (.int (3 : Int32)), .val (.ref a2), .val (.int (3 : Int32)), .val (.int (5 : Int32)), .val (.int (3 : Int32)), .val (.int cc)] [(.int (3 : Int32)), (.ref a0)]))
  obtain ⟨cl7, Ar7, qa7, Sa7, Pa7, Ha7, Ga7⟩ := id (((V0.other W2 n02).other W4 n02).other W6 n02)
  have hin7 := inb_of (j := (3 : Int32)) Sa7 ⟨by decide, by decide⟩
  have hat7 : cl7.slots[((3 : Int32)).toNatClampNeg]? = some (.int cd) := Has.at Ha7 hin7 rfl
  refine Rest.via (fun t k => X6.caload hx (j := (3 : Int32)) (v := (.int cd)) (by rw [e6]; exact Ar7.1) (State.isArrayOf_alike hZ.alike Ar7.2.1) Ar7.2.2 hin7 hat7 (g := (mkF m 12 #[.val (.ref a0), .val (.int (3 : Int32)), .val (.ref a2), .val (.int (3 : Int32)), .val (.int (5 : Int32)), .val (.int (3 : Int32)), .val (.int cc)] [(.int (3 : Int32)), (.ref a0)])) rfl rfl (hb hby d5_12) t k) ?_
  show Rest p.tables e below s _ _ _ (T6.setTop (mkF m 13 #[.val (.ref a0), .val (.int (3 : Int32)), .val (.ref a2), .val (.int (3 : Int32)), .val (.int (5 : Int32)), .val (.int (3 : Int32)), .val (.int cc)] [(.int cd)]))
  refine Rest.via (fun t k => XS.istore X6.here hx rfl (hb hby d5_13) rfl (l' := #[.val (.ref a0), .val (.int (3 : Int32)), .val (.ref a2), .val (.int (3 : Int32)), .val (.int (5 : Int32)), .val (.int (3 : Int32)), .val (.int cd)]) rfl k) ?_
  show Rest p.tables e below s _ _ _ (T6.setTop (mkF m 15 #[.val (.ref a0), .val (.int (3 : Int32)), .val (.ref a2), .val (.int (3 : Int32)), .val (.int (5 : Int32)), .val (.int (3 : Int32)), .val (.int cd)] []))
  refine Rest.via (fun t k => XS.iload X6.here hx rfl (hb hby d5_15) rfl k) ?_
  show Rest p.tables e below s _ _ _ (T6.setTop (mkF m 17 #[.val (.ref a0), .val (.int (3 : Int32)), .val (.ref a2), .val (.int (3 : Int32)), .val (.int (5 : Int32)), .val (.int (3 : Int32)), .val (.int cd)] [(.int cd)]))
  refine Rest.via (fun t k => XS.sipush X6.here hx rfl (hb hby d5_17) k) ?_
  show Rest p.tables e below s _ _ _ (T6.setTop (mkF m 20 #[.val (.ref a0), .val (.int (3 : Int32)), .val (.ref a2), .val (.int (3 : Int32)), .val (.int (5 : Int32)), .val (.int (3 : Int32)), .val (.int cd)] [(.int (255 : Int32)), (.int cd)]))
  refine Rest.via (fun t k => XS.icmpYes X6.here hx rfl (pc0 := 20) (pc' := 26) rfl (hb hby d5_20) rfl (flt (hcd : ¬ ((255 : Int32) < cd))).2.2.2 (by decide) (by decide) k) ?_
  show Rest p.tables e below s _ _ _ (T6.setTop (mkF m 26 #[.val (.ref a0), .val (.int (3 : Int32)), .val (.ref a2), .val (.int (3 : Int32)), .val (.int (5 : Int32)), .val (.int (3 : Int32)), .val (.int cd)] []))
  refine Rest.via (fun t k => XS.aloadN X6.here hx rfl (hb hby d5_26) rfl rfl k) ?_
  show Rest p.tables e below s _ _ _ (T6.setTop (mkF m 27 #[.val (.ref a0), .val (.int (3 : Int32)), .val (.ref a2), .val (.int (3 : Int32)), .val (.int (5 : Int32)), .val (.int (3 : Int32)), .val (.int cd)] [(.ref a2)]))
  refine Rest.via (fun t k => XS.iloadN X6.here hx rfl (hb hby d5_27) rfl k) ?_
  show Rest p.tables e below s _ _ _ (T6.setTop (mkF m 28 #[.val (.ref a0), .val (.int (3 : Int32)), .val (.ref a2), .val (.int (3 : Int32)), .val (.int (5 : Int32)), .val (.int (3 : Int32)), .val (.int cd)] [(.int (3 : Int32)), (.ref a2)]))
  refine Rest.via (fun t k => XS.iload X6.here hx rfl (hb hby d5_28) rfl k) ?_
  show Rest p.tables e below s _ _ _ (T6.setTop (mkF m 30 #[.val (.ref a0), .val (.int (3 : Int32)), .val (.ref a2), .val (.int (3 : Int32)), .val (.int (5 : Int32)), .val (.int (3 : Int32)), .val (.int cd)] [(.int cd), (.int (3 : Int32)), (.ref a2)]))
  refine Rest.via (fun t k => XS.i2b X6.here hx rfl (hb hby d5_30) rfl k) ?_
  show Rest p.tables e below s _ _ _ (T6.setTop (mkF m 31 #[.val (.ref a0), .val (.int (3 : Int32)), .val (.ref a2), .val (.int (3 : Int32)), .val (.int (5 : Int32)), .val (.int (3 : Int32)), .val (.int cd)] [(.int (cd.toInt8.toInt32)), (.int (3 : Int32)), (.ref a2)]))
  obtain ⟨cl8, Ar8, qa8, Sa8, Pa8, Ha8, Ga8⟩ := id V6
  have hin8 := inb_of (j := (3 : Int32)) Sa8 ⟨by decide, by decide⟩
  obtain ⟨T8, h8, X8, e8, W8, st8⟩ := stB X6 hx hZ e6 Ar8 (j := (3 : Int32)) hin8 (g := (mkF m 31 #[.val (.ref a0), .val (.int (3 : Int32)), .val (.ref a2), .val (.int (3 : Int32)), .val (.int (5 : Int32)), .val (.int (3 : Int32)), .val (.int cd)] [(.int (cd.toInt8.toInt32)), (.int (3 : Int32)), (.ref a2)])) rfl rfl (hb hby d5_31)
  refine Rest.via (fun t k => st8 t k) ?_
  have N8 := Fr.snoc X8 N6 g_a2
  have K8 : Keep h0 h8 [a2] := K6.wr W8 (Or.inl (List.mem_of_getElem? (i := 0) rfl))
  have V8 : Arv Z h8 a2 kb .byte (5 : Int32) [(.int (own_by ca)), (.int (own_by cb)), (.int (own_by cc)), (.int (own_by cd)), (.int (0 : Int32))] (.int (0 : Int32)) := by have q := Arv.set Ar8 qa8 Sa8 Pa8 Ha8 Ga8 (fits_nar_byte _) W8 3 rfl (Nat.le_of_ble_eq_true rfl); rw [own_by_nar] at q; exact q
  show Rest p.tables e below s _ _ _ (T8.setTop (mkF m 32 #[.val (.ref a0), .val (.int (3 : Int32)), .val (.ref a2), .val (.int (3 : Int32)), .val (.int (5 : Int32)), .val (.int (3 : Int32)), .val (.int cd)] []))
  refine Rest.via (fun t k => XS.iinc X8.here hx rfl (hb hby d5_32) rfl (l' := #[.val (.ref a0), .val (.int ((3 : Int32) + (1 : Int32))), .val (.ref a2), .val (.int (3 : Int32)), .val (.int (5 : Int32)), .val (.int (3 : Int32)), .val (.int cd)]) rfl k) ?_
  show Rest p.tables e below s _ _ _ (T8.setTop (mkF m 35 #[.val (.ref a0), .val (.int ((3 : Int32) + (1 : Int32))), .val (.ref a2), .val (.int (3 : Int32)), .val (.int (5 : Int32)), .val (.int (3 : Int32)), .val (.int cd)] []))
  rw [(by decide : ((3 : Int32) + (1 : Int32)) = (4 : Int32))]
  show Rest p.tables e below s _ _ _ (T8.setTop (mkF m 35 #[.val (.ref a0), .val (.int (4 : Int32)), .val (.ref a2), .val (.int (3 : Int32)), .val (.int (5 : Int32)), .val (.int (3 : Int32)), .val (.int cd)] []))
  refine Rest.via (fun t k => XS.iinc X8.here hx rfl (hb hby d5_35) rfl (l' := #[.val (.ref a0), .val (.int (4 : Int32)), .val (.ref a2), .val (.int ((3 : Int32) + (1 : Int32))), .val (.int (5 : Int32)), .val (.int (3 : Int32)), .val (.int cd)]) rfl k) ?_
  show Rest p.tables e below s _ _ _ (T8.setTop (mkF m 38 #[.val (.ref a0), .val (.int (4 : Int32)), .val (.ref a2), .val (.int ((3 : Int32) + (1 : Int32))), .val (.int (5 : Int32)), .val (.int (3 : Int32)), .val (.int cd)] []))
  rw [(by decide : ((3 : Int32) + (1 : Int32)) = (4 : Int32))]
  show Rest p.tables e below s _ _ _ (T8.setTop (mkF m 38 #[.val (.ref a0), .val (.int (4 : Int32)), .val (.ref a2), .val (.int (4 : Int32)), .val (.int (5 : Int32)), .val (.int (3 : Int32)), .val (.int cd)] []))
  refine Rest.via (fun t k => XS.iinc X8.here hx rfl (hb hby d5_38) rfl (l' := #[.val (.ref a0), .val (.int (4 : Int32)), .val (.ref a2), .val (.int (4 : Int32)), .val (.int (5 : Int32)), .val (.int ((3 : Int32) + (1 : Int32))), .val (.int cd)]) rfl k) ?_
  show Rest p.tables e below s _ _ _ (T8.setTop (mkF m 41 #[.val (.ref a0), .val (.int (4 : Int32)), .val (.ref a2), .val (.int (4 : Int32)), .val (.int (5 : Int32)), .val (.int ((3 : Int32) + (1 : Int32))), .val (.int cd)] []))
  rw [(by decide : ((3 : Int32) + (1 : Int32)) = (4 : Int32))]
  show Rest p.tables e below s _ _ _ (T8.setTop (mkF m 41 #[.val (.ref a0), .val (.int (4 : Int32)), .val (.ref a2), .val (.int (4 : Int32)), .val (.int (5 : Int32)), .val (.int (4 : Int32)), .val (.int cd)] []))
  refine Rest.via (fun t k => XS.goto X8.here hx rfl (pc0 := 41) (pc' := 3) rfl (hb hby d5_41) (by decide) (by decide) k) ?_
  show Rest p.tables e below s _ _ _ (T8.setTop (mkF m 3 #[.val (.ref a0), .val (.int (4 : Int32)), .val (.ref a2), .val (.int (4 : Int32)), .val (.int (5 : Int32)), .val (.int (4 : Int32)), .val (.int cd)] []))
  refine Rest.via (fun t k => XS.iload X8.here hx rfl (hb hby d5_3) rfl k) ?_
  show Rest p.tables e below s _ _ _ (T8.setTop (mkF m 5 #[.val (.ref a0), .val (.int (4 : Int32)), .val (.ref a2), .val (.int (4 : Int32)), .val (.int (5 : Int32)), .val (.int (4 : Int32)), .val (.int cd)] [(.int (4 : Int32))]))
  refine Rest.via (fun t k => XS.iload X8.here hx rfl (hb hby d5_5) rfl k) ?_
  show Rest p.tables e below s _ _ _ (T8.setTop (mkF m 7 #[.val (.ref a0), .val (.int (4 : Int32)), .val (.ref a2), .val (.int (4 : Int32)), .val (.int (5 : Int32)), .val (.int (4 : Int32)), .val (.int cd)] [(.int (5 : Int32)), (.int (4 : Int32))]))
  refine Rest.via (fun t k => XS.icmpNo X8.here hx rfl (hb hby d5_7) rfl (tlt (by decide : (4 : Int32) < (5 : Int32))).2.1 k) ?_
  show Rest p.tables e below s _ _ _ (T8.setTop (mkF m 10 #[.val (.ref a0), .val (.int (4 : Int32)), .val (.ref a2), .val (.int (4 : Int32)), .val (.int (5 : Int32)), .val (.int (4 : Int32)), .val (.int cd)] []))
  refine Rest.via (fun t k => XS.aloadN X8.here hx rfl (hb hby d5_10) rfl rfl k) ?_
  show Rest p.tables e below s _ _ _ (T8.setTop (mkF m 11 #[.val (.ref a0), .val (.int (4 : Int32)), .val (.ref a2), .val (.int (4 : Int32)), .val (.int (5 : Int32)), .val (.int (4 : Int32)), .val (.int cd)] [(.ref a0)]))
  refine Rest.via (fun t k => XS.iloadN X8.here hx rfl (hb hby d5_11) rfl k) ?_
  show Rest p.tables e below s _ _ _ (T8.setTop (mkF m 12 #[.val (.ref a0), .val (.int (4 : Int32)), .val (.ref a2), .val (.int (4 : Int32)), .val (.int (5 : Int32)), .val (.int (4 : Int32)), .val (.int cd)] [(.int (4 : Int32)), (.ref a0)]))
  obtain ⟨cl9, Ar9, qa9, Sa9, Pa9, Ha9, Ga9⟩ := id ((((V0.other W2 n02).other W4 n02).other W6 n02).other W8 n02)
  have hin9 := inb_of (j := (4 : Int32)) Sa9 ⟨by decide, by decide⟩
  have hat9 : cl9.slots[((4 : Int32)).toNatClampNeg]? = some (.int ce) := Has.at Ha9 hin9 rfl
  refine Rest.via (fun t k => X8.caload hx (j := (4 : Int32)) (v := (.int ce)) (by rw [e8]; exact Ar9.1) (State.isArrayOf_alike hZ.alike Ar9.2.1) Ar9.2.2 hin9 hat9 (g := (mkF m 12 #[.val (.ref a0), .val (.int (4 : Int32)), .val (.ref a2), .val (.int (4 : Int32)), .val (.int (5 : Int32)), .val (.int (4 : Int32)), .val (.int cd)] [(.int (4 : Int32)), (.ref a0)])) rfl rfl (hb hby d5_12) t k) ?_
  show Rest p.tables e below s _ _ _ (T8.setTop (mkF m 13 #[.val (.ref a0), .val (.int (4 : Int32)), .val (.ref a2), .val (.int (4 : Int32)), .val (.int (5 : Int32)), .val (.int (4 : Int32)), .val (.int cd)] [(.int ce)]))
  refine Rest.via (fun t k => XS.istore X8.here hx rfl (hb hby d5_13) rfl (l' := #[.val (.ref a0), .val (.int (4 : Int32)), .val (.ref a2), .val (.int (4 : Int32)), .val (.int (5 : Int32)), .val (.int (4 : Int32)), .val (.int ce)]) rfl k) ?_
  show Rest p.tables e below s _ _ _ (T8.setTop (mkF m 15 #[.val (.ref a0), .val (.int (4 : Int32)), .val (.ref a2), .val (.int (4 : Int32)), .val (.int (5 : Int32)), .val (.int (4 : Int32)), .val (.int ce)] []))
  refine Rest.via (fun t k => XS.iload X8.here hx rfl (hb hby d5_15) rfl k) ?_
  show Rest p.tables e below s _ _ _ (T8.setTop (mkF m 17 #[.val (.ref a0), .val (.int (4 : Int32)), .val (.ref a2), .val (.int (4 : Int32)), .val (.int (5 : Int32)), .val (.int (4 : Int32)), .val (.int ce)] [(.int ce)]))
  refine Rest.via (fun t k => XS.sipush X8.here hx rfl (hb hby d5_17) k) ?_
  show Rest p.tables e below s _ _ _ (T8.setTop (mkF m 20 #[.val (.ref a0), .val (.int (4 : Int32)), .val (.ref a2), .val (.int (4 : Int32)), .val (.int (5 : Int32)), .val (.int (4 : Int32)), .val (.int ce)] [(.int (255 : Int32)), (.int ce)]))
  refine Rest.via (fun t k => XS.icmpYes X8.here hx rfl (pc0 := 20) (pc' := 26) rfl (hb hby d5_20) rfl (flt (hce : ¬ ((255 : Int32) < ce))).2.2.2 (by decide) (by decide) k) ?_
  show Rest p.tables e below s _ _ _ (T8.setTop (mkF m 26 #[.val (.ref a0), .val (.int (4 : Int32)), .val (.ref a2), .val (.int (4 : Int32)), .val (.int (5 : Int32)), .val (.int (4 : Int32)), .val (.int ce)] []))
  refine Rest.via (fun t k => XS.aloadN X8.here hx rfl (hb hby d5_26) rfl rfl k) ?_
  show Rest p.tables e below s _ _ _ (T8.setTop (mkF m 27 #[.val (.ref a0), .val (.int (4 : Int32)), .val (.ref a2), .val (.int (4 : Int32)), .val (.int (5 : Int32)), .val (.int (4 : Int32)), .val (.int ce)] [(.ref a2)]))
  refine Rest.via (fun t k => XS.iloadN X8.here hx rfl (hb hby d5_27) rfl k) ?_
  show Rest p.tables e below s _ _ _ (T8.setTop (mkF m 28 #[.val (.ref a0), .val (.int (4 : Int32)), .val (.ref a2), .val (.int (4 : Int32)), .val (.int (5 : Int32)), .val (.int (4 : Int32)), .val (.int ce)] [(.int (4 : Int32)), (.ref a2)]))
  refine Rest.via (fun t k => XS.iload X8.here hx rfl (hb hby d5_28) rfl k) ?_
  show Rest p.tables e below s _ _ _ (T8.setTop (mkF m 30 #[.val (.ref a0), .val (.int (4 : Int32)), .val (.ref a2), .val (.int (4 : Int32)), .val (.int (5 : Int32)), .val (.int (4 : Int32)), .val (.int ce)] [(.int ce), (.int (4 : Int32)), (.ref a2)]))
  refine Rest.via (fun t k => XS.i2b X8.here hx rfl (hb hby d5_30) rfl k) ?_
  show Rest p.tables e below s _ _ _ (T8.setTop (mkF m 31 #[.val (.ref a0), .val (.int (4 : Int32)), .val (.ref a2), .val (.int (4 : Int32)), .val (.int (5 : Int32)), .val (.int (4 : Int32)), .val (.int ce)] [(.int (ce.toInt8.toInt32)), (.int (4 : Int32)), (.ref a2)]))
  obtain ⟨cl10, Ar10, qa10, Sa10, Pa10, Ha10, Ga10⟩ := id V8
  have hin10 := inb_of (j := (4 : Int32)) Sa10 ⟨by decide, by decide⟩
  obtain ⟨T10, h10, X10, e10, W10, st10⟩ := stB X8 hx hZ e8 Ar10 (j := (4 : Int32)) hin10 (g := (mkF m 31 #[.val (.ref a0), .val (.int (4 : Int32)), .val (.ref a2), .val (.int (4 : Int32)), .val (.int (5 : Int32)), .val (.int (4 : Int32)), .val (.int ce)] [(.int (ce.toInt8.toInt32)), (.int (4 : Int32)), (.ref a2)])) rfl rfl (hb hby d5_31)
  refine Rest.via (fun t k => st10 t k) ?_
  have N10 := Fr.snoc X10 N8 g_a2
  have K10 : Keep h0 h10 [a2] := K8.wr W10 (Or.inl (List.mem_of_getElem? (i := 0) rfl))
  have V10 : Arv Z h10 a2 kb .byte (5 : Int32) [(.int (own_by ca)), (.int (own_by cb)), (.int (own_by cc)), (.int (own_by cd)), (.int (own_by ce))] (.int (0 : Int32)) := by have q := Arv.set Ar10 qa10 Sa10 Pa10 Ha10 Ga10 (fits_nar_byte _) W10 4 rfl (Nat.le_of_ble_eq_true rfl); rw [own_by_nar] at q; exact q
  show Rest p.tables e below s _ _ _ (T10.setTop (mkF m 32 #[.val (.ref a0), .val (.int (4 : Int32)), .val (.ref a2), .val (.int (4 : Int32)), .val (.int (5 : Int32)), .val (.int (4 : Int32)), .val (.int ce)] []))
  refine Rest.via (fun t k => XS.iinc X10.here hx rfl (hb hby d5_32) rfl (l' := #[.val (.ref a0), .val (.int ((4 : Int32) + (1 : Int32))), .val (.ref a2), .val (.int (4 : Int32)), .val (.int (5 : Int32)), .val (.int (4 : Int32)), .val (.int ce)]) rfl k) ?_
  show Rest p.tables e below s _ _ _ (T10.setTop (mkF m 35 #[.val (.ref a0), .val (.int ((4 : Int32) + (1 : Int32))), .val (.ref a2), .val (.int (4 : Int32)), .val (.int (5 : Int32)), .val (.int (4 : Int32)), .val (.int ce)] []))
  rw [(by decide : ((4 : Int32) + (1 : Int32)) = (5 : Int32))]
  show Rest p.tables e below s _ _ _ (T10.setTop (mkF m 35 #[.val (.ref a0), .val (.int (5 : Int32)), .val (.ref a2), .val (.int (4 : Int32)), .val (.int (5 : Int32)), .val (.int (4 : Int32)), .val (.int ce)] []))
  refine Rest.via (fun t k => XS.iinc X10.here hx rfl (hb hby d5_35) rfl (l' := #[.val (.ref a0), .val (.int (5 : Int32)), .val (.ref a2), .val (.int ((4 : Int32) + (1 : Int32))), .val (.int (5 : Int32)), .val (.int (4 : Int32)), .val (.int ce)]) rfl k) ?_
  show Rest p.tables e below s _ _ _ (T10.setTop (mkF m 38 #[.val (.ref a0), .val (.int (5 : Int32)), .val (.ref a2), .val (.int ((4 : Int32) + (1 : Int32))), .val (.int (5 : Int32)), .val (.int (4 : Int32)), .val (.int ce)] []))
  rw [(by decide : ((4 : Int32) + (1 : Int32)) = (5 : Int32))]
  show Rest p.tables e below s _ _ _ (T10.setTop (mkF m 38 #[.val (.ref a0), .val (.int (5 : Int32)), .val (.ref a2), .val (.int (5 : Int32)), .val (.int (5 : Int32)), .val (.int (4 : Int32)), .val (.int ce)] []))
  refine Rest.via (fun t k => XS.iinc X10.here hx rfl (hb hby d5_38) rfl (l' := #[.val (.ref a0), .val (.int (5 : Int32)), .val (.ref a2), .val (.int (5 : Int32)), .val (.int (5 : Int32)), .val (.int ((4 : Int32) + (1 : Int32))), .val (.int ce)]) rfl k) ?_
  show Rest p.tables e below s _ _ _ (T10.setTop (mkF m 41 #[.val (.ref a0), .val (.int (5 : Int32)), .val (.ref a2), .val (.int (5 : Int32)), .val (.int (5 : Int32)), .val (.int ((4 : Int32) + (1 : Int32))), .val (.int ce)] []))
  rw [(by decide : ((4 : Int32) + (1 : Int32)) = (5 : Int32))]
  show Rest p.tables e below s _ _ _ (T10.setTop (mkF m 41 #[.val (.ref a0), .val (.int (5 : Int32)), .val (.ref a2), .val (.int (5 : Int32)), .val (.int (5 : Int32)), .val (.int (5 : Int32)), .val (.int ce)] []))
  refine Rest.via (fun t k => XS.goto X10.here hx rfl (pc0 := 41) (pc' := 3) rfl (hb hby d5_41) (by decide) (by decide) k) ?_
  show Rest p.tables e below s _ _ _ (T10.setTop (mkF m 3 #[.val (.ref a0), .val (.int (5 : Int32)), .val (.ref a2), .val (.int (5 : Int32)), .val (.int (5 : Int32)), .val (.int (5 : Int32)), .val (.int ce)] []))
  refine Rest.via (fun t k => XS.iload X10.here hx rfl (hb hby d5_3) rfl k) ?_
  show Rest p.tables e below s _ _ _ (T10.setTop (mkF m 5 #[.val (.ref a0), .val (.int (5 : Int32)), .val (.ref a2), .val (.int (5 : Int32)), .val (.int (5 : Int32)), .val (.int (5 : Int32)), .val (.int ce)] [(.int (5 : Int32))]))
  refine Rest.via (fun t k => XS.iload X10.here hx rfl (hb hby d5_5) rfl k) ?_
  show Rest p.tables e below s _ _ _ (T10.setTop (mkF m 7 #[.val (.ref a0), .val (.int (5 : Int32)), .val (.ref a2), .val (.int (5 : Int32)), .val (.int (5 : Int32)), .val (.int (5 : Int32)), .val (.int ce)] [(.int (5 : Int32)), (.int (5 : Int32))]))
  refine Rest.via (fun t k => XS.icmpYes X10.here hx rfl (pc0 := 7) (pc' := 44) rfl (hb hby d5_7) rfl (flt (by decide : ¬ ((5 : Int32) < (5 : Int32)))).2.1 (by decide) (by decide) k) ?_
  show Rest p.tables e below s _ _ _ (T10.setTop (mkF m 44 #[.val (.ref a0), .val (.int (5 : Int32)), .val (.ref a2), .val (.int (5 : Int32)), .val (.int (5 : Int32)), .val (.int (5 : Int32)), .val (.int ce)] []))
  refine Rest.via (fun t k => XS.iload X10.here hx rfl (hb hby d5_44) rfl k) ?_
  show Rest p.tables e below s _ _ _ (T10.setTop (mkF m 46 #[.val (.ref a0), .val (.int (5 : Int32)), .val (.ref a2), .val (.int (5 : Int32)), .val (.int (5 : Int32)), .val (.int (5 : Int32)), .val (.int ce)] [(.int (5 : Int32))]))
  refine Rest.ret X10 (v := some (.int (5 : Int32))) (fun h => by rw [Bd.returns] at h; cases h) hlk (fun fs hr => retOut X10 hx Bd.returns rfl (Or.inl ⟨rfl, Or.inl rfl, _, rfl⟩) (hb hby d5_46) hr) ?_ (by decide) (by decide)
  rw [e10]
  exact ⟨rfl, N10, K10, V10⟩
theorem pd_0 : parseMethodDescriptor "([CI[BII)I" = some ⟨[(.array .char), .int, (.array .byte), .int, .int], some .int⟩ := by decide +kernel
theorem d4_0 : decode jdk_52_method_16_code 0 = .ok (.iload_n 2, 1) := by decide +kernel
theorem d4_1 : decode jdk_52_method_16_code 1 = .ok (.newarray .byte, 2) := by decide +kernel
theorem d4_3 : decode jdk_52_method_16_code 3 = .ok (.astore_n 3, 1) := by decide +kernel
theorem d4_4 : decode jdk_52_method_16_code 4 = .ok (.aload_n 0, 1) := by decide +kernel
theorem d4_5 : decode jdk_52_method_16_code 5 = .ok (.iload_n 1, 1) := by decide +kernel
theorem d4_6 : decode jdk_52_method_16_code 6 = .ok (.aload_n 3, 1) := by decide +kernel
theorem d4_7 : decode jdk_52_method_16_code 7 = .ok (.iconst 0, 1) := by decide +kernel
theorem d4_8 : decode jdk_52_method_16_code 8 = .ok (.iload_n 2, 1) := by decide +kernel
theorem d4_9 : decode jdk_52_method_16_code 9 = .ok (.invokestatic 115, 3) := by decide +kernel
theorem d4_12 : decode jdk_52_method_16_code 12 = .ok (.istore 4, 2) := by decide +kernel
theorem d4_14 : decode jdk_52_method_16_code 14 = .ok (.iload 4, 2) := by decide +kernel
theorem d4_16 : decode jdk_52_method_16_code 16 = .ok (.iload_n 2, 1) := by decide +kernel
theorem d4_17 : decode jdk_52_method_16_code 17 = .ok (.if_icmp .eq 40, 3) := by decide +kernel
theorem d4_57 : decode jdk_52_method_16_code 57 = .ok (.aload_n 3, 1) := by decide +kernel
theorem d4_58 : decode jdk_52_method_16_code 58 = .ok (.areturn, 1) := by decide +kernel
theorem ef_W5 (m : MethodId) (a0 : Addr) : entryFrame m #[(.ref a0), (.int (0 : Int32)), (.int (5 : Int32))] 6 = mkF m 0 #[.val (.ref a0), .val (.int (0 : Int32)), .val (.int (5 : Int32)), .unset, .unset, .unset] [] := by first | (simp [entryFrame, mkF, argsToLocals, Value.category, maxLocals]; done) | rfl
def QW5 (Z : State) (a0 : Addr) (kc : ClassId) (ca : Int32) (cb : Int32) (cc : Int32) (cd : Int32) (ce : Int32) (h0 : Heap) (n0 : Nat) (v : Option Value) (h : Heap) (L : List Loc) : Prop := ∃ va kb, v = some (.ref va) ∧ Fr n0 L ∧ Keep h0 h [] ∧ h0.size ≤ va ∧ Arv Z h va kb .byte (5 : Int32) [(.int (own_by ca)), (.int (own_by cb)), (.int (own_by cc)), (.int (own_by cd)), (.int (own_by ce))] (.int (0 : Int32))
set_option maxRecDepth 65536 in
set_option maxHeartbeats 40000000 in
theorem rmW5 (l : Launch) (Z : State) (aw : Array Value) (hw : ∀ d ∈ tables_1, d.before aw Z = true) (ws : List Jvm.Cond) (a0 : Addr) (kc : ClassId) (ca : Int32) (cb : Int32) (cc : Int32) (cd : Int32) (ce : Int32) (h0 : Heap) (n0 : Nat) (Z0 : n0 ≤ h0.size) (V0 : Arv Z h0 a0 kc .char (5 : Int32) [(.int ca), (.int cb), (.int cc), (.int cd), (.int ce)] (.int (0 : Int32))) (hca : ¬ ((255 : Int32) < ca)) (hcb : ¬ ((255 : Int32) < cb)) (hcc : ¬ ((255 : Int32) < cc)) (hcd : ¬ ((255 : Int32) < cd)) (hce : ¬ ((255 : Int32) < ce)) :
    MetFree l (⟨"java/lang/StringUTF16", "compress", "([CII)[B"⟩ : MethodName) (head1 (Jvm.Cond.code (⟨"java/lang/StringUTF16", "compress", "([CII)[B"⟩ : MethodName) jdk_52_method_16_code 6 (some (.array .byte)) :: ws) ({ frames := 1, cells := 1, slots := 5, locals := 18 } : Room)) (fun a U => a = #[(.ref a0), (.int (0 : Int32)), (.int (5 : Int32))] ∧ Z.Warmed39 U.vm ∧ U.heap = h0) (fun _ _ _ _ _ => True) (fun _ U o U' => ∃ v L, o = .returned v ∧ QW5 Z a0 kc ca cb cc cd ce h0 n0 v U'.heap L ∧ FrameEnd U o U' L ({ frames := 1, cells := 1, slots := 5, locals := 18 } : Room).cells ({ frames := 1, cells := 1, slots := 5, locals := 18 } : Room).slots) := by
  refine MetFree.of_bodySF (plainFor_of_name pn_0) hisR ?_
  intro p e s m args below meth c s₁ Bd hml0 hP hK
  obtain ⟨rfl, hZ, hh⟩ := hP
  have hx := Bd.exec
  have hby := Bd.bytes
  have hml : c.maxLocals = 6 := hml0
  have hown : s.vm.findClass "java/lang/StringUTF16" = some m.cls := findClass_of_methodNamed Bd.named
  have hnm := (name_of_methodNamed Bd.named Bd.method).1
  have hlk : meth.locks = false := BodyLoose.notSynchronized Bd
  have X0 : Stand p l e ({ frames := 1, cells := 1, slots := 5, locals := 18 } : Room) s m #[(.ref a0), (.int (0 : Int32)), (.int (5 : Int32))] below meth c s₁ [] 0 0 := Stand.of_body Bd
  have eh0 : s₁.heap = h0 := by rw [← hh, Bd.state]; rfl
  have N0 := Fr.nil n0
  show Rest p.tables e below s (QW5 Z a0 kc ca cb cc cd ce h0 n0) _ _ (s₁.setTop (entryFrame m #[(.ref a0), (.int (0 : Int32)), (.int (5 : Int32))] 6))
  refine Rest.via (fun t k => castTop (ef_W5 m a0) k) ?_
  show Rest p.tables e below s _ _ _ (s₁.setTop (mkF m 0 #[.val (.ref a0), .val (.int (0 : Int32)), .val (.int (5 : Int32)), .unset, .unset, .unset] []))
  refine Rest.via (fun t k => XS.iloadN X0.here hx rfl (hb hby d4_0) rfl k) ?_
  show Rest p.tables e below s _ _ _ (s₁.setTop (mkF m 1 #[.val (.ref a0), .val (.int (0 : Int32)), .val (.int (5 : Int32)), .unset, .unset, .unset] [(.int (5 : Int32))]))
  obtain ⟨T1, h1, k1, X1, e1, E1, A1, st1⟩ := newP X0 hx hZ (hw _ (List.mem_of_getElem? (i := 23) rfl)) eh0 (g := (mkF m 1 #[.val (.ref a0), .val (.int (0 : Int32)), .val (.int (5 : Int32)), .unset, .unset, .unset] [(.int (5 : Int32))])) rfl (hb hby d4_1) rfl (by decide) (cap := 5) (by decide) (by decide) (by decide) (by decide)
  obtain ⟨b1, gq1⟩ : ∃ z, z = h0.size := ⟨_, rfl⟩
  rw [← gq1] at A1 st1
  have sz_b1 : h0.size ≤ b1 := Nat.le_trans (Keep.refl h0 []).1 (Nat.le_of_eq gq1.symm)
  have g_b1 : n0 ≤ b1 := Nat.le_trans Z0 sz_b1
  have ne_a0_b1 : a0 ≠ b1 := Nat.ne_of_lt (Nat.lt_of_lt_of_le V0.lt (Nat.le_of_eq gq1.symm))
  have K1 : Keep h0 h1 [] := (Keep.refl h0 []).ext E1
  have V_b1 := Arv.new A1 (by decide)
  have V_b1 : Arv Z h1 b1 k1 .byte (5 : Int32) [(.int (0 : Int32)), (.int (0 : Int32)), (.int (0 : Int32)), (.int (0 : Int32)), (.int (0 : Int32))] (.int (0 : Int32)) := V_b1.pad (pad_rep [] (.int (0 : Int32)) 5)
  refine Rest.via (fun t k => st1 t k) ?_
  show Rest p.tables e below s _ _ _ (T1.setTop (mkF m 3 #[.val (.ref a0), .val (.int (0 : Int32)), .val (.int (5 : Int32)), .unset, .unset, .unset] [(.ref b1)]))
  refine Rest.via (fun t k => XS.astoreN X1.here hx rfl (hb hby d4_3) rfl rfl (l' := #[.val (.ref a0), .val (.int (0 : Int32)), .val (.int (5 : Int32)), .val (.ref b1), .unset, .unset]) rfl k) ?_
  show Rest p.tables e below s _ _ _ (T1.setTop (mkF m 4 #[.val (.ref a0), .val (.int (0 : Int32)), .val (.int (5 : Int32)), .val (.ref b1), .unset, .unset] []))
  refine Rest.via (fun t k => XS.aloadN X1.here hx rfl (hb hby d4_4) rfl rfl k) ?_
  show Rest p.tables e below s _ _ _ (T1.setTop (mkF m 5 #[.val (.ref a0), .val (.int (0 : Int32)), .val (.int (5 : Int32)), .val (.ref b1), .unset, .unset] [(.ref a0)]))
  refine Rest.via (fun t k => XS.iloadN X1.here hx rfl (hb hby d4_5) rfl k) ?_
  show Rest p.tables e below s _ _ _ (T1.setTop (mkF m 6 #[.val (.ref a0), .val (.int (0 : Int32)), .val (.int (5 : Int32)), .val (.ref b1), .unset, .unset] [(.int (0 : Int32)), (.ref a0)]))
  refine Rest.via (fun t k => XS.aloadN X1.here hx rfl (hb hby d4_6) rfl rfl k) ?_
  show Rest p.tables e below s _ _ _ (T1.setTop (mkF m 7 #[.val (.ref a0), .val (.int (0 : Int32)), .val (.int (5 : Int32)), .val (.ref b1), .unset, .unset] [(.ref b1), (.int (0 : Int32)), (.ref a0)]))
  refine Rest.via (fun t k => XS.iconst X1.here hx rfl (hb hby d4_7) k) ?_
  show Rest p.tables e below s _ _ _ (T1.setTop (mkF m 8 #[.val (.ref a0), .val (.int (0 : Int32)), .val (.int (5 : Int32)), .val (.ref b1), .unset, .unset] [(.int (0 : Int32)), (.ref b1), (.int (0 : Int32)), (.ref a0)]))
  refine Rest.via (fun t k => XS.iloadN X1.here hx rfl (hb hby d4_8) rfl k) ?_
  show Rest p.tables e below s _ _ _ (T1.setTop (mkF m 9 #[.val (.ref a0), .val (.int (0 : Int32)), .val (.int (5 : Int32)), .val (.ref b1), .unset, .unset] [(.int (5 : Int32)), (.int (0 : Int32)), (.ref b1), (.int (0 : Int32)), (.ref a0)]))
  obtain ⟨_, _, ⟨T2, L2, k2, n2⟩, -, X2, ⟨Lc2, hQ2, l2, y2, z2⟩, st2⟩ := Jvm.LawKit.callS X1 hx (y := (⟨"java/lang/StringUTF16", "compress", "([CI[BII)I"⟩ : MethodName)) hown (mvT hZ (hw _ (List.mem_of_getElem? (i := 24) rfl))) (mvT hZ (hw _ (List.mem_of_getElem? (i := 25) rfl))) (mvT hZ (hw _ (List.mem_of_getElem? (i := 21) rfl))) (mvT hZ (hw _ (List.mem_of_getElem? (i := 26) rfl))) (by decide) (backOf (W := 0) (rmU5 l Z aw hw [] a0 b1 kc k1 ca cb cc cd ce h1 n0 (Nat.le_trans Z0 K1.1) (V0.ext E1) V_b1 ne_a0_b1 g_b1 hca hcb hcc hcd hce) hZ (hw _ (List.mem_of_getElem? (i := 26) rfl)) (hw _ (List.mem_of_getElem? (i := 21) rfl)) (by decide) (by decide)) (g := (mkF m 9 #[.val (.ref a0), .val (.int (0 : Int32)), .val (.int (5 : Int32)), .val (.ref b1), .unset, .unset] [(.int (5 : Int32)), (.int (0 : Int32)), (.ref b1), (.int (0 : Int32)), (.ref a0)])) rfl (by rw [hml]; rfl) (argsL := [(.ref a0), (.int (0 : Int32)), (.ref b1), (.int (0 : Int32)), (.int (5 : Int32))]) (rest := []) (lenOf pd_0 rfl) rfl (by show 2 * 0 + _ ≤ _; exact Nat.le_of_eq rfl) (hb hby d4_9) (fun _ _ => ⟨rfl, e1, (by decide : 1 + 0 ≤ _), (by decide : 5 + 0 ≤ _)⟩)
  dsimp only [Pt.U, Pt.locs, Pt.cells, Pt.slots] at X2 l2 y2 z2 st2 hQ2
  subst l2 y2 z2
  obtain ⟨h2, e2⟩ : ∃ z, T2.heap = z := ⟨_, rfl⟩
  rw [e2] at hQ2
  obtain ⟨rfl, Nq2, Kq2, Vq2⟩ := hQ2
  have N2 := Fr.app N0 Nq2
  have K2 : Keep h0 h2 [] := K1.trans Kq2 (allS (Or.inr sz_b1) all0)
  refine Rest.via (fun t k => st2 t k) ?_
  show Rest p.tables e below s _ _ _ (T2.setTop (mkF m 12 #[.val (.ref a0), .val (.int (0 : Int32)), .val (.int (5 : Int32)), .val (.ref b1), .unset, .unset] [(.int (5 : Int32))]))
  refine Rest.via (fun t k => XS.istore X2.here hx rfl (hb hby d4_12) rfl (l' := #[.val (.ref a0), .val (.int (0 : Int32)), .val (.int (5 : Int32)), .val (.ref b1), .val (.int (5 : Int32)), .unset]) rfl k) ?_
  show Rest p.tables e below s _ _ _ (T2.setTop (mkF m 14 #[.val (.ref a0), .val (.int (0 : Int32)), .val (.int (5 : Int32)), .val (.ref b1), .val (.int (5 : Int32)), .unset] []))
  refine Rest.via (fun t k => XS.iload X2.here hx rfl (hb hby d4_14) rfl k) ?_
  show Rest p.tables e below s _ _ _ (T2.setTop (mkF m 16 #[.val (.ref a0), .val (.int (0 : Int32)), .val (.int (5 : Int32)), .val (.ref b1), .val (.int (5 : Int32)), .unset] [(.int (5 : Int32))]))
  refine Rest.via (fun t k => XS.iloadN X2.here hx rfl (hb hby d4_16) rfl k) ?_
  show Rest p.tables e below s _ _ _ (T2.setTop (mkF m 17 #[.val (.ref a0), .val (.int (0 : Int32)), .val (.int (5 : Int32)), .val (.ref b1), .val (.int (5 : Int32)), .unset] [(.int (5 : Int32)), (.int (5 : Int32))]))
  refine Rest.via (fun t k => XS.icmpYes X2.here hx rfl (pc0 := 17) (pc' := 57) rfl (hb hby d4_17) rfl (teq (by decide : (5 : Int32) = (5 : Int32))).1 (by decide) (by decide) k) ?_
  show Rest p.tables e below s _ _ _ (T2.setTop (mkF m 57 #[.val (.ref a0), .val (.int (0 : Int32)), .val (.int (5 : Int32)), .val (.ref b1), .val (.int (5 : Int32)), .unset] []))
  refine Rest.via (fun t k => XS.aloadN X2.here hx rfl (hb hby d4_57) rfl rfl k) ?_
  show Rest p.tables e below s _ _ _ (T2.setTop (mkF m 58 #[.val (.ref a0), .val (.int (0 : Int32)), .val (.int (5 : Int32)), .val (.ref b1), .val (.int (5 : Int32)), .unset] [(.ref b1)]))
  refine Rest.ret X2 (v := some (.ref b1)) (fun h => by rw [Bd.returns] at h; cases h) hlk (fun fs hr => retOut X2 hx Bd.returns rfl (Or.inr (Or.inr (Or.inr (Or.inr ⟨rfl, rfl, rfl⟩)))) (hb hby d4_58) hr) ?_ (by decide) (by decide)
  rw [e2]
  exact ⟨b1, k1, rfl, N2, K2, sz_b1, Vq2⟩
theorem d6_0 : decode jdk_52_method_15_code 0 = .ok (.iload_n 1, 1) := by decide +kernel
theorem d6_1 : decode jdk_52_method_15_code 1 = .ok (.aload_n 0, 1) := by decide +kernel
theorem d6_2 : decode jdk_52_method_15_code 2 = .ok (.arraylength, 1) := by decide +kernel
theorem d6_3 : decode jdk_52_method_15_code 3 = .ok (.isub, 1) := by decide +kernel
theorem d6_4 : decode jdk_52_method_15_code 4 = .ok (.bipush 31, 2) := by decide +kernel
theorem d6_6 : decode jdk_52_method_15_code 6 = .ok (.iushr, 1) := by decide +kernel
theorem d6_7 : decode jdk_52_method_15_code 7 = .ok (.i2b, 1) := by decide +kernel
theorem d6_8 : decode jdk_52_method_15_code 8 = .ok (.ireturn, 1) := by decide +kernel
theorem ef_C5 (m : MethodId) (a0 : Addr) : entryFrame m #[(.ref a0), (.int (5 : Int32))] 2 = mkF m 0 #[.val (.ref a0), .val (.int (5 : Int32))] [] := by first | (simp [entryFrame, mkF, argsToLocals, Value.category, maxLocals]; done) | rfl
def QC5 (Z : State) (a0 : Addr) (k : ClassId) (vs : List Value) (h0 : Heap) (n0 : Nat) (v : Option Value) (h : Heap) (L : List Loc) : Prop := v = some (.int (0 : Int32)) ∧ Fr n0 L ∧ h = h0
set_option maxRecDepth 65536 in
set_option maxHeartbeats 40000000 in
theorem rmC5 (l : Launch) (Z : State) (aw : Array Value) (hw : ∀ d ∈ tables_1, d.before aw Z = true) (ws : List Jvm.Cond) (a0 : Addr) (k : ClassId) (vs : List Value) (h0 : Heap) (n0 : Nat) (Z0 : n0 ≤ h0.size) (V0 : Arv Z h0 a0 k .byte (5 : Int32) vs (.int (0 : Int32))) :
    MetFree l (⟨"java/lang/StringUTF16", "coderFromArrayLen", "([BI)B"⟩ : MethodName) (head1 (Jvm.Cond.code (⟨"java/lang/StringUTF16", "coderFromArrayLen", "([BI)B"⟩ : MethodName) jdk_52_method_15_code 2 (some .byte) :: ws) ({ frames := 0, cells := 0, slots := 0, locals := 0 } : Room)) (fun a U => a = #[(.ref a0), (.int (5 : Int32))] ∧ Z.Warmed39 U.vm ∧ U.heap = h0) (fun _ _ _ _ _ => True) (fun _ U o U' => ∃ v L, o = .returned v ∧ QC5 Z a0 k vs h0 n0 v U'.heap L ∧ FrameEnd U o U' L ({ frames := 0, cells := 0, slots := 0, locals := 0 } : Room).cells ({ frames := 0, cells := 0, slots := 0, locals := 0 } : Room).slots) := by
  refine MetFree.of_bodySF (plainFor_of_name pn_0) hisR ?_
  intro p e s m args below meth c s₁ Bd hml0 hP hK
  obtain ⟨rfl, hZ, hh⟩ := hP
  have hx := Bd.exec
  have hby := Bd.bytes
  have hml : c.maxLocals = 2 := hml0
  have hown : s.vm.findClass "java/lang/StringUTF16" = some m.cls := findClass_of_methodNamed Bd.named
  have hnm := (name_of_methodNamed Bd.named Bd.method).1
  have hlk : meth.locks = false := BodyLoose.notSynchronized Bd
  have X0 : Stand p l e ({ frames := 0, cells := 0, slots := 0, locals := 0 } : Room) s m #[(.ref a0), (.int (5 : Int32))] below meth c s₁ [] 0 0 := Stand.of_body Bd
  have eh0 : s₁.heap = h0 := by rw [← hh, Bd.state]; rfl
  have N0 := Fr.nil n0
  show Rest p.tables e below s (QC5 Z a0 k vs h0 n0) _ _ (s₁.setTop (entryFrame m #[(.ref a0), (.int (5 : Int32))] 2))
  refine Rest.via (fun t k => castTop (ef_C5 m a0) k) ?_
  show Rest p.tables e below s _ _ _ (s₁.setTop (mkF m 0 #[.val (.ref a0), .val (.int (5 : Int32))] []))
  refine Rest.via (fun t k => XS.iloadN X0.here hx rfl (hb hby d6_0) rfl k) ?_
  show Rest p.tables e below s _ _ _ (s₁.setTop (mkF m 1 #[.val (.ref a0), .val (.int (5 : Int32))] [(.int (5 : Int32))]))
  refine Rest.via (fun t k => XS.aloadN X0.here hx rfl (hb hby d6_1) rfl rfl k) ?_
  show Rest p.tables e below s _ _ _ (s₁.setTop (mkF m 2 #[.val (.ref a0), .val (.int (5 : Int32))] [(.ref a0), (.int (5 : Int32))]))
  obtain ⟨cl1, Ar1, -, S1, P1, -, -⟩ := id V0
  refine Rest.via (fun t k => X0.arraylength hx (by rw [eh0]; exact Ar1.1) (State.isArrayOf_alike hZ.alike Ar1.2.1) (g := (mkF m 2 #[.val (.ref a0), .val (.int (5 : Int32))] [(.ref a0), (.int (5 : Int32))])) rfl rfl (hb hby d6_2) t k) ?_
  rw [len_of S1 P1]
  show Rest p.tables e below s _ _ _ (s₁.setTop (mkF m 3 #[.val (.ref a0), .val (.int (5 : Int32))] [(.int (5 : Int32)), (.int (5 : Int32))]))
  refine Rest.via (fun t k => XS.isub X0.here hx rfl (hb hby d6_3) rfl k) ?_
  show Rest p.tables e below s _ _ _ (s₁.setTop (mkF m 4 #[.val (.ref a0), .val (.int (5 : Int32))] [(.int ((5 : Int32) - (5 : Int32)))]))
  rw [(by decide : ((5 : Int32) - (5 : Int32)) = (0 : Int32))]
  show Rest p.tables e below s _ _ _ (s₁.setTop (mkF m 4 #[.val (.ref a0), .val (.int (5 : Int32))] [(.int (0 : Int32))]))
  refine Rest.via (fun t k => XS.bipush X0.here hx rfl (hb hby d6_4) k) ?_
  show Rest p.tables e below s _ _ _ (s₁.setTop (mkF m 6 #[.val (.ref a0), .val (.int (5 : Int32))] [(.int (31 : Int32)), (.int (0 : Int32))]))
  refine Rest.via (fun t k => XS.iushr X0.here hx rfl (hb hby d6_6) rfl k) ?_
  show Rest p.tables e below s _ _ _ (s₁.setTop (mkF m 7 #[.val (.ref a0), .val (.int (5 : Int32))] [(.int (((0 : Int32).toUInt32 >>> ((31 : Int32) &&& 31).toUInt32).toInt32))]))
  rw [(by decide : (((0 : Int32).toUInt32 >>> ((31 : Int32) &&& 31).toUInt32).toInt32) = (0 : Int32))]
  show Rest p.tables e below s _ _ _ (s₁.setTop (mkF m 7 #[.val (.ref a0), .val (.int (5 : Int32))] [(.int (0 : Int32))]))
  refine Rest.via (fun t k => XS.i2b X0.here hx rfl (hb hby d6_7) rfl k) ?_
  show Rest p.tables e below s _ _ _ (s₁.setTop (mkF m 8 #[.val (.ref a0), .val (.int (5 : Int32))] [(.int ((0 : Int32).toInt8.toInt32))]))
  rw [(by decide : ((0 : Int32).toInt8.toInt32) = (0 : Int32))]
  show Rest p.tables e below s _ _ _ (s₁.setTop (mkF m 8 #[.val (.ref a0), .val (.int (5 : Int32))] [(.int (0 : Int32))]))
  refine Rest.ret X0 (v := some (.int (nar .byte (0 : Int32)))) (fun h => by rw [Bd.returns] at h; cases h) hlk (fun fs hr => retN X0 hx (t := .byte) Bd.returns (by simp) (hb hby d6_8) hr) ?_ (by decide) (by decide)
  rw [eh0]
  exact ⟨rfl, N0, rfl⟩
theorem pd_1 : parseMethodDescriptor "([CII)[B" = some ⟨[(.array .char), .int, .int], some (.array .byte)⟩ := by decide +kernel
theorem pd_2 : parseMethodDescriptor "([BI)B" = some ⟨[(.array .byte), .int], some .byte⟩ := by decide +kernel
theorem d2_0 : decode jdk_42_method_149_code 0 = .ok (.aload_n 0, 1) := by decide +kernel
theorem d2_1 : decode jdk_42_method_149_code 1 = .ok (.invokespecial 1, 3) := by decide +kernel
theorem d2_4 : decode jdk_42_method_149_code 4 = .ok (.iload_n 3, 1) := by decide +kernel
theorem d2_5 : decode jdk_42_method_149_code 5 = .ok (.ifCond .ne 22, 3) := by decide +kernel
theorem d2_27 : decode jdk_42_method_149_code 27 = .ok (.getstatic 38, 3) := by decide +kernel
theorem d2_30 : decode jdk_42_method_149_code 30 = .ok (.ifCond .eq 28, 3) := by decide +kernel
theorem d2_33 : decode jdk_42_method_149_code 33 = .ok (.aload_n 1, 1) := by decide +kernel
theorem d2_34 : decode jdk_42_method_149_code 34 = .ok (.iload_n 2, 1) := by decide +kernel
theorem d2_35 : decode jdk_42_method_149_code 35 = .ok (.iload_n 3, 1) := by decide +kernel
theorem d2_36 : decode jdk_42_method_149_code 36 = .ok (.invokestatic 177, 3) := by decide +kernel
theorem d2_39 : decode jdk_42_method_149_code 39 = .ok (.astore 5, 2) := by decide +kernel
theorem d2_41 : decode jdk_42_method_149_code 41 = .ok (.aload_n 0, 1) := by decide +kernel
theorem d2_42 : decode jdk_42_method_149_code 42 = .ok (.aload 5, 2) := by decide +kernel
theorem d2_44 : decode jdk_42_method_149_code 44 = .ok (.iload_n 3, 1) := by decide +kernel
theorem d2_45 : decode jdk_42_method_149_code 45 = .ok (.invokestatic 47, 3) := by decide +kernel
theorem d2_48 : decode jdk_42_method_149_code 48 = .ok (.putfield 15, 3) := by decide +kernel
theorem d2_51 : decode jdk_42_method_149_code 51 = .ok (.aload_n 0, 1) := by decide +kernel
theorem d2_52 : decode jdk_42_method_149_code 52 = .ok (.aload 5, 2) := by decide +kernel
theorem d2_54 : decode jdk_42_method_149_code 54 = .ok (.putfield 9, 3) := by decide +kernel
theorem d2_57 : decode jdk_42_method_149_code 57 = .ok (.return_, 1) := by decide +kernel
theorem pn_1 : plainName "java/lang/String" = true := by first | (simp [plainName, overriddenIn]; done) | decide +kernel
theorem ef_SJ5 (m : MethodId) (a0 : Addr) (a1 : Addr) : entryFrame m #[(.ref a0), (.ref a1), (.int (0 : Int32)), (.int (5 : Int32)), .null] 6 = mkF m 0 #[.val (.ref a0), .val (.ref a1), .val (.int (0 : Int32)), .val (.int (5 : Int32)), .val .null, .unset] [] := by first | (simp [entryFrame, mkF, argsToLocals, Value.category, maxLocals]; done) | rfl
def QSJ5 (Z : State) (a0 : Addr) (a1 : Addr) (kc : ClassId) (ic : Int32) (ca : Int32) (cb : Int32) (cc : Int32) (cd : Int32) (ce : Int32) (h0 : Heap) (n0 : Nat) (v : Option Value) (h : Heap) (L : List Loc) : Prop := v = none ∧ Fr n0 L ∧ Keep h0 h [a0] ∧ ∃ va kb, h0.size ≤ va ∧ Fld Z h a0 "java/lang/String" "value" "[B" (.ref va) ∧ Fld Z h a0 "java/lang/String" "coder" "B" (.int (0 : Int32)) ∧ Arv Z h va kb .byte (5 : Int32) [(.int (own_by ca)), (.int (own_by cb)), (.int (own_by cc)), (.int (own_by cd)), (.int (own_by ce))] (.int (0 : Int32)) ∧ a0 ≠ va
set_option maxRecDepth 65536 in
set_option maxHeartbeats 40000000 in
theorem rmSJ5 (l : Launch) (Z : State) (aw : Array Value) (hw : ∀ d ∈ tables_1, d.before aw Z = true) (ws : List Jvm.Cond) (a0 : Addr) (a1 : Addr) (kc : ClassId) (ic : Int32) (ca : Int32) (cb : Int32) (cc : Int32) (cd : Int32) (ce : Int32) (h0 : Heap) (n0 : Nat) (Z0 : n0 ≤ h0.size) (E_a0 : Exa Z h0 a0 "java/lang/String") (F_v : Fld Z h0 a0 "java/lang/String" "value" "[B" .null) (F_c : Fld Z h0 a0 "java/lang/String" "coder" "B" (.int (0 : Int32))) (g_a0 : n0 ≤ a0) (V1 : Arv Z h0 a1 kc .char (5 : Int32) [(.int ca), (.int cb), (.int cc), (.int cd), (.int ce)] (.int (0 : Int32))) (hca : ¬ ((255 : Int32) < ca)) (hcb : ¬ ((255 : Int32) < cb)) (hcc : ¬ ((255 : Int32) < cc)) (hcd : ¬ ((255 : Int32) < cd)) (hce : ¬ ((255 : Int32) < ce)) (O : Old Z n0 h0) (CS : own_CS Z ic) :
    MetFree l (⟨"java/lang/String", "<init>", "([CIILjava/lang/Void;)V"⟩ : MethodName) (head1 (Jvm.Cond.code (⟨"java/lang/String", "<init>", "([CIILjava/lang/Void;)V"⟩ : MethodName) jdk_42_method_149_code 6 none :: ws) ({ frames := 2, cells := 1, slots := 5, locals := 35 } : Room)) (fun a U => a = #[(.ref a0), (.ref a1), (.int (0 : Int32)), (.int (5 : Int32)), .null] ∧ Z.Warmed39 U.vm ∧ U.heap = h0) (fun _ _ _ _ _ => True) (fun _ U o U' => ∃ v L, o = .returned v ∧ QSJ5 Z a0 a1 kc ic ca cb cc cd ce h0 n0 v U'.heap L ∧ FrameEnd U o U' L ({ frames := 2, cells := 1, slots := 5, locals := 35 } : Room).cells ({ frames := 2, cells := 1, slots := 5, locals := 35 } : Room).slots) := by
  refine MetFree.of_bodySF (plainFor_of_name pn_1) hisR ?_
  intro p e s m args below meth c s₁ Bd hml0 hP hK
  obtain ⟨rfl, hZ, hh⟩ := hP
  have hx := Bd.exec
  have hby := Bd.bytes
  have hml : c.maxLocals = 6 := hml0
  have hown : s.vm.findClass "java/lang/String" = some m.cls := findClass_of_methodNamed Bd.named
  have hnm := (name_of_methodNamed Bd.named Bd.method).1
  have hlk : meth.locks = false := BodyLoose.notSynchronized Bd
  have X0 : Stand p l e ({ frames := 2, cells := 1, slots := 5, locals := 35 } : Room) s m #[(.ref a0), (.ref a1), (.int (0 : Int32)), (.int (5 : Int32)), .null] below meth c s₁ [] 0 0 := Stand.of_body Bd
  have eh0 : s₁.heap = h0 := by rw [← hh, Bd.state]; rfl
  have N0 := Fr.nil n0
  show Rest p.tables e below s (QSJ5 Z a0 a1 kc ic ca cb cc cd ce h0 n0) _ _ (s₁.setTop (entryFrame m #[(.ref a0), (.ref a1), (.int (0 : Int32)), (.int (5 : Int32)), .null] 6))
  refine Rest.via (fun t k => castTop (ef_SJ5 m a0 a1) k) ?_
  show Rest p.tables e below s _ _ _ (s₁.setTop (mkF m 0 #[.val (.ref a0), .val (.ref a1), .val (.int (0 : Int32)), .val (.int (5 : Int32)), .val .null, .unset] []))
  refine Rest.via (fun t k => XS.aloadN X0.here hx rfl (hb hby d2_0) rfl rfl k) ?_
  show Rest p.tables e below s _ _ _ (s₁.setTop (mkF m 1 #[.val (.ref a0), .val (.ref a1), .val (.int (0 : Int32)), .val (.int (5 : Int32)), .val .null, .unset] [(.ref a0)]))
  obtain ⟨T1, X1, e1, st1⟩ := initO X0 hx hZ hown (hw _ (List.mem_of_getElem? (i := 15) rfl)) (hw _ (List.mem_of_getElem? (i := 16) rfl)) (hw _ (List.mem_of_getElem? (i := 17) rfl)) eh0 (g := (mkF m 1 #[.val (.ref a0), .val (.ref a1), .val (.int (0 : Int32)), .val (.int (5 : Int32)), .val .null, .unset] [(.ref a0)])) rfl (by rw [hml]; rfl) rfl (hb hby d2_1) (by decide) (W := 0) (by show 2 * 0 + _ ≤ _; exact Nat.le_of_eq rfl) (by decide)
  refine Rest.via (fun t k => st1 t k) ?_
  show Rest p.tables e below s _ _ _ (T1.setTop (mkF m 4 #[.val (.ref a0), .val (.ref a1), .val (.int (0 : Int32)), .val (.int (5 : Int32)), .val .null, .unset] []))
  refine Rest.via (fun t k => XS.iloadN X1.here hx rfl (hb hby d2_4) rfl k) ?_
  show Rest p.tables e below s _ _ _ (T1.setTop (mkF m 5 #[.val (.ref a0), .val (.ref a1), .val (.int (0 : Int32)), .val (.int (5 : Int32)), .val .null, .unset] [(.int (5 : Int32))]))
  refine Rest.via (fun t k => XS.ifYes X1.here hx rfl (pc0 := 5) (pc' := 27) rfl (hb hby d2_5) rfl ((if0 _ _).trans (feq (by decide : ¬ ((5 : Int32) = (0 : Int32)))).2) (by decide) (by decide) k) ?_
  show Rest p.tables e below s _ _ _ (T1.setTop (mkF m 27 #[.val (.ref a0), .val (.ref a1), .val (.int (0 : Int32)), .val (.int (5 : Int32)), .val .null, .unset] []))
  obtain ⟨T2, X2, e2, st2⟩ := getS2 X1 hx hZ hown (host := "") (Or.inl (hw _ (List.mem_of_getElem? (i := 18) rfl))) Via.refl e1 (CS.1.ext (O.keep (Keep.refl h0 [a0]) (allS g_a0 all0)).2) (g := (mkF m 27 #[.val (.ref a0), .val (.ref a1), .val (.int (0 : Int32)), .val (.int (5 : Int32)), .val .null, .unset] [])) rfl (hb hby d2_27)
  refine Rest.via (fun t k => st2 t k) ?_
  show Rest p.tables e below s _ _ _ (T2.setTop (mkF m 30 #[.val (.ref a0), .val (.ref a1), .val (.int (0 : Int32)), .val (.int (5 : Int32)), .val .null, .unset] [(.int ic)]))
  refine Rest.via (fun t k => XS.ifNo X2.here hx rfl (hb hby d2_30) rfl ((if0 _ _).trans (feq (CS.2 : ¬ (ic = (0 : Int32)))).1) k) ?_
  show Rest p.tables e below s _ _ _ (T2.setTop (mkF m 33 #[.val (.ref a0), .val (.ref a1), .val (.int (0 : Int32)), .val (.int (5 : Int32)), .val .null, .unset] []))
  refine Rest.via (fun t k => XS.aloadN X2.here hx rfl (hb hby d2_33) rfl rfl k) ?_
  show Rest p.tables e below s _ _ _ (T2.setTop (mkF m 34 #[.val (.ref a0), .val (.ref a1), .val (.int (0 : Int32)), .val (.int (5 : Int32)), .val .null, .unset] [(.ref a1)]))
  refine Rest.via (fun t k => XS.iloadN X2.here hx rfl (hb hby d2_34) rfl k) ?_
  show Rest p.tables e below s _ _ _ (T2.setTop (mkF m 35 #[.val (.ref a0), .val (.ref a1), .val (.int (0 : Int32)), .val (.int (5 : Int32)), .val .null, .unset] [(.int (0 : Int32)), (.ref a1)]))
  refine Rest.via (fun t k => XS.iloadN X2.here hx rfl (hb hby d2_35) rfl k) ?_
  show Rest p.tables e below s _ _ _ (T2.setTop (mkF m 36 #[.val (.ref a0), .val (.ref a1), .val (.int (0 : Int32)), .val (.int (5 : Int32)), .val .null, .unset] [(.int (5 : Int32)), (.int (0 : Int32)), (.ref a1)]))
  obtain ⟨_, _, ⟨T3, L3, k3, n3⟩, -, X3, ⟨Lc3, hQ3, l3, y3, z3⟩, st3⟩ := Jvm.LawKit.callS X2 hx (y := (⟨"java/lang/StringUTF16", "compress", "([CII)[B"⟩ : MethodName)) hown (mvT hZ (hw _ (List.mem_of_getElem? (i := 19) rfl))) (mvT hZ (hw _ (List.mem_of_getElem? (i := 20) rfl))) (mvT hZ (hw _ (List.mem_of_getElem? (i := 21) rfl))) (mvT hZ (hw _ (List.mem_of_getElem? (i := 22) rfl))) (by decide) (backOf (W := 0) (rmW5 l Z aw hw [] a1 kc ca cb cc cd ce h0 n0 (Nat.le_trans Z0 (Keep.refl h0 [a0]).1) V1 hca hcb hcc hcd hce) hZ (hw _ (List.mem_of_getElem? (i := 22) rfl)) (hw _ (List.mem_of_getElem? (i := 21) rfl)) (by decide) (by decide)) (g := (mkF m 36 #[.val (.ref a0), .val (.ref a1), .val (.int (0 : Int32)), .val (.int (5 : Int32)), .val .null, .unset] [(.int (5 : Int32)), (.int (0 : Int32)), (.ref a1)])) rfl (by rw [hml]; rfl) (argsL := [(.ref a1), (.int (0 : Int32)), (.int (5 : Int32))]) (rest := []) (lenOf pd_1 rfl) rfl (by show 2 * 0 + _ ≤ _; exact Nat.le_of_eq rfl) (hb hby d2_36) (fun _ _ => ⟨rfl, e2, (by decide : 0 + 1 ≤ _), (by decide : 0 + 5 ≤ _)⟩)
  dsimp only [Pt.U, Pt.locs, Pt.cells, Pt.slots] at X3 l3 y3 z3 st3 hQ3
  subst l3 y3 z3
  obtain ⟨h3, e3⟩ : ∃ z, T3.heap = z := ⟨_, rfl⟩
  rw [e3] at hQ3
  obtain ⟨va3, kb3, rfl, Nq3, Kq3, sd3, Vq3⟩ := hQ3
  have N3 := Fr.app N0 Nq3
  have sz_va3 : h0.size ≤ va3 := Nat.le_trans (Keep.refl h0 [a0]).1 sd3
  have ne_a0_va3 : a0 ≠ va3 := Nat.ne_of_lt (Nat.lt_of_lt_of_le E_a0.lt sd3)
  have K3 : Keep h0 h3 [a0] := (Keep.refl h0 [a0]).trans Kq3 all0
  refine Rest.via (fun t k => st3 t k) ?_
  show Rest p.tables e below s _ _ _ (T3.setTop (mkF m 39 #[.val (.ref a0), .val (.ref a1), .val (.int (0 : Int32)), .val (.int (5 : Int32)), .val .null, .unset] [(.ref va3)]))
  refine Rest.via (fun t k => XS.astore X3.here hx rfl (hb hby d2_39) rfl rfl (l' := #[.val (.ref a0), .val (.ref a1), .val (.int (0 : Int32)), .val (.int (5 : Int32)), .val .null, .val (.ref va3)]) rfl k) ?_
  show Rest p.tables e below s _ _ _ (T3.setTop (mkF m 41 #[.val (.ref a0), .val (.ref a1), .val (.int (0 : Int32)), .val (.int (5 : Int32)), .val .null, .val (.ref va3)] []))
  refine Rest.via (fun t k => XS.aloadN X3.here hx rfl (hb hby d2_41) rfl rfl k) ?_
  show Rest p.tables e below s _ _ _ (T3.setTop (mkF m 42 #[.val (.ref a0), .val (.ref a1), .val (.int (0 : Int32)), .val (.int (5 : Int32)), .val .null, .val (.ref va3)] [(.ref a0)]))
  refine Rest.via (fun t k => XS.aload X3.here hx rfl (hb hby d2_42) rfl rfl k) ?_
  show Rest p.tables e below s _ _ _ (T3.setTop (mkF m 44 #[.val (.ref a0), .val (.ref a1), .val (.int (0 : Int32)), .val (.int (5 : Int32)), .val .null, .val (.ref va3)] [(.ref va3), (.ref a0)]))
  refine Rest.via (fun t k => XS.iloadN X3.here hx rfl (hb hby d2_44) rfl k) ?_
  show Rest p.tables e below s _ _ _ (T3.setTop (mkF m 45 #[.val (.ref a0), .val (.ref a1), .val (.int (0 : Int32)), .val (.int (5 : Int32)), .val .null, .val (.ref va3)] [(.int (5 : Int32)), (.ref va3), (.ref a0)]))
  obtain ⟨_, _, ⟨T4, L4, k4, n4⟩, -, X4, ⟨Lc4, hQ4, l4, y4, z4⟩, st4⟩ := Jvm.LawKit.callS X3 hx (y := (⟨"java/lang/StringUTF16", "coderFromArrayLen", "([BI)B"⟩ : MethodName)) hown (mvT hZ (hw _ (List.mem_of_getElem? (i := 27) rfl))) (mvT hZ (hw _ (List.mem_of_getElem? (i := 28) rfl))) (mvT hZ (hw _ (List.mem_of_getElem? (i := 21) rfl))) (mvT hZ (hw _ (List.mem_of_getElem? (i := 29) rfl))) (by decide) (backOf (W := 1) (rmC5 l Z aw hw [] va3 kb3 _ h3 n0 (Nat.le_trans Z0 K3.1) Vq3) hZ (hw _ (List.mem_of_getElem? (i := 29) rfl)) (hw _ (List.mem_of_getElem? (i := 21) rfl)) (by decide) (by decide)) (g := (mkF m 45 #[.val (.ref a0), .val (.ref a1), .val (.int (0 : Int32)), .val (.int (5 : Int32)), .val .null, .val (.ref va3)] [(.int (5 : Int32)), (.ref va3), (.ref a0)])) rfl (by rw [hml]; rfl) (argsL := [(.ref va3), (.int (5 : Int32))]) (rest := [(.ref a0)]) (lenOf pd_2 rfl) rfl (by show 2 * 0 + _ ≤ _; exact Nat.le_of_eq rfl) (hb hby d2_45) (fun _ _ => ⟨rfl, e3, (by decide : 1 + 0 ≤ _), (by decide : 5 + 0 ≤ _)⟩)
  dsimp only [Pt.U, Pt.locs, Pt.cells, Pt.slots] at X4 l4 y4 z4 st4 hQ4
  subst l4 y4 z4
  obtain ⟨rfl, Nq4, e4⟩ := hQ4
  have N4 := Fr.app N3 Nq4
  refine Rest.via (fun t k => st4 t k) ?_
  show Rest p.tables e below s _ _ _ (T4.setTop (mkF m 48 #[.val (.ref a0), .val (.ref a1), .val (.int (0 : Int32)), .val (.int (5 : Int32)), .val .null, .val (.ref va3)] [(.int (0 : Int32)), (.ref a0)]))
  have Fo5 := (F_c.keep Kq3 nin0)
  obtain ⟨T5, h5, X5, e5, W5, st5⟩ := putFN X4 hx hZ hown (hw _ (List.mem_of_getElem? (i := 30) rfl)) Via.refl e4 Fo5 (E_a0.keep Kq3) (Or.inr ⟨(hw _ (List.mem_of_getElem? (i := 31) rfl)), rfl, hnm⟩) (hw _ (List.mem_of_getElem? (i := 6) rfl)) (ty := .byte) (v' := (.int (0 : Int32))) (by decide) rfl (by decide) (g := (mkF m 48 #[.val (.ref a0), .val (.ref a1), .val (.int (0 : Int32)), .val (.int (5 : Int32)), .val .null, .val (.ref va3)] [(.int (0 : Int32)), (.ref a0)])) rfl rfl (hb hby d2_48)
  refine Rest.via (fun t k => st5 t k) ?_
  have N5 := Fr.snoc X5 N4 g_a0
  have K5 : Keep h0 h5 [a0] := K3.wr W5 (Or.inl (List.mem_of_getElem? (i := 0) rfl))
  have Fw5 := Fo5.same W5
  show Rest p.tables e below s _ _ _ (T5.setTop (mkF m 51 #[.val (.ref a0), .val (.ref a1), .val (.int (0 : Int32)), .val (.int (5 : Int32)), .val .null, .val (.ref va3)] []))
  refine Rest.via (fun t k => XS.aloadN X5.here hx rfl (hb hby d2_51) rfl rfl k) ?_
  show Rest p.tables e below s _ _ _ (T5.setTop (mkF m 52 #[.val (.ref a0), .val (.ref a1), .val (.int (0 : Int32)), .val (.int (5 : Int32)), .val .null, .val (.ref va3)] [(.ref a0)]))
  refine Rest.via (fun t k => XS.aload X5.here hx rfl (hb hby d2_52) rfl rfl k) ?_
  show Rest p.tables e below s _ _ _ (T5.setTop (mkF m 54 #[.val (.ref a0), .val (.ref a1), .val (.int (0 : Int32)), .val (.int (5 : Int32)), .val .null, .val (.ref va3)] [(.ref va3), (.ref a0)]))
  have Fo6 := ((F_v.keep Kq3 nin0).other W5 (Or.inr (slot_ne (Or.inr (hw _ (List.mem_of_getElem? (i := 33) rfl))) (Or.inr (hw _ (List.mem_of_getElem? (i := 31) rfl))) (by decide) (t := (.array .byte)) (t' := .byte) (by decide) (by decide))))
  obtain ⟨T6, h6, X6, e6, W6, st6⟩ := putF X5 hx hZ hown (host := "") (Or.inl (hw _ (List.mem_of_getElem? (i := 32) rfl))) Via.refl e5 Fo6 ((E_a0.keep Kq3).wr W5) (Or.inr ⟨(hw _ (List.mem_of_getElem? (i := 33) rfl)), rfl, hnm⟩) (hw _ (List.mem_of_getElem? (i := 6) rfl)) (ty := (.array .byte)) (by decide) rfl rfl (g := (mkF m 54 #[.val (.ref a0), .val (.ref a1), .val (.int (0 : Int32)), .val (.int (5 : Int32)), .val .null, .val (.ref va3)] [(.ref va3), (.ref a0)])) rfl rfl (hb hby d2_54)
  refine Rest.via (fun t k => st6 t k) ?_
  have N6 := Fr.snoc X6 N5 g_a0
  have K6 : Keep h0 h6 [a0] := K5.wr W6 (Or.inl (List.mem_of_getElem? (i := 0) rfl))
  have Fw6 := Fo6.same W6
  show Rest p.tables e below s _ _ _ (T6.setTop (mkF m 57 #[.val (.ref a0), .val (.ref a1), .val (.int (0 : Int32)), .val (.int (5 : Int32)), .val .null, .val (.ref va3)] []))
  refine Rest.ret X6 (v := none) (fun _ => rfl) hlk (fun fs hr => X6.returnOut hx Bd.returns (hb hby d2_57) hr) ?_ (by decide) (by decide)
  rw [e6]
  exact ⟨rfl, N6, K6, va3, kb3, sz_va3, Fw6, (Fw5.other W6 (Or.inr (slot_ne (Or.inr (hw _ (List.mem_of_getElem? (i := 31) rfl))) (Or.inr (hw _ (List.mem_of_getElem? (i := 33) rfl))) (by decide) (t := .byte) (t' := (.array .byte)) (by decide) (by decide)))), ((Vq3.other W5 (Ne.symm ne_a0_va3)).other W6 (Ne.symm ne_a0_va3)), ne_a0_va3⟩
theorem pd_3 : parseMethodDescriptor "([CIILjava/lang/Void;)V" = some ⟨[(.array .char), .int, .int, (.object "java/lang/Void")], none⟩ := by decide +kernel
theorem d1_0 : decode jdk_42_method_3_code 0 = .ok (.aload_n 0, 1) := by decide +kernel
theorem d1_1 : decode jdk_42_method_3_code 1 = .ok (.aload_n 1, 1) := by decide +kernel
theorem d1_2 : decode jdk_42_method_3_code 2 = .ok (.iconst 0, 1) := by decide +kernel
theorem d1_3 : decode jdk_42_method_3_code 3 = .ok (.aload_n 1, 1) := by decide +kernel
theorem d1_4 : decode jdk_42_method_3_code 4 = .ok (.arraylength, 1) := by decide +kernel
theorem d1_5 : decode jdk_42_method_3_code 5 = .ok (.aconst_null, 1) := by decide +kernel
theorem d1_6 : decode jdk_42_method_3_code 6 = .ok (.invokespecial 27, 3) := by decide +kernel
theorem d1_9 : decode jdk_42_method_3_code 9 = .ok (.return_, 1) := by decide +kernel
theorem ef_SI5 (m : MethodId) (a0 : Addr) (a1 : Addr) : entryFrame m #[(.ref a0), (.ref a1)] 2 = mkF m 0 #[.val (.ref a0), .val (.ref a1)] [] := by first | (simp [entryFrame, mkF, argsToLocals, Value.category, maxLocals]; done) | rfl
def QSI5 (Z : State) (a0 : Addr) (a1 : Addr) (kc : ClassId) (ic : Int32) (ca : Int32) (cb : Int32) (cc : Int32) (cd : Int32) (ce : Int32) (h0 : Heap) (n0 : Nat) (v : Option Value) (h : Heap) (L : List Loc) : Prop := v = none ∧ Fr n0 L ∧ Keep h0 h [a0] ∧ ∃ va kb, h0.size ≤ va ∧ Fld Z h a0 "java/lang/String" "value" "[B" (.ref va) ∧ Fld Z h a0 "java/lang/String" "coder" "B" (.int (0 : Int32)) ∧ Arv Z h va kb .byte (5 : Int32) [(.int (own_by ca)), (.int (own_by cb)), (.int (own_by cc)), (.int (own_by cd)), (.int (own_by ce))] (.int (0 : Int32)) ∧ a0 ≠ va
set_option maxRecDepth 65536 in
set_option maxHeartbeats 40000000 in
theorem rmSI5 (l : Launch) (Z : State) (aw : Array Value) (hw : ∀ d ∈ tables_1, d.before aw Z = true) (ws : List Jvm.Cond) (a0 : Addr) (a1 : Addr) (kc : ClassId) (ic : Int32) (ca : Int32) (cb : Int32) (cc : Int32) (cd : Int32) (ce : Int32) (h0 : Heap) (n0 : Nat) (Z0 : n0 ≤ h0.size) (E_a0 : Exa Z h0 a0 "java/lang/String") (F_v : Fld Z h0 a0 "java/lang/String" "value" "[B" .null) (F_c : Fld Z h0 a0 "java/lang/String" "coder" "B" (.int (0 : Int32))) (g_a0 : n0 ≤ a0) (V1 : Arv Z h0 a1 kc .char (5 : Int32) [(.int ca), (.int cb), (.int cc), (.int cd), (.int ce)] (.int (0 : Int32))) (hca : ¬ ((255 : Int32) < ca)) (hcb : ¬ ((255 : Int32) < cb)) (hcc : ¬ ((255 : Int32) < cc)) (hcd : ¬ ((255 : Int32) < cd)) (hce : ¬ ((255 : Int32) < ce)) (O : Old Z n0 h0) (CS : own_CS Z ic) :
    MetFree l (⟨"java/lang/String", "<init>", "([C)V"⟩ : MethodName) (head1 (Jvm.Cond.code (⟨"java/lang/String", "<init>", "([C)V"⟩ : MethodName) jdk_42_method_3_code 2 none :: ws) ({ frames := 3, cells := 1, slots := 5, locals := 52 } : Room)) (fun a U => a = #[(.ref a0), (.ref a1)] ∧ Z.Warmed39 U.vm ∧ U.heap = h0) (fun _ _ _ _ _ => True) (fun _ U o U' => ∃ v L, o = .returned v ∧ QSI5 Z a0 a1 kc ic ca cb cc cd ce h0 n0 v U'.heap L ∧ FrameEnd U o U' L ({ frames := 3, cells := 1, slots := 5, locals := 52 } : Room).cells ({ frames := 3, cells := 1, slots := 5, locals := 52 } : Room).slots) := by
  refine MetFree.of_bodySF (plainFor_of_name pn_1) hisR ?_
  intro p e s m args below meth c s₁ Bd hml0 hP hK
  obtain ⟨rfl, hZ, hh⟩ := hP
  have hx := Bd.exec
  have hby := Bd.bytes
  have hml : c.maxLocals = 2 := hml0
  have hown : s.vm.findClass "java/lang/String" = some m.cls := findClass_of_methodNamed Bd.named
  have hnm := (name_of_methodNamed Bd.named Bd.method).1
  have hlk : meth.locks = false := BodyLoose.notSynchronized Bd
  have X0 : Stand p l e ({ frames := 3, cells := 1, slots := 5, locals := 52 } : Room) s m #[(.ref a0), (.ref a1)] below meth c s₁ [] 0 0 := Stand.of_body Bd
  have eh0 : s₁.heap = h0 := by rw [← hh, Bd.state]; rfl
  have N0 := Fr.nil n0
  show Rest p.tables e below s (QSI5 Z a0 a1 kc ic ca cb cc cd ce h0 n0) _ _ (s₁.setTop (entryFrame m #[(.ref a0), (.ref a1)] 2))
  refine Rest.via (fun t k => castTop (ef_SI5 m a0 a1) k) ?_
  show Rest p.tables e below s _ _ _ (s₁.setTop (mkF m 0 #[.val (.ref a0), .val (.ref a1)] []))
  refine Rest.via (fun t k => XS.aloadN X0.here hx rfl (hb hby d1_0) rfl rfl k) ?_
  show Rest p.tables e below s _ _ _ (s₁.setTop (mkF m 1 #[.val (.ref a0), .val (.ref a1)] [(.ref a0)]))
  refine Rest.via (fun t k => XS.aloadN X0.here hx rfl (hb hby d1_1) rfl rfl k) ?_
  show Rest p.tables e below s _ _ _ (s₁.setTop (mkF m 2 #[.val (.ref a0), .val (.ref a1)] [(.ref a1), (.ref a0)]))
  refine Rest.via (fun t k => XS.iconst X0.here hx rfl (hb hby d1_2) k) ?_
  show Rest p.tables e below s _ _ _ (s₁.setTop (mkF m 3 #[.val (.ref a0), .val (.ref a1)] [(.int (0 : Int32)), (.ref a1), (.ref a0)]))
  refine Rest.via (fun t k => XS.aloadN X0.here hx rfl (hb hby d1_3) rfl rfl k) ?_
  show Rest p.tables e below s _ _ _ (s₁.setTop (mkF m 4 #[.val (.ref a0), .val (.ref a1)] [(.ref a1), (.int (0 : Int32)), (.ref a1), (.ref a0)]))
  obtain ⟨cl1, Ar1, -, S1, P1, -, -⟩ := id V1
  refine Rest.via (fun t k => X0.arraylength hx (by rw [eh0]; exact Ar1.1) (State.isArrayOf_alike hZ.alike Ar1.2.1) (g := (mkF m 4 #[.val (.ref a0), .val (.ref a1)] [(.ref a1), (.int (0 : Int32)), (.ref a1), (.ref a0)])) rfl rfl (hb hby d1_4) t k) ?_
  rw [len_of S1 P1]
  show Rest p.tables e below s _ _ _ (s₁.setTop (mkF m 5 #[.val (.ref a0), .val (.ref a1)] [(.int (5 : Int32)), (.int (0 : Int32)), (.ref a1), (.ref a0)]))
  refine Rest.via (fun t k => XS.aconstNull X0.here hx rfl (hb hby d1_5) k) ?_
  show Rest p.tables e below s _ _ _ (s₁.setTop (mkF m 6 #[.val (.ref a0), .val (.ref a1)] [.null, (.int (5 : Int32)), (.int (0 : Int32)), (.ref a1), (.ref a0)]))
  obtain ⟨_, _, ⟨T2, L2, k2, n2⟩, -, X2, ⟨Lc2, hQ2, l2, y2, z2⟩, st2⟩ := X0.specialBack hx (y := (⟨"java/lang/String", "<init>", "([CIILjava/lang/Void;)V"⟩ : MethodName)) rfl hown (mvT hZ (hw _ (List.mem_of_getElem? (i := 11) rfl))) (mvT hZ (hw _ (List.mem_of_getElem? (i := 12) rfl))) (mvT hZ (hw _ (List.mem_of_getElem? (i := 14) rfl))) (by decide) (backOf (W := 0) (rmSJ5 l Z aw hw [] a0 a1 kc ic ca cb cc cd ce h0 n0 (Nat.le_trans Z0 (Keep.refl h0 [a0]).1) E_a0 F_v F_c g_a0 V1 hca hcb hcc hcd hce (O.keep (Keep.refl h0 [a0]) (allS g_a0 all0)) CS) hZ (hw _ (List.mem_of_getElem? (i := 14) rfl)) (hw _ (List.mem_of_getElem? (i := 7) rfl)) (by decide) (by decide)) (g := (mkF m 6 #[.val (.ref a0), .val (.ref a1)] [.null, (.int (5 : Int32)), (.int (0 : Int32)), (.ref a1), (.ref a0)])) rfl (by rw [hml]; rfl) (Steps.refl _) (a := a0) (argsL := [(.ref a1), (.int (0 : Int32)), (.int (5 : Int32)), .null]) (rest := []) (lenOf pd_3 rfl) rfl (by show 2 * 0 + _ ≤ _; exact Nat.le_of_eq rfl) (hb hby d1_6) (fun _ _ => ⟨rfl, eh0, (by decide : 0 + 1 ≤ _), (by decide : 0 + 5 ≤ _)⟩)
  dsimp only [Pt.U, Pt.locs, Pt.cells, Pt.slots] at X2 l2 y2 z2 st2 hQ2
  subst l2 y2 z2
  obtain ⟨h2, e2⟩ : ∃ z, T2.heap = z := ⟨_, rfl⟩
  rw [e2] at hQ2
  obtain ⟨rfl, Nq2, Kq2, va2, kb2, sd2, Fv2, Fc2, Vq2, nb2⟩ := hQ2
  have N2 := Fr.app N0 Nq2
  have K2 : Keep h0 h2 [a0] := (Keep.refl h0 [a0]).trans Kq2 (allS (Or.inl (List.mem_of_getElem? (i := 0) rfl)) all0)
  refine Rest.via (fun t k => st2.trans k) ?_
  show Rest p.tables e below s _ _ _ (T2.setTop (mkF m 9 #[.val (.ref a0), .val (.ref a1)] []))
  refine Rest.ret X2 (v := none) (fun _ => rfl) hlk (fun fs hr => X2.returnOut hx Bd.returns (hb hby d1_9) hr) ?_ (by decide) (by decide)
  rw [e2]
  exact ⟨rfl, N2, K2, va2, kb2, Nat.le_trans (Keep.refl h0 [a0]).1 sd2, Fv2, Fc2, Vq2, nb2⟩
theorem ef_U6 (m : MethodId) (a0 : Addr) (a2 : Addr) : entryFrame m #[(.ref a0), (.int (0 : Int32)), (.ref a2), (.int (0 : Int32)), (.int (6 : Int32))] 7 = mkF m 0 #[.val (.ref a0), .val (.int (0 : Int32)), .val (.ref a2), .val (.int (0 : Int32)), .val (.int (6 : Int32)), .unset, .unset] [] := by first | (simp [entryFrame, mkF, argsToLocals, Value.category, maxLocals]; done) | rfl
def QU6 (Z : State) (a0 : Addr) (a2 : Addr) (kc : ClassId) (kb : ClassId) (ca : Int32) (cb : Int32) (cc : Int32) (cd : Int32) (ce : Int32) (cf : Int32) (h0 : Heap) (n0 : Nat) (v : Option Value) (h : Heap) (L : List Loc) : Prop := v = some (.int (6 : Int32)) ∧ Fr n0 L ∧ Keep h0 h [a2] ∧ Arv Z h a2 kb .byte (6 : Int32) [(.int (own_by ca)), (.int (own_by cb)), (.int (own_by cc)), (.int (own_by cd)), (.int (own_by ce)), (.int (own_by cf))] (.int (0 : Int32))
set_option maxRecDepth 65536 in
set_option maxHeartbeats 40000000 in
theorem rmU6 (l : Launch) (Z : State) (aw : Array Value) (hw : ∀ d ∈ tables_1, d.before aw Z = true) (ws : List Jvm.Cond) (a0 : Addr) (a2 : Addr) (kc : ClassId) (kb : ClassId) (ca : Int32) (cb : Int32) (cc : Int32) (cd : Int32) (ce : Int32) (cf : Int32) (h0 : Heap) (n0 : Nat) (Z0 : n0 ≤ h0.size) (V0 : Arv Z h0 a0 kc .char (6 : Int32) [(.int ca), (.int cb), (.int cc), (.int cd), (.int ce), (.int cf)] (.int (0 : Int32))) (V2 : Arv Z h0 a2 kb .byte (6 : Int32) [(.int (0 : Int32)), (.int (0 : Int32)), (.int (0 : Int32)), (.int (0 : Int32)), (.int (0 : Int32)), (.int (0 : Int32))] (.int (0 : Int32))) (n02 : a0 ≠ a2) (g_a2 : n0 ≤ a2) (hca : ¬ ((255 : Int32) < ca)) (hcb : ¬ ((255 : Int32) < cb)) (hcc : ¬ ((255 : Int32) < cc)) (hcd : ¬ ((255 : Int32) < cd)) (hce : ¬ ((255 : Int32) < ce)) (hcf : ¬ ((255 : Int32) < cf)) :
    MetFree l (⟨"java/lang/StringUTF16", "compress", "([CI[BII)I"⟩ : MethodName) (head1 (Jvm.Cond.code (⟨"java/lang/StringUTF16", "compress", "([CI[BII)I"⟩ : MethodName) jdk_52_method_21_code 7 (some .int) :: ws) ({ frames := 0, cells := 0, slots := 0, locals := 0 } : Room)) (fun a U => a = #[(.ref a0), (.int (0 : Int32)), (.ref a2), (.int (0 : Int32)), (.int (6 : Int32))] ∧ Z.Warmed39 U.vm ∧ U.heap = h0) (fun _ _ _ _ _ => True) (fun _ U o U' => ∃ v L, o = .returned v ∧ QU6 Z a0 a2 kc kb ca cb cc cd ce cf h0 n0 v U'.heap L ∧ FrameEnd U o U' L ({ frames := 0, cells := 0, slots := 0, locals := 0 } : Room).cells ({ frames := 0, cells := 0, slots := 0, locals := 0 } : Room).slots) := by
  refine MetFree.of_bodySF (plainFor_of_name pn_0) hisR ?_
  intro p e s m args below meth c s₁ Bd hml0 hP hK
  obtain ⟨rfl, hZ, hh⟩ := hP
  have hx := Bd.exec
  have hby := Bd.bytes
  have hml : c.maxLocals = 7 := hml0
  have hown : s.vm.findClass "java/lang/StringUTF16" = some m.cls := findClass_of_methodNamed Bd.named
  have hnm := (name_of_methodNamed Bd.named Bd.method).1
  have hlk : meth.locks = false := BodyLoose.notSynchronized Bd
  have X0 : Stand p l e ({ frames := 0, cells := 0, slots := 0, locals := 0 } : Room) s m #[(.ref a0), (.int (0 : Int32)), (.ref a2), (.int (0 : Int32)), (.int (6 : Int32))] below meth c s₁ [] 0 0 := Stand.of_body Bd
  have eh0 : s₁.heap = h0 := by rw [← hh, Bd.state]; rfl
  have N0 := Fr.nil n0
  show Rest p.tables e below s (QU6 Z a0 a2 kc kb ca cb cc cd ce cf h0 n0) _ _ (s₁.setTop (entryFrame m #[(.ref a0), (.int (0 : Int32)), (.ref a2), (.int (0 : Int32)), (.int (6 : Int32))] 7))
  refine Rest.via (fun t k => castTop (ef_U6 m a0 a2) k) ?_
  show Rest p.tables e below s _ _ _ (s₁.setTop (mkF m 0 #[.val (.ref a0), .val (.int (0 : Int32)), .val (.ref a2), .val (.int (0 : Int32)), .val (.int (6 : Int32)), .unset, .unset] []))
  refine Rest.via (fun t k => XS.iconst X0.here hx rfl (hb hby d5_0) k) ?_
  show Rest p.tables e below s _ _ _ (s₁.setTop (mkF m 1 #[.val (.ref a0), .val (.int (0 : Int32)), .val (.ref a2), .val (.int (0 : Int32)), .val (.int (6 : Int32)), .unset, .unset] [(.int (0 : Int32))]))
  refine Rest.via (fun t k => XS.istore X0.here hx rfl (hb hby d5_1) rfl (l' := #[.val (.ref a0), .val (.int (0 : Int32)), .val (.ref a2), .val (.int (0 : Int32)), .val (.int (6 : Int32)), .val (.int (0 : Int32)), .unset]) rfl k) ?_
  show Rest p.tables e below s _ _ _ (s₁.setTop (mkF m 3 #[.val (.ref a0), .val (.int (0 : Int32)), .val (.ref a2), .val (.int (0 : Int32)), .val (.int (6 : Int32)), .val (.int (0 : Int32)), .unset] []))
  refine Rest.via (fun t k => XS.iload X0.here hx rfl (hb hby d5_3) rfl k) ?_
  show Rest p.tables e below s _ _ _ (s₁.setTop (mkF m 5 #[.val (.ref a0), .val (.int (0 : Int32)), .val (.ref a2), .val (.int (0 : Int32)), .val (.int (6 : Int32)), .val (.int (0 : Int32)), .unset] [(.int (0 : Int32))]))
  refine Rest.via (fun t k => XS.iload X0.here hx rfl (hb hby d5_5) rfl k) ?_
  show Rest p.tables e below s _ _ _ (s₁.setTop (mkF m 7 #[.val (.ref a0), .val (.int (0 : Int32)), .val (.ref a2), .val (.int (0 : Int32)), .val (.int (6 : Int32)), .val (.int (0 : Int32)), .unset] [(.int (6 : Int32)), (.int (0 : Int32))]))
  refine Rest.via (fun t k => XS.icmpNo X0.here hx rfl (hb hby d5_7) rfl (tlt (by decide : (0 : Int32) < (6 : Int32))).2.1 k) ?_
  show Rest p.tables e below s _ _ _ (s₁.setTop (mkF m 10 #[.val (.ref a0), .val (.int (0 : Int32)), .val (.ref a2), .val (.int (0 : Int32)), .val (.int (6 : Int32)), .val (.int (0 : Int32)), .unset] []))
  refine Rest.via (fun t k => XS.aloadN X0.here hx rfl (hb hby d5_10) rfl rfl k) ?_
  show Rest p.tables e below s _ _ _ (s₁.setTop (mkF m 11 #[.val (.ref a0), .val (.int (0 : Int32)), .val (.ref a2), .val (.int (0 : Int32)), .val (.int (6 : Int32)), .val (.int (0 : Int32)), .unset] [(.ref a0)]))
  refine Rest.via (fun t k => XS.iloadN X0.here hx rfl (hb hby d5_11) rfl k) ?_
  show Rest p.tables e below s _ _ _ (s₁.setTop (mkF m 12 #[.val (.ref a0), .val (.int (0 : Int32)), .val (.ref a2), .val (.int (0 : Int32)), .val (.int (6 : Int32)), .val (.int (0 : Int32)), .unset] [(.int (0 : Int32)), (.ref a0)]))
  obtain ⟨cl1, Ar1, qa1, Sa1, Pa1, Ha1, Ga1⟩ := id V0
  have hin1 := inb_of (j := (0 : Int32)) Sa1 ⟨by decide, by decide⟩
  have hat1 : cl1.slots[((0 : Int32)).toNatClampNeg]? = some (.int ca) := Has.at Ha1 hin1 rfl
  refine Rest.via (fun t k => X0.caload hx (j := (0 : Int32)) (v := (.int ca)) (by rw [eh0]; exact Ar1.1) (State.isArrayOf_alike hZ.alike Ar1.2.1) Ar1.2.2 hin1 hat1 (g := (mkF m 12 #[.val (.ref a0), .val (.int (0 : Int32)), .val (.ref a2), .val (.int (0 : Int32)), .val (.int (6 : Int32)), .val (.int (0 : Int32)), .unset] [(.int (0 : Int32)), (.ref a0)])) rfl rfl (hb hby d5_12) t k) ?_
  show Rest p.tables e below s _ _ _ (s₁.setTop (mkF m 13 #[.val (.ref a0), .val (.int (0 : Int32)), .val (.ref a2), .val (.int (0 : Int32)), .val (.int (6 : Int32)), .val (.int (0 : Int32)), .unset] [(.int ca)]))
  refine Rest.via (fun t k => XS.istore X0.here hx rfl (hb hby d5_13) rfl (l' := #[.val (.ref a0), .val (.int (0 : Int32)), .val (.ref a2), .val (.int (0 : Int32)), .val (.int (6 : Int32)), .val (.int (0 : Int32)), .val (.int ca)]) rfl k) ?_
  show Rest p.tables e below s _ _ _ (s₁.setTop (mkF m 15 #[.val (.ref a0), .val (.int (0 : Int32)), .val (.ref a2), .val (.int (0 : Int32)), .val (.int (6 : Int32)), .val (.int (0 : Int32)), .val (.int ca)] []))
  refine Rest.via (fun t k => XS.iload X0.here hx rfl (hb hby d5_15) rfl k) ?_
  show Rest p.tables e below s _ _ _ (s₁.setTop (mkF m 17 #[.val (.ref a0), .val (.int (0 : Int32)), .val (.ref a2), .val (.int (0 : Int32)), .val (.int (6 : Int32)), .val (.int (0 : Int32)), .val (.int ca)] [(.int ca)]))
  refine Rest.via (fun t k => XS.sipush X0.here hx rfl (hb hby d5_17) k) ?_
  show Rest p.tables e below s _ _ _ (s₁.setTop (mkF m 20 #[.val (.ref a0), .val (.int (0 : Int32)), .val (.ref a2), .val (.int (0 : Int32)), .val (.int (6 : Int32)), .val (.int (0 : Int32)), .val (.int ca)] [(.int (255 : Int32)), (.int ca)]))
  refine Rest.via (fun t k => XS.icmpYes X0.here hx rfl (pc0 := 20) (pc' := 26) rfl (hb hby d5_20) rfl (flt (hca : ¬ ((255 : Int32) < ca))).2.2.2 (by decide) (by decide) k) ?_
  show Rest p.tables e below s _ _ _ (s₁.setTop (mkF m 26 #[.val (.ref a0), .val (.int (0 : Int32)), .val (.ref a2), .val (.int (0 : Int32)), .val (.int (6 : Int32)), .val (.int (0 : Int32)), .val (.int ca)] []))
  refine Rest.via (fun t k => XS.aloadN X0.here hx rfl (hb hby d5_26) rfl rfl k) ?_
  show Rest p.tables e below s _ _ _ (s₁.setTop (mkF m 27 #[.val (.ref a0), .val (.int (0 : Int32)), .val (.ref a2), .val (.int (0 : Int32)), .val (.int (6 : Int32)), .val (.int (0 : Int32)), .val (.int ca)] [(.ref a2)]))
  refine Rest.via (fun t k => XS.iloadN X0.here hx rfl (hb hby d5_27) rfl k) ?_
  show Rest p.tables e below s _ _ _ (s₁.setTop (mkF m 28 #[.val (.ref a0), .val (.int (0 : Int32)), .val (.ref a2), .val (.int (0 : Int32)), .val (.int (6 : Int32)), .val (.int (0 : Int32)), .val (.int ca)] [(.int (0 : Int32)), (.ref a2)]))
  refine Rest.via (fun t k => XS.iload X0.here hx rfl (hb hby d5_28) rfl k) ?_
  show Rest p.tables e below s _ _ _ (s₁.setTop (mkF m 30 #[.val (.ref a0), .val (.int (0 : Int32)), .val (.ref a2), .val (.int (0 : Int32)), .val (.int (6 : Int32)), .val (.int (0 : Int32)), .val (.int ca)] [(.int ca), (.int (0 : Int32)), (.ref a2)]))
  refine Rest.via (fun t k => XS.i2b X0.here hx rfl (hb hby d5_30) rfl k) ?_
  show Rest p.tables e below s _ _ _ (s₁.setTop (mkF m 31 #[.val (.ref a0), .val (.int (0 : Int32)), .val (.ref a2), .val (.int (0 : Int32)), .val (.int (6 : Int32)), .val (.int (0 : Int32)), .val (.int ca)] [(.int (ca.toInt8.toInt32)), (.int (0 : Int32)), (.ref a2)]))
  obtain ⟨cl2, Ar2, qa2, Sa2, Pa2, Ha2, Ga2⟩ := id V2
  have hin2 := inb_of (j := (0 : Int32)) Sa2 ⟨by decide, by decide⟩
  obtain ⟨T2, h2, X2, e2, W2, st2⟩ := stB X0 hx hZ eh0 Ar2 (j := (0 : Int32)) hin2 (g := (mkF m 31 #[.val (.ref a0), .val (.int (0 : Int32)), .val (.ref a2), .val (.int (0 : Int32)), .val (.int (6 : Int32)), .val (.int (0 : Int32)), .val (.int ca)] [(.int (ca.toInt8.toInt32)), (.int (0 : Int32)), (.ref a2)])) rfl rfl (hb hby d5_31)
  refine Rest.via (fun t k => st2 t k) ?_
  have N2 := Fr.snoc X2 N0 g_a2
  have K2 : Keep h0 h2 [a2] := (Keep.refl h0 [a2]).wr W2 (Or.inl (List.mem_of_getElem? (i := 0) rfl))
  have V2 : Arv Z h2 a2 kb .byte (6 : Int32) [(.int (own_by ca)), (.int (0 : Int32)), (.int (0 : Int32)), (.int (0 : Int32)), (.int (0 : Int32)), (.int (0 : Int32))] (.int (0 : Int32)) := by have q := Arv.set Ar2 qa2 Sa2 Pa2 Ha2 Ga2 (fits_nar_byte _) W2 0 rfl (Nat.le_of_ble_eq_true rfl); rw [own_by_nar] at q; exact q
  show Rest p.tables e below s _ _ _ (T2.setTop (mkF m 32 #[.val (.ref a0), .val (.int (0 : Int32)), .val (.ref a2), .val (.int (0 : Int32)), .val (.int (6 : Int32)), .val (.int (0 : Int32)), .val (.int ca)] []))
  refine Rest.via (fun t k => XS.iinc X2.here hx rfl (hb hby d5_32) rfl (l' := #[.val (.ref a0), .val (.int ((0 : Int32) + (1 : Int32))), .val (.ref a2), .val (.int (0 : Int32)), .val (.int (6 : Int32)), .val (.int (0 : Int32)), .val (.int ca)]) rfl k) ?_
  show Rest p.tables e below s _ _ _ (T2.setTop (mkF m 35 #[.val (.ref a0), .val (.int ((0 : Int32) + (1 : Int32))), .val (.ref a2), .val (.int (0 : Int32)), .val (.int (6 : Int32)), .val (.int (0 : Int32)), .val (.int ca)] []))
  rw [(by decide : ((0 : Int32) + (1 : Int32)) = (1 : Int32))]
  show Rest p.tables e below s _ _ _ (T2.setTop (mkF m 35 #[.val (.ref a0), .val (.int (1 : Int32)), .val (.ref a2), .val (.int (0 : Int32)), .val (.int (6 : Int32)), .val (.int (0 : Int32)), .val (.int ca)] []))
  refine Rest.via (fun t k => XS.iinc X2.here hx rfl (hb hby d5_35) rfl (l' := #[.val (.ref a0), .val (.int (1 : Int32)), .val (.ref a2), .val (.int ((0 : Int32) + (1 : Int32))), .val (.int (6 : Int32)), .val (.int (0 : Int32)), .val (.int ca)]) rfl k) ?_
  show Rest p.tables e below s _ _ _ (T2.setTop (mkF m 38 #[.val (.ref a0), .val (.int (1 : Int32)), .val (.ref a2), .val (.int ((0 : Int32) + (1 : Int32))), .val (.int (6 : Int32)), .val (.int (0 : Int32)), .val (.int ca)] []))
  rw [(by decide : ((0 : Int32) + (1 : Int32)) = (1 : Int32))]
  show Rest p.tables e below s _ _ _ (T2.setTop (mkF m 38 #[.val (.ref a0), .val (.int (1 : Int32)), .val (.ref a2), .val (.int (1 : Int32)), .val (.int (6 : Int32)), .val (.int (0 : Int32)), .val (.int ca)] []))
  refine Rest.via (fun t k => XS.iinc X2.here hx rfl (hb hby d5_38) rfl (l' := #[.val (.ref a0), .val (.int (1 : Int32)), .val (.ref a2), .val (.int (1 : Int32)), .val (.int (6 : Int32)), .val (.int ((0 : Int32) + (1 : Int32))), .val (.int ca)]) rfl k) ?_
  show Rest p.tables e below s _ _ _ (T2.setTop (mkF m 41 #[.val (.ref a0), .val (.int (1 : Int32)), .val (.ref a2), .val (.int (1 : Int32)), .val (.int (6 : Int32)), .val (.int ((0 : Int32) + (1 : Int32))), .val (.int ca)] []))
  rw [(by decide : ((0 : Int32) + (1 : Int32)) = (1 : Int32))]
  show Rest p.tables e below s _ _ _ (T2.setTop (mkF m 41 #[.val (.ref a0), .val (.int (1 : Int32)), .val (.ref a2), .val (.int (1 : Int32)), .val (.int (6 : Int32)), .val (.int (1 : Int32)), .val (.int ca)] []))
  refine Rest.via (fun t k => XS.goto X2.here hx rfl (pc0 := 41) (pc' := 3) rfl (hb hby d5_41) (by decide) (by decide) k) ?_
  show Rest p.tables e below s _ _ _ (T2.setTop (mkF m 3 #[.val (.ref a0), .val (.int (1 : Int32)), .val (.ref a2), .val (.int (1 : Int32)), .val (.int (6 : Int32)), .val (.int (1 : Int32)), .val (.int ca)] []))
  refine Rest.via (fun t k => XS.iload X2.here hx rfl (hb hby d5_3) rfl k) ?_
  show Rest p.tables e below s _ _ _ (T2.setTop (mkF m 5 #[.val (.ref a0), .val (.int (1 : Int32)), .val (.ref a2), .val (.int (1 : Int32)), .val (.int (6 : Int32)), .val (.int (1 : Int32)), .val (.int ca)] [(.int (1 : Int32))]))
  refine Rest.via (fun t k => XS.iload X2.here hx rfl (hb hby d5_5) rfl k) ?_
  show Rest p.tables e below s _ _ _ (T2.setTop (mkF m 7 #[.val (.ref a0), .val (.int (1 : Int32)), .val (.ref a2), .val (.int (1 : Int32)), .val (.int (6 : Int32)), .val (.int (1 : Int32)), .val (.int ca)] [(.int (6 : Int32)), (.int (1 : Int32))]))
  refine Rest.via (fun t k => XS.icmpNo X2.here hx rfl (hb hby d5_7) rfl (tlt (by decide : (1 : Int32) < (6 : Int32))).2.1 k) ?_
  show Rest p.tables e below s _ _ _ (T2.setTop (mkF m 10 #[.val (.ref a0), .val (.int (1 : Int32)), .val (.ref a2), .val (.int (1 : Int32)), .val (.int (6 : Int32)), .val (.int (1 : Int32)), .val (.int ca)] []))
  refine Rest.via (fun t k => XS.aloadN X2.here hx rfl (hb hby d5_10) rfl rfl k) ?_
  show Rest p.tables e below s _ _ _ (T2.setTop (mkF m 11 #[.val (.ref a0), .val (.int (1 : Int32)), .val (.ref a2), .val (.int (1 : Int32)), .val (.int (6 : Int32)), .val (.int (1 : Int32)), .val (.int ca)] [(.ref a0)]))
  refine Rest.via (fun t k => XS.iloadN X2.here hx rfl (hb hby d5_11) rfl k) ?_
  show Rest p.tables e below s _ _ _ (T2.setTop (mkF m 12 #[.val (.ref a0), .val (.int (1 : Int32)), .val (.ref a2), .val (.int (1 : Int32)), .val (.int (6 : Int32)), .val (.int (1 : Int32)), .val (.int ca)] [(.int (1 : Int32)), (.ref a0)]))
  obtain ⟨cl3, Ar3, qa3, Sa3, Pa3, Ha3, Ga3⟩ := id (V0.other W2 n02)
  have hin3 := inb_of (j := (1 : Int32)) Sa3 ⟨by decide, by decide⟩
  have hat3 : cl3.slots[((1 : Int32)).toNatClampNeg]? = some (.int cb) := Has.at Ha3 hin3 rfl
  refine Rest.via (fun t k => X2.caload hx (j := (1 : Int32)) (v := (.int cb)) (by rw [e2]; exact Ar3.1) (State.isArrayOf_alike hZ.alike Ar3.2.1) Ar3.2.2 hin3 hat3 (g := (mkF m 12 #[.val (.ref a0), .val (.int (1 : Int32)), .val (.ref a2), .val (.int (1 : Int32)), .val (.int (6 : Int32)), .val (.int (1 : Int32)), .val (.int ca)] [(.int (1 : Int32)), (.ref a0)])) rfl rfl (hb hby d5_12) t k) ?_
  show Rest p.tables e below s _ _ _ (T2.setTop (mkF m 13 #[.val (.ref a0), .val (.int (1 : Int32)), .val (.ref a2), .val (.int (1 : Int32)), .val (.int (6 : Int32)), .val (.int (1 : Int32)), .val (.int ca)] [(.int cb)]))
  refine Rest.via (fun t k => XS.istore X2.here hx rfl (hb hby d5_13) rfl (l' := #[.val (.ref a0), .val (.int (1 : Int32)), .val (.ref a2), .val (.int (1 : Int32)), .val (.int (6 : Int32)), .val (.int (1 : Int32)), .val (.int cb)]) rfl k) ?_
  show Rest p.tables e below s _ _ _ (T2.setTop (mkF m 15 #[.val (.ref a0), .val (.int (1 : Int32)), .val (.ref a2), .val (.int (1 : Int32)), .val (.int (6 : Int32)), .val (.int (1 : Int32)), .val (.int cb)] []))
  refine Rest.via (fun t k => XS.iload X2.here hx rfl (hb hby d5_15) rfl k) ?_
  show Rest p.tables e below s _ _ _ (T2.setTop (mkF m 17 #[.val (.ref a0), .val (.int (1 : Int32)), .val (.ref a2), .val (.int (1 : Int32)), .val (.int (6 : Int32)), .val (.int (1 : Int32)), .val (.int cb)] [(.int cb)]))
  refine Rest.via (fun t k => XS.sipush X2.here hx rfl (hb hby d5_17) k) ?_
  show Rest p.tables e below s _ _ _ (T2.setTop (mkF m 20 #[.val (.ref a0), .val (.int (1 : Int32)), .val (.ref a2), .val (.int (1 : Int32)), .val (.int (6 : Int32)), .val (.int (1 : Int32)), .val (.int cb)] [(.int (255 : Int32)), (.int cb)]))
  refine Rest.via (fun t k => XS.icmpYes X2.here hx rfl (pc0 := 20) (pc' := 26) rfl (hb hby d5_20) rfl (flt (hcb : ¬ ((255 : Int32) < cb))).2.2.2 (by decide) (by decide) k) ?_
  show Rest p.tables e below s _ _ _ (T2.setTop (mkF m 26 #[.val (.ref a0), .val (.int (1 : Int32)), .val (.ref a2), .val (.int (1 : Int32)), .val (.int (6 : Int32)), .val (.int (1 : Int32)), .val (.int cb)] []))
  refine Rest.via (fun t k => XS.aloadN X2.here hx rfl (hb hby d5_26) rfl rfl k) ?_
  show Rest p.tables e below s _ _ _ (T2.setTop (mkF m 27 #[.val (.ref a0), .val (.int (1 : Int32)), .val (.ref a2), .val (.int (1 : Int32)), .val (.int (6 : Int32)), .val (.int (1 : Int32)), .val (.int cb)] [(.ref a2)]))
  refine Rest.via (fun t k => XS.iloadN X2.here hx rfl (hb hby d5_27) rfl k) ?_
  show Rest p.tables e below s _ _ _ (T2.setTop (mkF m 28 #[.val (.ref a0), .val (.int (1 : Int32)), .val (.ref a2), .val (.int (1 : Int32)), .val (.int (6 : Int32)), .val (.int (1 : Int32)), .val (.int cb)] [(.int (1 : Int32)), (.ref a2)]))
  refine Rest.via (fun t k => XS.iload X2.here hx rfl (hb hby d5_28) rfl k) ?_
  show Rest p.tables e below s _ _ _ (T2.setTop (mkF m 30 #[.val (.ref a0), .val (.int (1 : Int32)), .val (.ref a2), .val (.int (1 : Int32)), .val (.int (6 : Int32)), .val (.int (1 : Int32)), .val (.int cb)] [(.int cb), (.int (1 : Int32)), (.ref a2)]))
  refine Rest.via (fun t k => XS.i2b X2.here hx rfl (hb hby d5_30) rfl k) ?_
  show Rest p.tables e below s _ _ _ (T2.setTop (mkF m 31 #[.val (.ref a0), .val (.int (1 : Int32)), .val (.ref a2), .val (.int (1 : Int32)), .val (.int (6 : Int32)), .val (.int (1 : Int32)), .val (.int cb)] [(.int (cb.toInt8.toInt32)), (.int (1 : Int32)), (.ref a2)]))
  obtain ⟨cl4, Ar4, qa4, Sa4, Pa4, Ha4, Ga4⟩ := id V2
  have hin4 := inb_of (j := (1 : Int32)) Sa4 ⟨by decide, by decide⟩
  obtain ⟨T4, h4, X4, e4, W4, st4⟩ := stB X2 hx hZ e2 Ar4 (j := (1 : Int32)) hin4 (g := (mkF m 31 #[.val (.ref a0), .val (.int (1 : Int32)), .val (.ref a2), .val (.int (1 : Int32)), .val (.int (6 : Int32)), .val (.int (1 : Int32)), .val (.int cb)] [(.int (cb.toInt8.toInt32)), (.int (1 : Int32)), (.ref a2)])) rfl rfl (hb hby d5_31)
  refine Rest.via (fun t k => st4 t k) ?_
  have N4 := Fr.snoc X4 N2 g_a2
  have K4 : Keep h0 h4 [a2] := K2.wr W4 (Or.inl (List.mem_of_getElem? (i := 0) rfl))
  have V4 : Arv Z h4 a2 kb .byte (6 : Int32) [(.int (own_by ca)), (.int (own_by cb)), (.int (0 : Int32)), (.int (0 : Int32)), (.int (0 : Int32)), (.int (0 : Int32))] (.int (0 : Int32)) := by have q := Arv.set Ar4 qa4 Sa4 Pa4 Ha4 Ga4 (fits_nar_byte _) W4 1 rfl (Nat.le_of_ble_eq_true rfl); rw [own_by_nar] at q; exact q
  show Rest p.tables e below s _ _ _ (T4.setTop (mkF m 32 #[.val (.ref a0), .val (.int (1 : Int32)), .val (.ref a2), .val (.int (1 : Int32)), .val (.int (6 : Int32)), .val (.int (1 : Int32)), .val (.int cb)] []))
  refine Rest.via (fun t k => XS.iinc X4.here hx rfl (hb hby d5_32) rfl (l' := #[.val (.ref a0), .val (.int ((1 : Int32) + (1 : Int32))), .val (.ref a2), .val (.int (1 : Int32)), .val (.int (6 : Int32)), .val (.int (1 : Int32)), .val (.int cb)]) rfl k) ?_
  show Rest p.tables e below s _ _ _ (T4.setTop (mkF m 35 #[.val (.ref a0), .val (.int ((1 : Int32) + (1 : Int32))), .val (.ref a2), .val (.int (1 : Int32)), .val (.int (6 : Int32)), .val (.int (1 : Int32)), .val (.int cb)] []))
  rw [(by decide : ((1 : Int32) + (1 : Int32)) = (2 : Int32))]
  show Rest p.tables e below s _ _ _ (T4.setTop (mkF m 35 #[.val (.ref a0), .val (.int (2 : Int32)), .val (.ref a2), .val (.int (1 : Int32)), .val (.int (6 : Int32)), .val (.int (1 : Int32)), .val (.int cb)] []))
  refine Rest.via (fun t k => XS.iinc X4.here hx rfl (hb hby d5_35) rfl (l' := #[.val (.ref a0), .val (.int (2 : Int32)), .val (.ref a2), .val (.int ((1 : Int32) + (1 : Int32))), .val (.int (6 : Int32)), .val (.int (1 : Int32)), .val (.int cb)]) rfl k) ?_
  show Rest p.tables e below s _ _ _ (T4.setTop (mkF m 38 #[.val (.ref a0), .val (.int (2 : Int32)), .val (.ref a2), .val (.int ((1 : Int32) + (1 : Int32))), .val (.int (6 : Int32)), .val (.int (1 : Int32)), .val (.int cb)] []))
  rw [(by decide : ((1 : Int32) + (1 : Int32)) = (2 : Int32))]
  show Rest p.tables e below s _ _ _ (T4.setTop (mkF m 38 #[.val (.ref a0), .val (.int (2 : Int32)), .val (.ref a2), .val (.int (2 : Int32)), .val (.int (6 : Int32)), .val (.int (1 : Int32)), .val (.int cb)] []))
  refine Rest.via (fun t k => XS.iinc X4.here hx rfl (hb hby d5_38) rfl (l' := #[.val (.ref a0), .val (.int (2 : Int32)), .val (.ref a2), .val (.int (2 : Int32)), .val (.int (6 : Int32)), .val (.int ((1 : Int32) + (1 : Int32))), .val (.int cb)]) rfl k) ?_
  show Rest p.tables e below s _ _ _ (T4.setTop (mkF m 41 #[.val (.ref a0), .val (.int (2 : Int32)), .val (.ref a2), .val (.int (2 : Int32)), .val (.int (6 : Int32)), .val (.int ((1 : Int32) + (1 : Int32))), .val (.int cb)] []))
  rw [(by decide : ((1 : Int32) + (1 : Int32)) = (2 : Int32))]
  show Rest p.tables e below s _ _ _ (T4.setTop (mkF m 41 #[.val (.ref a0), .val (.int (2 : Int32)), .val (.ref a2), .val (.int (2 : Int32)), .val (.int (6 : Int32)), .val (.int (2 : Int32)), .val (.int cb)] []))
  refine Rest.via (fun t k => XS.goto X4.here hx rfl (pc0 := 41) (pc' := 3) rfl (hb hby d5_41) (by decide) (by decide) k) ?_
  show Rest p.tables e below s _ _ _ (T4.setTop (mkF m 3 #[.val (.ref a0), .val (.int (2 : Int32)), .val (.ref a2), .val (.int (2 : Int32)), .val (.int (6 : Int32)), .val (.int (2 : Int32)), .val (.int cb)] []))
  refine Rest.via (fun t k => XS.iload X4.here hx rfl (hb hby d5_3) rfl k) ?_
  show Rest p.tables e below s _ _ _ (T4.setTop (mkF m 5 #[.val (.ref a0), .val (.int (2 : Int32)), .val (.ref a2), .val (.int (2 : Int32)), .val (.int (6 : Int32)), .val (.int (2 : Int32)), .val (.int cb)] [(.int (2 : Int32))]))
  refine Rest.via (fun t k => XS.iload X4.here hx rfl (hb hby d5_5) rfl k) ?_
  show Rest p.tables e below s _ _ _ (T4.setTop (mkF m 7 #[.val (.ref a0), .val (.int (2 : Int32)), .val (.ref a2), .val (.int (2 : Int32)), .val (.int (6 : Int32)), .val (.int (2 : Int32)), .val (.int cb)] [(.int (6 : Int32)), (.int (2 : Int32))]))
  refine Rest.via (fun t k => XS.icmpNo X4.here hx rfl (hb hby d5_7) rfl (tlt (by decide : (2 : Int32) < (6 : Int32))).2.1 k) ?_
  show Rest p.tables e below s _ _ _ (T4.setTop (mkF m 10 #[.val (.ref a0), .val (.int (2 : Int32)), .val (.ref a2), .val (.int (2 : Int32)), .val (.int (6 : Int32)), .val (.int (2 : Int32)), .val (.int cb)] []))
  refine Rest.via (fun t k => XS.aloadN X4.here hx rfl (hb hby d5_10) rfl rfl k) ?_
  show Rest p.tables e below s _ _ _ (T4.setTop (mkF m 11 #[.val (.ref a0), .val (.int (2 : Int32)), .val (.ref a2), .val (.int (2 : Int32)), .val (.int (6 : Int32)), .val (.int (2 : Int32)), .val (.int cb)] [(.ref a0)]))
  refine Rest.via (fun t k => XS.iloadN X4.here hx rfl (hb hby d5_11) rfl k) ?_
  show Rest p.tables e below s _ _ _ (T4.setTop (mkF m 12 #[.val (.ref a0), .val (.int (2 : Int32)), .val (.ref a2), .val (.int (2 : Int32)), .val (.int (6 : Int32)), .val (.int (2 : Int32)), .val (.int cb)] [(.int (2 : Int32)), (.ref a0)]))
  obtain ⟨cl5, Ar5, qa5, Sa5, Pa5, Ha5, Ga5⟩ := id ((V0.other W2 n02).other W4 n02)
  have hin5 := inb_of (j := (2 : Int32)) Sa5 ⟨by decide, by decide⟩
  have hat5 : cl5.slots[((2 : Int32)).toNatClampNeg]? = some (.int cc) := Has.at Ha5 hin5 rfl
  refine Rest.via (fun t k => X4.caload hx (j := (2 : Int32)) (v := (.int cc)) (by rw [e4]; exact Ar5.1) (State.isArrayOf_alike hZ.alike Ar5.2.1) Ar5.2.2 hin5 hat5 (g := (mkF m 12 #[.val (.ref a0), .val (.int (2 : Int32)), .val (.ref a2), .val (.int (2 : Int32)), .val (.int (6 : Int32)), .val (.int (2 : Int32)), .val (.int cb)] [(.int (2 : Int32)), (.ref a0)])) rfl rfl (hb hby d5_12) t k) ?_
  show Rest p.tables e below s _ _ _ (T4.setTop (mkF m 13 #[.val (.ref a0), .val (.int (2 : Int32)), .val (.ref a2), .val (.int (2 : Int32)), .val (.int (6 : Int32)), .val (.int (2 : Int32)), .val (.int cb)] [(.int cc)]))
  refine Rest.via (fun t k => XS.istore X4.here hx rfl (hb hby d5_13) rfl (l' := #[.val (.ref a0), .val (.int (2 : Int32)), .val (.ref a2), .val (.int (2 : Int32)), .val (.int (6 : Int32)), .val (.int (2 : Int32)), .val (.int cc)]) rfl k) ?_
  show Rest p.tables e below s _ _ _ (T4.setTop (mkF m 15 #[.val (.ref a0), .val (.int (2 : Int32)), .val (.ref a2), .val (.int (2 : Int32)), .val (.int (6 : Int32)), .val (.int (2 : Int32)), .val (.int cc)] []))
  refine Rest.via (fun t k => XS.iload X4.here hx rfl (hb hby d5_15) rfl k) ?_
  show Rest p.tables e below s _ _ _ (T4.setTop (mkF m 17 #[.val (.ref a0), .val (.int (2 : Int32)), .val (.ref a2), .val (.int (2 : Int32)), .val (.int (6 : Int32)), .val (.int (2 : Int32)), .val (.int cc)] [(.int cc)]))
  refine Rest.via (fun t k => XS.sipush X4.here hx rfl (hb hby d5_17) k) ?_
  show Rest p.tables e below s _ _ _ (T4.setTop (mkF m 20 #[.val (.ref a0), .val (.int (2 : Int32)), .val (.ref a2), .val (.int (2 : Int32)), .val (.int (6 : Int32)), .val (.int (2 : Int32)), .val (.int cc)] [(.int (255 : Int32)), (.int cc)]))
  refine Rest.via (fun t k => XS.icmpYes X4.here hx rfl (pc0 := 20) (pc' := 26) rfl (hb hby d5_20) rfl (flt (hcc : ¬ ((255 : Int32) < cc))).2.2.2 (by decide) (by decide) k) ?_
  show Rest p.tables e below s _ _ _ (T4.setTop (mkF m 26 #[.val (.ref a0), .val (.int (2 : Int32)), .val (.ref a2), .val (.int (2 : Int32)), .val (.int (6 : Int32)), .val (.int (2 : Int32)), .val (.int cc)] []))
  refine Rest.via (fun t k => XS.aloadN X4.here hx rfl (hb hby d5_26) rfl rfl k) ?_
  show Rest p.tables e below s _ _ _ (T4.setTop (mkF m 27 #[.val (.ref a0), .val (.int (2 : Int32)), .val (.ref a2), .val (.int (2 : Int32)), .val (.int (6 : Int32)), .val (.int (2 : Int32)), .val (.int cc)] [(.ref a2)]))
  refine Rest.via (fun t k => XS.iloadN X4.here hx rfl (hb hby d5_27) rfl k) ?_
  show Rest p.tables e below s _ _ _ (T4.setTop (mkF m 28 #[.val (.ref a0), .val (.int (2 : Int32)), .val (.ref a2), .val (.int (2 : Int32)), .val (.int (6 : Int32)), .val (.int (2 : Int32)), .val (.int cc)] [(.int (2 : Int32)), (.ref a2)]))
  refine Rest.via (fun t k => XS.iload X4.here hx rfl (hb hby d5_28) rfl k) ?_
  show Rest p.tables e below s _ _ _ (T4.setTop (mkF m 30 #[.val (.ref a0), .val (.int (2 : Int32)), .val (.ref a2), .val (.int (2 : Int32)), .val (.int (6 : Int32)), .val (.int (2 : Int32)), .val (.int cc)] [(.int cc), (.int (2 : Int32)), (.ref a2)]))
  refine Rest.via (fun t k => XS.i2b X4.here hx rfl (hb hby d5_30) rfl k) ?_
  show Rest p.tables e below s _ _ _ (T4.setTop (mkF m 31 #[.val (.ref a0), .val (.int (2 : Int32)), .val (.ref a2), .val (.int (2 : Int32)), .val (.int (6 : Int32)), .val (.int (2 : Int32)), .val (.int cc)] [(.int (cc.toInt8.toInt32)), (.int (2 : Int32)), (.ref a2)]))
  obtain ⟨cl6, Ar6, qa6, Sa6, Pa6, Ha6, Ga6⟩ := id V4
  have hin6 := inb_of (j := (2 : Int32)) Sa6 ⟨by decide, by decide⟩
  obtain ⟨T6, h6, X6, e6, W6, st6⟩ := stB X4 hx hZ e4 Ar6 (j := (2 : Int32)) hin6 (g := (mkF m 31 #[.val (.ref a0), .val (.int (2 : Int32)), .val (.ref a2), .val (.int (2 : Int32)), .val (.int (6 : Int32)), .val (.int (2 : Int32)), .val (.int cc)] [(.int (cc.toInt8.toInt32)), (.int (2 : Int32)), (.ref a2)])) rfl rfl (hb hby d5_31)
  refine Rest.via (fun t k => st6 t k) ?_
  have N6 := Fr.snoc X6 N4 g_a2
  have K6 : Keep h0 h6 [a2] := K4.wr W6 (Or.inl (List.mem_of_getElem? (i := 0) rfl))
  have V6 : Arv Z h6 a2 kb .byte (6 : Int32) [(.int (own_by ca)), (.int (own_by cb)), (.int (own_by cc)), (.int (0 : Int32)), (.int (0 : Int32)), (.int (0 : Int32))] (.int (0 : Int32)) := by have q := Arv.set Ar6 qa6 Sa6 Pa6 Ha6 Ga6 (fits_nar_byte _) W6 2 rfl (Nat.le_of_ble_eq_true rfl); rw [own_by_nar] at q; exact q
  show Rest p.tables e below s _ _ _ (T6.setTop (mkF m 32 #[.val (.ref a0), .val (.int (2 : Int32)), .val (.ref a2), .val (.int (2 : Int32)), .val (.int (6 : Int32)), .val (.int (2 : Int32)), .val (.int cc)] []))
  refine Rest.via (fun t k => XS.iinc X6.here hx rfl (hb hby d5_32) rfl (l' := #[.val (.ref a0), .val (.int ((2 : Int32) + (1 : Int32))), .val (.ref a2), .val (.int (2 : Int32)), .val (.int (6 : Int32)), .val (.int (2 : Int32)), .val (.int cc)]) rfl k) ?_
  show Rest p.tables e below s _ _ _ (T6.setTop (mkF m 35 #[.val (.ref a0), .val (.int ((2 : Int32) + (1 : Int32))), .val (.ref a2), .val (.int (2 : Int32)), .val (.int (6 : Int32)), .val (.int (2 : Int32)), .val (.int cc)] []))
  rw [(by decide : ((2 : Int32) + (1 : Int32)) = (3 : Int32))]
  show Rest p.tables e below s _ _ _ (T6.setTop (mkF m 35 #[.val (.ref a0), .val (.int (3 : Int32)), .val (.ref a2), .val (.int (2 : Int32)), .val (.int (6 : Int32)), .val (.int (2 : Int32)), .val (.int cc)] []))
  refine Rest.via (fun t k => XS.iinc X6.here hx rfl (hb hby d5_35) rfl (l' := #[.val (.ref a0), .val (.int (3 : Int32)), .val (.ref a2), .val (.int ((2 : Int32) + (1 : Int32))), .val (.int (6 : Int32)), .val (.int (2 : Int32)), .val (.int cc)]) rfl k) ?_
  show Rest p.tables e below s _ _ _ (T6.setTop (mkF m 38 #[.val (.ref a0), .val (.int (3 : Int32)), .val (.ref a2), .val (.int ((2 : Int32) + (1 : Int32))), .val (.int (6 : Int32)), .val (.int (2 : Int32)), .val (.int cc)] []))
  rw [(by decide : ((2 : Int32) + (1 : Int32)) = (3 : Int32))]
  show Rest p.tables e below s _ _ _ (T6.setTop (mkF m 38 #[.val (.ref a0), .val (.int (3 : Int32)), .val (.ref a2), .val (.int (3 : Int32)), .val (.int (6 : Int32)), .val (.int (2 : Int32)), .val (.int cc)] []))
  refine Rest.via (fun t k => XS.iinc X6.here hx rfl (hb hby d5_38) rfl (l' := #[.val (.ref a0), .val (.int (3 : Int32)), .val (.ref a2), .val (.int (3 : Int32)), .val (.int (6 : Int32)), .val (.int ((2 : Int32) + (1 : Int32))), .val (.int cc)]) rfl k) ?_
  show Rest p.tables e below s _ _ _ (T6.setTop (mkF m 41 #[.val (.ref a0), .val (.int (3 : Int32)), .val (.ref a2), .val (.int (3 : Int32)), .val (.int (6 : Int32)), .val (.int ((2 : Int32) + (1 : Int32))), .val (.int cc)] []))
  rw [(by decide : ((2 : Int32) + (1 : Int32)) = (3 : Int32))]
  show Rest p.tables e below s _ _ _ (T6.setTop (mkF m 41 #[.val (.ref a0), .val (.int (3 : Int32)), .val (.ref a2), .val (.int (3 : Int32)), .val (.int (6 : Int32)), .val (.int (3 : Int32)), .val (.int cc)] []))
  refine Rest.via (fun t k => XS.goto X6.here hx rfl (pc0 := 41) (pc' := 3) rfl (hb hby d5_41) (by decide) (by decide) k) ?_
  show Rest p.tables e below s _ _ _ (T6.setTop (mkF m 3 #[.val (.ref a0), .val (.int (3 : Int32)), .val (.ref a2), .val (.int (3 : Int32)), .val (.int (6 : Int32)), .val (.int (3 : Int32)), .val (.int cc)] []))
  refine Rest.via (fun t k => XS.iload X6.here hx rfl (hb hby d5_3) rfl k) ?_
  show Rest p.tables e below s _ _ _ (T6.setTop (mkF m 5 #[.val (.ref a0), .val (.int (3 : Int32)), .val (.ref a2), .val (.int (3 : Int32)), .val (.int (6 : Int32)), .val (.int (3 : Int32)), .val (.int cc)] [(.int (3 : Int32))]))
  refine Rest.via (fun t k => XS.iload X6.here hx rfl (hb hby d5_5) rfl k) ?_
  show Rest p.tables e below s _ _ _ (T6.setTop (mkF m 7 #[.val (.ref a0), .val (.int (3 : Int32)), .val (.ref a2), .val (.int (3 : Int32)), .val (.int (6 : Int32)), .val (.int (3 : Int32)), .val (.int cc)] [(.int (6 : Int32)), (.int (3 : Int32))]))
  refine Rest.via (fun t k => XS.icmpNo X6.here hx rfl (hb hby d5_7) rfl (tlt (by decide : (3 : Int32) < (6 : Int32))).2.1 k) ?_
  show Rest p.tables e below s _ _ _ (T6.setTop (mkF m 10 #[.val (.ref a0), .val (.int (3 : Int32)), .val (.ref a2), .val (.int (3 : Int32)), .val (.int (6 : Int32)), .val (.int (3 : Int32)), .val (.int cc)] []))
  refine Rest.via (fun t k => XS.aloadN X6.here hx rfl (hb hby d5_10) rfl rfl k) ?_
  show Rest p.tables e below s _ _ _ (T6.setTop (mkF m 11 #[.val (.ref a0), .val (.int (3 : Int32)), .val (.ref a2), .val (.int (3 : Int32)), .val (.int (6 : Int32)), .val (.int (3 : Int32)), .val (.int cc)] [(.ref a0)]))
  refine Rest.via (fun t k => XS.iloadN X6.here hx rfl (hb hby d5_11) rfl k) ?_
  show Rest p.tables e below s _ _ _ (T6.setTop (mkF m 12 #[.val (.ref a0), .val (.int (3 : Int32)), .val (.ref a2), .val (.int (3 : Int32)), .val (.int (6 : Int32)), .val (.int (3 : Int32)), .val (.int cc)] [(.int (3 : Int32)), (.ref a0)]))
  obtain ⟨cl7, Ar7, qa7, Sa7, Pa7, Ha7, Ga7⟩ := id (((V0.other W2 n02).other W4 n02).other W6 n02)
  have hin7 := inb_of (j := (3 : Int32)) Sa7 ⟨by decide, by decide⟩
  have hat7 : cl7.slots[((3 : Int32)).toNatClampNeg]? = some (.int cd) := Has.at Ha7 hin7 rfl
  refine Rest.via (fun t k => X6.caload hx (j := (3 : Int32)) (v := (.int cd)) (by rw [e6]; exact Ar7.1) (State.isArrayOf_alike hZ.alike Ar7.2.1) Ar7.2.2 hin7 hat7 (g := (mkF m 12 #[.val (.ref a0), .val (.int (3 : Int32)), .val (.ref a2), .val (.int (3 : Int32)), .val (.int (6 : Int32)), .val (.int (3 : Int32)), .val (.int cc)] [(.int (3 : Int32)), (.ref a0)])) rfl rfl (hb hby d5_12) t k) ?_
  show Rest p.tables e below s _ _ _ (T6.setTop (mkF m 13 #[.val (.ref a0), .val (.int (3 : Int32)), .val (.ref a2), .val (.int (3 : Int32)), .val (.int (6 : Int32)), .val (.int (3 : Int32)), .val (.int cc)] [(.int cd)]))
  refine Rest.via (fun t k => XS.istore X6.here hx rfl (hb hby d5_13) rfl (l' := #[.val (.ref a0), .val (.int (3 : Int32)), .val (.ref a2), .val (.int (3 : Int32)), .val (.int (6 : Int32)), .val (.int (3 : Int32)), .val (.int cd)]) rfl k) ?_
  show Rest p.tables e below s _ _ _ (T6.setTop (mkF m 15 #[.val (.ref a0), .val (.int (3 : Int32)), .val (.ref a2), .val (.int (3 : Int32)), .val (.int (6 : Int32)), .val (.int (3 : Int32)), .val (.int cd)] []))
  refine Rest.via (fun t k => XS.iload X6.here hx rfl (hb hby d5_15) rfl k) ?_
  show Rest p.tables e below s _ _ _ (T6.setTop (mkF m 17 #[.val (.ref a0), .val (.int (3 : Int32)), .val (.ref a2), .val (.int (3 : Int32)), .val (.int (6 : Int32)), .val (.int (3 : Int32)), .val (.int cd)] [(.int cd)]))
  refine Rest.via (fun t k => XS.sipush X6.here hx rfl (hb hby d5_17) k) ?_
  show Rest p.tables e below s _ _ _ (T6.setTop (mkF m 20 #[.val (.ref a0), .val (.int (3 : Int32)), .val (.ref a2), .val (.int (3 : Int32)), .val (.int (6 : Int32)), .val (.int (3 : Int32)), .val (.int cd)] [(.int (255 : Int32)), (.int cd)]))
  refine Rest.via (fun t k => XS.icmpYes X6.here hx rfl (pc0 := 20) (pc' := 26) rfl (hb hby d5_20) rfl (flt (hcd : ¬ ((255 : Int32) < cd))).2.2.2 (by decide) (by decide) k) ?_
  show Rest p.tables e below s _ _ _ (T6.setTop (mkF m 26 #[.val (.ref a0), .val (.int (3 : Int32)), .val (.ref a2), .val (.int (3 : Int32)), .val (.int (6 : Int32)), .val (.int (3 : Int32)), .val (.int cd)] []))
  refine Rest.via (fun t k => XS.aloadN X6.here hx rfl (hb hby d5_26) rfl rfl k) ?_
  show Rest p.tables e below s _ _ _ (T6.setTop (mkF m 27 #[.val (.ref a0), .val (.int (3 : Int32)), .val (.ref a2), .val (.int (3 : Int32)), .val (.int (6 : Int32)), .val (.int (3 : Int32)), .val (.int cd)] [(.ref a2)]))
  refine Rest.via (fun t k => XS.iloadN X6.here hx rfl (hb hby d5_27) rfl k) ?_
  show Rest p.tables e below s _ _ _ (T6.setTop (mkF m 28 #[.val (.ref a0), .val (.int (3 : Int32)), .val (.ref a2), .val (.int (3 : Int32)), .val (.int (6 : Int32)), .val (.int (3 : Int32)), .val (.int cd)] [(.int (3 : Int32)), (.ref a2)]))
  refine Rest.via (fun t k => XS.iload X6.here hx rfl (hb hby d5_28) rfl k) ?_
  show Rest p.tables e below s _ _ _ (T6.setTop (mkF m 30 #[.val (.ref a0), .val (.int (3 : Int32)), .val (.ref a2), .val (.int (3 : Int32)), .val (.int (6 : Int32)), .val (.int (3 : Int32)), .val (.int cd)] [(.int cd), (.int (3 : Int32)), (.ref a2)]))
  refine Rest.via (fun t k => XS.i2b X6.here hx rfl (hb hby d5_30) rfl k) ?_
  show Rest p.tables e below s _ _ _ (T6.setTop (mkF m 31 #[.val (.ref a0), .val (.int (3 : Int32)), .val (.ref a2), .val (.int (3 : Int32)), .val (.int (6 : Int32)), .val (.int (3 : Int32)), .val (.int cd)] [(.int (cd.toInt8.toInt32)), (.int (3 : Int32)), (.ref a2)]))
  obtain ⟨cl8, Ar8, qa8, Sa8, Pa8, Ha8, Ga8⟩ := id V6
  have hin8 := inb_of (j := (3 : Int32)) Sa8 ⟨by decide, by decide⟩
  obtain ⟨T8, h8, X8, e8, W8, st8⟩ := stB X6 hx hZ e6 Ar8 (j := (3 : Int32)) hin8 (g := (mkF m 31 #[.val (.ref a0), .val (.int (3 : Int32)), .val (.ref a2), .val (.int (3 : Int32)), .val (.int (6 : Int32)), .val (.int (3 : Int32)), .val (.int cd)] [(.int (cd.toInt8.toInt32)), (.int (3 : Int32)), (.ref a2)])) rfl rfl (hb hby d5_31)
  refine Rest.via (fun t k => st8 t k) ?_
  have N8 := Fr.snoc X8 N6 g_a2
  have K8 : Keep h0 h8 [a2] := K6.wr W8 (Or.inl (List.mem_of_getElem? (i := 0) rfl))
  have V8 : Arv Z h8 a2 kb .byte (6 : Int32) [(.int (own_by ca)), (.int (own_by cb)), (.int (own_by cc)), (.int (own_by cd)), (.int (0 : Int32)), (.int (0 : Int32))] (.int (0 : Int32)) := by have q := Arv.set Ar8 qa8 Sa8 Pa8 Ha8 Ga8 (fits_nar_byte _) W8 3 rfl (Nat.le_of_ble_eq_true rfl); rw [own_by_nar] at q; exact q
  show Rest p.tables e below s _ _ _ (T8.setTop (mkF m 32 #[.val (.ref a0), .val (.int (3 : Int32)), .val (.ref a2), .val (.int (3 : Int32)), .val (.int (6 : Int32)), .val (.int (3 : Int32)), .val (.int cd)] []))
  refine Rest.via (fun t k => XS.iinc X8.here hx rfl (hb hby d5_32) rfl (l' := #[.val (.ref a0), .val (.int ((3 : Int32) + (1 : Int32))), .val (.ref a2), .val (.int (3 : Int32)), .val (.int (6 : Int32)), .val (.int (3 : Int32)), .val (.int cd)]) rfl k) ?_
  show Rest p.tables e below s _ _ _ (T8.setTop (mkF m 35 #[.val (.ref a0), .val (.int ((3 : Int32) + (1 : Int32))), .val (.ref a2), .val (.int (3 : Int32)), .val (.int (6 : Int32)), .val (.int (3 : Int32)), .val (.int cd)] []))
  rw [(by decide : ((3 : Int32) + (1 : Int32)) = (4 : Int32))]
  show Rest p.tables e below s _ _ _ (T8.setTop (mkF m 35 #[.val (.ref a0), .val (.int (4 : Int32)), .val (.ref a2), .val (.int (3 : Int32)), .val (.int (6 : Int32)), .val (.int (3 : Int32)), .val (.int cd)] []))
  refine Rest.via (fun t k => XS.iinc X8.here hx rfl (hb hby d5_35) rfl (l' := #[.val (.ref a0), .val (.int (4 : Int32)), .val (.ref a2), .val (.int ((3 : Int32) + (1 : Int32))), .val (.int (6 : Int32)), .val (.int (3 : Int32)), .val (.int cd)]) rfl k) ?_
  show Rest p.tables e below s _ _ _ (T8.setTop (mkF m 38 #[.val (.ref a0), .val (.int (4 : Int32)), .val (.ref a2), .val (.int ((3 : Int32) + (1 : Int32))), .val (.int (6 : Int32)), .val (.int (3 : Int32)), .val (.int cd)] []))
  rw [(by decide : ((3 : Int32) + (1 : Int32)) = (4 : Int32))]
  show Rest p.tables e below s _ _ _ (T8.setTop (mkF m 38 #[.val (.ref a0), .val (.int (4 : Int32)), .val (.ref a2), .val (.int (4 : Int32)), .val (.int (6 : Int32)), .val (.int (3 : Int32)), .val (.int cd)] []))
  refine Rest.via (fun t k => XS.iinc X8.here hx rfl (hb hby d5_38) rfl (l' := #[.val (.ref a0), .val (.int (4 : Int32)), .val (.ref a2), .val (.int (4 : Int32)), .val (.int (6 : Int32)), .val (.int ((3 : Int32) + (1 : Int32))), .val (.int cd)]) rfl k) ?_
  show Rest p.tables e below s _ _ _ (T8.setTop (mkF m 41 #[.val (.ref a0), .val (.int (4 : Int32)), .val (.ref a2), .val (.int (4 : Int32)), .val (.int (6 : Int32)), .val (.int ((3 : Int32) + (1 : Int32))), .val (.int cd)] []))
  rw [(by decide : ((3 : Int32) + (1 : Int32)) = (4 : Int32))]
  show Rest p.tables e below s _ _ _ (T8.setTop (mkF m 41 #[.val (.ref a0), .val (.int (4 : Int32)), .val (.ref a2), .val (.int (4 : Int32)), .val (.int (6 : Int32)), .val (.int (4 : Int32)), .val (.int cd)] []))
  refine Rest.via (fun t k => XS.goto X8.here hx rfl (pc0 := 41) (pc' := 3) rfl (hb hby d5_41) (by decide) (by decide) k) ?_
  show Rest p.tables e below s _ _ _ (T8.setTop (mkF m 3 #[.val (.ref a0), .val (.int (4 : Int32)), .val (.ref a2), .val (.int (4 : Int32)), .val (.int (6 : Int32)), .val (.int (4 : Int32)), .val (.int cd)] []))
  refine Rest.via (fun t k => XS.iload X8.here hx rfl (hb hby d5_3) rfl k) ?_
  show Rest p.tables e below s _ _ _ (T8.setTop (mkF m 5 #[.val (.ref a0), .val (.int (4 : Int32)), .val (.ref a2), .val (.int (4 : Int32)), .val (.int (6 : Int32)), .val (.int (4 : Int32)), .val (.int cd)] [(.int (4 : Int32))]))
  refine Rest.via (fun t k => XS.iload X8.here hx rfl (hb hby d5_5) rfl k) ?_
  show Rest p.tables e below s _ _ _ (T8.setTop (mkF m 7 #[.val (.ref a0), .val (.int (4 : Int32)), .val (.ref a2), .val (.int (4 : Int32)), .val (.int (6 : Int32)), .val (.int (4 : Int32)), .val (.int cd)] [(.int (6 : Int32)), (.int (4 : Int32))]))
  refine Rest.via (fun t k => XS.icmpNo X8.here hx rfl (hb hby d5_7) rfl (tlt (by decide : (4 : Int32) < (6 : Int32))).2.1 k) ?_
  show Rest p.tables e below s _ _ _ (T8.setTop (mkF m 10 #[.val (.ref a0), .val (.int (4 : Int32)), .val (.ref a2), .val (.int (4 : Int32)), .val (.int (6 : Int32)), .val (.int (4 : Int32)), .val (.int cd)] []))
  refine Rest.via (fun t k => XS.aloadN X8.here hx rfl (hb hby d5_10) rfl rfl k) ?_
  show Rest p.tables e below s _ _ _ (T8.setTop (mkF m 11 #[.val (.ref a0), .val (.int (4 : Int32)), .val (.ref a2), .val (.int (4 : Int32)), .val (.int (6 : Int32)), .val (.int (4 : Int32)), .val (.int cd)] [(.ref a0)]))
  refine Rest.via (fun t k => XS.iloadN X8.here hx rfl (hb hby d5_11) rfl k) ?_
  show Rest p.tables e below s _ _ _ (T8.setTop (mkF m 12 #[.val (.ref a0), .val (.int (4 : Int32)), .val (.ref a2), .val (.int (4 : Int32)), .val (.int (6 : Int32)), .val (.int (4 : Int32)), .val (.int cd)] [(.int (4 : Int32)), (.ref a0)]))
  obtain ⟨cl9, Ar9, qa9, Sa9, Pa9, Ha9, Ga9⟩ := id ((((V0.other W2 n02).other W4 n02).other W6 n02).other W8 n02)
  have hin9 := inb_of (j := (4 : Int32)) Sa9 ⟨by decide, by decide⟩
  have hat9 : cl9.slots[((4 : Int32)).toNatClampNeg]? = some (.int ce) := Has.at Ha9 hin9 rfl
  refine Rest.via (fun t k => X8.caload hx (j := (4 : Int32)) (v := (.int ce)) (by rw [e8]; exact Ar9.1) (State.isArrayOf_alike hZ.alike Ar9.2.1) Ar9.2.2 hin9 hat9 (g := (mkF m 12 #[.val (.ref a0), .val (.int (4 : Int32)), .val (.ref a2), .val (.int (4 : Int32)), .val (.int (6 : Int32)), .val (.int (4 : Int32)), .val (.int cd)] [(.int (4 : Int32)), (.ref a0)])) rfl rfl (hb hby d5_12) t k) ?_
  show Rest p.tables e below s _ _ _ (T8.setTop (mkF m 13 #[.val (.ref a0), .val (.int (4 : Int32)), .val (.ref a2), .val (.int (4 : Int32)), .val (.int (6 : Int32)), .val (.int (4 : Int32)), .val (.int cd)] [(.int ce)]))
  refine Rest.via (fun t k => XS.istore X8.here hx rfl (hb hby d5_13) rfl (l' := #[.val (.ref a0), .val (.int (4 : Int32)), .val (.ref a2), .val (.int (4 : Int32)), .val (.int (6 : Int32)), .val (.int (4 : Int32)), .val (.int ce)]) rfl k) ?_
  show Rest p.tables e below s _ _ _ (T8.setTop (mkF m 15 #[.val (.ref a0), .val (.int (4 : Int32)), .val (.ref a2), .val (.int (4 : Int32)), .val (.int (6 : Int32)), .val (.int (4 : Int32)), .val (.int ce)] []))
  refine Rest.via (fun t k => XS.iload X8.here hx rfl (hb hby d5_15) rfl k) ?_
  show Rest p.tables e below s _ _ _ (T8.setTop (mkF m 17 #[.val (.ref a0), .val (.int (4 : Int32)), .val (.ref a2), .val (.int (4 : Int32)), .val (.int (6 : Int32)), .val (.int (4 : Int32)), .val (.int ce)] [(.int ce)]))
  refine Rest.via (fun t k => XS.sipush X8.here hx rfl (hb hby d5_17) k) ?_
  show Rest p.tables e below s _ _ _ (T8.setTop (mkF m 20 #[.val (.ref a0), .val (.int (4 : Int32)), .val (.ref a2), .val (.int (4 : Int32)), .val (.int (6 : Int32)), .val (.int (4 : Int32)), .val (.int ce)] [(.int (255 : Int32)), (.int ce)]))
  refine Rest.via (fun t k => XS.icmpYes X8.here hx rfl (pc0 := 20) (pc' := 26) rfl (hb hby d5_20) rfl (flt (hce : ¬ ((255 : Int32) < ce))).2.2.2 (by decide) (by decide) k) ?_
  show Rest p.tables e below s _ _ _ (T8.setTop (mkF m 26 #[.val (.ref a0), .val (.int (4 : Int32)), .val (.ref a2), .val (.int (4 : Int32)), .val (.int (6 : Int32)), .val (.int (4 : Int32)), .val (.int ce)] []))
  refine Rest.via (fun t k => XS.aloadN X8.here hx rfl (hb hby d5_26) rfl rfl k) ?_
  show Rest p.tables e below s _ _ _ (T8.setTop (mkF m 27 #[.val (.ref a0), .val (.int (4 : Int32)), .val (.ref a2), .val (.int (4 : Int32)), .val (.int (6 : Int32)), .val (.int (4 : Int32)), .val (.int ce)] [(.ref a2)]))
  refine Rest.via (fun t k => XS.iloadN X8.here hx rfl (hb hby d5_27) rfl k) ?_
  show Rest p.tables e below s _ _ _ (T8.setTop (mkF m 28 #[.val (.ref a0), .val (.int (4 : Int32)), .val (.ref a2), .val (.int (4 : Int32)), .val (.int (6 : Int32)), .val (.int (4 : Int32)), .val (.int ce)] [(.int (4 : Int32)), (.ref a2)]))
  refine Rest.via (fun t k => XS.iload X8.here hx rfl (hb hby d5_28) rfl k) ?_
  show Rest p.tables e below s _ _ _ (T8.setTop (mkF m 30 #[.val (.ref a0), .val (.int (4 : Int32)), .val (.ref a2), .val (.int (4 : Int32)), .val (.int (6 : Int32)), .val (.int (4 : Int32)), .val (.int ce)] [(.int ce), (.int (4 : Int32)), (.ref a2)]))
  refine Rest.via (fun t k => XS.i2b X8.here hx rfl (hb hby d5_30) rfl k) ?_
  show Rest p.tables e below s _ _ _ (T8.setTop (mkF m 31 #[.val (.ref a0), .val (.int (4 : Int32)), .val (.ref a2), .val (.int (4 : Int32)), .val (.int (6 : Int32)), .val (.int (4 : Int32)), .val (.int ce)] [(.int (ce.toInt8.toInt32)), (.int (4 : Int32)), (.ref a2)]))
  obtain ⟨cl10, Ar10, qa10, Sa10, Pa10, Ha10, Ga10⟩ := id V8
  have hin10 := inb_of (j := (4 : Int32)) Sa10 ⟨by decide, by decide⟩
  obtain ⟨T10, h10, X10, e10, W10, st10⟩ := stB X8 hx hZ e8 Ar10 (j := (4 : Int32)) hin10 (g := (mkF m 31 #[.val (.ref a0), .val (.int (4 : Int32)), .val (.ref a2), .val (.int (4 : Int32)), .val (.int (6 : Int32)), .val (.int (4 : Int32)), .val (.int ce)] [(.int (ce.toInt8.toInt32)), (.int (4 : Int32)), (.ref a2)])) rfl rfl (hb hby d5_31)
  refine Rest.via (fun t k => st10 t k) ?_
  have N10 := Fr.snoc X10 N8 g_a2
  have K10 : Keep h0 h10 [a2] := K8.wr W10 (Or.inl (List.mem_of_getElem? (i := 0) rfl))
  have V10 : Arv Z h10 a2 kb .byte (6 : Int32) [(.int (own_by ca)), (.int (own_by cb)), (.int (own_by cc)), (.int (own_by cd)), (.int (own_by ce)), (.int (0 : Int32))] (.int (0 : Int32)) := by have q := Arv.set Ar10 qa10 Sa10 Pa10 Ha10 Ga10 (fits_nar_byte _) W10 4 rfl (Nat.le_of_ble_eq_true rfl); rw [own_by_nar] at q; exact q
  show Rest p.tables e below s _ _ _ (T10.setTop (mkF m 32 #[.val (.ref a0), .val (.int (4 : Int32)), .val (.ref a2), .val (.int (4 : Int32)), .val (.int (6 : Int32)), .val (.int (4 : Int32)), .val (.int ce)] []))
  refine Rest.via (fun t k => XS.iinc X10.here hx rfl (hb hby d5_32) rfl (l' := #[.val (.ref a0), .val (.int ((4 : Int32) + (1 : Int32))), .val (.ref a2), .val (.int (4 : Int32)), .val (.int (6 : Int32)), .val (.int (4 : Int32)), .val (.int ce)]) rfl k) ?_
  show Rest p.tables e below s _ _ _ (T10.setTop (mkF m 35 #[.val (.ref a0), .val (.int ((4 : Int32) + (1 : Int32))), .val (.ref a2), .val (.int (4 : Int32)), .val (.int (6 : Int32)), .val (.int (4 : Int32)), .val (.int ce)] []))
  rw [(by decide : ((4 : Int32) + (1 : Int32)) = (5 : Int32))]
  show Rest p.tables e below s _ _ _ (T10.setTop (mkF m 35 #[.val (.ref a0), .val (.int (5 : Int32)), .val (.ref a2), .val (.int (4 : Int32)), .val (.int (6 : Int32)), .val (.int (4 : Int32)), .val (.int ce)] []))
  refine Rest.via (fun t k => XS.iinc X10.here hx rfl (hb hby d5_35) rfl (l' := #[.val (.ref a0), .val (.int (5 : Int32)), .val (.ref a2), .val (.int ((4 : Int32) + (1 : Int32))), .val (.int (6 : Int32)), .val (.int (4 : Int32)), .val (.int ce)]) rfl k) ?_
  show Rest p.tables e below s _ _ _ (T10.setTop (mkF m 38 #[.val (.ref a0), .val (.int (5 : Int32)), .val (.ref a2), .val (.int ((4 : Int32) + (1 : Int32))), .val (.int (6 : Int32)), .val (.int (4 : Int32)), .val (.int ce)] []))
  rw [(by decide : ((4 : Int32) + (1 : Int32)) = (5 : Int32))]
  show Rest p.tables e below s _ _ _ (T10.setTop (mkF m 38 #[.val (.ref a0), .val (.int (5 : Int32)), .val (.ref a2), .val (.int (5 : Int32)), .val (.int (6 : Int32)), .val (.int (4 : Int32)), .val (.int ce)] []))
  refine Rest.via (fun t k => XS.iinc X10.here hx rfl (hb hby d5_38) rfl (l' := #[.val (.ref a0), .val (.int (5 : Int32)), .val (.ref a2), .val (.int (5 : Int32)), .val (.int (6 : Int32)), .val (.int ((4 : Int32) + (1 : Int32))), .val (.int ce)]) rfl k) ?_
  show Rest p.tables e below s _ _ _ (T10.setTop (mkF m 41 #[.val (.ref a0), .val (.int (5 : Int32)), .val (.ref a2), .val (.int (5 : Int32)), .val (.int (6 : Int32)), .val (.int ((4 : Int32) + (1 : Int32))), .val (.int ce)] []))
  rw [(by decide : ((4 : Int32) + (1 : Int32)) = (5 : Int32))]
  show Rest p.tables e below s _ _ _ (T10.setTop (mkF m 41 #[.val (.ref a0), .val (.int (5 : Int32)), .val (.ref a2), .val (.int (5 : Int32)), .val (.int (6 : Int32)), .val (.int (5 : Int32)), .val (.int ce)] []))
  refine Rest.via (fun t k => XS.goto X10.here hx rfl (pc0 := 41) (pc' := 3) rfl (hb hby d5_41) (by decide) (by decide) k) ?_
  show Rest p.tables e below s _ _ _ (T10.setTop (mkF m 3 #[.val (.ref a0), .val (.int (5 : Int32)), .val (.ref a2), .val (.int (5 : Int32)), .val (.int (6 : Int32)), .val (.int (5 : Int32)), .val (.int ce)] []))
  refine Rest.via (fun t k => XS.iload X10.here hx rfl (hb hby d5_3) rfl k) ?_
  show Rest p.tables e below s _ _ _ (T10.setTop (mkF m 5 #[.val (.ref a0), .val (.int (5 : Int32)), .val (.ref a2), .val (.int (5 : Int32)), .val (.int (6 : Int32)), .val (.int (5 : Int32)), .val (.int ce)] [(.int (5 : Int32))]))
  refine Rest.via (fun t k => XS.iload X10.here hx rfl (hb hby d5_5) rfl k) ?_
  show Rest p.tables e below s _ _ _ (T10.setTop (mkF m 7 #[.val (.ref a0), .val (.int (5 : Int32)), .val (.ref a2), .val (.int (5 : Int32)), .val (.int (6 : Int32)), .val (.int (5 : Int32)), .val (.int ce)] [(.int (6 : Int32)), (.int (5 : Int32))]))
  refine Rest.via (fun t k => XS.icmpNo X10.here hx rfl (hb hby d5_7) rfl (tlt (by decide : (5 : Int32) < (6 : Int32))).2.1 k) ?_
  show Rest p.tables e below s _ _ _ (T10.setTop (mkF m 10 #[.val (.ref a0), .val (.int (5 : Int32)), .val (.ref a2), .val (.int (5 : Int32)), .val (.int (6 : Int32)), .val (.int (5 : Int32)), .val (.int ce)] []))
  refine Rest.via (fun t k => XS.aloadN X10.here hx rfl (hb hby d5_10) rfl rfl k) ?_
  show Rest p.tables e below s _ _ _ (T10.setTop (mkF m 11 #[.val (.ref a0), .val (.int (5 : Int32)), .val (.ref a2), .val (.int (5 : Int32)), .val (.int (6 : Int32)), .val (.int (5 : Int32)), .val (.int ce)] [(.ref a0)]))
  refine Rest.via (fun t k => XS.iloadN X10.here hx rfl (hb hby d5_11) rfl k) ?_
  show Rest p.tables e below s _ _ _ (T10.setTop (mkF m 12 #[.val (.ref a0), .val (.int (5 : Int32)), .val (.ref a2), .val (.int (5 : Int32)), .val (.int (6 : Int32)), .val (.int (5 : Int32)), .val (.int ce)] [(.int (5 : Int32)), (.ref a0)]))
  obtain ⟨cl11, Ar11, qa11, Sa11, Pa11, Ha11, Ga11⟩ := id (((((V0.other W2 n02).other W4 n02).other W6 n02).other W8 n02).other W10 n02)
  have hin11 := inb_of (j := (5 : Int32)) Sa11 ⟨by decide, by decide⟩
  have hat11 : cl11.slots[((5 : Int32)).toNatClampNeg]? = some (.int cf) := Has.at Ha11 hin11 rfl
  refine Rest.via (fun t k => X10.caload hx (j := (5 : Int32)) (v := (.int cf)) (by rw [e10]; exact Ar11.1) (State.isArrayOf_alike hZ.alike Ar11.2.1) Ar11.2.2 hin11 hat11 (g := (mkF m 12 #[.val (.ref a0), .val (.int (5 : Int32)), .val (.ref a2), .val (.int (5 : Int32)), .val (.int (6 : Int32)), .val (.int (5 : Int32)), .val (.int ce)] [(.int (5 : Int32)), (.ref a0)])) rfl rfl (hb hby d5_12) t k) ?_
  show Rest p.tables e below s _ _ _ (T10.setTop (mkF m 13 #[.val (.ref a0), .val (.int (5 : Int32)), .val (.ref a2), .val (.int (5 : Int32)), .val (.int (6 : Int32)), .val (.int (5 : Int32)), .val (.int ce)] [(.int cf)]))
  refine Rest.via (fun t k => XS.istore X10.here hx rfl (hb hby d5_13) rfl (l' := #[.val (.ref a0), .val (.int (5 : Int32)), .val (.ref a2), .val (.int (5 : Int32)), .val (.int (6 : Int32)), .val (.int (5 : Int32)), .val (.int cf)]) rfl k) ?_
  show Rest p.tables e below s _ _ _ (T10.setTop (mkF m 15 #[.val (.ref a0), .val (.int (5 : Int32)), .val (.ref a2), .val (.int (5 : Int32)), .val (.int (6 : Int32)), .val (.int (5 : Int32)), .val (.int cf)] []))
  refine Rest.via (fun t k => XS.iload X10.here hx rfl (hb hby d5_15) rfl k) ?_
  show Rest p.tables e below s _ _ _ (T10.setTop (mkF m 17 #[.val (.ref a0), .val (.int (5 : Int32)), .val (.ref a2), .val (.int (5 : Int32)), .val (.int (6 : Int32)), .val (.int (5 : Int32)), .val (.int cf)] [(.int cf)]))
  refine Rest.via (fun t k => XS.sipush X10.here hx rfl (hb hby d5_17) k) ?_
  show Rest p.tables e below s _ _ _ (T10.setTop (mkF m 20 #[.val (.ref a0), .val (.int (5 : Int32)), .val (.ref a2), .val (.int (5 : Int32)), .val (.int (6 : Int32)), .val (.int (5 : Int32)), .val (.int cf)] [(.int (255 : Int32)), (.int cf)]))
  refine Rest.via (fun t k => XS.icmpYes X10.here hx rfl (pc0 := 20) (pc' := 26) rfl (hb hby d5_20) rfl (flt (hcf : ¬ ((255 : Int32) < cf))).2.2.2 (by decide) (by decide) k) ?_
  show Rest p.tables e below s _ _ _ (T10.setTop (mkF m 26 #[.val (.ref a0), .val (.int (5 : Int32)), .val (.ref a2), .val (.int (5 : Int32)), .val (.int (6 : Int32)), .val (.int (5 : Int32)), .val (.int cf)] []))
  refine Rest.via (fun t k => XS.aloadN X10.here hx rfl (hb hby d5_26) rfl rfl k) ?_
  show Rest p.tables e below s _ _ _ (T10.setTop (mkF m 27 #[.val (.ref a0), .val (.int (5 : Int32)), .val (.ref a2), .val (.int (5 : Int32)), .val (.int (6 : Int32)), .val (.int (5 : Int32)), .val (.int cf)] [(.ref a2)]))
  refine Rest.via (fun t k => XS.iloadN X10.here hx rfl (hb hby d5_27) rfl k) ?_
  show Rest p.tables e below s _ _ _ (T10.setTop (mkF m 28 #[.val (.ref a0), .val (.int (5 : Int32)), .val (.ref a2), .val (.int (5 : Int32)), .val (.int (6 : Int32)), .val (.int (5 : Int32)), .val (.int cf)] [(.int (5 : Int32)), (.ref a2)]))
  refine Rest.via (fun t k => XS.iload X10.here hx rfl (hb hby d5_28) rfl k) ?_
  show Rest p.tables e below s _ _ _ (T10.setTop (mkF m 30 #[.val (.ref a0), .val (.int (5 : Int32)), .val (.ref a2), .val (.int (5 : Int32)), .val (.int (6 : Int32)), .val (.int (5 : Int32)), .val (.int cf)] [(.int cf), (.int (5 : Int32)), (.ref a2)]))
  refine Rest.via (fun t k => XS.i2b X10.here hx rfl (hb hby d5_30) rfl k) ?_
  show Rest p.tables e below s _ _ _ (T10.setTop (mkF m 31 #[.val (.ref a0), .val (.int (5 : Int32)), .val (.ref a2), .val (.int (5 : Int32)), .val (.int (6 : Int32)), .val (.int (5 : Int32)), .val (.int cf)] [(.int (cf.toInt8.toInt32)), (.int (5 : Int32)), (.ref a2)]))
  obtain ⟨cl12, Ar12, qa12, Sa12, Pa12, Ha12, Ga12⟩ := id V10
  have hin12 := inb_of (j := (5 : Int32)) Sa12 ⟨by decide, by decide⟩
  obtain ⟨T12, h12, X12, e12, W12, st12⟩ := stB X10 hx hZ e10 Ar12 (j := (5 : Int32)) hin12 (g := (mkF m 31 #[.val (.ref a0), .val (.int (5 : Int32)), .val (.ref a2), .val (.int (5 : Int32)), .val (.int (6 : Int32)), .val (.int (5 : Int32)), .val (.int cf)] [(.int (cf.toInt8.toInt32)), (.int (5 : Int32)), (.ref a2)])) rfl rfl (hb hby d5_31)
  refine Rest.via (fun t k => st12 t k) ?_
  have N12 := Fr.snoc X12 N10 g_a2
  have K12 : Keep h0 h12 [a2] := K10.wr W12 (Or.inl (List.mem_of_getElem? (i := 0) rfl))
  have V12 : Arv Z h12 a2 kb .byte (6 : Int32) [(.int (own_by ca)), (.int (own_by cb)), (.int (own_by cc)), (.int (own_by cd)), (.int (own_by ce)), (.int (own_by cf))] (.int (0 : Int32)) := by have q := Arv.set Ar12 qa12 Sa12 Pa12 Ha12 Ga12 (fits_nar_byte _) W12 5 rfl (Nat.le_of_ble_eq_true rfl); rw [own_by_nar] at q; exact q
  show Rest p.tables e below s _ _ _ (T12.setTop (mkF m 32 #[.val (.ref a0), .val (.int (5 : Int32)), .val (.ref a2), .val (.int (5 : Int32)), .val (.int (6 : Int32)), .val (.int (5 : Int32)), .val (.int cf)] []))
  refine Rest.via (fun t k => XS.iinc X12.here hx rfl (hb hby d5_32) rfl (l' := #[.val (.ref a0), .val (.int ((5 : Int32) + (1 : Int32))), .val (.ref a2), .val (.int (5 : Int32)), .val (.int (6 : Int32)), .val (.int (5 : Int32)), .val (.int cf)]) rfl k) ?_
  show Rest p.tables e below s _ _ _ (T12.setTop (mkF m 35 #[.val (.ref a0), .val (.int ((5 : Int32) + (1 : Int32))), .val (.ref a2), .val (.int (5 : Int32)), .val (.int (6 : Int32)), .val (.int (5 : Int32)), .val (.int cf)] []))
  rw [(by decide : ((5 : Int32) + (1 : Int32)) = (6 : Int32))]
  show Rest p.tables e below s _ _ _ (T12.setTop (mkF m 35 #[.val (.ref a0), .val (.int (6 : Int32)), .val (.ref a2), .val (.int (5 : Int32)), .val (.int (6 : Int32)), .val (.int (5 : Int32)), .val (.int cf)] []))
  refine Rest.via (fun t k => XS.iinc X12.here hx rfl (hb hby d5_35) rfl (l' := #[.val (.ref a0), .val (.int (6 : Int32)), .val (.ref a2), .val (.int ((5 : Int32) + (1 : Int32))), .val (.int (6 : Int32)), .val (.int (5 : Int32)), .val (.int cf)]) rfl k) ?_
  show Rest p.tables e below s _ _ _ (T12.setTop (mkF m 38 #[.val (.ref a0), .val (.int (6 : Int32)), .val (.ref a2), .val (.int ((5 : Int32) + (1 : Int32))), .val (.int (6 : Int32)), .val (.int (5 : Int32)), .val (.int cf)] []))
  rw [(by decide : ((5 : Int32) + (1 : Int32)) = (6 : Int32))]
  show Rest p.tables e below s _ _ _ (T12.setTop (mkF m 38 #[.val (.ref a0), .val (.int (6 : Int32)), .val (.ref a2), .val (.int (6 : Int32)), .val (.int (6 : Int32)), .val (.int (5 : Int32)), .val (.int cf)] []))
  refine Rest.via (fun t k => XS.iinc X12.here hx rfl (hb hby d5_38) rfl (l' := #[.val (.ref a0), .val (.int (6 : Int32)), .val (.ref a2), .val (.int (6 : Int32)), .val (.int (6 : Int32)), .val (.int ((5 : Int32) + (1 : Int32))), .val (.int cf)]) rfl k) ?_
  show Rest p.tables e below s _ _ _ (T12.setTop (mkF m 41 #[.val (.ref a0), .val (.int (6 : Int32)), .val (.ref a2), .val (.int (6 : Int32)), .val (.int (6 : Int32)), .val (.int ((5 : Int32) + (1 : Int32))), .val (.int cf)] []))
  rw [(by decide : ((5 : Int32) + (1 : Int32)) = (6 : Int32))]
  show Rest p.tables e below s _ _ _ (T12.setTop (mkF m 41 #[.val (.ref a0), .val (.int (6 : Int32)), .val (.ref a2), .val (.int (6 : Int32)), .val (.int (6 : Int32)), .val (.int (6 : Int32)), .val (.int cf)] []))
  refine Rest.via (fun t k => XS.goto X12.here hx rfl (pc0 := 41) (pc' := 3) rfl (hb hby d5_41) (by decide) (by decide) k) ?_
  show Rest p.tables e below s _ _ _ (T12.setTop (mkF m 3 #[.val (.ref a0), .val (.int (6 : Int32)), .val (.ref a2), .val (.int (6 : Int32)), .val (.int (6 : Int32)), .val (.int (6 : Int32)), .val (.int cf)] []))
  refine Rest.via (fun t k => XS.iload X12.here hx rfl (hb hby d5_3) rfl k) ?_
  show Rest p.tables e below s _ _ _ (T12.setTop (mkF m 5 #[.val (.ref a0), .val (.int (6 : Int32)), .val (.ref a2), .val (.int (6 : Int32)), .val (.int (6 : Int32)), .val (.int (6 : Int32)), .val (.int cf)] [(.int (6 : Int32))]))
  refine Rest.via (fun t k => XS.iload X12.here hx rfl (hb hby d5_5) rfl k) ?_
  show Rest p.tables e below s _ _ _ (T12.setTop (mkF m 7 #[.val (.ref a0), .val (.int (6 : Int32)), .val (.ref a2), .val (.int (6 : Int32)), .val (.int (6 : Int32)), .val (.int (6 : Int32)), .val (.int cf)] [(.int (6 : Int32)), (.int (6 : Int32))]))
  refine Rest.via (fun t k => XS.icmpYes X12.here hx rfl (pc0 := 7) (pc' := 44) rfl (hb hby d5_7) rfl (flt (by decide : ¬ ((6 : Int32) < (6 : Int32)))).2.1 (by decide) (by decide) k) ?_
  show Rest p.tables e below s _ _ _ (T12.setTop (mkF m 44 #[.val (.ref a0), .val (.int (6 : Int32)), .val (.ref a2), .val (.int (6 : Int32)), .val (.int (6 : Int32)), .val (.int (6 : Int32)), .val (.int cf)] []))
  refine Rest.via (fun t k => XS.iload X12.here hx rfl (hb hby d5_44) rfl k) ?_
  show Rest p.tables e below s _ _ _ (T12.setTop (mkF m 46 #[.val (.ref a0), .val (.int (6 : Int32)), .val (.ref a2), .val (.int (6 : Int32)), .val (.int (6 : Int32)), .val (.int (6 : Int32)), .val (.int cf)] [(.int (6 : Int32))]))
  refine Rest.ret X12 (v := some (.int (6 : Int32))) (fun h => by rw [Bd.returns] at h; cases h) hlk (fun fs hr => retOut X12 hx Bd.returns rfl (Or.inl ⟨rfl, Or.inl rfl, _, rfl⟩) (hb hby d5_46) hr) ?_ (by decide) (by decide)
  rw [e12]
  exact ⟨rfl, N12, K12, V12⟩
theorem ef_W6 (m : MethodId) (a0 : Addr) : entryFrame m #[(.ref a0), (.int (0 : Int32)), (.int (6 : Int32))] 6 = mkF m 0 #[.val (.ref a0), .val (.int (0 : Int32)), .val (.int (6 : Int32)), .unset, .unset, .unset] [] := by first | (simp [entryFrame, mkF, argsToLocals, Value.category, maxLocals]; done) | rfl
def QW6 (Z : State) (a0 : Addr) (kc : ClassId) (ca : Int32) (cb : Int32) (cc : Int32) (cd : Int32) (ce : Int32) (cf : Int32) (h0 : Heap) (n0 : Nat) (v : Option Value) (h : Heap) (L : List Loc) : Prop := ∃ va kb, v = some (.ref va) ∧ Fr n0 L ∧ Keep h0 h [] ∧ h0.size ≤ va ∧ Arv Z h va kb .byte (6 : Int32) [(.int (own_by ca)), (.int (own_by cb)), (.int (own_by cc)), (.int (own_by cd)), (.int (own_by ce)), (.int (own_by cf))] (.int (0 : Int32))
set_option maxRecDepth 65536 in
set_option maxHeartbeats 40000000 in
theorem rmW6 (l : Launch) (Z : State) (aw : Array Value) (hw : ∀ d ∈ tables_1, d.before aw Z = true) (ws : List Jvm.Cond) (a0 : Addr) (kc : ClassId) (ca : Int32) (cb : Int32) (cc : Int32) (cd : Int32) (ce : Int32) (cf : Int32) (h0 : Heap) (n0 : Nat) (Z0 : n0 ≤ h0.size) (V0 : Arv Z h0 a0 kc .char (6 : Int32) [(.int ca), (.int cb), (.int cc), (.int cd), (.int ce), (.int cf)] (.int (0 : Int32))) (hca : ¬ ((255 : Int32) < ca)) (hcb : ¬ ((255 : Int32) < cb)) (hcc : ¬ ((255 : Int32) < cc)) (hcd : ¬ ((255 : Int32) < cd)) (hce : ¬ ((255 : Int32) < ce)) (hcf : ¬ ((255 : Int32) < cf)) :
    MetFree l (⟨"java/lang/StringUTF16", "compress", "([CII)[B"⟩ : MethodName) (head1 (Jvm.Cond.code (⟨"java/lang/StringUTF16", "compress", "([CII)[B"⟩ : MethodName) jdk_52_method_16_code 6 (some (.array .byte)) :: ws) ({ frames := 1, cells := 1, slots := 6, locals := 18 } : Room)) (fun a U => a = #[(.ref a0), (.int (0 : Int32)), (.int (6 : Int32))] ∧ Z.Warmed39 U.vm ∧ U.heap = h0) (fun _ _ _ _ _ => True) (fun _ U o U' => ∃ v L, o = .returned v ∧ QW6 Z a0 kc ca cb cc cd ce cf h0 n0 v U'.heap L ∧ FrameEnd U o U' L ({ frames := 1, cells := 1, slots := 6, locals := 18 } : Room).cells ({ frames := 1, cells := 1, slots := 6, locals := 18 } : Room).slots) := by
  refine MetFree.of_bodySF (plainFor_of_name pn_0) hisR ?_
  intro p e s m args below meth c s₁ Bd hml0 hP hK
  obtain ⟨rfl, hZ, hh⟩ := hP
  have hx := Bd.exec
  have hby := Bd.bytes
  have hml : c.maxLocals = 6 := hml0
  have hown : s.vm.findClass "java/lang/StringUTF16" = some m.cls := findClass_of_methodNamed Bd.named
  have hnm := (name_of_methodNamed Bd.named Bd.method).1
  have hlk : meth.locks = false := BodyLoose.notSynchronized Bd
  have X0 : Stand p l e ({ frames := 1, cells := 1, slots := 6, locals := 18 } : Room) s m #[(.ref a0), (.int (0 : Int32)), (.int (6 : Int32))] below meth c s₁ [] 0 0 := Stand.of_body Bd
  have eh0 : s₁.heap = h0 := by rw [← hh, Bd.state]; rfl
  have N0 := Fr.nil n0
  show Rest p.tables e below s (QW6 Z a0 kc ca cb cc cd ce cf h0 n0) _ _ (s₁.setTop (entryFrame m #[(.ref a0), (.int (0 : Int32)), (.int (6 : Int32))] 6))
  refine Rest.via (fun t k => castTop (ef_W6 m a0) k) ?_
  show Rest p.tables e below s _ _ _ (s₁.setTop (mkF m 0 #[.val (.ref a0), .val (.int (0 : Int32)), .val (.int (6 : Int32)), .unset, .unset, .unset] []))
  refine Rest.via (fun t k => XS.iloadN X0.here hx rfl (hb hby d4_0) rfl k) ?_
  show Rest p.tables e below s _ _ _ (s₁.setTop (mkF m 1 #[.val (.ref a0), .val (.int (0 : Int32)), .val (.int (6 : Int32)), .unset, .unset, .unset] [(.int (6 : Int32))]))
  obtain ⟨T1, h1, k1, X1, e1, E1, A1, st1⟩ := newP X0 hx hZ (hw _ (List.mem_of_getElem? (i := 23) rfl)) eh0 (g := (mkF m 1 #[.val (.ref a0), .val (.int (0 : Int32)), .val (.int (6 : Int32)), .unset, .unset, .unset] [(.int (6 : Int32))])) rfl (hb hby d4_1) rfl (by decide) (cap := 6) (by decide) (by decide) (by decide) (by decide)
  obtain ⟨b1, gq1⟩ : ∃ z, z = h0.size := ⟨_, rfl⟩
  rw [← gq1] at A1 st1
  have sz_b1 : h0.size ≤ b1 := Nat.le_trans (Keep.refl h0 []).1 (Nat.le_of_eq gq1.symm)
  have g_b1 : n0 ≤ b1 := Nat.le_trans Z0 sz_b1
  have ne_a0_b1 : a0 ≠ b1 := Nat.ne_of_lt (Nat.lt_of_lt_of_le V0.lt (Nat.le_of_eq gq1.symm))
  have K1 : Keep h0 h1 [] := (Keep.refl h0 []).ext E1
  have V_b1 := Arv.new A1 (by decide)
  have V_b1 : Arv Z h1 b1 k1 .byte (6 : Int32) [(.int (0 : Int32)), (.int (0 : Int32)), (.int (0 : Int32)), (.int (0 : Int32)), (.int (0 : Int32)), (.int (0 : Int32))] (.int (0 : Int32)) := V_b1.pad (pad_rep [] (.int (0 : Int32)) 6)
  refine Rest.via (fun t k => st1 t k) ?_
  show Rest p.tables e below s _ _ _ (T1.setTop (mkF m 3 #[.val (.ref a0), .val (.int (0 : Int32)), .val (.int (6 : Int32)), .unset, .unset, .unset] [(.ref b1)]))
  refine Rest.via (fun t k => XS.astoreN X1.here hx rfl (hb hby d4_3) rfl rfl (l' := #[.val (.ref a0), .val (.int (0 : Int32)), .val (.int (6 : Int32)), .val (.ref b1), .unset, .unset]) rfl k) ?_
  show Rest p.tables e below s _ _ _ (T1.setTop (mkF m 4 #[.val (.ref a0), .val (.int (0 : Int32)), .val (.int (6 : Int32)), .val (.ref b1), .unset, .unset] []))
  refine Rest.via (fun t k => XS.aloadN X1.here hx rfl (hb hby d4_4) rfl rfl k) ?_
  show Rest p.tables e below s _ _ _ (T1.setTop (mkF m 5 #[.val (.ref a0), .val (.int (0 : Int32)), .val (.int (6 : Int32)), .val (.ref b1), .unset, .unset] [(.ref a0)]))
  refine Rest.via (fun t k => XS.iloadN X1.here hx rfl (hb hby d4_5) rfl k) ?_
  show Rest p.tables e below s _ _ _ (T1.setTop (mkF m 6 #[.val (.ref a0), .val (.int (0 : Int32)), .val (.int (6 : Int32)), .val (.ref b1), .unset, .unset] [(.int (0 : Int32)), (.ref a0)]))
  refine Rest.via (fun t k => XS.aloadN X1.here hx rfl (hb hby d4_6) rfl rfl k) ?_
  show Rest p.tables e below s _ _ _ (T1.setTop (mkF m 7 #[.val (.ref a0), .val (.int (0 : Int32)), .val (.int (6 : Int32)), .val (.ref b1), .unset, .unset] [(.ref b1), (.int (0 : Int32)), (.ref a0)]))
  refine Rest.via (fun t k => XS.iconst X1.here hx rfl (hb hby d4_7) k) ?_
  show Rest p.tables e below s _ _ _ (T1.setTop (mkF m 8 #[.val (.ref a0), .val (.int (0 : Int32)), .val (.int (6 : Int32)), .val (.ref b1), .unset, .unset] [(.int (0 : Int32)), (.ref b1), (.int (0 : Int32)), (.ref a0)]))
  refine Rest.via (fun t k => XS.iloadN X1.here hx rfl (hb hby d4_8) rfl k) ?_
  show Rest p.tables e below s _ _ _ (T1.setTop (mkF m 9 #[.val (.ref a0), .val (.int (0 : Int32)), .val (.int (6 : Int32)), .val (.ref b1), .unset, .unset] [(.int (6 : Int32)), (.int (0 : Int32)), (.ref b1), (.int (0 : Int32)), (.ref a0)]))
  obtain ⟨_, _, ⟨T2, L2, k2, n2⟩, -, X2, ⟨Lc2, hQ2, l2, y2, z2⟩, st2⟩ := Jvm.LawKit.callS X1 hx (y := (⟨"java/lang/StringUTF16", "compress", "([CI[BII)I"⟩ : MethodName)) hown (mvT hZ (hw _ (List.mem_of_getElem? (i := 24) rfl))) (mvT hZ (hw _ (List.mem_of_getElem? (i := 25) rfl))) (mvT hZ (hw _ (List.mem_of_getElem? (i := 21) rfl))) (mvT hZ (hw _ (List.mem_of_getElem? (i := 26) rfl))) (by decide) (backOf (W := 0) (rmU6 l Z aw hw [] a0 b1 kc k1 ca cb cc cd ce cf h1 n0 (Nat.le_trans Z0 K1.1) (V0.ext E1) V_b1 ne_a0_b1 g_b1 hca hcb hcc hcd hce hcf) hZ (hw _ (List.mem_of_getElem? (i := 26) rfl)) (hw _ (List.mem_of_getElem? (i := 21) rfl)) (by decide) (by decide)) (g := (mkF m 9 #[.val (.ref a0), .val (.int (0 : Int32)), .val (.int (6 : Int32)), .val (.ref b1), .unset, .unset] [(.int (6 : Int32)), (.int (0 : Int32)), (.ref b1), (.int (0 : Int32)), (.ref a0)])) rfl (by rw [hml]; rfl) (argsL := [(.ref a0), (.int (0 : Int32)), (.ref b1), (.int (0 : Int32)), (.int (6 : Int32))]) (rest := []) (lenOf pd_0 rfl) rfl (by show 2 * 0 + _ ≤ _; exact Nat.le_of_eq rfl) (hb hby d4_9) (fun _ _ => ⟨rfl, e1, (by decide : 1 + 0 ≤ _), (by decide : 6 + 0 ≤ _)⟩)
  dsimp only [Pt.U, Pt.locs, Pt.cells, Pt.slots] at X2 l2 y2 z2 st2 hQ2
  subst l2 y2 z2
  obtain ⟨h2, e2⟩ : ∃ z, T2.heap = z := ⟨_, rfl⟩
  rw [e2] at hQ2
  obtain ⟨rfl, Nq2, Kq2, Vq2⟩ := hQ2
  have N2 := Fr.app N0 Nq2
  have K2 : Keep h0 h2 [] := K1.trans Kq2 (allS (Or.inr sz_b1) all0)
  refine Rest.via (fun t k => st2 t k) ?_
  show Rest p.tables e below s _ _ _ (T2.setTop (mkF m 12 #[.val (.ref a0), .val (.int (0 : Int32)), .val (.int (6 : Int32)), .val (.ref b1), .unset, .unset] [(.int (6 : Int32))]))
  refine Rest.via (fun t k => XS.istore X2.here hx rfl (hb hby d4_12) rfl (l' := #[.val (.ref a0), .val (.int (0 : Int32)), .val (.int (6 : Int32)), .val (.ref b1), .val (.int (6 : Int32)), .unset]) rfl k) ?_
  show Rest p.tables e below s _ _ _ (T2.setTop (mkF m 14 #[.val (.ref a0), .val (.int (0 : Int32)), .val (.int (6 : Int32)), .val (.ref b1), .val (.int (6 : Int32)), .unset] []))
  refine Rest.via (fun t k => XS.iload X2.here hx rfl (hb hby d4_14) rfl k) ?_
  show Rest p.tables e below s _ _ _ (T2.setTop (mkF m 16 #[.val (.ref a0), .val (.int (0 : Int32)), .val (.int (6 : Int32)), .val (.ref b1), .val (.int (6 : Int32)), .unset] [(.int (6 : Int32))]))
  refine Rest.via (fun t k => XS.iloadN X2.here hx rfl (hb hby d4_16) rfl k) ?_
  show Rest p.tables e below s _ _ _ (T2.setTop (mkF m 17 #[.val (.ref a0), .val (.int (0 : Int32)), .val (.int (6 : Int32)), .val (.ref b1), .val (.int (6 : Int32)), .unset] [(.int (6 : Int32)), (.int (6 : Int32))]))
  refine Rest.via (fun t k => XS.icmpYes X2.here hx rfl (pc0 := 17) (pc' := 57) rfl (hb hby d4_17) rfl (teq (by decide : (6 : Int32) = (6 : Int32))).1 (by decide) (by decide) k) ?_
  show Rest p.tables e below s _ _ _ (T2.setTop (mkF m 57 #[.val (.ref a0), .val (.int (0 : Int32)), .val (.int (6 : Int32)), .val (.ref b1), .val (.int (6 : Int32)), .unset] []))
  refine Rest.via (fun t k => XS.aloadN X2.here hx rfl (hb hby d4_57) rfl rfl k) ?_
  show Rest p.tables e below s _ _ _ (T2.setTop (mkF m 58 #[.val (.ref a0), .val (.int (0 : Int32)), .val (.int (6 : Int32)), .val (.ref b1), .val (.int (6 : Int32)), .unset] [(.ref b1)]))
  refine Rest.ret X2 (v := some (.ref b1)) (fun h => by rw [Bd.returns] at h; cases h) hlk (fun fs hr => retOut X2 hx Bd.returns rfl (Or.inr (Or.inr (Or.inr (Or.inr ⟨rfl, rfl, rfl⟩)))) (hb hby d4_58) hr) ?_ (by decide) (by decide)
  rw [e2]
  exact ⟨b1, k1, rfl, N2, K2, sz_b1, Vq2⟩
theorem ef_C6 (m : MethodId) (a0 : Addr) : entryFrame m #[(.ref a0), (.int (6 : Int32))] 2 = mkF m 0 #[.val (.ref a0), .val (.int (6 : Int32))] [] := by first | (simp [entryFrame, mkF, argsToLocals, Value.category, maxLocals]; done) | rfl
def QC6 (Z : State) (a0 : Addr) (k : ClassId) (vs : List Value) (h0 : Heap) (n0 : Nat) (v : Option Value) (h : Heap) (L : List Loc) : Prop := v = some (.int (0 : Int32)) ∧ Fr n0 L ∧ h = h0
set_option maxRecDepth 65536 in
set_option maxHeartbeats 40000000 in
theorem rmC6 (l : Launch) (Z : State) (aw : Array Value) (hw : ∀ d ∈ tables_1, d.before aw Z = true) (ws : List Jvm.Cond) (a0 : Addr) (k : ClassId) (vs : List Value) (h0 : Heap) (n0 : Nat) (Z0 : n0 ≤ h0.size) (V0 : Arv Z h0 a0 k .byte (6 : Int32) vs (.int (0 : Int32))) :
    MetFree l (⟨"java/lang/StringUTF16", "coderFromArrayLen", "([BI)B"⟩ : MethodName) (head1 (Jvm.Cond.code (⟨"java/lang/StringUTF16", "coderFromArrayLen", "([BI)B"⟩ : MethodName) jdk_52_method_15_code 2 (some .byte) :: ws) ({ frames := 0, cells := 0, slots := 0, locals := 0 } : Room)) (fun a U => a = #[(.ref a0), (.int (6 : Int32))] ∧ Z.Warmed39 U.vm ∧ U.heap = h0) (fun _ _ _ _ _ => True) (fun _ U o U' => ∃ v L, o = .returned v ∧ QC6 Z a0 k vs h0 n0 v U'.heap L ∧ FrameEnd U o U' L ({ frames := 0, cells := 0, slots := 0, locals := 0 } : Room).cells ({ frames := 0, cells := 0, slots := 0, locals := 0 } : Room).slots) := by
  refine MetFree.of_bodySF (plainFor_of_name pn_0) hisR ?_
  intro p e s m args below meth c s₁ Bd hml0 hP hK
  obtain ⟨rfl, hZ, hh⟩ := hP
  have hx := Bd.exec
  have hby := Bd.bytes
  have hml : c.maxLocals = 2 := hml0
  have hown : s.vm.findClass "java/lang/StringUTF16" = some m.cls := findClass_of_methodNamed Bd.named
  have hnm := (name_of_methodNamed Bd.named Bd.method).1
  have hlk : meth.locks = false := BodyLoose.notSynchronized Bd
  have X0 : Stand p l e ({ frames := 0, cells := 0, slots := 0, locals := 0 } : Room) s m #[(.ref a0), (.int (6 : Int32))] below meth c s₁ [] 0 0 := Stand.of_body Bd
  have eh0 : s₁.heap = h0 := by rw [← hh, Bd.state]; rfl
  have N0 := Fr.nil n0
  show Rest p.tables e below s (QC6 Z a0 k vs h0 n0) _ _ (s₁.setTop (entryFrame m #[(.ref a0), (.int (6 : Int32))] 2))
  refine Rest.via (fun t k => castTop (ef_C6 m a0) k) ?_
  show Rest p.tables e below s _ _ _ (s₁.setTop (mkF m 0 #[.val (.ref a0), .val (.int (6 : Int32))] []))
  refine Rest.via (fun t k => XS.iloadN X0.here hx rfl (hb hby d6_0) rfl k) ?_
  show Rest p.tables e below s _ _ _ (s₁.setTop (mkF m 1 #[.val (.ref a0), .val (.int (6 : Int32))] [(.int (6 : Int32))]))
  refine Rest.via (fun t k => XS.aloadN X0.here hx rfl (hb hby d6_1) rfl rfl k) ?_
  show Rest p.tables e below s _ _ _ (s₁.setTop (mkF m 2 #[.val (.ref a0), .val (.int (6 : Int32))] [(.ref a0), (.int (6 : Int32))]))
  obtain ⟨cl1, Ar1, -, S1, P1, -, -⟩ := id V0
  refine Rest.via (fun t k => X0.arraylength hx (by rw [eh0]; exact Ar1.1) (State.isArrayOf_alike hZ.alike Ar1.2.1) (g := (mkF m 2 #[.val (.ref a0), .val (.int (6 : Int32))] [(.ref a0), (.int (6 : Int32))])) rfl rfl (hb hby d6_2) t k) ?_
  rw [len_of S1 P1]
  show Rest p.tables e below s _ _ _ (s₁.setTop (mkF m 3 #[.val (.ref a0), .val (.int (6 : Int32))] [(.int (6 : Int32)), (.int (6 : Int32))]))
  refine Rest.via (fun t k => XS.isub X0.here hx rfl (hb hby d6_3) rfl k) ?_
  show Rest p.tables e below s _ _ _ (s₁.setTop (mkF m 4 #[.val (.ref a0), .val (.int (6 : Int32))] [(.int ((6 : Int32) - (6 : Int32)))]))
  rw [(by decide : ((6 : Int32) - (6 : Int32)) = (0 : Int32))]
  show Rest p.tables e below s _ _ _ (s₁.setTop (mkF m 4 #[.val (.ref a0), .val (.int (6 : Int32))] [(.int (0 : Int32))]))
  refine Rest.via (fun t k => XS.bipush X0.here hx rfl (hb hby d6_4) k) ?_
  show Rest p.tables e below s _ _ _ (s₁.setTop (mkF m 6 #[.val (.ref a0), .val (.int (6 : Int32))] [(.int (31 : Int32)), (.int (0 : Int32))]))
  refine Rest.via (fun t k => XS.iushr X0.here hx rfl (hb hby d6_6) rfl k) ?_
  show Rest p.tables e below s _ _ _ (s₁.setTop (mkF m 7 #[.val (.ref a0), .val (.int (6 : Int32))] [(.int (((0 : Int32).toUInt32 >>> ((31 : Int32) &&& 31).toUInt32).toInt32))]))
  rw [(by decide : (((0 : Int32).toUInt32 >>> ((31 : Int32) &&& 31).toUInt32).toInt32) = (0 : Int32))]
  show Rest p.tables e below s _ _ _ (s₁.setTop (mkF m 7 #[.val (.ref a0), .val (.int (6 : Int32))] [(.int (0 : Int32))]))
  refine Rest.via (fun t k => XS.i2b X0.here hx rfl (hb hby d6_7) rfl k) ?_
  show Rest p.tables e below s _ _ _ (s₁.setTop (mkF m 8 #[.val (.ref a0), .val (.int (6 : Int32))] [(.int ((0 : Int32).toInt8.toInt32))]))
  rw [(by decide : ((0 : Int32).toInt8.toInt32) = (0 : Int32))]
  show Rest p.tables e below s _ _ _ (s₁.setTop (mkF m 8 #[.val (.ref a0), .val (.int (6 : Int32))] [(.int (0 : Int32))]))
  refine Rest.ret X0 (v := some (.int (nar .byte (0 : Int32)))) (fun h => by rw [Bd.returns] at h; cases h) hlk (fun fs hr => retN X0 hx (t := .byte) Bd.returns (by simp) (hb hby d6_8) hr) ?_ (by decide) (by decide)
  rw [eh0]
  exact ⟨rfl, N0, rfl⟩
theorem ef_SJ6 (m : MethodId) (a0 : Addr) (a1 : Addr) : entryFrame m #[(.ref a0), (.ref a1), (.int (0 : Int32)), (.int (6 : Int32)), .null] 6 = mkF m 0 #[.val (.ref a0), .val (.ref a1), .val (.int (0 : Int32)), .val (.int (6 : Int32)), .val .null, .unset] [] := by first | (simp [entryFrame, mkF, argsToLocals, Value.category, maxLocals]; done) | rfl
def QSJ6 (Z : State) (a0 : Addr) (a1 : Addr) (kc : ClassId) (ic : Int32) (ca : Int32) (cb : Int32) (cc : Int32) (cd : Int32) (ce : Int32) (cf : Int32) (h0 : Heap) (n0 : Nat) (v : Option Value) (h : Heap) (L : List Loc) : Prop := v = none ∧ Fr n0 L ∧ Keep h0 h [a0] ∧ ∃ va kb, h0.size ≤ va ∧ Fld Z h a0 "java/lang/String" "value" "[B" (.ref va) ∧ Fld Z h a0 "java/lang/String" "coder" "B" (.int (0 : Int32)) ∧ Arv Z h va kb .byte (6 : Int32) [(.int (own_by ca)), (.int (own_by cb)), (.int (own_by cc)), (.int (own_by cd)), (.int (own_by ce)), (.int (own_by cf))] (.int (0 : Int32)) ∧ a0 ≠ va
set_option maxRecDepth 65536 in
set_option maxHeartbeats 40000000 in
theorem rmSJ6 (l : Launch) (Z : State) (aw : Array Value) (hw : ∀ d ∈ tables_1, d.before aw Z = true) (ws : List Jvm.Cond) (a0 : Addr) (a1 : Addr) (kc : ClassId) (ic : Int32) (ca : Int32) (cb : Int32) (cc : Int32) (cd : Int32) (ce : Int32) (cf : Int32) (h0 : Heap) (n0 : Nat) (Z0 : n0 ≤ h0.size) (E_a0 : Exa Z h0 a0 "java/lang/String") (F_v : Fld Z h0 a0 "java/lang/String" "value" "[B" .null) (F_c : Fld Z h0 a0 "java/lang/String" "coder" "B" (.int (0 : Int32))) (g_a0 : n0 ≤ a0) (V1 : Arv Z h0 a1 kc .char (6 : Int32) [(.int ca), (.int cb), (.int cc), (.int cd), (.int ce), (.int cf)] (.int (0 : Int32))) (hca : ¬ ((255 : Int32) < ca)) (hcb : ¬ ((255 : Int32) < cb)) (hcc : ¬ ((255 : Int32) < cc)) (hcd : ¬ ((255 : Int32) < cd)) (hce : ¬ ((255 : Int32) < ce)) (hcf : ¬ ((255 : Int32) < cf)) (O : Old Z n0 h0) (CS : own_CS Z ic) :
    MetFree l (⟨"java/lang/String", "<init>", "([CIILjava/lang/Void;)V"⟩ : MethodName) (head1 (Jvm.Cond.code (⟨"java/lang/String", "<init>", "([CIILjava/lang/Void;)V"⟩ : MethodName) jdk_42_method_149_code 6 none :: ws) ({ frames := 2, cells := 1, slots := 6, locals := 35 } : Room)) (fun a U => a = #[(.ref a0), (.ref a1), (.int (0 : Int32)), (.int (6 : Int32)), .null] ∧ Z.Warmed39 U.vm ∧ U.heap = h0) (fun _ _ _ _ _ => True) (fun _ U o U' => ∃ v L, o = .returned v ∧ QSJ6 Z a0 a1 kc ic ca cb cc cd ce cf h0 n0 v U'.heap L ∧ FrameEnd U o U' L ({ frames := 2, cells := 1, slots := 6, locals := 35 } : Room).cells ({ frames := 2, cells := 1, slots := 6, locals := 35 } : Room).slots) := by
  refine MetFree.of_bodySF (plainFor_of_name pn_1) hisR ?_
  intro p e s m args below meth c s₁ Bd hml0 hP hK
  obtain ⟨rfl, hZ, hh⟩ := hP
  have hx := Bd.exec
  have hby := Bd.bytes
  have hml : c.maxLocals = 6 := hml0
  have hown : s.vm.findClass "java/lang/String" = some m.cls := findClass_of_methodNamed Bd.named
  have hnm := (name_of_methodNamed Bd.named Bd.method).1
  have hlk : meth.locks = false := BodyLoose.notSynchronized Bd
  have X0 : Stand p l e ({ frames := 2, cells := 1, slots := 6, locals := 35 } : Room) s m #[(.ref a0), (.ref a1), (.int (0 : Int32)), (.int (6 : Int32)), .null] below meth c s₁ [] 0 0 := Stand.of_body Bd
  have eh0 : s₁.heap = h0 := by rw [← hh, Bd.state]; rfl
  have N0 := Fr.nil n0
  show Rest p.tables e below s (QSJ6 Z a0 a1 kc ic ca cb cc cd ce cf h0 n0) _ _ (s₁.setTop (entryFrame m #[(.ref a0), (.ref a1), (.int (0 : Int32)), (.int (6 : Int32)), .null] 6))
  refine Rest.via (fun t k => castTop (ef_SJ6 m a0 a1) k) ?_
  show Rest p.tables e below s _ _ _ (s₁.setTop (mkF m 0 #[.val (.ref a0), .val (.ref a1), .val (.int (0 : Int32)), .val (.int (6 : Int32)), .val .null, .unset] []))
  refine Rest.via (fun t k => XS.aloadN X0.here hx rfl (hb hby d2_0) rfl rfl k) ?_
  show Rest p.tables e below s _ _ _ (s₁.setTop (mkF m 1 #[.val (.ref a0), .val (.ref a1), .val (.int (0 : Int32)), .val (.int (6 : Int32)), .val .null, .unset] [(.ref a0)]))
  obtain ⟨T1, X1, e1, st1⟩ := initO X0 hx hZ hown (hw _ (List.mem_of_getElem? (i := 15) rfl)) (hw _ (List.mem_of_getElem? (i := 16) rfl)) (hw _ (List.mem_of_getElem? (i := 17) rfl)) eh0 (g := (mkF m 1 #[.val (.ref a0), .val (.ref a1), .val (.int (0 : Int32)), .val (.int (6 : Int32)), .val .null, .unset] [(.ref a0)])) rfl (by rw [hml]; rfl) rfl (hb hby d2_1) (by decide) (W := 0) (by show 2 * 0 + _ ≤ _; exact Nat.le_of_eq rfl) (by decide)
  refine Rest.via (fun t k => st1 t k) ?_
  show Rest p.tables e below s _ _ _ (T1.setTop (mkF m 4 #[.val (.ref a0), .val (.ref a1), .val (.int (0 : Int32)), .val (.int (6 : Int32)), .val .null, .unset] []))
  refine Rest.via (fun t k => XS.iloadN X1.here hx rfl (hb hby d2_4) rfl k) ?_
  show Rest p.tables e below s _ _ _ (T1.setTop (mkF m 5 #[.val (.ref a0), .val (.ref a1), .val (.int (0 : Int32)), .val (.int (6 : Int32)), .val .null, .unset] [(.int (6 : Int32))]))
  refine Rest.via (fun t k => XS.ifYes X1.here hx rfl (pc0 := 5) (pc' := 27) rfl (hb hby d2_5) rfl ((if0 _ _).trans (feq (by decide : ¬ ((6 : Int32) = (0 : Int32)))).2) (by decide) (by decide) k) ?_
  show Rest p.tables e below s _ _ _ (T1.setTop (mkF m 27 #[.val (.ref a0), .val (.ref a1), .val (.int (0 : Int32)), .val (.int (6 : Int32)), .val .null, .unset] []))
  obtain ⟨T2, X2, e2, st2⟩ := getS2 X1 hx hZ hown (host := "") (Or.inl (hw _ (List.mem_of_getElem? (i := 18) rfl))) Via.refl e1 (CS.1.ext (O.keep (Keep.refl h0 [a0]) (allS g_a0 all0)).2) (g := (mkF m 27 #[.val (.ref a0), .val (.ref a1), .val (.int (0 : Int32)), .val (.int (6 : Int32)), .val .null, .unset] [])) rfl (hb hby d2_27)
  refine Rest.via (fun t k => st2 t k) ?_
  show Rest p.tables e below s _ _ _ (T2.setTop (mkF m 30 #[.val (.ref a0), .val (.ref a1), .val (.int (0 : Int32)), .val (.int (6 : Int32)), .val .null, .unset] [(.int ic)]))
  refine Rest.via (fun t k => XS.ifNo X2.here hx rfl (hb hby d2_30) rfl ((if0 _ _).trans (feq (CS.2 : ¬ (ic = (0 : Int32)))).1) k) ?_
  show Rest p.tables e below s _ _ _ (T2.setTop (mkF m 33 #[.val (.ref a0), .val (.ref a1), .val (.int (0 : Int32)), .val (.int (6 : Int32)), .val .null, .unset] []))
  refine Rest.via (fun t k => XS.aloadN X2.here hx rfl (hb hby d2_33) rfl rfl k) ?_
  show Rest p.tables e below s _ _ _ (T2.setTop (mkF m 34 #[.val (.ref a0), .val (.ref a1), .val (.int (0 : Int32)), .val (.int (6 : Int32)), .val .null, .unset] [(.ref a1)]))
  refine Rest.via (fun t k => XS.iloadN X2.here hx rfl (hb hby d2_34) rfl k) ?_
  show Rest p.tables e below s _ _ _ (T2.setTop (mkF m 35 #[.val (.ref a0), .val (.ref a1), .val (.int (0 : Int32)), .val (.int (6 : Int32)), .val .null, .unset] [(.int (0 : Int32)), (.ref a1)]))
  refine Rest.via (fun t k => XS.iloadN X2.here hx rfl (hb hby d2_35) rfl k) ?_
  show Rest p.tables e below s _ _ _ (T2.setTop (mkF m 36 #[.val (.ref a0), .val (.ref a1), .val (.int (0 : Int32)), .val (.int (6 : Int32)), .val .null, .unset] [(.int (6 : Int32)), (.int (0 : Int32)), (.ref a1)]))
  obtain ⟨_, _, ⟨T3, L3, k3, n3⟩, -, X3, ⟨Lc3, hQ3, l3, y3, z3⟩, st3⟩ := Jvm.LawKit.callS X2 hx (y := (⟨"java/lang/StringUTF16", "compress", "([CII)[B"⟩ : MethodName)) hown (mvT hZ (hw _ (List.mem_of_getElem? (i := 19) rfl))) (mvT hZ (hw _ (List.mem_of_getElem? (i := 20) rfl))) (mvT hZ (hw _ (List.mem_of_getElem? (i := 21) rfl))) (mvT hZ (hw _ (List.mem_of_getElem? (i := 22) rfl))) (by decide) (backOf (W := 0) (rmW6 l Z aw hw [] a1 kc ca cb cc cd ce cf h0 n0 (Nat.le_trans Z0 (Keep.refl h0 [a0]).1) V1 hca hcb hcc hcd hce hcf) hZ (hw _ (List.mem_of_getElem? (i := 22) rfl)) (hw _ (List.mem_of_getElem? (i := 21) rfl)) (by decide) (by decide)) (g := (mkF m 36 #[.val (.ref a0), .val (.ref a1), .val (.int (0 : Int32)), .val (.int (6 : Int32)), .val .null, .unset] [(.int (6 : Int32)), (.int (0 : Int32)), (.ref a1)])) rfl (by rw [hml]; rfl) (argsL := [(.ref a1), (.int (0 : Int32)), (.int (6 : Int32))]) (rest := []) (lenOf pd_1 rfl) rfl (by show 2 * 0 + _ ≤ _; exact Nat.le_of_eq rfl) (hb hby d2_36) (fun _ _ => ⟨rfl, e2, (by decide : 0 + 1 ≤ _), (by decide : 0 + 6 ≤ _)⟩)
  dsimp only [Pt.U, Pt.locs, Pt.cells, Pt.slots] at X3 l3 y3 z3 st3 hQ3
  subst l3 y3 z3
  obtain ⟨h3, e3⟩ : ∃ z, T3.heap = z := ⟨_, rfl⟩
  rw [e3] at hQ3
  obtain ⟨va3, kb3, rfl, Nq3, Kq3, sd3, Vq3⟩ := hQ3
  have N3 := Fr.app N0 Nq3
  have sz_va3 : h0.size ≤ va3 := Nat.le_trans (Keep.refl h0 [a0]).1 sd3
  have ne_a0_va3 : a0 ≠ va3 := Nat.ne_of_lt (Nat.lt_of_lt_of_le E_a0.lt sd3)
  have K3 : Keep h0 h3 [a0] := (Keep.refl h0 [a0]).trans Kq3 all0
  refine Rest.via (fun t k => st3 t k) ?_
  show Rest p.tables e below s _ _ _ (T3.setTop (mkF m 39 #[.val (.ref a0), .val (.ref a1), .val (.int (0 : Int32)), .val (.int (6 : Int32)), .val .null, .unset] [(.ref va3)]))
  refine Rest.via (fun t k => XS.astore X3.here hx rfl (hb hby d2_39) rfl rfl (l' := #[.val (.ref a0), .val (.ref a1), .val (.int (0 : Int32)), .val (.int (6 : Int32)), .val .null, .val (.ref va3)]) rfl k) ?_
  show Rest p.tables e below s _ _ _ (T3.setTop (mkF m 41 #[.val (.ref a0), .val (.ref a1), .val (.int (0 : Int32)), .val (.int (6 : Int32)), .val .null, .val (.ref va3)] []))
  refine Rest.via (fun t k => XS.aloadN X3.here hx rfl (hb hby d2_41) rfl rfl k) ?_
  show Rest p.tables e below s _ _ _ (T3.setTop (mkF m 42 #[.val (.ref a0), .val (.ref a1), .val (.int (0 : Int32)), .val (.int (6 : Int32)), .val .null, .val (.ref va3)] [(.ref a0)]))
  refine Rest.via (fun t k => XS.aload X3.here hx rfl (hb hby d2_42) rfl rfl k) ?_
  show Rest p.tables e below s _ _ _ (T3.setTop (mkF m 44 #[.val (.ref a0), .val (.ref a1), .val (.int (0 : Int32)), .val (.int (6 : Int32)), .val .null, .val (.ref va3)] [(.ref va3), (.ref a0)]))
  refine Rest.via (fun t k => XS.iloadN X3.here hx rfl (hb hby d2_44) rfl k) ?_
  show Rest p.tables e below s _ _ _ (T3.setTop (mkF m 45 #[.val (.ref a0), .val (.ref a1), .val (.int (0 : Int32)), .val (.int (6 : Int32)), .val .null, .val (.ref va3)] [(.int (6 : Int32)), (.ref va3), (.ref a0)]))
  obtain ⟨_, _, ⟨T4, L4, k4, n4⟩, -, X4, ⟨Lc4, hQ4, l4, y4, z4⟩, st4⟩ := Jvm.LawKit.callS X3 hx (y := (⟨"java/lang/StringUTF16", "coderFromArrayLen", "([BI)B"⟩ : MethodName)) hown (mvT hZ (hw _ (List.mem_of_getElem? (i := 27) rfl))) (mvT hZ (hw _ (List.mem_of_getElem? (i := 28) rfl))) (mvT hZ (hw _ (List.mem_of_getElem? (i := 21) rfl))) (mvT hZ (hw _ (List.mem_of_getElem? (i := 29) rfl))) (by decide) (backOf (W := 1) (rmC6 l Z aw hw [] va3 kb3 _ h3 n0 (Nat.le_trans Z0 K3.1) Vq3) hZ (hw _ (List.mem_of_getElem? (i := 29) rfl)) (hw _ (List.mem_of_getElem? (i := 21) rfl)) (by decide) (by decide)) (g := (mkF m 45 #[.val (.ref a0), .val (.ref a1), .val (.int (0 : Int32)), .val (.int (6 : Int32)), .val .null, .val (.ref va3)] [(.int (6 : Int32)), (.ref va3), (.ref a0)])) rfl (by rw [hml]; rfl) (argsL := [(.ref va3), (.int (6 : Int32))]) (rest := [(.ref a0)]) (lenOf pd_2 rfl) rfl (by show 2 * 0 + _ ≤ _; exact Nat.le_of_eq rfl) (hb hby d2_45) (fun _ _ => ⟨rfl, e3, (by decide : 1 + 0 ≤ _), (by decide : 6 + 0 ≤ _)⟩)
  dsimp only [Pt.U, Pt.locs, Pt.cells, Pt.slots] at X4 l4 y4 z4 st4 hQ4
  subst l4 y4 z4
  obtain ⟨rfl, Nq4, e4⟩ := hQ4
  have N4 := Fr.app N3 Nq4
  refine Rest.via (fun t k => st4 t k) ?_
  show Rest p.tables e below s _ _ _ (T4.setTop (mkF m 48 #[.val (.ref a0), .val (.ref a1), .val (.int (0 : Int32)), .val (.int (6 : Int32)), .val .null, .val (.ref va3)] [(.int (0 : Int32)), (.ref a0)]))
  have Fo5 := (F_c.keep Kq3 nin0)
  obtain ⟨T5, h5, X5, e5, W5, st5⟩ := putFN X4 hx hZ hown (hw _ (List.mem_of_getElem? (i := 30) rfl)) Via.refl e4 Fo5 (E_a0.keep Kq3) (Or.inr ⟨(hw _ (List.mem_of_getElem? (i := 31) rfl)), rfl, hnm⟩) (hw _ (List.mem_of_getElem? (i := 6) rfl)) (ty := .byte) (v' := (.int (0 : Int32))) (by decide) rfl (by decide) (g := (mkF m 48 #[.val (.ref a0), .val (.ref a1), .val (.int (0 : Int32)), .val (.int (6 : Int32)), .val .null, .val (.ref va3)] [(.int (0 : Int32)), (.ref a0)])) rfl rfl (hb hby d2_48)
  refine Rest.via (fun t k => st5 t k) ?_
  have N5 := Fr.snoc X5 N4 g_a0
  have K5 : Keep h0 h5 [a0] := K3.wr W5 (Or.inl (List.mem_of_getElem? (i := 0) rfl))
  have Fw5 := Fo5.same W5
  show Rest p.tables e below s _ _ _ (T5.setTop (mkF m 51 #[.val (.ref a0), .val (.ref a1), .val (.int (0 : Int32)), .val (.int (6 : Int32)), .val .null, .val (.ref va3)] []))
  refine Rest.via (fun t k => XS.aloadN X5.here hx rfl (hb hby d2_51) rfl rfl k) ?_
  show Rest p.tables e below s _ _ _ (T5.setTop (mkF m 52 #[.val (.ref a0), .val (.ref a1), .val (.int (0 : Int32)), .val (.int (6 : Int32)), .val .null, .val (.ref va3)] [(.ref a0)]))
  refine Rest.via (fun t k => XS.aload X5.here hx rfl (hb hby d2_52) rfl rfl k) ?_
  show Rest p.tables e below s _ _ _ (T5.setTop (mkF m 54 #[.val (.ref a0), .val (.ref a1), .val (.int (0 : Int32)), .val (.int (6 : Int32)), .val .null, .val (.ref va3)] [(.ref va3), (.ref a0)]))
  have Fo6 := ((F_v.keep Kq3 nin0).other W5 (Or.inr (slot_ne (Or.inr (hw _ (List.mem_of_getElem? (i := 33) rfl))) (Or.inr (hw _ (List.mem_of_getElem? (i := 31) rfl))) (by decide) (t := (.array .byte)) (t' := .byte) (by decide) (by decide))))
  obtain ⟨T6, h6, X6, e6, W6, st6⟩ := putF X5 hx hZ hown (host := "") (Or.inl (hw _ (List.mem_of_getElem? (i := 32) rfl))) Via.refl e5 Fo6 ((E_a0.keep Kq3).wr W5) (Or.inr ⟨(hw _ (List.mem_of_getElem? (i := 33) rfl)), rfl, hnm⟩) (hw _ (List.mem_of_getElem? (i := 6) rfl)) (ty := (.array .byte)) (by decide) rfl rfl (g := (mkF m 54 #[.val (.ref a0), .val (.ref a1), .val (.int (0 : Int32)), .val (.int (6 : Int32)), .val .null, .val (.ref va3)] [(.ref va3), (.ref a0)])) rfl rfl (hb hby d2_54)
  refine Rest.via (fun t k => st6 t k) ?_
  have N6 := Fr.snoc X6 N5 g_a0
  have K6 : Keep h0 h6 [a0] := K5.wr W6 (Or.inl (List.mem_of_getElem? (i := 0) rfl))
  have Fw6 := Fo6.same W6
  show Rest p.tables e below s _ _ _ (T6.setTop (mkF m 57 #[.val (.ref a0), .val (.ref a1), .val (.int (0 : Int32)), .val (.int (6 : Int32)), .val .null, .val (.ref va3)] []))
  refine Rest.ret X6 (v := none) (fun _ => rfl) hlk (fun fs hr => X6.returnOut hx Bd.returns (hb hby d2_57) hr) ?_ (by decide) (by decide)
  rw [e6]
  exact ⟨rfl, N6, K6, va3, kb3, sz_va3, Fw6, (Fw5.other W6 (Or.inr (slot_ne (Or.inr (hw _ (List.mem_of_getElem? (i := 31) rfl))) (Or.inr (hw _ (List.mem_of_getElem? (i := 33) rfl))) (by decide) (t := .byte) (t' := (.array .byte)) (by decide) (by decide)))), ((Vq3.other W5 (Ne.symm ne_a0_va3)).other W6 (Ne.symm ne_a0_va3)), ne_a0_va3⟩
theorem ef_SI6 (m : MethodId) (a0 : Addr) (a1 : Addr) : entryFrame m #[(.ref a0), (.ref a1)] 2 = mkF m 0 #[.val (.ref a0), .val (.ref a1)] [] := by first | (simp [entryFrame, mkF, argsToLocals, Value.category, maxLocals]; done) | rfl
def QSI6 (Z : State) (a0 : Addr) (a1 : Addr) (kc : ClassId) (ic : Int32) (ca : Int32) (cb : Int32) (cc : Int32) (cd : Int32) (ce : Int32) (cf : Int32) (h0 : Heap) (n0 : Nat) (v : Option Value) (h : Heap) (L : List Loc) : Prop := v = none ∧ Fr n0 L ∧ Keep h0 h [a0] ∧ ∃ va kb, h0.size ≤ va ∧ Fld Z h a0 "java/lang/String" "value" "[B" (.ref va) ∧ Fld Z h a0 "java/lang/String" "coder" "B" (.int (0 : Int32)) ∧ Arv Z h va kb .byte (6 : Int32) [(.int (own_by ca)), (.int (own_by cb)), (.int (own_by cc)), (.int (own_by cd)), (.int (own_by ce)), (.int (own_by cf))] (.int (0 : Int32)) ∧ a0 ≠ va
set_option maxRecDepth 65536 in
set_option maxHeartbeats 40000000 in
theorem rmSI6 (l : Launch) (Z : State) (aw : Array Value) (hw : ∀ d ∈ tables_1, d.before aw Z = true) (ws : List Jvm.Cond) (a0 : Addr) (a1 : Addr) (kc : ClassId) (ic : Int32) (ca : Int32) (cb : Int32) (cc : Int32) (cd : Int32) (ce : Int32) (cf : Int32) (h0 : Heap) (n0 : Nat) (Z0 : n0 ≤ h0.size) (E_a0 : Exa Z h0 a0 "java/lang/String") (F_v : Fld Z h0 a0 "java/lang/String" "value" "[B" .null) (F_c : Fld Z h0 a0 "java/lang/String" "coder" "B" (.int (0 : Int32))) (g_a0 : n0 ≤ a0) (V1 : Arv Z h0 a1 kc .char (6 : Int32) [(.int ca), (.int cb), (.int cc), (.int cd), (.int ce), (.int cf)] (.int (0 : Int32))) (hca : ¬ ((255 : Int32) < ca)) (hcb : ¬ ((255 : Int32) < cb)) (hcc : ¬ ((255 : Int32) < cc)) (hcd : ¬ ((255 : Int32) < cd)) (hce : ¬ ((255 : Int32) < ce)) (hcf : ¬ ((255 : Int32) < cf)) (O : Old Z n0 h0) (CS : own_CS Z ic) :
    MetFree l (⟨"java/lang/String", "<init>", "([C)V"⟩ : MethodName) (head1 (Jvm.Cond.code (⟨"java/lang/String", "<init>", "([C)V"⟩ : MethodName) jdk_42_method_3_code 2 none :: ws) ({ frames := 3, cells := 1, slots := 6, locals := 52 } : Room)) (fun a U => a = #[(.ref a0), (.ref a1)] ∧ Z.Warmed39 U.vm ∧ U.heap = h0) (fun _ _ _ _ _ => True) (fun _ U o U' => ∃ v L, o = .returned v ∧ QSI6 Z a0 a1 kc ic ca cb cc cd ce cf h0 n0 v U'.heap L ∧ FrameEnd U o U' L ({ frames := 3, cells := 1, slots := 6, locals := 52 } : Room).cells ({ frames := 3, cells := 1, slots := 6, locals := 52 } : Room).slots) := by
  refine MetFree.of_bodySF (plainFor_of_name pn_1) hisR ?_
  intro p e s m args below meth c s₁ Bd hml0 hP hK
  obtain ⟨rfl, hZ, hh⟩ := hP
  have hx := Bd.exec
  have hby := Bd.bytes
  have hml : c.maxLocals = 2 := hml0
  have hown : s.vm.findClass "java/lang/String" = some m.cls := findClass_of_methodNamed Bd.named
  have hnm := (name_of_methodNamed Bd.named Bd.method).1
  have hlk : meth.locks = false := BodyLoose.notSynchronized Bd
  have X0 : Stand p l e ({ frames := 3, cells := 1, slots := 6, locals := 52 } : Room) s m #[(.ref a0), (.ref a1)] below meth c s₁ [] 0 0 := Stand.of_body Bd
  have eh0 : s₁.heap = h0 := by rw [← hh, Bd.state]; rfl
  have N0 := Fr.nil n0
  show Rest p.tables e below s (QSI6 Z a0 a1 kc ic ca cb cc cd ce cf h0 n0) _ _ (s₁.setTop (entryFrame m #[(.ref a0), (.ref a1)] 2))
  refine Rest.via (fun t k => castTop (ef_SI6 m a0 a1) k) ?_
  show Rest p.tables e below s _ _ _ (s₁.setTop (mkF m 0 #[.val (.ref a0), .val (.ref a1)] []))
  refine Rest.via (fun t k => XS.aloadN X0.here hx rfl (hb hby d1_0) rfl rfl k) ?_
  show Rest p.tables e below s _ _ _ (s₁.setTop (mkF m 1 #[.val (.ref a0), .val (.ref a1)] [(.ref a0)]))
  refine Rest.via (fun t k => XS.aloadN X0.here hx rfl (hb hby d1_1) rfl rfl k) ?_
  show Rest p.tables e below s _ _ _ (s₁.setTop (mkF m 2 #[.val (.ref a0), .val (.ref a1)] [(.ref a1), (.ref a0)]))
  refine Rest.via (fun t k => XS.iconst X0.here hx rfl (hb hby d1_2) k) ?_
  show Rest p.tables e below s _ _ _ (s₁.setTop (mkF m 3 #[.val (.ref a0), .val (.ref a1)] [(.int (0 : Int32)), (.ref a1), (.ref a0)]))
  refine Rest.via (fun t k => XS.aloadN X0.here hx rfl (hb hby d1_3) rfl rfl k) ?_
  show Rest p.tables e below s _ _ _ (s₁.setTop (mkF m 4 #[.val (.ref a0), .val (.ref a1)] [(.ref a1), (.int (0 : Int32)), (.ref a1), (.ref a0)]))
  obtain ⟨cl1, Ar1, -, S1, P1, -, -⟩ := id V1
  refine Rest.via (fun t k => X0.arraylength hx (by rw [eh0]; exact Ar1.1) (State.isArrayOf_alike hZ.alike Ar1.2.1) (g := (mkF m 4 #[.val (.ref a0), .val (.ref a1)] [(.ref a1), (.int (0 : Int32)), (.ref a1), (.ref a0)])) rfl rfl (hb hby d1_4) t k) ?_
  rw [len_of S1 P1]
  show Rest p.tables e below s _ _ _ (s₁.setTop (mkF m 5 #[.val (.ref a0), .val (.ref a1)] [(.int (6 : Int32)), (.int (0 : Int32)), (.ref a1), (.ref a0)]))
  refine Rest.via (fun t k => XS.aconstNull X0.here hx rfl (hb hby d1_5) k) ?_
  show Rest p.tables e below s _ _ _ (s₁.setTop (mkF m 6 #[.val (.ref a0), .val (.ref a1)] [.null, (.int (6 : Int32)), (.int (0 : Int32)), (.ref a1), (.ref a0)]))
  obtain ⟨_, _, ⟨T2, L2, k2, n2⟩, -, X2, ⟨Lc2, hQ2, l2, y2, z2⟩, st2⟩ := X0.specialBack hx (y := (⟨"java/lang/String", "<init>", "([CIILjava/lang/Void;)V"⟩ : MethodName)) rfl hown (mvT hZ (hw _ (List.mem_of_getElem? (i := 11) rfl))) (mvT hZ (hw _ (List.mem_of_getElem? (i := 12) rfl))) (mvT hZ (hw _ (List.mem_of_getElem? (i := 14) rfl))) (by decide) (backOf (W := 0) (rmSJ6 l Z aw hw [] a0 a1 kc ic ca cb cc cd ce cf h0 n0 (Nat.le_trans Z0 (Keep.refl h0 [a0]).1) E_a0 F_v F_c g_a0 V1 hca hcb hcc hcd hce hcf (O.keep (Keep.refl h0 [a0]) (allS g_a0 all0)) CS) hZ (hw _ (List.mem_of_getElem? (i := 14) rfl)) (hw _ (List.mem_of_getElem? (i := 7) rfl)) (by decide) (by decide)) (g := (mkF m 6 #[.val (.ref a0), .val (.ref a1)] [.null, (.int (6 : Int32)), (.int (0 : Int32)), (.ref a1), (.ref a0)])) rfl (by rw [hml]; rfl) (Steps.refl _) (a := a0) (argsL := [(.ref a1), (.int (0 : Int32)), (.int (6 : Int32)), .null]) (rest := []) (lenOf pd_3 rfl) rfl (by show 2 * 0 + _ ≤ _; exact Nat.le_of_eq rfl) (hb hby d1_6) (fun _ _ => ⟨rfl, eh0, (by decide : 0 + 1 ≤ _), (by decide : 0 + 6 ≤ _)⟩)
  dsimp only [Pt.U, Pt.locs, Pt.cells, Pt.slots] at X2 l2 y2 z2 st2 hQ2
  subst l2 y2 z2
  obtain ⟨h2, e2⟩ : ∃ z, T2.heap = z := ⟨_, rfl⟩
  rw [e2] at hQ2
  obtain ⟨rfl, Nq2, Kq2, va2, kb2, sd2, Fv2, Fc2, Vq2, nb2⟩ := hQ2
  have N2 := Fr.app N0 Nq2
  have K2 : Keep h0 h2 [a0] := (Keep.refl h0 [a0]).trans Kq2 (allS (Or.inl (List.mem_of_getElem? (i := 0) rfl)) all0)
  refine Rest.via (fun t k => st2.trans k) ?_
  show Rest p.tables e below s _ _ _ (T2.setTop (mkF m 9 #[.val (.ref a0), .val (.ref a1)] []))
  refine Rest.ret X2 (v := none) (fun _ => rfl) hlk (fun fs hr => X2.returnOut hx Bd.returns (hb hby d1_9) hr) ?_ (by decide) (by decide)
  rw [e2]
  exact ⟨rfl, N2, K2, va2, kb2, Nat.le_trans (Keep.refl h0 [a0]).1 sd2, Fv2, Fc2, Vq2, nb2⟩
theorem ef_U7 (m : MethodId) (a0 : Addr) (a2 : Addr) : entryFrame m #[(.ref a0), (.int (0 : Int32)), (.ref a2), (.int (0 : Int32)), (.int (7 : Int32))] 7 = mkF m 0 #[.val (.ref a0), .val (.int (0 : Int32)), .val (.ref a2), .val (.int (0 : Int32)), .val (.int (7 : Int32)), .unset, .unset] [] := by first | (simp [entryFrame, mkF, argsToLocals, Value.category, maxLocals]; done) | rfl
def QU7 (Z : State) (a0 : Addr) (a2 : Addr) (kc : ClassId) (kb : ClassId) (ca : Int32) (cb : Int32) (cc : Int32) (cd : Int32) (ce : Int32) (cf : Int32) (cg : Int32) (h0 : Heap) (n0 : Nat) (v : Option Value) (h : Heap) (L : List Loc) : Prop := v = some (.int (7 : Int32)) ∧ Fr n0 L ∧ Keep h0 h [a2] ∧ Arv Z h a2 kb .byte (7 : Int32) [(.int (own_by ca)), (.int (own_by cb)), (.int (own_by cc)), (.int (own_by cd)), (.int (own_by ce)), (.int (own_by cf)), (.int (own_by cg))] (.int (0 : Int32))
set_option maxRecDepth 65536 in
set_option maxHeartbeats 40000000 in
theorem rmU7 (l : Launch) (Z : State) (aw : Array Value) (hw : ∀ d ∈ tables_1, d.before aw Z = true) (ws : List Jvm.Cond) (a0 : Addr) (a2 : Addr) (kc : ClassId) (kb : ClassId) (ca : Int32) (cb : Int32) (cc : Int32) (cd : Int32) (ce : Int32) (cf : Int32) (cg : Int32) (h0 : Heap) (n0 : Nat) (Z0 : n0 ≤ h0.size) (V0 : Arv Z h0 a0 kc .char (7 : Int32) [(.int ca), (.int cb), (.int cc), (.int cd), (.int ce), (.int cf), (.int cg)] (.int (0 : Int32))) (V2 : Arv Z h0 a2 kb .byte (7 : Int32) [(.int (0 : Int32)), (.int (0 : Int32)), (.int (0 : Int32)), (.int (0 : Int32)), (.int (0 : Int32)), (.int (0 : Int32)), (.int (0 : Int32))] (.int (0 : Int32))) (n02 : a0 ≠ a2) (g_a2 : n0 ≤ a2) (hca : ¬ ((255 : Int32) < ca)) (hcb : ¬ ((255 : Int32) < cb)) (hcc : ¬ ((255 : Int32) < cc)) (hcd : ¬ ((255 : Int32) < cd)) (hce : ¬ ((255 : Int32) < ce)) (hcf : ¬ ((255 : Int32) < cf)) (hcg : ¬ ((255 : Int32) < cg)) :
    MetFree l (⟨"java/lang/StringUTF16", "compress", "([CI[BII)I"⟩ : MethodName) (head1 (Jvm.Cond.code (⟨"java/lang/StringUTF16", "compress", "([CI[BII)I"⟩ : MethodName) jdk_52_method_21_code 7 (some .int) :: ws) ({ frames := 0, cells := 0, slots := 0, locals := 0 } : Room)) (fun a U => a = #[(.ref a0), (.int (0 : Int32)), (.ref a2), (.int (0 : Int32)), (.int (7 : Int32))] ∧ Z.Warmed39 U.vm ∧ U.heap = h0) (fun _ _ _ _ _ => True) (fun _ U o U' => ∃ v L, o = .returned v ∧ QU7 Z a0 a2 kc kb ca cb cc cd ce cf cg h0 n0 v U'.heap L ∧ FrameEnd U o U' L ({ frames := 0, cells := 0, slots := 0, locals := 0 } : Room).cells ({ frames := 0, cells := 0, slots := 0, locals := 0 } : Room).slots) := by
  refine MetFree.of_bodySF (plainFor_of_name pn_0) hisR ?_
  intro p e s m args below meth c s₁ Bd hml0 hP hK
  obtain ⟨rfl, hZ, hh⟩ := hP
  have hx := Bd.exec
  have hby := Bd.bytes
  have hml : c.maxLocals = 7 := hml0
  have hown : s.vm.findClass "java/lang/StringUTF16" = some m.cls := findClass_of_methodNamed Bd.named
  have hnm := (name_of_methodNamed Bd.named Bd.method).1
  have hlk : meth.locks = false := BodyLoose.notSynchronized Bd
  have X0 : Stand p l e ({ frames := 0, cells := 0, slots := 0, locals := 0 } : Room) s m #[(.ref a0), (.int (0 : Int32)), (.ref a2), (.int (0 : Int32)), (.int (7 : Int32))] below meth c s₁ [] 0 0 := Stand.of_body Bd
  have eh0 : s₁.heap = h0 := by rw [← hh, Bd.state]; rfl
  have N0 := Fr.nil n0
  show Rest p.tables e below s (QU7 Z a0 a2 kc kb ca cb cc cd ce cf cg h0 n0) _ _ (s₁.setTop (entryFrame m #[(.ref a0), (.int (0 : Int32)), (.ref a2), (.int (0 : Int32)), (.int (7 : Int32))] 7))
  refine Rest.via (fun t k => castTop (ef_U7 m a0 a2) k) ?_
  show Rest p.tables e below s _ _ _ (s₁.setTop (mkF m 0 #[.val (.ref a0), .val (.int (0 : Int32)), .val (.ref a2), .val (.int (0 : Int32)), .val (.int (7 : Int32)), .unset, .unset] []))
  refine Rest.via (fun t k => XS.iconst X0.here hx rfl (hb hby d5_0) k) ?_
  show Rest p.tables e below s _ _ _ (s₁.setTop (mkF m 1 #[.val (.ref a0), .val (.int (0 : Int32)), .val (.ref a2), .val (.int (0 : Int32)), .val (.int (7 : Int32)), .unset, .unset] [(.int (0 : Int32))]))
  refine Rest.via (fun t k => XS.istore X0.here hx rfl (hb hby d5_1) rfl (l' := #[.val (.ref a0), .val (.int (0 : Int32)), .val (.ref a2), .val (.int (0 : Int32)), .val (.int (7 : Int32)), .val (.int (0 : Int32)), .unset]) rfl k) ?_
  show Rest p.tables e below s _ _ _ (s₁.setTop (mkF m 3 #[.val (.ref a0), .val (.int (0 : Int32)), .val (.ref a2), .val (.int (0 : Int32)), .val (.int (7 : Int32)), .val (.int (0 : Int32)), .unset] []))
  refine Rest.via (fun t k => XS.iload X0.here hx rfl (hb hby d5_3) rfl k) ?_
  show Rest p.tables e below s _ _ _ (s₁.setTop (mkF m 5 #[.val (.ref a0), .val (.int (0 : Int32)), .val (.ref a2), .val (.int (0 : Int32)), .val (.int (7 : Int32)), .val (.int (0 : Int32)), .unset] [(.int (0 : Int32))]))
  refine Rest.via (fun t k => XS.iload X0.here hx rfl (hb hby d5_5) rfl k) ?_
  show Rest p.tables e below s _ _ _ (s₁.setTop (mkF m 7 #[.val (.ref a0), .val (.int (0 : Int32)), .val (.ref a2), .val (.int (0 : Int32)), .val (.int (7 : Int32)), .val (.int (0 : Int32)), .unset] [(.int (7 : Int32)), (.int (0 : Int32))]))
  refine Rest.via (fun t k => XS.icmpNo X0.here hx rfl (hb hby d5_7) rfl (tlt (by decide : (0 : Int32) < (7 : Int32))).2.1 k) ?_
  show Rest p.tables e below s _ _ _ (s₁.setTop (mkF m 10 #[.val (.ref a0), .val (.int (0 : Int32)), .val (.ref a2), .val (.int (0 : Int32)), .val (.int (7 : Int32)), .val (.int (0 : Int32)), .unset] []))
  refine Rest.via (fun t k => XS.aloadN X0.here hx rfl (hb hby d5_10) rfl rfl k) ?_
  show Rest p.tables e below s _ _ _ (s₁.setTop (mkF m 11 #[.val (.ref a0), .val (.int (0 : Int32)), .val (.ref a2), .val (.int (0 : Int32)), .val (.int (7 : Int32)), .val (.int (0 : Int32)), .unset] [(.ref a0)]))
  refine Rest.via (fun t k => XS.iloadN X0.here hx rfl (hb hby d5_11) rfl k) ?_
  show Rest p.tables e below s _ _ _ (s₁.setTop (mkF m 12 #[.val (.ref a0), .val (.int (0 : Int32)), .val (.ref a2), .val (.int (0 : Int32)), .val (.int (7 : Int32)), .val (.int (0 : Int32)), .unset] [(.int (0 : Int32)), (.ref a0)]))
  obtain ⟨cl1, Ar1, qa1, Sa1, Pa1, Ha1, Ga1⟩ := id V0
  have hin1 := inb_of (j := (0 : Int32)) Sa1 ⟨by decide, by decide⟩
  have hat1 : cl1.slots[((0 : Int32)).toNatClampNeg]? = some (.int ca) := Has.at Ha1 hin1 rfl
  refine Rest.via (fun t k => X0.caload hx (j := (0 : Int32)) (v := (.int ca)) (by rw [eh0]; exact Ar1.1) (State.isArrayOf_alike hZ.alike Ar1.2.1) Ar1.2.2 hin1 hat1 (g := (mkF m 12 #[.val (.ref a0), .val (.int (0 : Int32)), .val (.ref a2), .val (.int (0 : Int32)), .val (.int (7 : Int32)), .val (.int (0 : Int32)), .unset] [(.int (0 : Int32)), (.ref a0)])) rfl rfl (hb hby d5_12) t k) ?_
  show Rest p.tables e below s _ _ _ (s₁.setTop (mkF m 13 #[.val (.ref a0), .val (.int (0 : Int32)), .val (.ref a2), .val (.int (0 : Int32)), .val (.int (7 : Int32)), .val (.int (0 : Int32)), .unset] [(.int ca)]))
  refine Rest.via (fun t k => XS.istore X0.here hx rfl (hb hby d5_13) rfl (l' := #[.val (.ref a0), .val (.int (0 : Int32)), .val (.ref a2), .val (.int (0 : Int32)), .val (.int (7 : Int32)), .val (.int (0 : Int32)), .val (.int ca)]) rfl k) ?_
  show Rest p.tables e below s _ _ _ (s₁.setTop (mkF m 15 #[.val (.ref a0), .val (.int (0 : Int32)), .val (.ref a2), .val (.int (0 : Int32)), .val (.int (7 : Int32)), .val (.int (0 : Int32)), .val (.int ca)] []))
  refine Rest.via (fun t k => XS.iload X0.here hx rfl (hb hby d5_15) rfl k) ?_
  show Rest p.tables e below s _ _ _ (s₁.setTop (mkF m 17 #[.val (.ref a0), .val (.int (0 : Int32)), .val (.ref a2), .val (.int (0 : Int32)), .val (.int (7 : Int32)), .val (.int (0 : Int32)), .val (.int ca)] [(.int ca)]))
  refine Rest.via (fun t k => XS.sipush X0.here hx rfl (hb hby d5_17) k) ?_
  show Rest p.tables e below s _ _ _ (s₁.setTop (mkF m 20 #[.val (.ref a0), .val (.int (0 : Int32)), .val (.ref a2), .val (.int (0 : Int32)), .val (.int (7 : Int32)), .val (.int (0 : Int32)), .val (.int ca)] [(.int (255 : Int32)), (.int ca)]))
  refine Rest.via (fun t k => XS.icmpYes X0.here hx rfl (pc0 := 20) (pc' := 26) rfl (hb hby d5_20) rfl (flt (hca : ¬ ((255 : Int32) < ca))).2.2.2 (by decide) (by decide) k) ?_
  show Rest p.tables e below s _ _ _ (s₁.setTop (mkF m 26 #[.val (.ref a0), .val (.int (0 : Int32)), .val (.ref a2), .val (.int (0 : Int32)), .val (.int (7 : Int32)), .val (.int (0 : Int32)), .val (.int ca)] []))
  refine Rest.via (fun t k => XS.aloadN X0.here hx rfl (hb hby d5_26) rfl rfl k) ?_
  show Rest p.tables e below s _ _ _ (s₁.setTop (mkF m 27 #[.val (.ref a0), .val (.int (0 : Int32)), .val (.ref a2), .val (.int (0 : Int32)), .val (.int (7 : Int32)), .val (.int (0 : Int32)), .val (.int ca)] [(.ref a2)]))
  refine Rest.via (fun t k => XS.iloadN X0.here hx rfl (hb hby d5_27) rfl k) ?_
  show Rest p.tables e below s _ _ _ (s₁.setTop (mkF m 28 #[.val (.ref a0), .val (.int (0 : Int32)), .val (.ref a2), .val (.int (0 : Int32)), .val (.int (7 : Int32)), .val (.int (0 : Int32)), .val (.int ca)] [(.int (0 : Int32)), (.ref a2)]))
  refine Rest.via (fun t k => XS.iload X0.here hx rfl (hb hby d5_28) rfl k) ?_
  show Rest p.tables e below s _ _ _ (s₁.setTop (mkF m 30 #[.val (.ref a0), .val (.int (0 : Int32)), .val (.ref a2), .val (.int (0 : Int32)), .val (.int (7 : Int32)), .val (.int (0 : Int32)), .val (.int ca)] [(.int ca), (.int (0 : Int32)), (.ref a2)]))
  refine Rest.via (fun t k => XS.i2b X0.here hx rfl (hb hby d5_30) rfl k) ?_
  show Rest p.tables e below s _ _ _ (s₁.setTop (mkF m 31 #[.val (.ref a0), .val (.int (0 : Int32)), .val (.ref a2), .val (.int (0 : Int32)), .val (.int (7 : Int32)), .val (.int (0 : Int32)), .val (.int ca)] [(.int (ca.toInt8.toInt32)), (.int (0 : Int32)), (.ref a2)]))
  obtain ⟨cl2, Ar2, qa2, Sa2, Pa2, Ha2, Ga2⟩ := id V2
  have hin2 := inb_of (j := (0 : Int32)) Sa2 ⟨by decide, by decide⟩
  obtain ⟨T2, h2, X2, e2, W2, st2⟩ := stB X0 hx hZ eh0 Ar2 (j := (0 : Int32)) hin2 (g := (mkF m 31 #[.val (.ref a0), .val (.int (0 : Int32)), .val (.ref a2), .val (.int (0 : Int32)), .val (.int (7 : Int32)), .val (.int (0 : Int32)), .val (.int ca)] [(.int (ca.toInt8.toInt32)), (.int (0 : Int32)), (.ref a2)])) rfl rfl (hb hby d5_31)
  refine Rest.via (fun t k => st2 t k) ?_
  have N2 := Fr.snoc X2 N0 g_a2
  have K2 : Keep h0 h2 [a2] := (Keep.refl h0 [a2]).wr W2 (Or.inl (List.mem_of_getElem? (i := 0) rfl))
  have V2 : Arv Z h2 a2 kb .byte (7 : Int32) [(.int (own_by ca)), (.int (0 : Int32)), (.int (0 : Int32)), (.int (0 : Int32)), (.int (0 : Int32)), (.int (0 : Int32)), (.int (0 : Int32))] (.int (0 : Int32)) := by have q := Arv.set Ar2 qa2 Sa2 Pa2 Ha2 Ga2 (fits_nar_byte _) W2 0 rfl (Nat.le_of_ble_eq_true rfl); rw [own_by_nar] at q; exact q
  show Rest p.tables e below s _ _ _ (T2.setTop (mkF m 32 #[.val (.ref a0), .val (.int (0 : Int32)), .val (.ref a2), .val (.int (0 : Int32)), .val (.int (7 : Int32)), .val (.int (0 : Int32)), .val (.int ca)] []))
  refine Rest.via (fun t k => XS.iinc X2.here hx rfl (hb hby d5_32) rfl (l' := #[.val (.ref a0), .val (.int ((0 : Int32) + (1 : Int32))), .val (.ref a2), .val (.int (0 : Int32)), .val (.int (7 : Int32)), .val (.int (0 : Int32)), .val (.int ca)]) rfl k) ?_
  show Rest p.tables e below s _ _ _ (T2.setTop (mkF m 35 #[.val (.ref a0), .val (.int ((0 : Int32) + (1 : Int32))), .val (.ref a2), .val (.int (0 : Int32)), .val (.int (7 : Int32)), .val (.int (0 : Int32)), .val (.int ca)] []))
  rw [(by decide : ((0 : Int32) + (1 : Int32)) = (1 : Int32))]
  show Rest p.tables e below s _ _ _ (T2.setTop (mkF m 35 #[.val (.ref a0), .val (.int (1 : Int32)), .val (.ref a2), .val (.int (0 : Int32)), .val (.int (7 : Int32)), .val (.int (0 : Int32)), .val (.int ca)] []))
  refine Rest.via (fun t k => XS.iinc X2.here hx rfl (hb hby d5_35) rfl (l' := #[.val (.ref a0), .val (.int (1 : Int32)), .val (.ref a2), .val (.int ((0 : Int32) + (1 : Int32))), .val (.int (7 : Int32)), .val (.int (0 : Int32)), .val (.int ca)]) rfl k) ?_
  show Rest p.tables e below s _ _ _ (T2.setTop (mkF m 38 #[.val (.ref a0), .val (.int (1 : Int32)), .val (.ref a2), .val (.int ((0 : Int32) + (1 : Int32))), .val (.int (7 : Int32)), .val (.int (0 : Int32)), .val (.int ca)] []))
  rw [(by decide : ((0 : Int32) + (1 : Int32)) = (1 : Int32))]
  show Rest p.tables e below s _ _ _ (T2.setTop (mkF m 38 #[.val (.ref a0), .val (.int (1 : Int32)), .val (.ref a2), .val (.int (1 : Int32)), .val (.int (7 : Int32)), .val (.int (0 : Int32)), .val (.int ca)] []))
  refine Rest.via (fun t k => XS.iinc X2.here hx rfl (hb hby d5_38) rfl (l' := #[.val (.ref a0), .val (.int (1 : Int32)), .val (.ref a2), .val (.int (1 : Int32)), .val (.int (7 : Int32)), .val (.int ((0 : Int32) + (1 : Int32))), .val (.int ca)]) rfl k) ?_
  show Rest p.tables e below s _ _ _ (T2.setTop (mkF m 41 #[.val (.ref a0), .val (.int (1 : Int32)), .val (.ref a2), .val (.int (1 : Int32)), .val (.int (7 : Int32)), .val (.int ((0 : Int32) + (1 : Int32))), .val (.int ca)] []))
  rw [(by decide : ((0 : Int32) + (1 : Int32)) = (1 : Int32))]
  show Rest p.tables e below s _ _ _ (T2.setTop (mkF m 41 #[.val (.ref a0), .val (.int (1 : Int32)), .val (.ref a2), .val (.int (1 : Int32)), .val (.int (7 : Int32)), .val (.int (1 : Int32)), .val (.int ca)] []))
  refine Rest.via (fun t k => XS.goto X2.here hx rfl (pc0 := 41) (pc' := 3) rfl (hb hby d5_41) (by decide) (by decide) k) ?_
  show Rest p.tables e below s _ _ _ (T2.setTop (mkF m 3 #[.val (.ref a0), .val (.int (1 : Int32)), .val (.ref a2), .val (.int (1 : Int32)), .val (.int (7 : Int32)), .val (.int (1 : Int32)), .val (.int ca)] []))
  refine Rest.via (fun t k => XS.iload X2.here hx rfl (hb hby d5_3) rfl k) ?_
  show Rest p.tables e below s _ _ _ (T2.setTop (mkF m 5 #[.val (.ref a0), .val (.int (1 : Int32)), .val (.ref a2), .val (.int (1 : Int32)), .val (.int (7 : Int32)), .val (.int (1 : Int32)), .val (.int ca)] [(.int (1 : Int32))]))
  refine Rest.via (fun t k => XS.iload X2.here hx rfl (hb hby d5_5) rfl k) ?_
  show Rest p.tables e below s _ _ _ (T2.setTop (mkF m 7 #[.val (.ref a0), .val (.int (1 : Int32)), .val (.ref a2), .val (.int (1 : Int32)), .val (.int (7 : Int32)), .val (.int (1 : Int32)), .val (.int ca)] [(.int (7 : Int32)), (.int (1 : Int32))]))
  refine Rest.via (fun t k => XS.icmpNo X2.here hx rfl (hb hby d5_7) rfl (tlt (by decide : (1 : Int32) < (7 : Int32))).2.1 k) ?_
  show Rest p.tables e below s _ _ _ (T2.setTop (mkF m 10 #[.val (.ref a0), .val (.int (1 : Int32)), .val (.ref a2), .val (.int (1 : Int32)), .val (.int (7 : Int32)), .val (.int (1 : Int32)), .val (.int ca)] []))
  refine Rest.via (fun t k => XS.aloadN X2.here hx rfl (hb hby d5_10) rfl rfl k) ?_
  show Rest p.tables e below s _ _ _ (T2.setTop (mkF m 11 #[.val (.ref a0), .val (.int (1 : Int32)), .val (.ref a2), .val (.int (1 : Int32)), .val (.int (7 : Int32)), .val (.int (1 : Int32)), .val (.int ca)] [(.ref a0)]))
  refine Rest.via (fun t k => XS.iloadN X2.here hx rfl (hb hby d5_11) rfl k) ?_
  show Rest p.tables e below s _ _ _ (T2.setTop (mkF m 12 #[.val (.ref a0), .val (.int (1 : Int32)), .val (.ref a2), .val (.int (1 : Int32)), .val (.int (7 : Int32)), .val (.int (1 : Int32)), .val (.int ca)] [(.int (1 : Int32)), (.ref a0)]))
  obtain ⟨cl3, Ar3, qa3, Sa3, Pa3, Ha3, Ga3⟩ := id (V0.other W2 n02)
  have hin3 := inb_of (j := (1 : Int32)) Sa3 ⟨by decide, by decide⟩
  have hat3 : cl3.slots[((1 : Int32)).toNatClampNeg]? = some (.int cb) := Has.at Ha3 hin3 rfl
  refine Rest.via (fun t k => X2.caload hx (j := (1 : Int32)) (v := (.int cb)) (by rw [e2]; exact Ar3.1) (State.isArrayOf_alike hZ.alike Ar3.2.1) Ar3.2.2 hin3 hat3 (g := (mkF m 12 #[.val (.ref a0), .val (.int (1 : Int32)), .val (.ref a2), .val (.int (1 : Int32)), .val (.int (7 : Int32)), .val (.int (1 : Int32)), .val (.int ca)] [(.int (1 : Int32)), (.ref a0)])) rfl rfl (hb hby d5_12) t k) ?_
  show Rest p.tables e below s _ _ _ (T2.setTop (mkF m 13 #[.val (.ref a0), .val (.int (1 : Int32)), .val (.ref a2), .val (.int (1 : Int32)), .val (.int (7 : Int32)), .val (.int (1 : Int32)), .val (.int ca)] [(.int cb)]))
  refine Rest.via (fun t k => XS.istore X2.here hx rfl (hb hby d5_13) rfl (l' := #[.val (.ref a0), .val (.int (1 : Int32)), .val (.ref a2), .val (.int (1 : Int32)), .val (.int (7 : Int32)), .val (.int (1 : Int32)), .val (.int cb)]) rfl k) ?_
  show Rest p.tables e below s _ _ _ (T2.setTop (mkF m 15 #[.val (.ref a0), .val (.int (1 : Int32)), .val (.ref a2), .val (.int (1 : Int32)), .val (.int (7 : Int32)), .val (.int (1 : Int32)), .val (.int cb)] []))
  refine Rest.via (fun t k => XS.iload X2.here hx rfl (hb hby d5_15) rfl k) ?_
  show Rest p.tables e below s _ _ _ (T2.setTop (mkF m 17 #[.val (.ref a0), .val (.int (1 : Int32)), .val (.ref a2), .val (.int (1 : Int32)), .val (.int (7 : Int32)), .val (.int (1 : Int32)), .val (.int cb)] [(.int cb)]))
  refine Rest.via (fun t k => XS.sipush X2.here hx rfl (hb hby d5_17) k) ?_
  show Rest p.tables e below s _ _ _ (T2.setTop (mkF m 20 #[.val (.ref a0), .val (.int (1 : Int32)), .val (.ref a2), .val (.int (1 : Int32)), .val (.int (7 : Int32)), .val (.int (1 : Int32)), .val (.int cb)] [(.int (255 : Int32)), (.int cb)]))
  refine Rest.via (fun t k => XS.icmpYes X2.here hx rfl (pc0 := 20) (pc' := 26) rfl (hb hby d5_20) rfl (flt (hcb : ¬ ((255 : Int32) < cb))).2.2.2 (by decide) (by decide) k) ?_
  show Rest p.tables e below s _ _ _ (T2.setTop (mkF m 26 #[.val (.ref a0), .val (.int (1 : Int32)), .val (.ref a2), .val (.int (1 : Int32)), .val (.int (7 : Int32)), .val (.int (1 : Int32)), .val (.int cb)] []))
  refine Rest.via (fun t k => XS.aloadN X2.here hx rfl (hb hby d5_26) rfl rfl k) ?_
  show Rest p.tables e below s _ _ _ (T2.setTop (mkF m 27 #[.val (.ref a0), .val (.int (1 : Int32)), .val (.ref a2), .val (.int (1 : Int32)), .val (.int (7 : Int32)), .val (.int (1 : Int32)), .val (.int cb)] [(.ref a2)]))
  refine Rest.via (fun t k => XS.iloadN X2.here hx rfl (hb hby d5_27) rfl k) ?_
  show Rest p.tables e below s _ _ _ (T2.setTop (mkF m 28 #[.val (.ref a0), .val (.int (1 : Int32)), .val (.ref a2), .val (.int (1 : Int32)), .val (.int (7 : Int32)), .val (.int (1 : Int32)), .val (.int cb)] [(.int (1 : Int32)), (.ref a2)]))
  refine Rest.via (fun t k => XS.iload X2.here hx rfl (hb hby d5_28) rfl k) ?_
  show Rest p.tables e below s _ _ _ (T2.setTop (mkF m 30 #[.val (.ref a0), .val (.int (1 : Int32)), .val (.ref a2), .val (.int (1 : Int32)), .val (.int (7 : Int32)), .val (.int (1 : Int32)), .val (.int cb)] [(.int cb), (.int (1 : Int32)), (.ref a2)]))
  refine Rest.via (fun t k => XS.i2b X2.here hx rfl (hb hby d5_30) rfl k) ?_
  show Rest p.tables e below s _ _ _ (T2.setTop (mkF m 31 #[.val (.ref a0), .val (.int (1 : Int32)), .val (.ref a2), .val (.int (1 : Int32)), .val (.int (7 : Int32)), .val (.int (1 : Int32)), .val (.int cb)] [(.int (cb.toInt8.toInt32)), (.int (1 : Int32)), (.ref a2)]))
  obtain ⟨cl4, Ar4, qa4, Sa4, Pa4, Ha4, Ga4⟩ := id V2
  have hin4 := inb_of (j := (1 : Int32)) Sa4 ⟨by decide, by decide⟩
  obtain ⟨T4, h4, X4, e4, W4, st4⟩ := stB X2 hx hZ e2 Ar4 (j := (1 : Int32)) hin4 (g := (mkF m 31 #[.val (.ref a0), .val (.int (1 : Int32)), .val (.ref a2), .val (.int (1 : Int32)), .val (.int (7 : Int32)), .val (.int (1 : Int32)), .val (.int cb)] [(.int (cb.toInt8.toInt32)), (.int (1 : Int32)), (.ref a2)])) rfl rfl (hb hby d5_31)
  refine Rest.via (fun t k => st4 t k) ?_
  have N4 := Fr.snoc X4 N2 g_a2
  have K4 : Keep h0 h4 [a2] := K2.wr W4 (Or.inl (List.mem_of_getElem? (i := 0) rfl))
  have V4 : Arv Z h4 a2 kb .byte (7 : Int32) [(.int (own_by ca)), (.int (own_by cb)), (.int (0 : Int32)), (.int (0 : Int32)), (.int (0 : Int32)), (.int (0 : Int32)), (.int (0 : Int32))] (.int (0 : Int32)) := by have q := Arv.set Ar4 qa4 Sa4 Pa4 Ha4 Ga4 (fits_nar_byte _) W4 1 rfl (Nat.le_of_ble_eq_true rfl); rw [own_by_nar] at q; exact q
  show Rest p.tables e below s _ _ _ (T4.setTop (mkF m 32 #[.val (.ref a0), .val (.int (1 : Int32)), .val (.ref a2), .val (.int (1 : Int32)), .val (.int (7 : Int32)), .val (.int (1 : Int32)), .val (.int cb)] []))
  refine Rest.via (fun t k => XS.iinc X4.here hx rfl (hb hby d5_32) rfl (l' := #[.val (.ref a0), .val (.int ((1 : Int32) + (1 : Int32))), .val (.ref a2), .val (.int (1 : Int32)), .val (.int (7 : Int32)), .val (.int (1 : Int32)), .val (.int cb)]) rfl k) ?_
  show Rest p.tables e below s _ _ _ (T4.setTop (mkF m 35 #[.val (.ref a0), .val (.int ((1 : Int32) + (1 : Int32))), .val (.ref a2), .val (.int (1 : Int32)), .val (.int (7 : Int32)), .val (.int (1 : Int32)), .val (.int cb)] []))
  rw [(by decide : ((1 : Int32) + (1 : Int32)) = (2 : Int32))]
  show Rest p.tables e below s _ _ _ (T4.setTop (mkF m 35 #[.val (.ref a0), .val (.int (2 : Int32)), .val (.ref a2), .val (.int (1 : Int32)), .val (.int (7 : Int32)), .val (.int (1 : Int32)), .val (.int cb)] []))
  refine Rest.via (fun t k => XS.iinc X4.here hx rfl (hb hby d5_35) rfl (l' := #[.val (.ref a0), .val (.int (2 : Int32)), .val (.ref a2), .val (.int ((1 : Int32) + (1 : Int32))), .val (.int (7 : Int32)), .val (.int (1 : Int32)), .val (.int cb)]) rfl k) ?_
  show Rest p.tables e below s _ _ _ (T4.setTop (mkF m 38 #[.val (.ref a0), .val (.int (2 : Int32)), .val (.ref a2), .val (.int ((1 : Int32) + (1 : Int32))), .val (.int (7 : Int32)), .val (.int (1 : Int32)), .val (.int cb)] []))
  rw [(by decide : ((1 : Int32) + (1 : Int32)) = (2 : Int32))]
  show Rest p.tables e below s _ _ _ (T4.setTop (mkF m 38 #[.val (.ref a0), .val (.int (2 : Int32)), .val (.ref a2), .val (.int (2 : Int32)), .val (.int (7 : Int32)), .val (.int (1 : Int32)), .val (.int cb)] []))
  refine Rest.via (fun t k => XS.iinc X4.here hx rfl (hb hby d5_38) rfl (l' := #[.val (.ref a0), .val (.int (2 : Int32)), .val (.ref a2), .val (.int (2 : Int32)), .val (.int (7 : Int32)), .val (.int ((1 : Int32) + (1 : Int32))), .val (.int cb)]) rfl k) ?_
  show Rest p.tables e below s _ _ _ (T4.setTop (mkF m 41 #[.val (.ref a0), .val (.int (2 : Int32)), .val (.ref a2), .val (.int (2 : Int32)), .val (.int (7 : Int32)), .val (.int ((1 : Int32) + (1 : Int32))), .val (.int cb)] []))
  rw [(by decide : ((1 : Int32) + (1 : Int32)) = (2 : Int32))]
  show Rest p.tables e below s _ _ _ (T4.setTop (mkF m 41 #[.val (.ref a0), .val (.int (2 : Int32)), .val (.ref a2), .val (.int (2 : Int32)), .val (.int (7 : Int32)), .val (.int (2 : Int32)), .val (.int cb)] []))
  refine Rest.via (fun t k => XS.goto X4.here hx rfl (pc0 := 41) (pc' := 3) rfl (hb hby d5_41) (by decide) (by decide) k) ?_
  show Rest p.tables e below s _ _ _ (T4.setTop (mkF m 3 #[.val (.ref a0), .val (.int (2 : Int32)), .val (.ref a2), .val (.int (2 : Int32)), .val (.int (7 : Int32)), .val (.int (2 : Int32)), .val (.int cb)] []))
  refine Rest.via (fun t k => XS.iload X4.here hx rfl (hb hby d5_3) rfl k) ?_
  show Rest p.tables e below s _ _ _ (T4.setTop (mkF m 5 #[.val (.ref a0), .val (.int (2 : Int32)), .val (.ref a2), .val (.int (2 : Int32)), .val (.int (7 : Int32)), .val (.int (2 : Int32)), .val (.int cb)] [(.int (2 : Int32))]))
  refine Rest.via (fun t k => XS.iload X4.here hx rfl (hb hby d5_5) rfl k) ?_
  show Rest p.tables e below s _ _ _ (T4.setTop (mkF m 7 #[.val (.ref a0), .val (.int (2 : Int32)), .val (.ref a2), .val (.int (2 : Int32)), .val (.int (7 : Int32)), .val (.int (2 : Int32)), .val (.int cb)] [(.int (7 : Int32)), (.int (2 : Int32))]))
  refine Rest.via (fun t k => XS.icmpNo X4.here hx rfl (hb hby d5_7) rfl (tlt (by decide : (2 : Int32) < (7 : Int32))).2.1 k) ?_
  show Rest p.tables e below s _ _ _ (T4.setTop (mkF m 10 #[.val (.ref a0), .val (.int (2 : Int32)), .val (.ref a2), .val (.int (2 : Int32)), .val (.int (7 : Int32)), .val (.int (2 : Int32)), .val (.int cb)] []))
  refine Rest.via (fun t k => XS.aloadN X4.here hx rfl (hb hby d5_10) rfl rfl k) ?_
  show Rest p.tables e below s _ _ _ (T4.setTop (mkF m 11 #[.val (.ref a0), .val (.int (2 : Int32)), .val (.ref a2), .val (.int (2 : Int32)), .val (.int (7 : Int32)), .val (.int (2 : Int32)), .val (.int cb)] [(.ref a0)]))
  refine Rest.via (fun t k => XS.iloadN X4.here hx rfl (hb hby d5_11) rfl k) ?_
  show Rest p.tables e below s _ _ _ (T4.setTop (mkF m 12 #[.val (.ref a0), .val (.int (2 : Int32)), .val (.ref a2), .val (.int (2 : Int32)), .val (.int (7 : Int32)), .val (.int (2 : Int32)), .val (.int cb)] [(.int (2 : Int32)), (.ref a0)]))
  obtain ⟨cl5, Ar5, qa5, Sa5, Pa5, Ha5, Ga5⟩ := id ((V0.other W2 n02).other W4 n02)
  have hin5 := inb_of (j := (2 : Int32)) Sa5 ⟨by decide, by decide⟩
  have hat5 : cl5.slots[((2 : Int32)).toNatClampNeg]? = some (.int cc) := Has.at Ha5 hin5 rfl
  refine Rest.via (fun t k => X4.caload hx (j := (2 : Int32)) (v := (.int cc)) (by rw [e4]; exact Ar5.1) (State.isArrayOf_alike hZ.alike Ar5.2.1) Ar5.2.2 hin5 hat5 (g := (mkF m 12 #[.val (.ref a0), .val (.int (2 : Int32)), .val (.ref a2), .val (.int (2 : Int32)), .val (.int (7 : Int32)), .val (.int (2 : Int32)), .val (.int cb)] [(.int (2 : Int32)), (.ref a0)])) rfl rfl (hb hby d5_12) t k) ?_
  show Rest p.tables e below s _ _ _ (T4.setTop (mkF m 13 #[.val (.ref a0), .val (.int (2 : Int32)), .val (.ref a2), .val (.int (2 : Int32)), .val (.int (7 : Int32)), .val (.int (2 : Int32)), .val (.int cb)] [(.int cc)]))
  refine Rest.via (fun t k => XS.istore X4.here hx rfl (hb hby d5_13) rfl (l' := #[.val (.ref a0), .val (.int (2 : Int32)), .val (.ref a2), .val (.int (2 : Int32)), .val (.int (7 : Int32)), .val (.int (2 : Int32)), .val (.int cc)]) rfl k) ?_
  show Rest p.tables e below s _ _ _ (T4.setTop (mkF m 15 #[.val (.ref a0), .val (.int (2 : Int32)), .val (.ref a2), .val (.int (2 : Int32)), .val (.int (7 : Int32)), .val (.int (2 : Int32)), .val (.int cc)] []))
  refine Rest.via (fun t k => XS.iload X4.here hx rfl (hb hby d5_15) rfl k) ?_
  show Rest p.tables e below s _ _ _ (T4.setTop (mkF m 17 #[.val (.ref a0), .val (.int (2 : Int32)), .val (.ref a2), .val (.int (2 : Int32)), .val (.int (7 : Int32)), .val (.int (2 : Int32)), .val (.int cc)] [(.int cc)]))
  refine Rest.via (fun t k => XS.sipush X4.here hx rfl (hb hby d5_17) k) ?_
  show Rest p.tables e below s _ _ _ (T4.setTop (mkF m 20 #[.val (.ref a0), .val (.int (2 : Int32)), .val (.ref a2), .val (.int (2 : Int32)), .val (.int (7 : Int32)), .val (.int (2 : Int32)), .val (.int cc)] [(.int (255 : Int32)), (.int cc)]))
  refine Rest.via (fun t k => XS.icmpYes X4.here hx rfl (pc0 := 20) (pc' := 26) rfl (hb hby d5_20) rfl (flt (hcc : ¬ ((255 : Int32) < cc))).2.2.2 (by decide) (by decide) k) ?_
  show Rest p.tables e below s _ _ _ (T4.setTop (mkF m 26 #[.val (.ref a0), .val (.int (2 : Int32)), .val (.ref a2), .val (.int (2 : Int32)), .val (.int (7 : Int32)), .val (.int (2 : Int32)), .val (.int cc)] []))
  refine Rest.via (fun t k => XS.aloadN X4.here hx rfl (hb hby d5_26) rfl rfl k) ?_
  show Rest p.tables e below s _ _ _ (T4.setTop (mkF m 27 #[.val (.ref a0), .val (.int (2 : Int32)), .val (.ref a2), .val (.int (2 : Int32)), .val (.int (7 : Int32)), .val (.int (2 : Int32)), .val (.int cc)] [(.ref a2)]))
  refine Rest.via (fun t k => XS.iloadN X4.here hx rfl (hb hby d5_27) rfl k) ?_
  show Rest p.tables e below s _ _ _ (T4.setTop (mkF m 28 #[.val (.ref a0), .val (.int (2 : Int32)), .val (.ref a2), .val (.int (2 : Int32)), .val (.int (7 : Int32)), .val (.int (2 : Int32)), .val (.int cc)] [(.int (2 : Int32)), (.ref a2)]))
  refine Rest.via (fun t k => XS.iload X4.here hx rfl (hb hby d5_28) rfl k) ?_
  show Rest p.tables e below s _ _ _ (T4.setTop (mkF m 30 #[.val (.ref a0), .val (.int (2 : Int32)), .val (.ref a2), .val (.int (2 : Int32)), .val (.int (7 : Int32)), .val (.int (2 : Int32)), .val (.int cc)] [(.int cc), (.int (2 : Int32)), (.ref a2)]))
  refine Rest.via (fun t k => XS.i2b X4.here hx rfl (hb hby d5_30) rfl k) ?_
  show Rest p.tables e below s _ _ _ (T4.setTop (mkF m 31 #[.val (.ref a0), .val (.int (2 : Int32)), .val (.ref a2), .val (.int (2 : Int32)), .val (.int (7 : Int32)), .val (.int (2 : Int32)), .val (.int cc)] [(.int (cc.toInt8.toInt32)), (.int (2 : Int32)), (.ref a2)]))
  obtain ⟨cl6, Ar6, qa6, Sa6, Pa6, Ha6, Ga6⟩ := id V4
  have hin6 := inb_of (j := (2 : Int32)) Sa6 ⟨by decide, by decide⟩
  obtain ⟨T6, h6, X6, e6, W6, st6⟩ := stB X4 hx hZ e4 Ar6 (j := (2 : Int32)) hin6 (g := (mkF m 31 #[.val (.ref a0), .val (.int (2 : Int32)), .val (.ref a2), .val (.int (2 : Int32)), .val (.int (7 : Int32)), .val (.int (2 : Int32)), .val (.int cc)] [(.int (cc.toInt8.toInt32)), (.int (2 : Int32)), (.ref a2)])) rfl rfl (hb hby d5_31)
  refine Rest.via (fun t k => st6 t k) ?_
  have N6 := Fr.snoc X6 N4 g_a2
  have K6 : Keep h0 h6 [a2] := K4.wr W6 (Or.inl (List.mem_of_getElem? (i := 0) rfl))
  have V6 : Arv Z h6 a2 kb .byte (7 : Int32) [(.int (own_by ca)), (.int (own_by cb)), (.int (own_by cc)), (.int (0 : Int32)), (.int (0 : Int32)), (.int (0 : Int32)), (.int (0 : Int32))] (.int (0 : Int32)) := by have q := Arv.set Ar6 qa6 Sa6 Pa6 Ha6 Ga6 (fits_nar_byte _) W6 2 rfl (Nat.le_of_ble_eq_true rfl); rw [own_by_nar] at q; exact q
  show Rest p.tables e below s _ _ _ (T6.setTop (mkF m 32 #[.val (.ref a0), .val (.int (2 : Int32)), .val (.ref a2), .val (.int (2 : Int32)), .val (.int (7 : Int32)), .val (.int (2 : Int32)), .val (.int cc)] []))
  refine Rest.via (fun t k => XS.iinc X6.here hx rfl (hb hby d5_32) rfl (l' := #[.val (.ref a0), .val (.int ((2 : Int32) + (1 : Int32))), .val (.ref a2), .val (.int (2 : Int32)), .val (.int (7 : Int32)), .val (.int (2 : Int32)), .val (.int cc)]) rfl k) ?_
  show Rest p.tables e below s _ _ _ (T6.setTop (mkF m 35 #[.val (.ref a0), .val (.int ((2 : Int32) + (1 : Int32))), .val (.ref a2), .val (.int (2 : Int32)), .val (.int (7 : Int32)), .val (.int (2 : Int32)), .val (.int cc)] []))
  rw [(by decide : ((2 : Int32) + (1 : Int32)) = (3 : Int32))]
  show Rest p.tables e below s _ _ _ (T6.setTop (mkF m 35 #[.val (.ref a0), .val (.int (3 : Int32)), .val (.ref a2), .val (.int (2 : Int32)), .val (.int (7 : Int32)), .val (.int (2 : Int32)), .val (.int cc)] []))
  refine Rest.via (fun t k => XS.iinc X6.here hx rfl (hb hby d5_35) rfl (l' := #[.val (.ref a0), .val (.int (3 : Int32)), .val (.ref a2), .val (.int ((2 : Int32) + (1 : Int32))), .val (.int (7 : Int32)), .val (.int (2 : Int32)), .val (.int cc)]) rfl k) ?_
  show Rest p.tables e below s _ _ _ (T6.setTop (mkF m 38 #[.val (.ref a0), .val (.int (3 : Int32)), .val (.ref a2), .val (.int ((2 : Int32) + (1 : Int32))), .val (.int (7 : Int32)), .val (.int (2 : Int32)), .val (.int cc)] []))
  rw [(by decide : ((2 : Int32) + (1 : Int32)) = (3 : Int32))]
  show Rest p.tables e below s _ _ _ (T6.setTop (mkF m 38 #[.val (.ref a0), .val (.int (3 : Int32)), .val (.ref a2), .val (.int (3 : Int32)), .val (.int (7 : Int32)), .val (.int (2 : Int32)), .val (.int cc)] []))
  refine Rest.via (fun t k => XS.iinc X6.here hx rfl (hb hby d5_38) rfl (l' := #[.val (.ref a0), .val (.int (3 : Int32)), .val (.ref a2), .val (.int (3 : Int32)), .val (.int (7 : Int32)), .val (.int ((2 : Int32) + (1 : Int32))), .val (.int cc)]) rfl k) ?_
  show Rest p.tables e below s _ _ _ (T6.setTop (mkF m 41 #[.val (.ref a0), .val (.int (3 : Int32)), .val (.ref a2), .val (.int (3 : Int32)), .val (.int (7 : Int32)), .val (.int ((2 : Int32) + (1 : Int32))), .val (.int cc)] []))
  rw [(by decide : ((2 : Int32) + (1 : Int32)) = (3 : Int32))]
  show Rest p.tables e below s _ _ _ (T6.setTop (mkF m 41 #[.val (.ref a0), .val (.int (3 : Int32)), .val (.ref a2), .val (.int (3 : Int32)), .val (.int (7 : Int32)), .val (.int (3 : Int32)), .val (.int cc)] []))
  refine Rest.via (fun t k => XS.goto X6.here hx rfl (pc0 := 41) (pc' := 3) rfl (hb hby d5_41) (by decide) (by decide) k) ?_
  show Rest p.tables e below s _ _ _ (T6.setTop (mkF m 3 #[.val (.ref a0), .val (.int (3 : Int32)), .val (.ref a2), .val (.int (3 : Int32)), .val (.int (7 : Int32)), .val (.int (3 : Int32)), .val (.int cc)] []))
  refine Rest.via (fun t k => XS.iload X6.here hx rfl (hb hby d5_3) rfl k) ?_
  show Rest p.tables e below s _ _ _ (T6.setTop (mkF m 5 #[.val (.ref a0), .val (.int (3 : Int32)), .val (.ref a2), .val (.int (3 : Int32)), .val (.int (7 : Int32)), .val (.int (3 : Int32)), .val (.int cc)] [(.int (3 : Int32))]))
  refine Rest.via (fun t k => XS.iload X6.here hx rfl (hb hby d5_5) rfl k) ?_
  show Rest p.tables e below s _ _ _ (T6.setTop (mkF m 7 #[.val (.ref a0), .val (.int (3 : Int32)), .val (.ref a2), .val (.int (3 : Int32)), .val (.int (7 : Int32)), .val (.int (3 : Int32)), .val (.int cc)] [(.int (7 : Int32)), (.int (3 : Int32))]))
  refine Rest.via (fun t k => XS.icmpNo X6.here hx rfl (hb hby d5_7) rfl (tlt (by decide : (3 : Int32) < (7 : Int32))).2.1 k) ?_
  show Rest p.tables e below s _ _ _ (T6.setTop (mkF m 10 #[.val (.ref a0), .val (.int (3 : Int32)), .val (.ref a2), .val (.int (3 : Int32)), .val (.int (7 : Int32)), .val (.int (3 : Int32)), .val (.int cc)] []))
  refine Rest.via (fun t k => XS.aloadN X6.here hx rfl (hb hby d5_10) rfl rfl k) ?_
  show Rest p.tables e below s _ _ _ (T6.setTop (mkF m 11 #[.val (.ref a0), .val (.int (3 : Int32)), .val (.ref a2), .val (.int (3 : Int32)), .val (.int (7 : Int32)), .val (.int (3 : Int32)), .val (.int cc)] [(.ref a0)]))
  refine Rest.via (fun t k => XS.iloadN X6.here hx rfl (hb hby d5_11) rfl k) ?_
  show Rest p.tables e below s _ _ _ (T6.setTop (mkF m 12 #[.val (.ref a0), .val (.int (3 : Int32)), .val (.ref a2), .val (.int (3 : Int32)), .val (.int (7 : Int32)), .val (.int (3 : Int32)), .val (.int cc)] [(.int (3 : Int32)), (.ref a0)]))
  obtain ⟨cl7, Ar7, qa7, Sa7, Pa7, Ha7, Ga7⟩ := id (((V0.other W2 n02).other W4 n02).other W6 n02)
  have hin7 := inb_of (j := (3 : Int32)) Sa7 ⟨by decide, by decide⟩
  have hat7 : cl7.slots[((3 : Int32)).toNatClampNeg]? = some (.int cd) := Has.at Ha7 hin7 rfl
  refine Rest.via (fun t k => X6.caload hx (j := (3 : Int32)) (v := (.int cd)) (by rw [e6]; exact Ar7.1) (State.isArrayOf_alike hZ.alike Ar7.2.1) Ar7.2.2 hin7 hat7 (g := (mkF m 12 #[.val (.ref a0), .val (.int (3 : Int32)), .val (.ref a2), .val (.int (3 : Int32)), .val (.int (7 : Int32)), .val (.int (3 : Int32)), .val (.int cc)] [(.int (3 : Int32)), (.ref a0)])) rfl rfl (hb hby d5_12) t k) ?_
  show Rest p.tables e below s _ _ _ (T6.setTop (mkF m 13 #[.val (.ref a0), .val (.int (3 : Int32)), .val (.ref a2), .val (.int (3 : Int32)), .val (.int (7 : Int32)), .val (.int (3 : Int32)), .val (.int cc)] [(.int cd)]))
  refine Rest.via (fun t k => XS.istore X6.here hx rfl (hb hby d5_13) rfl (l' := #[.val (.ref a0), .val (.int (3 : Int32)), .val (.ref a2), .val (.int (3 : Int32)), .val (.int (7 : Int32)), .val (.int (3 : Int32)), .val (.int cd)]) rfl k) ?_
  show Rest p.tables e below s _ _ _ (T6.setTop (mkF m 15 #[.val (.ref a0), .val (.int (3 : Int32)), .val (.ref a2), .val (.int (3 : Int32)), .val (.int (7 : Int32)), .val (.int (3 : Int32)), .val (.int cd)] []))
  refine Rest.via (fun t k => XS.iload X6.here hx rfl (hb hby d5_15) rfl k) ?_
  show Rest p.tables e below s _ _ _ (T6.setTop (mkF m 17 #[.val (.ref a0), .val (.int (3 : Int32)), .val (.ref a2), .val (.int (3 : Int32)), .val (.int (7 : Int32)), .val (.int (3 : Int32)), .val (.int cd)] [(.int cd)]))
  refine Rest.via (fun t k => XS.sipush X6.here hx rfl (hb hby d5_17) k) ?_
  show Rest p.tables e below s _ _ _ (T6.setTop (mkF m 20 #[.val (.ref a0), .val (.int (3 : Int32)), .val (.ref a2), .val (.int (3 : Int32)), .val (.int (7 : Int32)), .val (.int (3 : Int32)), .val (.int cd)] [(.int (255 : Int32)), (.int cd)]))
  refine Rest.via (fun t k => XS.icmpYes X6.here hx rfl (pc0 := 20) (pc' := 26) rfl (hb hby d5_20) rfl (flt (hcd : ¬ ((255 : Int32) < cd))).2.2.2 (by decide) (by decide) k) ?_
  show Rest p.tables e below s _ _ _ (T6.setTop (mkF m 26 #[.val (.ref a0), .val (.int (3 : Int32)), .val (.ref a2), .val (.int (3 : Int32)), .val (.int (7 : Int32)), .val (.int (3 : Int32)), .val (.int cd)] []))
  refine Rest.via (fun t k => XS.aloadN X6.here hx rfl (hb hby d5_26) rfl rfl k) ?_
  show Rest p.tables e below s _ _ _ (T6.setTop (mkF m 27 #[.val (.ref a0), .val (.int (3 : Int32)), .val (.ref a2), .val (.int (3 : Int32)), .val (.int (7 : Int32)), .val (.int (3 : Int32)), .val (.int cd)] [(.ref a2)]))
  refine Rest.via (fun t k => XS.iloadN X6.here hx rfl (hb hby d5_27) rfl k) ?_
  show Rest p.tables e below s _ _ _ (T6.setTop (mkF m 28 #[.val (.ref a0), .val (.int (3 : Int32)), .val (.ref a2), .val (.int (3 : Int32)), .val (.int (7 : Int32)), .val (.int (3 : Int32)), .val (.int cd)] [(.int (3 : Int32)), (.ref a2)]))
  refine Rest.via (fun t k => XS.iload X6.here hx rfl (hb hby d5_28) rfl k) ?_
  show Rest p.tables e below s _ _ _ (T6.setTop (mkF m 30 #[.val (.ref a0), .val (.int (3 : Int32)), .val (.ref a2), .val (.int (3 : Int32)), .val (.int (7 : Int32)), .val (.int (3 : Int32)), .val (.int cd)] [(.int cd), (.int (3 : Int32)), (.ref a2)]))
  refine Rest.via (fun t k => XS.i2b X6.here hx rfl (hb hby d5_30) rfl k) ?_
  show Rest p.tables e below s _ _ _ (T6.setTop (mkF m 31 #[.val (.ref a0), .val (.int (3 : Int32)), .val (.ref a2), .val (.int (3 : Int32)), .val (.int (7 : Int32)), .val (.int (3 : Int32)), .val (.int cd)] [(.int (cd.toInt8.toInt32)), (.int (3 : Int32)), (.ref a2)]))
  obtain ⟨cl8, Ar8, qa8, Sa8, Pa8, Ha8, Ga8⟩ := id V6
  have hin8 := inb_of (j := (3 : Int32)) Sa8 ⟨by decide, by decide⟩
  obtain ⟨T8, h8, X8, e8, W8, st8⟩ := stB X6 hx hZ e6 Ar8 (j := (3 : Int32)) hin8 (g := (mkF m 31 #[.val (.ref a0), .val (.int (3 : Int32)), .val (.ref a2), .val (.int (3 : Int32)), .val (.int (7 : Int32)), .val (.int (3 : Int32)), .val (.int cd)] [(.int (cd.toInt8.toInt32)), (.int (3 : Int32)), (.ref a2)])) rfl rfl (hb hby d5_31)
  refine Rest.via (fun t k => st8 t k) ?_
  have N8 := Fr.snoc X8 N6 g_a2
  have K8 : Keep h0 h8 [a2] := K6.wr W8 (Or.inl (List.mem_of_getElem? (i := 0) rfl))
  have V8 : Arv Z h8 a2 kb .byte (7 : Int32) [(.int (own_by ca)), (.int (own_by cb)), (.int (own_by cc)), (.int (own_by cd)), (.int (0 : Int32)), (.int (0 : Int32)), (.int (0 : Int32))] (.int (0 : Int32)) := by have q := Arv.set Ar8 qa8 Sa8 Pa8 Ha8 Ga8 (fits_nar_byte _) W8 3 rfl (Nat.le_of_ble_eq_true rfl); rw [own_by_nar] at q; exact q
  show Rest p.tables e below s _ _ _ (T8.setTop (mkF m 32 #[.val (.ref a0), .val (.int (3 : Int32)), .val (.ref a2), .val (.int (3 : Int32)), .val (.int (7 : Int32)), .val (.int (3 : Int32)), .val (.int cd)] []))
  refine Rest.via (fun t k => XS.iinc X8.here hx rfl (hb hby d5_32) rfl (l' := #[.val (.ref a0), .val (.int ((3 : Int32) + (1 : Int32))), .val (.ref a2), .val (.int (3 : Int32)), .val (.int (7 : Int32)), .val (.int (3 : Int32)), .val (.int cd)]) rfl k) ?_
  show Rest p.tables e below s _ _ _ (T8.setTop (mkF m 35 #[.val (.ref a0), .val (.int ((3 : Int32) + (1 : Int32))), .val (.ref a2), .val (.int (3 : Int32)), .val (.int (7 : Int32)), .val (.int (3 : Int32)), .val (.int cd)] []))
  rw [(by decide : ((3 : Int32) + (1 : Int32)) = (4 : Int32))]
  show Rest p.tables e below s _ _ _ (T8.setTop (mkF m 35 #[.val (.ref a0), .val (.int (4 : Int32)), .val (.ref a2), .val (.int (3 : Int32)), .val (.int (7 : Int32)), .val (.int (3 : Int32)), .val (.int cd)] []))
  refine Rest.via (fun t k => XS.iinc X8.here hx rfl (hb hby d5_35) rfl (l' := #[.val (.ref a0), .val (.int (4 : Int32)), .val (.ref a2), .val (.int ((3 : Int32) + (1 : Int32))), .val (.int (7 : Int32)), .val (.int (3 : Int32)), .val (.int cd)]) rfl k) ?_
  show Rest p.tables e below s _ _ _ (T8.setTop (mkF m 38 #[.val (.ref a0), .val (.int (4 : Int32)), .val (.ref a2), .val (.int ((3 : Int32) + (1 : Int32))), .val (.int (7 : Int32)), .val (.int (3 : Int32)), .val (.int cd)] []))
  rw [(by decide : ((3 : Int32) + (1 : Int32)) = (4 : Int32))]
  show Rest p.tables e below s _ _ _ (T8.setTop (mkF m 38 #[.val (.ref a0), .val (.int (4 : Int32)), .val (.ref a2), .val (.int (4 : Int32)), .val (.int (7 : Int32)), .val (.int (3 : Int32)), .val (.int cd)] []))
  refine Rest.via (fun t k => XS.iinc X8.here hx rfl (hb hby d5_38) rfl (l' := #[.val (.ref a0), .val (.int (4 : Int32)), .val (.ref a2), .val (.int (4 : Int32)), .val (.int (7 : Int32)), .val (.int ((3 : Int32) + (1 : Int32))), .val (.int cd)]) rfl k) ?_
  show Rest p.tables e below s _ _ _ (T8.setTop (mkF m 41 #[.val (.ref a0), .val (.int (4 : Int32)), .val (.ref a2), .val (.int (4 : Int32)), .val (.int (7 : Int32)), .val (.int ((3 : Int32) + (1 : Int32))), .val (.int cd)] []))
  rw [(by decide : ((3 : Int32) + (1 : Int32)) = (4 : Int32))]
  show Rest p.tables e below s _ _ _ (T8.setTop (mkF m 41 #[.val (.ref a0), .val (.int (4 : Int32)), .val (.ref a2), .val (.int (4 : Int32)), .val (.int (7 : Int32)), .val (.int (4 : Int32)), .val (.int cd)] []))
  refine Rest.via (fun t k => XS.goto X8.here hx rfl (pc0 := 41) (pc' := 3) rfl (hb hby d5_41) (by decide) (by decide) k) ?_
  show Rest p.tables e below s _ _ _ (T8.setTop (mkF m 3 #[.val (.ref a0), .val (.int (4 : Int32)), .val (.ref a2), .val (.int (4 : Int32)), .val (.int (7 : Int32)), .val (.int (4 : Int32)), .val (.int cd)] []))
  refine Rest.via (fun t k => XS.iload X8.here hx rfl (hb hby d5_3) rfl k) ?_
  show Rest p.tables e below s _ _ _ (T8.setTop (mkF m 5 #[.val (.ref a0), .val (.int (4 : Int32)), .val (.ref a2), .val (.int (4 : Int32)), .val (.int (7 : Int32)), .val (.int (4 : Int32)), .val (.int cd)] [(.int (4 : Int32))]))
  refine Rest.via (fun t k => XS.iload X8.here hx rfl (hb hby d5_5) rfl k) ?_
  show Rest p.tables e below s _ _ _ (T8.setTop (mkF m 7 #[.val (.ref a0), .val (.int (4 : Int32)), .val (.ref a2), .val (.int (4 : Int32)), .val (.int (7 : Int32)), .val (.int (4 : Int32)), .val (.int cd)] [(.int (7 : Int32)), (.int (4 : Int32))]))
  refine Rest.via (fun t k => XS.icmpNo X8.here hx rfl (hb hby d5_7) rfl (tlt (by decide : (4 : Int32) < (7 : Int32))).2.1 k) ?_
  show Rest p.tables e below s _ _ _ (T8.setTop (mkF m 10 #[.val (.ref a0), .val (.int (4 : Int32)), .val (.ref a2), .val (.int (4 : Int32)), .val (.int (7 : Int32)), .val (.int (4 : Int32)), .val (.int cd)] []))
  refine Rest.via (fun t k => XS.aloadN X8.here hx rfl (hb hby d5_10) rfl rfl k) ?_
  show Rest p.tables e below s _ _ _ (T8.setTop (mkF m 11 #[.val (.ref a0), .val (.int (4 : Int32)), .val (.ref a2), .val (.int (4 : Int32)), .val (.int (7 : Int32)), .val (.int (4 : Int32)), .val (.int cd)] [(.ref a0)]))
  refine Rest.via (fun t k => XS.iloadN X8.here hx rfl (hb hby d5_11) rfl k) ?_
  show Rest p.tables e below s _ _ _ (T8.setTop (mkF m 12 #[.val (.ref a0), .val (.int (4 : Int32)), .val (.ref a2), .val (.int (4 : Int32)), .val (.int (7 : Int32)), .val (.int (4 : Int32)), .val (.int cd)] [(.int (4 : Int32)), (.ref a0)]))
  obtain ⟨cl9, Ar9, qa9, Sa9, Pa9, Ha9, Ga9⟩ := id ((((V0.other W2 n02).other W4 n02).other W6 n02).other W8 n02)
  have hin9 := inb_of (j := (4 : Int32)) Sa9 ⟨by decide, by decide⟩
  have hat9 : cl9.slots[((4 : Int32)).toNatClampNeg]? = some (.int ce) := Has.at Ha9 hin9 rfl
  refine Rest.via (fun t k => X8.caload hx (j := (4 : Int32)) (v := (.int ce)) (by rw [e8]; exact Ar9.1) (State.isArrayOf_alike hZ.alike Ar9.2.1) Ar9.2.2 hin9 hat9 (g := (mkF m 12 #[.val (.ref a0), .val (.int (4 : Int32)), .val (.ref a2), .val (.int (4 : Int32)), .val (.int (7 : Int32)), .val (.int (4 : Int32)), .val (.int cd)] [(.int (4 : Int32)), (.ref a0)])) rfl rfl (hb hby d5_12) t k) ?_
  show Rest p.tables e below s _ _ _ (T8.setTop (mkF m 13 #[.val (.ref a0), .val (.int (4 : Int32)), .val (.ref a2), .val (.int (4 : Int32)), .val (.int (7 : Int32)), .val (.int (4 : Int32)), .val (.int cd)] [(.int ce)]))
  refine Rest.via (fun t k => XS.istore X8.here hx rfl (hb hby d5_13) rfl (l' := #[.val (.ref a0), .val (.int (4 : Int32)), .val (.ref a2), .val (.int (4 : Int32)), .val (.int (7 : Int32)), .val (.int (4 : Int32)), .val (.int ce)]) rfl k) ?_
  show Rest p.tables e below s _ _ _ (T8.setTop (mkF m 15 #[.val (.ref a0), .val (.int (4 : Int32)), .val (.ref a2), .val (.int (4 : Int32)), .val (.int (7 : Int32)), .val (.int (4 : Int32)), .val (.int ce)] []))
  refine Rest.via (fun t k => XS.iload X8.here hx rfl (hb hby d5_15) rfl k) ?_
  show Rest p.tables e below s _ _ _ (T8.setTop (mkF m 17 #[.val (.ref a0), .val (.int (4 : Int32)), .val (.ref a2), .val (.int (4 : Int32)), .val (.int (7 : Int32)), .val (.int (4 : Int32)), .val (.int ce)] [(.int ce)]))
  refine Rest.via (fun t k => XS.sipush X8.here hx rfl (hb hby d5_17) k) ?_
  show Rest p.tables e below s _ _ _ (T8.setTop (mkF m 20 #[.val (.ref a0), .val (.int (4 : Int32)), .val (.ref a2), .val (.int (4 : Int32)), .val (.int (7 : Int32)), .val (.int (4 : Int32)), .val (.int ce)] [(.int (255 : Int32)), (.int ce)]))
  refine Rest.via (fun t k => XS.icmpYes X8.here hx rfl (pc0 := 20) (pc' := 26) rfl (hb hby d5_20) rfl (flt (hce : ¬ ((255 : Int32) < ce))).2.2.2 (by decide) (by decide) k) ?_
  show Rest p.tables e below s _ _ _ (T8.setTop (mkF m 26 #[.val (.ref a0), .val (.int (4 : Int32)), .val (.ref a2), .val (.int (4 : Int32)), .val (.int (7 : Int32)), .val (.int (4 : Int32)), .val (.int ce)] []))
  refine Rest.via (fun t k => XS.aloadN X8.here hx rfl (hb hby d5_26) rfl rfl k) ?_
  show Rest p.tables e below s _ _ _ (T8.setTop (mkF m 27 #[.val (.ref a0), .val (.int (4 : Int32)), .val (.ref a2), .val (.int (4 : Int32)), .val (.int (7 : Int32)), .val (.int (4 : Int32)), .val (.int ce)] [(.ref a2)]))
  refine Rest.via (fun t k => XS.iloadN X8.here hx rfl (hb hby d5_27) rfl k) ?_
  show Rest p.tables e below s _ _ _ (T8.setTop (mkF m 28 #[.val (.ref a0), .val (.int (4 : Int32)), .val (.ref a2), .val (.int (4 : Int32)), .val (.int (7 : Int32)), .val (.int (4 : Int32)), .val (.int ce)] [(.int (4 : Int32)), (.ref a2)]))
  refine Rest.via (fun t k => XS.iload X8.here hx rfl (hb hby d5_28) rfl k) ?_
  show Rest p.tables e below s _ _ _ (T8.setTop (mkF m 30 #[.val (.ref a0), .val (.int (4 : Int32)), .val (.ref a2), .val (.int (4 : Int32)), .val (.int (7 : Int32)), .val (.int (4 : Int32)), .val (.int ce)] [(.int ce), (.int (4 : Int32)), (.ref a2)]))
  refine Rest.via (fun t k => XS.i2b X8.here hx rfl (hb hby d5_30) rfl k) ?_
  show Rest p.tables e below s _ _ _ (T8.setTop (mkF m 31 #[.val (.ref a0), .val (.int (4 : Int32)), .val (.ref a2), .val (.int (4 : Int32)), .val (.int (7 : Int32)), .val (.int (4 : Int32)), .val (.int ce)] [(.int (ce.toInt8.toInt32)), (.int (4 : Int32)), (.ref a2)]))
  obtain ⟨cl10, Ar10, qa10, Sa10, Pa10, Ha10, Ga10⟩ := id V8
  have hin10 := inb_of (j := (4 : Int32)) Sa10 ⟨by decide, by decide⟩
  obtain ⟨T10, h10, X10, e10, W10, st10⟩ := stB X8 hx hZ e8 Ar10 (j := (4 : Int32)) hin10 (g := (mkF m 31 #[.val (.ref a0), .val (.int (4 : Int32)), .val (.ref a2), .val (.int (4 : Int32)), .val (.int (7 : Int32)), .val (.int (4 : Int32)), .val (.int ce)] [(.int (ce.toInt8.toInt32)), (.int (4 : Int32)), (.ref a2)])) rfl rfl (hb hby d5_31)
  refine Rest.via (fun t k => st10 t k) ?_
  have N10 := Fr.snoc X10 N8 g_a2
  have K10 : Keep h0 h10 [a2] := K8.wr W10 (Or.inl (List.mem_of_getElem? (i := 0) rfl))
  have V10 : Arv Z h10 a2 kb .byte (7 : Int32) [(.int (own_by ca)), (.int (own_by cb)), (.int (own_by cc)), (.int (own_by cd)), (.int (own_by ce)), (.int (0 : Int32)), (.int (0 : Int32))] (.int (0 : Int32)) := by have q := Arv.set Ar10 qa10 Sa10 Pa10 Ha10 Ga10 (fits_nar_byte _) W10 4 rfl (Nat.le_of_ble_eq_true rfl); rw [own_by_nar] at q; exact q
  show Rest p.tables e below s _ _ _ (T10.setTop (mkF m 32 #[.val (.ref a0), .val (.int (4 : Int32)), .val (.ref a2), .val (.int (4 : Int32)), .val (.int (7 : Int32)), .val (.int (4 : Int32)), .val (.int ce)] []))
  refine Rest.via (fun t k => XS.iinc X10.here hx rfl (hb hby d5_32) rfl (l' := #[.val (.ref a0), .val (.int ((4 : Int32) + (1 : Int32))), .val (.ref a2), .val (.int (4 : Int32)), .val (.int (7 : Int32)), .val (.int (4 : Int32)), .val (.int ce)]) rfl k) ?_
  show Rest p.tables e below s _ _ _ (T10.setTop (mkF m 35 #[.val (.ref a0), .val (.int ((4 : Int32) + (1 : Int32))), .val (.ref a2), .val (.int (4 : Int32)), .val (.int (7 : Int32)), .val (.int (4 : Int32)), .val (.int ce)] []))
  rw [(by decide : ((4 : Int32) + (1 : Int32)) = (5 : Int32))]
  show Rest p.tables e below s _ _ _ (T10.setTop (mkF m 35 #[.val (.ref a0), .val (.int (5 : Int32)), .val (.ref a2), .val (.int (4 : Int32)), .val (.int (7 : Int32)), .val (.int (4 : Int32)), .val (.int ce)] []))
  refine Rest.via (fun t k => XS.iinc X10.here hx rfl (hb hby d5_35) rfl (l' := #[.val (.ref a0), .val (.int (5 : Int32)), .val (.ref a2), .val (.int ((4 : Int32) + (1 : Int32))), .val (.int (7 : Int32)), .val (.int (4 : Int32)), .val (.int ce)]) rfl k) ?_
  show Rest p.tables e below s _ _ _ (T10.setTop (mkF m 38 #[.val (.ref a0), .val (.int (5 : Int32)), .val (.ref a2), .val (.int ((4 : Int32) + (1 : Int32))), .val (.int (7 : Int32)), .val (.int (4 : Int32)), .val (.int ce)] []))
  rw [(by decide : ((4 : Int32) + (1 : Int32)) = (5 : Int32))]
  show Rest p.tables e below s _ _ _ (T10.setTop (mkF m 38 #[.val (.ref a0), .val (.int (5 : Int32)), .val (.ref a2), .val (.int (5 : Int32)), .val (.int (7 : Int32)), .val (.int (4 : Int32)), .val (.int ce)] []))
  refine Rest.via (fun t k => XS.iinc X10.here hx rfl (hb hby d5_38) rfl (l' := #[.val (.ref a0), .val (.int (5 : Int32)), .val (.ref a2), .val (.int (5 : Int32)), .val (.int (7 : Int32)), .val (.int ((4 : Int32) + (1 : Int32))), .val (.int ce)]) rfl k) ?_
  show Rest p.tables e below s _ _ _ (T10.setTop (mkF m 41 #[.val (.ref a0), .val (.int (5 : Int32)), .val (.ref a2), .val (.int (5 : Int32)), .val (.int (7 : Int32)), .val (.int ((4 : Int32) + (1 : Int32))), .val (.int ce)] []))
  rw [(by decide : ((4 : Int32) + (1 : Int32)) = (5 : Int32))]
  show Rest p.tables e below s _ _ _ (T10.setTop (mkF m 41 #[.val (.ref a0), .val (.int (5 : Int32)), .val (.ref a2), .val (.int (5 : Int32)), .val (.int (7 : Int32)), .val (.int (5 : Int32)), .val (.int ce)] []))
  refine Rest.via (fun t k => XS.goto X10.here hx rfl (pc0 := 41) (pc' := 3) rfl (hb hby d5_41) (by decide) (by decide) k) ?_
  show Rest p.tables e below s _ _ _ (T10.setTop (mkF m 3 #[.val (.ref a0), .val (.int (5 : Int32)), .val (.ref a2), .val (.int (5 : Int32)), .val (.int (7 : Int32)), .val (.int (5 : Int32)), .val (.int ce)] []))
  refine Rest.via (fun t k => XS.iload X10.here hx rfl (hb hby d5_3) rfl k) ?_
  show Rest p.tables e below s _ _ _ (T10.setTop (mkF m 5 #[.val (.ref a0), .val (.int (5 : Int32)), .val (.ref a2), .val (.int (5 : Int32)), .val (.int (7 : Int32)), .val (.int (5 : Int32)), .val (.int ce)] [(.int (5 : Int32))]))
  refine Rest.via (fun t k => XS.iload X10.here hx rfl (hb hby d5_5) rfl k) ?_
  show Rest p.tables e below s _ _ _ (T10.setTop (mkF m 7 #[.val (.ref a0), .val (.int (5 : Int32)), .val (.ref a2), .val (.int (5 : Int32)), .val (.int (7 : Int32)), .val (.int (5 : Int32)), .val (.int ce)] [(.int (7 : Int32)), (.int (5 : Int32))]))
  refine Rest.via (fun t k => XS.icmpNo X10.here hx rfl (hb hby d5_7) rfl (tlt (by decide : (5 : Int32) < (7 : Int32))).2.1 k) ?_
  show Rest p.tables e below s _ _ _ (T10.setTop (mkF m 10 #[.val (.ref a0), .val (.int (5 : Int32)), .val (.ref a2), .val (.int (5 : Int32)), .val (.int (7 : Int32)), .val (.int (5 : Int32)), .val (.int ce)] []))
  refine Rest.via (fun t k => XS.aloadN X10.here hx rfl (hb hby d5_10) rfl rfl k) ?_
  show Rest p.tables e below s _ _ _ (T10.setTop (mkF m 11 #[.val (.ref a0), .val (.int (5 : Int32)), .val (.ref a2), .val (.int (5 : Int32)), .val (.int (7 : Int32)), .val (.int (5 : Int32)), .val (.int ce)] [(.ref a0)]))
  refine Rest.via (fun t k => XS.iloadN X10.here hx rfl (hb hby d5_11) rfl k) ?_
  show Rest p.tables e below s _ _ _ (T10.setTop (mkF m 12 #[.val (.ref a0), .val (.int (5 : Int32)), .val (.ref a2), .val (.int (5 : Int32)), .val (.int (7 : Int32)), .val (.int (5 : Int32)), .val (.int ce)] [(.int (5 : Int32)), (.ref a0)]))
  obtain ⟨cl11, Ar11, qa11, Sa11, Pa11, Ha11, Ga11⟩ := id (((((V0.other W2 n02).other W4 n02).other W6 n02).other W8 n02).other W10 n02)
  have hin11 := inb_of (j := (5 : Int32)) Sa11 ⟨by decide, by decide⟩
  have hat11 : cl11.slots[((5 : Int32)).toNatClampNeg]? = some (.int cf) := Has.at Ha11 hin11 rfl
  refine Rest.via (fun t k => X10.caload hx (j := (5 : Int32)) (v := (.int cf)) (by rw [e10]; exact Ar11.1) (State.isArrayOf_alike hZ.alike Ar11.2.1) Ar11.2.2 hin11 hat11 (g := (mkF m 12 #[.val (.ref a0), .val (.int (5 : Int32)), .val (.ref a2), .val (.int (5 : Int32)), .val (.int (7 : Int32)), .val (.int (5 : Int32)), .val (.int ce)] [(.int (5 : Int32)), (.ref a0)])) rfl rfl (hb hby d5_12) t k) ?_
  show Rest p.tables e below s _ _ _ (T10.setTop (mkF m 13 #[.val (.ref a0), .val (.int (5 : Int32)), .val (.ref a2), .val (.int (5 : Int32)), .val (.int (7 : Int32)), .val (.int (5 : Int32)), .val (.int ce)] [(.int cf)]))
  refine Rest.via (fun t k => XS.istore X10.here hx rfl (hb hby d5_13) rfl (l' := #[.val (.ref a0), .val (.int (5 : Int32)), .val (.ref a2), .val (.int (5 : Int32)), .val (.int (7 : Int32)), .val (.int (5 : Int32)), .val (.int cf)]) rfl k) ?_
  show Rest p.tables e below s _ _ _ (T10.setTop (mkF m 15 #[.val (.ref a0), .val (.int (5 : Int32)), .val (.ref a2), .val (.int (5 : Int32)), .val (.int (7 : Int32)), .val (.int (5 : Int32)), .val (.int cf)] []))
  refine Rest.via (fun t k => XS.iload X10.here hx rfl (hb hby d5_15) rfl k) ?_
  show Rest p.tables e below s _ _ _ (T10.setTop (mkF m 17 #[.val (.ref a0), .val (.int (5 : Int32)), .val (.ref a2), .val (.int (5 : Int32)), .val (.int (7 : Int32)), .val (.int (5 : Int32)), .val (.int cf)] [(.int cf)]))
  refine Rest.via (fun t k => XS.sipush X10.here hx rfl (hb hby d5_17) k) ?_
  show Rest p.tables e below s _ _ _ (T10.setTop (mkF m 20 #[.val (.ref a0), .val (.int (5 : Int32)), .val (.ref a2), .val (.int (5 : Int32)), .val (.int (7 : Int32)), .val (.int (5 : Int32)), .val (.int cf)] [(.int (255 : Int32)), (.int cf)]))
  refine Rest.via (fun t k => XS.icmpYes X10.here hx rfl (pc0 := 20) (pc' := 26) rfl (hb hby d5_20) rfl (flt (hcf : ¬ ((255 : Int32) < cf))).2.2.2 (by decide) (by decide) k) ?_
  show Rest p.tables e below s _ _ _ (T10.setTop (mkF m 26 #[.val (.ref a0), .val (.int (5 : Int32)), .val (.ref a2), .val (.int (5 : Int32)), .val (.int (7 : Int32)), .val (.int (5 : Int32)), .val (.int cf)] []))
  refine Rest.via (fun t k => XS.aloadN X10.here hx rfl (hb hby d5_26) rfl rfl k) ?_
  show Rest p.tables e below s _ _ _ (T10.setTop (mkF m 27 #[.val (.ref a0), .val (.int (5 : Int32)), .val (.ref a2), .val (.int (5 : Int32)), .val (.int (7 : Int32)), .val (.int (5 : Int32)), .val (.int cf)] [(.ref a2)]))
  refine Rest.via (fun t k => XS.iloadN X10.here hx rfl (hb hby d5_27) rfl k) ?_
  show Rest p.tables e below s _ _ _ (T10.setTop (mkF m 28 #[.val (.ref a0), .val (.int (5 : Int32)), .val (.ref a2), .val (.int (5 : Int32)), .val (.int (7 : Int32)), .val (.int (5 : Int32)), .val (.int cf)] [(.int (5 : Int32)), (.ref a2)]))
  refine Rest.via (fun t k => XS.iload X10.here hx rfl (hb hby d5_28) rfl k) ?_
  show Rest p.tables e below s _ _ _ (T10.setTop (mkF m 30 #[.val (.ref a0), .val (.int (5 : Int32)), .val (.ref a2), .val (.int (5 : Int32)), .val (.int (7 : Int32)), .val (.int (5 : Int32)), .val (.int cf)] [(.int cf), (.int (5 : Int32)), (.ref a2)]))
  refine Rest.via (fun t k => XS.i2b X10.here hx rfl (hb hby d5_30) rfl k) ?_
  show Rest p.tables e below s _ _ _ (T10.setTop (mkF m 31 #[.val (.ref a0), .val (.int (5 : Int32)), .val (.ref a2), .val (.int (5 : Int32)), .val (.int (7 : Int32)), .val (.int (5 : Int32)), .val (.int cf)] [(.int (cf.toInt8.toInt32)), (.int (5 : Int32)), (.ref a2)]))
  obtain ⟨cl12, Ar12, qa12, Sa12, Pa12, Ha12, Ga12⟩ := id V10
  have hin12 := inb_of (j := (5 : Int32)) Sa12 ⟨by decide, by decide⟩
  obtain ⟨T12, h12, X12, e12, W12, st12⟩ := stB X10 hx hZ e10 Ar12 (j := (5 : Int32)) hin12 (g := (mkF m 31 #[.val (.ref a0), .val (.int (5 : Int32)), .val (.ref a2), .val (.int (5 : Int32)), .val (.int (7 : Int32)), .val (.int (5 : Int32)), .val (.int cf)] [(.int (cf.toInt8.toInt32)), (.int (5 : Int32)), (.ref a2)])) rfl rfl (hb hby d5_31)
  refine Rest.via (fun t k => st12 t k) ?_
  have N12 := Fr.snoc X12 N10 g_a2
  have K12 : Keep h0 h12 [a2] := K10.wr W12 (Or.inl (List.mem_of_getElem? (i := 0) rfl))
  have V12 : Arv Z h12 a2 kb .byte (7 : Int32) [(.int (own_by ca)), (.int (own_by cb)), (.int (own_by cc)), (.int (own_by cd)), (.int (own_by ce)), (.int (own_by cf)), (.int (0 : Int32))] (.int (0 : Int32)) := by have q := Arv.set Ar12 qa12 Sa12 Pa12 Ha12 Ga12 (fits_nar_byte _) W12 5 rfl (Nat.le_of_ble_eq_true rfl); rw [own_by_nar] at q; exact q
  show Rest p.tables e below s _ _ _ (T12.setTop (mkF m 32 #[.val (.ref a0), .val (.int (5 : Int32)), .val (.ref a2), .val (.int (5 : Int32)), .val (.int (7 : Int32)), .val (.int (5 : Int32)), .val (.int cf)] []))
  refine Rest.via (fun t k => XS.iinc X12.here hx rfl (hb hby d5_32) rfl (l' := #[.val (.ref a0), .val (.int ((5 : Int32) + (1 : Int32))), .val (.ref a2), .val (.int (5 : Int32)), .val (.int (7 : Int32)), .val (.int (5 : Int32)), .val (.int cf)]) rfl k) ?_
  show Rest p.tables e below s _ _ _ (T12.setTop (mkF m 35 #[.val (.ref a0), .val (.int ((5 : Int32) + (1 : Int32))), .val (.ref a2), .val (.int (5 : Int32)), .val (.int (7 : Int32)), .val (.int (5 : Int32)), .val (.int cf)] []))
  rw [(by decide : ((5 : Int32) + (1 : Int32)) = (6 : Int32))]
  show Rest p.tables e below s _ _ _ (T12.setTop (mkF m 35 #[.val (.ref a0), .val (.int (6 : Int32)), .val (.ref a2), .val (.int (5 : Int32)), .val (.int (7 : Int32)), .val (.int (5 : Int32)), .val (.int cf)] []))
  refine Rest.via (fun t k => XS.iinc X12.here hx rfl (hb hby d5_35) rfl (l' := #[.val (.ref a0), .val (.int (6 : Int32)), .val (.ref a2), .val (.int ((5 : Int32) + (1 : Int32))), .val (.int (7 : Int32)), .val (.int (5 : Int32)), .val (.int cf)]) rfl k) ?_
  show Rest p.tables e below s _ _ _ (T12.setTop (mkF m 38 #[.val (.ref a0), .val (.int (6 : Int32)), .val (.ref a2), .val (.int ((5 : Int32) + (1 : Int32))), .val (.int (7 : Int32)), .val (.int (5 : Int32)), .val (.int cf)] []))
  rw [(by decide : ((5 : Int32) + (1 : Int32)) = (6 : Int32))]
  show Rest p.tables e below s _ _ _ (T12.setTop (mkF m 38 #[.val (.ref a0), .val (.int (6 : Int32)), .val (.ref a2), .val (.int (6 : Int32)), .val (.int (7 : Int32)), .val (.int (5 : Int32)), .val (.int cf)] []))
  refine Rest.via (fun t k => XS.iinc X12.here hx rfl (hb hby d5_38) rfl (l' := #[.val (.ref a0), .val (.int (6 : Int32)), .val (.ref a2), .val (.int (6 : Int32)), .val (.int (7 : Int32)), .val (.int ((5 : Int32) + (1 : Int32))), .val (.int cf)]) rfl k) ?_
  show Rest p.tables e below s _ _ _ (T12.setTop (mkF m 41 #[.val (.ref a0), .val (.int (6 : Int32)), .val (.ref a2), .val (.int (6 : Int32)), .val (.int (7 : Int32)), .val (.int ((5 : Int32) + (1 : Int32))), .val (.int cf)] []))
  rw [(by decide : ((5 : Int32) + (1 : Int32)) = (6 : Int32))]
  show Rest p.tables e below s _ _ _ (T12.setTop (mkF m 41 #[.val (.ref a0), .val (.int (6 : Int32)), .val (.ref a2), .val (.int (6 : Int32)), .val (.int (7 : Int32)), .val (.int (6 : Int32)), .val (.int cf)] []))
  refine Rest.via (fun t k => XS.goto X12.here hx rfl (pc0 := 41) (pc' := 3) rfl (hb hby d5_41) (by decide) (by decide) k) ?_
  show Rest p.tables e below s _ _ _ (T12.setTop (mkF m 3 #[.val (.ref a0), .val (.int (6 : Int32)), .val (.ref a2), .val (.int (6 : Int32)), .val (.int (7 : Int32)), .val (.int (6 : Int32)), .val (.int cf)] []))
  refine Rest.via (fun t k => XS.iload X12.here hx rfl (hb hby d5_3) rfl k) ?_
  show Rest p.tables e below s _ _ _ (T12.setTop (mkF m 5 #[.val (.ref a0), .val (.int (6 : Int32)), .val (.ref a2), .val (.int (6 : Int32)), .val (.int (7 : Int32)), .val (.int (6 : Int32)), .val (.int cf)] [(.int (6 : Int32))]))
  refine Rest.via (fun t k => XS.iload X12.here hx rfl (hb hby d5_5) rfl k) ?_
  show Rest p.tables e below s _ _ _ (T12.setTop (mkF m 7 #[.val (.ref a0), .val (.int (6 : Int32)), .val (.ref a2), .val (.int (6 : Int32)), .val (.int (7 : Int32)), .val (.int (6 : Int32)), .val (.int cf)] [(.int (7 : Int32)), (.int (6 : Int32))]))
  refine Rest.via (fun t k => XS.icmpNo X12.here hx rfl (hb hby d5_7) rfl (tlt (by decide : (6 : Int32) < (7 : Int32))).2.1 k) ?_
  show Rest p.tables e below s _ _ _ (T12.setTop (mkF m 10 #[.val (.ref a0), .val (.int (6 : Int32)), .val (.ref a2), .val (.int (6 : Int32)), .val (.int (7 : Int32)), .val (.int (6 : Int32)), .val (.int cf)] []))
  refine Rest.via (fun t k => XS.aloadN X12.here hx rfl (hb hby d5_10) rfl rfl k) ?_
  show Rest p.tables e below s _ _ _ (T12.setTop (mkF m 11 #[.val (.ref a0), .val (.int (6 : Int32)), .val (.ref a2), .val (.int (6 : Int32)), .val (.int (7 : Int32)), .val (.int (6 : Int32)), .val (.int cf)] [(.ref a0)]))
  refine Rest.via (fun t k => XS.iloadN X12.here hx rfl (hb hby d5_11) rfl k) ?_
  show Rest p.tables e below s _ _ _ (T12.setTop (mkF m 12 #[.val (.ref a0), .val (.int (6 : Int32)), .val (.ref a2), .val (.int (6 : Int32)), .val (.int (7 : Int32)), .val (.int (6 : Int32)), .val (.int cf)] [(.int (6 : Int32)), (.ref a0)]))
  obtain ⟨cl13, Ar13, qa13, Sa13, Pa13, Ha13, Ga13⟩ := id ((((((V0.other W2 n02).other W4 n02).other W6 n02).other W8 n02).other W10 n02).other W12 n02)
  have hin13 := inb_of (j := (6 : Int32)) Sa13 ⟨by decide, by decide⟩
  have hat13 : cl13.slots[((6 : Int32)).toNatClampNeg]? = some (.int cg) := Has.at Ha13 hin13 rfl
  refine Rest.via (fun t k => X12.caload hx (j := (6 : Int32)) (v := (.int cg)) (by rw [e12]; exact Ar13.1) (State.isArrayOf_alike hZ.alike Ar13.2.1) Ar13.2.2 hin13 hat13 (g := (mkF m 12 #[.val (.ref a0), .val (.int (6 : Int32)), .val (.ref a2), .val (.int (6 : Int32)), .val (.int (7 : Int32)), .val (.int (6 : Int32)), .val (.int cf)] [(.int (6 : Int32)), (.ref a0)])) rfl rfl (hb hby d5_12) t k) ?_
  show Rest p.tables e below s _ _ _ (T12.setTop (mkF m 13 #[.val (.ref a0), .val (.int (6 : Int32)), .val (.ref a2), .val (.int (6 : Int32)), .val (.int (7 : Int32)), .val (.int (6 : Int32)), .val (.int cf)] [(.int cg)]))
  refine Rest.via (fun t k => XS.istore X12.here hx rfl (hb hby d5_13) rfl (l' := #[.val (.ref a0), .val (.int (6 : Int32)), .val (.ref a2), .val (.int (6 : Int32)), .val (.int (7 : Int32)), .val (.int (6 : Int32)), .val (.int cg)]) rfl k) ?_
  show Rest p.tables e below s _ _ _ (T12.setTop (mkF m 15 #[.val (.ref a0), .val (.int (6 : Int32)), .val (.ref a2), .val (.int (6 : Int32)), .val (.int (7 : Int32)), .val (.int (6 : Int32)), .val (.int cg)] []))
  refine Rest.via (fun t k => XS.iload X12.here hx rfl (hb hby d5_15) rfl k) ?_
  show Rest p.tables e below s _ _ _ (T12.setTop (mkF m 17 #[.val (.ref a0), .val (.int (6 : Int32)), .val (.ref a2), .val (.int (6 : Int32)), .val (.int (7 : Int32)), .val (.int (6 : Int32)), .val (.int cg)] [(.int cg)]))
  refine Rest.via (fun t k => XS.sipush X12.here hx rfl (hb hby d5_17) k) ?_
  show Rest p.tables e below s _ _ _ (T12.setTop (mkF m 20 #[.val (.ref a0), .val (.int (6 : Int32)), .val (.ref a2), .val (.int (6 : Int32)), .val (.int (7 : Int32)), .val (.int (6 : Int32)), .val (.int cg)] [(.int (255 : Int32)), (.int cg)]))
  refine Rest.via (fun t k => XS.icmpYes X12.here hx rfl (pc0 := 20) (pc' := 26) rfl (hb hby d5_20) rfl (flt (hcg : ¬ ((255 : Int32) < cg))).2.2.2 (by decide) (by decide) k) ?_
  show Rest p.tables e below s _ _ _ (T12.setTop (mkF m 26 #[.val (.ref a0), .val (.int (6 : Int32)), .val (.ref a2), .val (.int (6 : Int32)), .val (.int (7 : Int32)), .val (.int (6 : Int32)), .val (.int cg)] []))
  refine Rest.via (fun t k => XS.aloadN X12.here hx rfl (hb hby d5_26) rfl rfl k) ?_
  show Rest p.tables e below s _ _ _ (T12.setTop (mkF m 27 #[.val (.ref a0), .val (.int (6 : Int32)), .val (.ref a2), .val (.int (6 : Int32)), .val (.int (7 : Int32)), .val (.int (6 : Int32)), .val (.int cg)] [(.ref a2)]))
  refine Rest.via (fun t k => XS.iloadN X12.here hx rfl (hb hby d5_27) rfl k) ?_
  show Rest p.tables e below s _ _ _ (T12.setTop (mkF m 28 #[.val (.ref a0), .val (.int (6 : Int32)), .val (.ref a2), .val (.int (6 : Int32)), .val (.int (7 : Int32)), .val (.int (6 : Int32)), .val (.int cg)] [(.int (6 : Int32)), (.ref a2)]))
  refine Rest.via (fun t k => XS.iload X12.here hx rfl (hb hby d5_28) rfl k) ?_
  show Rest p.tables e below s _ _ _ (T12.setTop (mkF m 30 #[.val (.ref a0), .val (.int (6 : Int32)), .val (.ref a2), .val (.int (6 : Int32)), .val (.int (7 : Int32)), .val (.int (6 : Int32)), .val (.int cg)] [(.int cg), (.int (6 : Int32)), (.ref a2)]))
  refine Rest.via (fun t k => XS.i2b X12.here hx rfl (hb hby d5_30) rfl k) ?_
  show Rest p.tables e below s _ _ _ (T12.setTop (mkF m 31 #[.val (.ref a0), .val (.int (6 : Int32)), .val (.ref a2), .val (.int (6 : Int32)), .val (.int (7 : Int32)), .val (.int (6 : Int32)), .val (.int cg)] [(.int (cg.toInt8.toInt32)), (.int (6 : Int32)), (.ref a2)]))
  obtain ⟨cl14, Ar14, qa14, Sa14, Pa14, Ha14, Ga14⟩ := id V12
  have hin14 := inb_of (j := (6 : Int32)) Sa14 ⟨by decide, by decide⟩
  obtain ⟨T14, h14, X14, e14, W14, st14⟩ := stB X12 hx hZ e12 Ar14 (j := (6 : Int32)) hin14 (g := (mkF m 31 #[.val (.ref a0), .val (.int (6 : Int32)), .val (.ref a2), .val (.int (6 : Int32)), .val (.int (7 : Int32)), .val (.int (6 : Int32)), .val (.int cg)] [(.int (cg.toInt8.toInt32)), (.int (6 : Int32)), (.ref a2)])) rfl rfl (hb hby d5_31)
  refine Rest.via (fun t k => st14 t k) ?_
  have N14 := Fr.snoc X14 N12 g_a2
  have K14 : Keep h0 h14 [a2] := K12.wr W14 (Or.inl (List.mem_of_getElem? (i := 0) rfl))
  have V14 : Arv Z h14 a2 kb .byte (7 : Int32) [(.int (own_by ca)), (.int (own_by cb)), (.int (own_by cc)), (.int (own_by cd)), (.int (own_by ce)), (.int (own_by cf)), (.int (own_by cg))] (.int (0 : Int32)) := by have q := Arv.set Ar14 qa14 Sa14 Pa14 Ha14 Ga14 (fits_nar_byte _) W14 6 rfl (Nat.le_of_ble_eq_true rfl); rw [own_by_nar] at q; exact q
  show Rest p.tables e below s _ _ _ (T14.setTop (mkF m 32 #[.val (.ref a0), .val (.int (6 : Int32)), .val (.ref a2), .val (.int (6 : Int32)), .val (.int (7 : Int32)), .val (.int (6 : Int32)), .val (.int cg)] []))
  refine Rest.via (fun t k => XS.iinc X14.here hx rfl (hb hby d5_32) rfl (l' := #[.val (.ref a0), .val (.int ((6 : Int32) + (1 : Int32))), .val (.ref a2), .val (.int (6 : Int32)), .val (.int (7 : Int32)), .val (.int (6 : Int32)), .val (.int cg)]) rfl k) ?_
  show Rest p.tables e below s _ _ _ (T14.setTop (mkF m 35 #[.val (.ref a0), .val (.int ((6 : Int32) + (1 : Int32))), .val (.ref a2), .val (.int (6 : Int32)), .val (.int (7 : Int32)), .val (.int (6 : Int32)), .val (.int cg)] []))
  rw [(by decide : ((6 : Int32) + (1 : Int32)) = (7 : Int32))]
  show Rest p.tables e below s _ _ _ (T14.setTop (mkF m 35 #[.val (.ref a0), .val (.int (7 : Int32)), .val (.ref a2), .val (.int (6 : Int32)), .val (.int (7 : Int32)), .val (.int (6 : Int32)), .val (.int cg)] []))
  refine Rest.via (fun t k => XS.iinc X14.here hx rfl (hb hby d5_35) rfl (l' := #[.val (.ref a0), .val (.int (7 : Int32)), .val (.ref a2), .val (.int ((6 : Int32) + (1 : Int32))), .val (.int (7 : Int32)), .val (.int (6 : Int32)), .val (.int cg)]) rfl k) ?_
  show Rest p.tables e below s _ _ _ (T14.setTop (mkF m 38 #[.val (.ref a0), .val (.int (7 : Int32)), .val (.ref a2), .val (.int ((6 : Int32) + (1 : Int32))), .val (.int (7 : Int32)), .val (.int (6 : Int32)), .val (.int cg)] []))
  rw [(by decide : ((6 : Int32) + (1 : Int32)) = (7 : Int32))]
  show Rest p.tables e below s _ _ _ (T14.setTop (mkF m 38 #[.val (.ref a0), .val (.int (7 : Int32)), .val (.ref a2), .val (.int (7 : Int32)), .val (.int (7 : Int32)), .val (.int (6 : Int32)), .val (.int cg)] []))
  refine Rest.via (fun t k => XS.iinc X14.here hx rfl (hb hby d5_38) rfl (l' := #[.val (.ref a0), .val (.int (7 : Int32)), .val (.ref a2), .val (.int (7 : Int32)), .val (.int (7 : Int32)), .val (.int ((6 : Int32) + (1 : Int32))), .val (.int cg)]) rfl k) ?_
  show Rest p.tables e below s _ _ _ (T14.setTop (mkF m 41 #[.val (.ref a0), .val (.int (7 : Int32)), .val (.ref a2), .val (.int (7 : Int32)), .val (.int (7 : Int32)), .val (.int ((6 : Int32) + (1 : Int32))), .val (.int cg)] []))
  rw [(by decide : ((6 : Int32) + (1 : Int32)) = (7 : Int32))]
  show Rest p.tables e below s _ _ _ (T14.setTop (mkF m 41 #[.val (.ref a0), .val (.int (7 : Int32)), .val (.ref a2), .val (.int (7 : Int32)), .val (.int (7 : Int32)), .val (.int (7 : Int32)), .val (.int cg)] []))
  refine Rest.via (fun t k => XS.goto X14.here hx rfl (pc0 := 41) (pc' := 3) rfl (hb hby d5_41) (by decide) (by decide) k) ?_
  show Rest p.tables e below s _ _ _ (T14.setTop (mkF m 3 #[.val (.ref a0), .val (.int (7 : Int32)), .val (.ref a2), .val (.int (7 : Int32)), .val (.int (7 : Int32)), .val (.int (7 : Int32)), .val (.int cg)] []))
  refine Rest.via (fun t k => XS.iload X14.here hx rfl (hb hby d5_3) rfl k) ?_
  show Rest p.tables e below s _ _ _ (T14.setTop (mkF m 5 #[.val (.ref a0), .val (.int (7 : Int32)), .val (.ref a2), .val (.int (7 : Int32)), .val (.int (7 : Int32)), .val (.int (7 : Int32)), .val (.int cg)] [(.int (7 : Int32))]))
  refine Rest.via (fun t k => XS.iload X14.here hx rfl (hb hby d5_5) rfl k) ?_
  show Rest p.tables e below s _ _ _ (T14.setTop (mkF m 7 #[.val (.ref a0), .val (.int (7 : Int32)), .val (.ref a2), .val (.int (7 : Int32)), .val (.int (7 : Int32)), .val (.int (7 : Int32)), .val (.int cg)] [(.int (7 : Int32)), (.int (7 : Int32))]))
  refine Rest.via (fun t k => XS.icmpYes X14.here hx rfl (pc0 := 7) (pc' := 44) rfl (hb hby d5_7) rfl (flt (by decide : ¬ ((7 : Int32) < (7 : Int32)))).2.1 (by decide) (by decide) k) ?_
  show Rest p.tables e below s _ _ _ (T14.setTop (mkF m 44 #[.val (.ref a0), .val (.int (7 : Int32)), .val (.ref a2), .val (.int (7 : Int32)), .val (.int (7 : Int32)), .val (.int (7 : Int32)), .val (.int cg)] []))
  refine Rest.via (fun t k => XS.iload X14.here hx rfl (hb hby d5_44) rfl k) ?_
  show Rest p.tables e below s _ _ _ (T14.setTop (mkF m 46 #[.val (.ref a0), .val (.int (7 : Int32)), .val (.ref a2), .val (.int (7 : Int32)), .val (.int (7 : Int32)), .val (.int (7 : Int32)), .val (.int cg)] [(.int (7 : Int32))]))
  refine Rest.ret X14 (v := some (.int (7 : Int32))) (fun h => by rw [Bd.returns] at h; cases h) hlk (fun fs hr => retOut X14 hx Bd.returns rfl (Or.inl ⟨rfl, Or.inl rfl, _, rfl⟩) (hb hby d5_46) hr) ?_ (by decide) (by decide)
  rw [e14]
  exact ⟨rfl, N14, K14, V14⟩
theorem ef_W7 (m : MethodId) (a0 : Addr) : entryFrame m #[(.ref a0), (.int (0 : Int32)), (.int (7 : Int32))] 6 = mkF m 0 #[.val (.ref a0), .val (.int (0 : Int32)), .val (.int (7 : Int32)), .unset, .unset, .unset] [] := by first | (simp [entryFrame, mkF, argsToLocals, Value.category, maxLocals]; done) | rfl
def QW7 (Z : State) (a0 : Addr) (kc : ClassId) (ca : Int32) (cb : Int32) (cc : Int32) (cd : Int32) (ce : Int32) (cf : Int32) (cg : Int32) (h0 : Heap) (n0 : Nat) (v : Option Value) (h : Heap) (L : List Loc) : Prop := ∃ va kb, v = some (.ref va) ∧ Fr n0 L ∧ Keep h0 h [] ∧ h0.size ≤ va ∧ Arv Z h va kb .byte (7 : Int32) [(.int (own_by ca)), (.int (own_by cb)), (.int (own_by cc)), (.int (own_by cd)), (.int (own_by ce)), (.int (own_by cf)), (.int (own_by cg))] (.int (0 : Int32))
set_option maxRecDepth 65536 in
set_option maxHeartbeats 40000000 in
theorem rmW7 (l : Launch) (Z : State) (aw : Array Value) (hw : ∀ d ∈ tables_1, d.before aw Z = true) (ws : List Jvm.Cond) (a0 : Addr) (kc : ClassId) (ca : Int32) (cb : Int32) (cc : Int32) (cd : Int32) (ce : Int32) (cf : Int32) (cg : Int32) (h0 : Heap) (n0 : Nat) (Z0 : n0 ≤ h0.size) (V0 : Arv Z h0 a0 kc .char (7 : Int32) [(.int ca), (.int cb), (.int cc), (.int cd), (.int ce), (.int cf), (.int cg)] (.int (0 : Int32))) (hca : ¬ ((255 : Int32) < ca)) (hcb : ¬ ((255 : Int32) < cb)) (hcc : ¬ ((255 : Int32) < cc)) (hcd : ¬ ((255 : Int32) < cd)) (hce : ¬ ((255 : Int32) < ce)) (hcf : ¬ ((255 : Int32) < cf)) (hcg : ¬ ((255 : Int32) < cg)) :
    MetFree l (⟨"java/lang/StringUTF16", "compress", "([CII)[B"⟩ : MethodName) (head1 (Jvm.Cond.code (⟨"java/lang/StringUTF16", "compress", "([CII)[B"⟩ : MethodName) jdk_52_method_16_code 6 (some (.array .byte)) :: ws) ({ frames := 1, cells := 1, slots := 7, locals := 18 } : Room)) (fun a U => a = #[(.ref a0), (.int (0 : Int32)), (.int (7 : Int32))] ∧ Z.Warmed39 U.vm ∧ U.heap = h0) (fun _ _ _ _ _ => True) (fun _ U o U' => ∃ v L, o = .returned v ∧ QW7 Z a0 kc ca cb cc cd ce cf cg h0 n0 v U'.heap L ∧ FrameEnd U o U' L ({ frames := 1, cells := 1, slots := 7, locals := 18 } : Room).cells ({ frames := 1, cells := 1, slots := 7, locals := 18 } : Room).slots) := by
  refine MetFree.of_bodySF (plainFor_of_name pn_0) hisR ?_
  intro p e s m args below meth c s₁ Bd hml0 hP hK
  obtain ⟨rfl, hZ, hh⟩ := hP
  have hx := Bd.exec
  have hby := Bd.bytes
  have hml : c.maxLocals = 6 := hml0
  have hown : s.vm.findClass "java/lang/StringUTF16" = some m.cls := findClass_of_methodNamed Bd.named
  have hnm := (name_of_methodNamed Bd.named Bd.method).1
  have hlk : meth.locks = false := BodyLoose.notSynchronized Bd
  have X0 : Stand p l e ({ frames := 1, cells := 1, slots := 7, locals := 18 } : Room) s m #[(.ref a0), (.int (0 : Int32)), (.int (7 : Int32))] below meth c s₁ [] 0 0 := Stand.of_body Bd
  have eh0 : s₁.heap = h0 := by rw [← hh, Bd.state]; rfl
  have N0 := Fr.nil n0
  show Rest p.tables e below s (QW7 Z a0 kc ca cb cc cd ce cf cg h0 n0) _ _ (s₁.setTop (entryFrame m #[(.ref a0), (.int (0 : Int32)), (.int (7 : Int32))] 6))
  refine Rest.via (fun t k => castTop (ef_W7 m a0) k) ?_
  show Rest p.tables e below s _ _ _ (s₁.setTop (mkF m 0 #[.val (.ref a0), .val (.int (0 : Int32)), .val (.int (7 : Int32)), .unset, .unset, .unset] []))
  refine Rest.via (fun t k => XS.iloadN X0.here hx rfl (hb hby d4_0) rfl k) ?_
  show Rest p.tables e below s _ _ _ (s₁.setTop (mkF m 1 #[.val (.ref a0), .val (.int (0 : Int32)), .val (.int (7 : Int32)), .unset, .unset, .unset] [(.int (7 : Int32))]))
  obtain ⟨T1, h1, k1, X1, e1, E1, A1, st1⟩ := newP X0 hx hZ (hw _ (List.mem_of_getElem? (i := 23) rfl)) eh0 (g := (mkF m 1 #[.val (.ref a0), .val (.int (0 : Int32)), .val (.int (7 : Int32)), .unset, .unset, .unset] [(.int (7 : Int32))])) rfl (hb hby d4_1) rfl (by decide) (cap := 7) (by decide) (by decide) (by decide) (by decide)
  obtain ⟨b1, gq1⟩ : ∃ z, z = h0.size := ⟨_, rfl⟩
  rw [← gq1] at A1 st1
  have sz_b1 : h0.size ≤ b1 := Nat.le_trans (Keep.refl h0 []).1 (Nat.le_of_eq gq1.symm)
  have g_b1 : n0 ≤ b1 := Nat.le_trans Z0 sz_b1
  have ne_a0_b1 : a0 ≠ b1 := Nat.ne_of_lt (Nat.lt_of_lt_of_le V0.lt (Nat.le_of_eq gq1.symm))
  have K1 : Keep h0 h1 [] := (Keep.refl h0 []).ext E1
  have V_b1 := Arv.new A1 (by decide)
  have V_b1 : Arv Z h1 b1 k1 .byte (7 : Int32) [(.int (0 : Int32)), (.int (0 : Int32)), (.int (0 : Int32)), (.int (0 : Int32)), (.int (0 : Int32)), (.int (0 : Int32)), (.int (0 : Int32))] (.int (0 : Int32)) := V_b1.pad (pad_rep [] (.int (0 : Int32)) 7)
  refine Rest.via (fun t k => st1 t k) ?_
  show Rest p.tables e below s _ _ _ (T1.setTop (mkF m 3 #[.val (.ref a0), .val (.int (0 : Int32)), .val (.int (7 : Int32)), .unset, .unset, .unset] [(.ref b1)]))
  refine Rest.via (fun t k => XS.astoreN X1.here hx rfl (hb hby d4_3) rfl rfl (l' := #[.val (.ref a0), .val (.int (0 : Int32)), .val (.int (7 : Int32)), .val (.ref b1), .unset, .unset]) rfl k) ?_
  show Rest p.tables e below s _ _ _ (T1.setTop (mkF m 4 #[.val (.ref a0), .val (.int (0 : Int32)), .val (.int (7 : Int32)), .val (.ref b1), .unset, .unset] []))
  refine Rest.via (fun t k => XS.aloadN X1.here hx rfl (hb hby d4_4) rfl rfl k) ?_
  show Rest p.tables e below s _ _ _ (T1.setTop (mkF m 5 #[.val (.ref a0), .val (.int (0 : Int32)), .val (.int (7 : Int32)), .val (.ref b1), .unset, .unset] [(.ref a0)]))
  refine Rest.via (fun t k => XS.iloadN X1.here hx rfl (hb hby d4_5) rfl k) ?_
  show Rest p.tables e below s _ _ _ (T1.setTop (mkF m 6 #[.val (.ref a0), .val (.int (0 : Int32)), .val (.int (7 : Int32)), .val (.ref b1), .unset, .unset] [(.int (0 : Int32)), (.ref a0)]))
  refine Rest.via (fun t k => XS.aloadN X1.here hx rfl (hb hby d4_6) rfl rfl k) ?_
  show Rest p.tables e below s _ _ _ (T1.setTop (mkF m 7 #[.val (.ref a0), .val (.int (0 : Int32)), .val (.int (7 : Int32)), .val (.ref b1), .unset, .unset] [(.ref b1), (.int (0 : Int32)), (.ref a0)]))
  refine Rest.via (fun t k => XS.iconst X1.here hx rfl (hb hby d4_7) k) ?_
  show Rest p.tables e below s _ _ _ (T1.setTop (mkF m 8 #[.val (.ref a0), .val (.int (0 : Int32)), .val (.int (7 : Int32)), .val (.ref b1), .unset, .unset] [(.int (0 : Int32)), (.ref b1), (.int (0 : Int32)), (.ref a0)]))
  refine Rest.via (fun t k => XS.iloadN X1.here hx rfl (hb hby d4_8) rfl k) ?_
  show Rest p.tables e below s _ _ _ (T1.setTop (mkF m 9 #[.val (.ref a0), .val (.int (0 : Int32)), .val (.int (7 : Int32)), .val (.ref b1), .unset, .unset] [(.int (7 : Int32)), (.int (0 : Int32)), (.ref b1), (.int (0 : Int32)), (.ref a0)]))
  obtain ⟨_, _, ⟨T2, L2, k2, n2⟩, -, X2, ⟨Lc2, hQ2, l2, y2, z2⟩, st2⟩ := Jvm.LawKit.callS X1 hx (y := (⟨"java/lang/StringUTF16", "compress", "([CI[BII)I"⟩ : MethodName)) hown (mvT hZ (hw _ (List.mem_of_getElem? (i := 24) rfl))) (mvT hZ (hw _ (List.mem_of_getElem? (i := 25) rfl))) (mvT hZ (hw _ (List.mem_of_getElem? (i := 21) rfl))) (mvT hZ (hw _ (List.mem_of_getElem? (i := 26) rfl))) (by decide) (backOf (W := 0) (rmU7 l Z aw hw [] a0 b1 kc k1 ca cb cc cd ce cf cg h1 n0 (Nat.le_trans Z0 K1.1) (V0.ext E1) V_b1 ne_a0_b1 g_b1 hca hcb hcc hcd hce hcf hcg) hZ (hw _ (List.mem_of_getElem? (i := 26) rfl)) (hw _ (List.mem_of_getElem? (i := 21) rfl)) (by decide) (by decide)) (g := (mkF m 9 #[.val (.ref a0), .val (.int (0 : Int32)), .val (.int (7 : Int32)), .val (.ref b1), .unset, .unset] [(.int (7 : Int32)), (.int (0 : Int32)), (.ref b1), (.int (0 : Int32)), (.ref a0)])) rfl (by rw [hml]; rfl) (argsL := [(.ref a0), (.int (0 : Int32)), (.ref b1), (.int (0 : Int32)), (.int (7 : Int32))]) (rest := []) (lenOf pd_0 rfl) rfl (by show 2 * 0 + _ ≤ _; exact Nat.le_of_eq rfl) (hb hby d4_9) (fun _ _ => ⟨rfl, e1, (by decide : 1 + 0 ≤ _), (by decide : 7 + 0 ≤ _)⟩)
  dsimp only [Pt.U, Pt.locs, Pt.cells, Pt.slots] at X2 l2 y2 z2 st2 hQ2
  subst l2 y2 z2
  obtain ⟨h2, e2⟩ : ∃ z, T2.heap = z := ⟨_, rfl⟩
  rw [e2] at hQ2
  obtain ⟨rfl, Nq2, Kq2, Vq2⟩ := hQ2
  have N2 := Fr.app N0 Nq2
  have K2 : Keep h0 h2 [] := K1.trans Kq2 (allS (Or.inr sz_b1) all0)
  refine Rest.via (fun t k => st2 t k) ?_
  show Rest p.tables e below s _ _ _ (T2.setTop (mkF m 12 #[.val (.ref a0), .val (.int (0 : Int32)), .val (.int (7 : Int32)), .val (.ref b1), .unset, .unset] [(.int (7 : Int32))]))
  refine Rest.via (fun t k => XS.istore X2.here hx rfl (hb hby d4_12) rfl (l' := #[.val (.ref a0), .val (.int (0 : Int32)), .val (.int (7 : Int32)), .val (.ref b1), .val (.int (7 : Int32)), .unset]) rfl k) ?_
  show Rest p.tables e below s _ _ _ (T2.setTop (mkF m 14 #[.val (.ref a0), .val (.int (0 : Int32)), .val (.int (7 : Int32)), .val (.ref b1), .val (.int (7 : Int32)), .unset] []))
  refine Rest.via (fun t k => XS.iload X2.here hx rfl (hb hby d4_14) rfl k) ?_
  show Rest p.tables e below s _ _ _ (T2.setTop (mkF m 16 #[.val (.ref a0), .val (.int (0 : Int32)), .val (.int (7 : Int32)), .val (.ref b1), .val (.int (7 : Int32)), .unset] [(.int (7 : Int32))]))
  refine Rest.via (fun t k => XS.iloadN X2.here hx rfl (hb hby d4_16) rfl k) ?_
  show Rest p.tables e below s _ _ _ (T2.setTop (mkF m 17 #[.val (.ref a0), .val (.int (0 : Int32)), .val (.int (7 : Int32)), .val (.ref b1), .val (.int (7 : Int32)), .unset] [(.int (7 : Int32)), (.int (7 : Int32))]))
  refine Rest.via (fun t k => XS.icmpYes X2.here hx rfl (pc0 := 17) (pc' := 57) rfl (hb hby d4_17) rfl (teq (by decide : (7 : Int32) = (7 : Int32))).1 (by decide) (by decide) k) ?_
  show Rest p.tables e below s _ _ _ (T2.setTop (mkF m 57 #[.val (.ref a0), .val (.int (0 : Int32)), .val (.int (7 : Int32)), .val (.ref b1), .val (.int (7 : Int32)), .unset] []))
  refine Rest.via (fun t k => XS.aloadN X2.here hx rfl (hb hby d4_57) rfl rfl k) ?_
  show Rest p.tables e below s _ _ _ (T2.setTop (mkF m 58 #[.val (.ref a0), .val (.int (0 : Int32)), .val (.int (7 : Int32)), .val (.ref b1), .val (.int (7 : Int32)), .unset] [(.ref b1)]))
  refine Rest.ret X2 (v := some (.ref b1)) (fun h => by rw [Bd.returns] at h; cases h) hlk (fun fs hr => retOut X2 hx Bd.returns rfl (Or.inr (Or.inr (Or.inr (Or.inr ⟨rfl, rfl, rfl⟩)))) (hb hby d4_58) hr) ?_ (by decide) (by decide)
  rw [e2]
  exact ⟨b1, k1, rfl, N2, K2, sz_b1, Vq2⟩
theorem ef_C7 (m : MethodId) (a0 : Addr) : entryFrame m #[(.ref a0), (.int (7 : Int32))] 2 = mkF m 0 #[.val (.ref a0), .val (.int (7 : Int32))] [] := by first | (simp [entryFrame, mkF, argsToLocals, Value.category, maxLocals]; done) | rfl
def QC7 (Z : State) (a0 : Addr) (k : ClassId) (vs : List Value) (h0 : Heap) (n0 : Nat) (v : Option Value) (h : Heap) (L : List Loc) : Prop := v = some (.int (0 : Int32)) ∧ Fr n0 L ∧ h = h0
set_option maxRecDepth 65536 in
set_option maxHeartbeats 40000000 in
theorem rmC7 (l : Launch) (Z : State) (aw : Array Value) (hw : ∀ d ∈ tables_1, d.before aw Z = true) (ws : List Jvm.Cond) (a0 : Addr) (k : ClassId) (vs : List Value) (h0 : Heap) (n0 : Nat) (Z0 : n0 ≤ h0.size) (V0 : Arv Z h0 a0 k .byte (7 : Int32) vs (.int (0 : Int32))) :
    MetFree l (⟨"java/lang/StringUTF16", "coderFromArrayLen", "([BI)B"⟩ : MethodName) (head1 (Jvm.Cond.code (⟨"java/lang/StringUTF16", "coderFromArrayLen", "([BI)B"⟩ : MethodName) jdk_52_method_15_code 2 (some .byte) :: ws) ({ frames := 0, cells := 0, slots := 0, locals := 0 } : Room)) (fun a U => a = #[(.ref a0), (.int (7 : Int32))] ∧ Z.Warmed39 U.vm ∧ U.heap = h0) (fun _ _ _ _ _ => True) (fun _ U o U' => ∃ v L, o = .returned v ∧ QC7 Z a0 k vs h0 n0 v U'.heap L ∧ FrameEnd U o U' L ({ frames := 0, cells := 0, slots := 0, locals := 0 } : Room).cells ({ frames := 0, cells := 0, slots := 0, locals := 0 } : Room).slots) := by
  refine MetFree.of_bodySF (plainFor_of_name pn_0) hisR ?_
  intro p e s m args below meth c s₁ Bd hml0 hP hK
  obtain ⟨rfl, hZ, hh⟩ := hP
  have hx := Bd.exec
  have hby := Bd.bytes
  have hml : c.maxLocals = 2 := hml0
  have hown : s.vm.findClass "java/lang/StringUTF16" = some m.cls := findClass_of_methodNamed Bd.named
  have hnm := (name_of_methodNamed Bd.named Bd.method).1
  have hlk : meth.locks = false := BodyLoose.notSynchronized Bd
  have X0 : Stand p l e ({ frames := 0, cells := 0, slots := 0, locals := 0 } : Room) s m #[(.ref a0), (.int (7 : Int32))] below meth c s₁ [] 0 0 := Stand.of_body Bd
  have eh0 : s₁.heap = h0 := by rw [← hh, Bd.state]; rfl
  have N0 := Fr.nil n0
  show Rest p.tables e below s (QC7 Z a0 k vs h0 n0) _ _ (s₁.setTop (entryFrame m #[(.ref a0), (.int (7 : Int32))] 2))
  refine Rest.via (fun t k => castTop (ef_C7 m a0) k) ?_
  show Rest p.tables e below s _ _ _ (s₁.setTop (mkF m 0 #[.val (.ref a0), .val (.int (7 : Int32))] []))
  refine Rest.via (fun t k => XS.iloadN X0.here hx rfl (hb hby d6_0) rfl k) ?_
  show Rest p.tables e below s _ _ _ (s₁.setTop (mkF m 1 #[.val (.ref a0), .val (.int (7 : Int32))] [(.int (7 : Int32))]))
  refine Rest.via (fun t k => XS.aloadN X0.here hx rfl (hb hby d6_1) rfl rfl k) ?_
  show Rest p.tables e below s _ _ _ (s₁.setTop (mkF m 2 #[.val (.ref a0), .val (.int (7 : Int32))] [(.ref a0), (.int (7 : Int32))]))
  obtain ⟨cl1, Ar1, -, S1, P1, -, -⟩ := id V0
  refine Rest.via (fun t k => X0.arraylength hx (by rw [eh0]; exact Ar1.1) (State.isArrayOf_alike hZ.alike Ar1.2.1) (g := (mkF m 2 #[.val (.ref a0), .val (.int (7 : Int32))] [(.ref a0), (.int (7 : Int32))])) rfl rfl (hb hby d6_2) t k) ?_
  rw [len_of S1 P1]
  show Rest p.tables e below s _ _ _ (s₁.setTop (mkF m 3 #[.val (.ref a0), .val (.int (7 : Int32))] [(.int (7 : Int32)), (.int (7 : Int32))]))
  refine Rest.via (fun t k => XS.isub X0.here hx rfl (hb hby d6_3) rfl k) ?_
  show Rest p.tables e below s _ _ _ (s₁.setTop (mkF m 4 #[.val (.ref a0), .val (.int (7 : Int32))] [(.int ((7 : Int32) - (7 : Int32)))]))
  rw [(by decide : ((7 : Int32) - (7 : Int32)) = (0 : Int32))]
  show Rest p.tables e below s _ _ _ (s₁.setTop (mkF m 4 #[.val (.ref a0), .val (.int (7 : Int32))] [(.int (0 : Int32))]))
  refine Rest.via (fun t k => XS.bipush X0.here hx rfl (hb hby d6_4) k) ?_
  show Rest p.tables e below s _ _ _ (s₁.setTop (mkF m 6 #[.val (.ref a0), .val (.int (7 : Int32))] [(.int (31 : Int32)), (.int (0 : Int32))]))
  refine Rest.via (fun t k => XS.iushr X0.here hx rfl (hb hby d6_6) rfl k) ?_
  show Rest p.tables e below s _ _ _ (s₁.setTop (mkF m 7 #[.val (.ref a0), .val (.int (7 : Int32))] [(.int (((0 : Int32).toUInt32 >>> ((31 : Int32) &&& 31).toUInt32).toInt32))]))
  rw [(by decide : (((0 : Int32).toUInt32 >>> ((31 : Int32) &&& 31).toUInt32).toInt32) = (0 : Int32))]
  show Rest p.tables e below s _ _ _ (s₁.setTop (mkF m 7 #[.val (.ref a0), .val (.int (7 : Int32))] [(.int (0 : Int32))]))
  refine Rest.via (fun t k => XS.i2b X0.here hx rfl (hb hby d6_7) rfl k) ?_
  show Rest p.tables e below s _ _ _ (s₁.setTop (mkF m 8 #[.val (.ref a0), .val (.int (7 : Int32))] [(.int ((0 : Int32).toInt8.toInt32))]))
  rw [(by decide : ((0 : Int32).toInt8.toInt32) = (0 : Int32))]
  show Rest p.tables e below s _ _ _ (s₁.setTop (mkF m 8 #[.val (.ref a0), .val (.int (7 : Int32))] [(.int (0 : Int32))]))
  refine Rest.ret X0 (v := some (.int (nar .byte (0 : Int32)))) (fun h => by rw [Bd.returns] at h; cases h) hlk (fun fs hr => retN X0 hx (t := .byte) Bd.returns (by simp) (hb hby d6_8) hr) ?_ (by decide) (by decide)
  rw [eh0]
  exact ⟨rfl, N0, rfl⟩
theorem ef_SJ7 (m : MethodId) (a0 : Addr) (a1 : Addr) : entryFrame m #[(.ref a0), (.ref a1), (.int (0 : Int32)), (.int (7 : Int32)), .null] 6 = mkF m 0 #[.val (.ref a0), .val (.ref a1), .val (.int (0 : Int32)), .val (.int (7 : Int32)), .val .null, .unset] [] := by first | (simp [entryFrame, mkF, argsToLocals, Value.category, maxLocals]; done) | rfl
def QSJ7 (Z : State) (a0 : Addr) (a1 : Addr) (kc : ClassId) (ic : Int32) (ca : Int32) (cb : Int32) (cc : Int32) (cd : Int32) (ce : Int32) (cf : Int32) (cg : Int32) (h0 : Heap) (n0 : Nat) (v : Option Value) (h : Heap) (L : List Loc) : Prop := v = none ∧ Fr n0 L ∧ Keep h0 h [a0] ∧ ∃ va kb, h0.size ≤ va ∧ Fld Z h a0 "java/lang/String" "value" "[B" (.ref va) ∧ Fld Z h a0 "java/lang/String" "coder" "B" (.int (0 : Int32)) ∧ Arv Z h va kb .byte (7 : Int32) [(.int (own_by ca)), (.int (own_by cb)), (.int (own_by cc)), (.int (own_by cd)), (.int (own_by ce)), (.int (own_by cf)), (.int (own_by cg))] (.int (0 : Int32)) ∧ a0 ≠ va
set_option maxRecDepth 65536 in
set_option maxHeartbeats 40000000 in
theorem rmSJ7 (l : Launch) (Z : State) (aw : Array Value) (hw : ∀ d ∈ tables_1, d.before aw Z = true) (ws : List Jvm.Cond) (a0 : Addr) (a1 : Addr) (kc : ClassId) (ic : Int32) (ca : Int32) (cb : Int32) (cc : Int32) (cd : Int32) (ce : Int32) (cf : Int32) (cg : Int32) (h0 : Heap) (n0 : Nat) (Z0 : n0 ≤ h0.size) (E_a0 : Exa Z h0 a0 "java/lang/String") (F_v : Fld Z h0 a0 "java/lang/String" "value" "[B" .null) (F_c : Fld Z h0 a0 "java/lang/String" "coder" "B" (.int (0 : Int32))) (g_a0 : n0 ≤ a0) (V1 : Arv Z h0 a1 kc .char (7 : Int32) [(.int ca), (.int cb), (.int cc), (.int cd), (.int ce), (.int cf), (.int cg)] (.int (0 : Int32))) (hca : ¬ ((255 : Int32) < ca)) (hcb : ¬ ((255 : Int32) < cb)) (hcc : ¬ ((255 : Int32) < cc)) (hcd : ¬ ((255 : Int32) < cd)) (hce : ¬ ((255 : Int32) < ce)) (hcf : ¬ ((255 : Int32) < cf)) (hcg : ¬ ((255 : Int32) < cg)) (O : Old Z n0 h0) (CS : own_CS Z ic) :
    MetFree l (⟨"java/lang/String", "<init>", "([CIILjava/lang/Void;)V"⟩ : MethodName) (head1 (Jvm.Cond.code (⟨"java/lang/String", "<init>", "([CIILjava/lang/Void;)V"⟩ : MethodName) jdk_42_method_149_code 6 none :: ws) ({ frames := 2, cells := 1, slots := 7, locals := 35 } : Room)) (fun a U => a = #[(.ref a0), (.ref a1), (.int (0 : Int32)), (.int (7 : Int32)), .null] ∧ Z.Warmed39 U.vm ∧ U.heap = h0) (fun _ _ _ _ _ => True) (fun _ U o U' => ∃ v L, o = .returned v ∧ QSJ7 Z a0 a1 kc ic ca cb cc cd ce cf cg h0 n0 v U'.heap L ∧ FrameEnd U o U' L ({ frames := 2, cells := 1, slots := 7, locals := 35 } : Room).cells ({ frames := 2, cells := 1, slots := 7, locals := 35 } : Room).slots) := by
  refine MetFree.of_bodySF (plainFor_of_name pn_1) hisR ?_
  intro p e s m args below meth c s₁ Bd hml0 hP hK
  obtain ⟨rfl, hZ, hh⟩ := hP
  have hx := Bd.exec
  have hby := Bd.bytes
  have hml : c.maxLocals = 6 := hml0
  have hown : s.vm.findClass "java/lang/String" = some m.cls := findClass_of_methodNamed Bd.named
  have hnm := (name_of_methodNamed Bd.named Bd.method).1
  have hlk : meth.locks = false := BodyLoose.notSynchronized Bd
  have X0 : Stand p l e ({ frames := 2, cells := 1, slots := 7, locals := 35 } : Room) s m #[(.ref a0), (.ref a1), (.int (0 : Int32)), (.int (7 : Int32)), .null] below meth c s₁ [] 0 0 := Stand.of_body Bd
  have eh0 : s₁.heap = h0 := by rw [← hh, Bd.state]; rfl
  have N0 := Fr.nil n0
  show Rest p.tables e below s (QSJ7 Z a0 a1 kc ic ca cb cc cd ce cf cg h0 n0) _ _ (s₁.setTop (entryFrame m #[(.ref a0), (.ref a1), (.int (0 : Int32)), (.int (7 : Int32)), .null] 6))
  refine Rest.via (fun t k => castTop (ef_SJ7 m a0 a1) k) ?_
  show Rest p.tables e below s _ _ _ (s₁.setTop (mkF m 0 #[.val (.ref a0), .val (.ref a1), .val (.int (0 : Int32)), .val (.int (7 : Int32)), .val .null, .unset] []))
  refine Rest.via (fun t k => XS.aloadN X0.here hx rfl (hb hby d2_0) rfl rfl k) ?_
  show Rest p.tables e below s _ _ _ (s₁.setTop (mkF m 1 #[.val (.ref a0), .val (.ref a1), .val (.int (0 : Int32)), .val (.int (7 : Int32)), .val .null, .unset] [(.ref a0)]))
  obtain ⟨T1, X1, e1, st1⟩ := initO X0 hx hZ hown (hw _ (List.mem_of_getElem? (i := 15) rfl)) (hw _ (List.mem_of_getElem? (i := 16) rfl)) (hw _ (List.mem_of_getElem? (i := 17) rfl)) eh0 (g := (mkF m 1 #[.val (.ref a0), .val (.ref a1), .val (.int (0 : Int32)), .val (.int (7 : Int32)), .val .null, .unset] [(.ref a0)])) rfl (by rw [hml]; rfl) rfl (hb hby d2_1) (by decide) (W := 0) (by show 2 * 0 + _ ≤ _; exact Nat.le_of_eq rfl) (by decide)
  refine Rest.via (fun t k => st1 t k) ?_
  show Rest p.tables e below s _ _ _ (T1.setTop (mkF m 4 #[.val (.ref a0), .val (.ref a1), .val (.int (0 : Int32)), .val (.int (7 : Int32)), .val .null, .unset] []))
  refine Rest.via (fun t k => XS.iloadN X1.here hx rfl (hb hby d2_4) rfl k) ?_
  show Rest p.tables e below s _ _ _ (T1.setTop (mkF m 5 #[.val (.ref a0), .val (.ref a1), .val (.int (0 : Int32)), .val (.int (7 : Int32)), .val .null, .unset] [(.int (7 : Int32))]))
  refine Rest.via (fun t k => XS.ifYes X1.here hx rfl (pc0 := 5) (pc' := 27) rfl (hb hby d2_5) rfl ((if0 _ _).trans (feq (by decide : ¬ ((7 : Int32) = (0 : Int32)))).2) (by decide) (by decide) k) ?_
  show Rest p.tables e below s _ _ _ (T1.setTop (mkF m 27 #[.val (.ref a0), .val (.ref a1), .val (.int (0 : Int32)), .val (.int (7 : Int32)), .val .null, .unset] []))
  obtain ⟨T2, X2, e2, st2⟩ := getS2 X1 hx hZ hown (host := "") (Or.inl (hw _ (List.mem_of_getElem? (i := 18) rfl))) Via.refl e1 (CS.1.ext (O.keep (Keep.refl h0 [a0]) (allS g_a0 all0)).2) (g := (mkF m 27 #[.val (.ref a0), .val (.ref a1), .val (.int (0 : Int32)), .val (.int (7 : Int32)), .val .null, .unset] [])) rfl (hb hby d2_27)
  refine Rest.via (fun t k => st2 t k) ?_
  show Rest p.tables e below s _ _ _ (T2.setTop (mkF m 30 #[.val (.ref a0), .val (.ref a1), .val (.int (0 : Int32)), .val (.int (7 : Int32)), .val .null, .unset] [(.int ic)]))
  refine Rest.via (fun t k => XS.ifNo X2.here hx rfl (hb hby d2_30) rfl ((if0 _ _).trans (feq (CS.2 : ¬ (ic = (0 : Int32)))).1) k) ?_
  show Rest p.tables e below s _ _ _ (T2.setTop (mkF m 33 #[.val (.ref a0), .val (.ref a1), .val (.int (0 : Int32)), .val (.int (7 : Int32)), .val .null, .unset] []))
  refine Rest.via (fun t k => XS.aloadN X2.here hx rfl (hb hby d2_33) rfl rfl k) ?_
  show Rest p.tables e below s _ _ _ (T2.setTop (mkF m 34 #[.val (.ref a0), .val (.ref a1), .val (.int (0 : Int32)), .val (.int (7 : Int32)), .val .null, .unset] [(.ref a1)]))
  refine Rest.via (fun t k => XS.iloadN X2.here hx rfl (hb hby d2_34) rfl k) ?_
  show Rest p.tables e below s _ _ _ (T2.setTop (mkF m 35 #[.val (.ref a0), .val (.ref a1), .val (.int (0 : Int32)), .val (.int (7 : Int32)), .val .null, .unset] [(.int (0 : Int32)), (.ref a1)]))
  refine Rest.via (fun t k => XS.iloadN X2.here hx rfl (hb hby d2_35) rfl k) ?_
  show Rest p.tables e below s _ _ _ (T2.setTop (mkF m 36 #[.val (.ref a0), .val (.ref a1), .val (.int (0 : Int32)), .val (.int (7 : Int32)), .val .null, .unset] [(.int (7 : Int32)), (.int (0 : Int32)), (.ref a1)]))
  obtain ⟨_, _, ⟨T3, L3, k3, n3⟩, -, X3, ⟨Lc3, hQ3, l3, y3, z3⟩, st3⟩ := Jvm.LawKit.callS X2 hx (y := (⟨"java/lang/StringUTF16", "compress", "([CII)[B"⟩ : MethodName)) hown (mvT hZ (hw _ (List.mem_of_getElem? (i := 19) rfl))) (mvT hZ (hw _ (List.mem_of_getElem? (i := 20) rfl))) (mvT hZ (hw _ (List.mem_of_getElem? (i := 21) rfl))) (mvT hZ (hw _ (List.mem_of_getElem? (i := 22) rfl))) (by decide) (backOf (W := 0) (rmW7 l Z aw hw [] a1 kc ca cb cc cd ce cf cg h0 n0 (Nat.le_trans Z0 (Keep.refl h0 [a0]).1) V1 hca hcb hcc hcd hce hcf hcg) hZ (hw _ (List.mem_of_getElem? (i := 22) rfl)) (hw _ (List.mem_of_getElem? (i := 21) rfl)) (by decide) (by decide)) (g := (mkF m 36 #[.val (.ref a0), .val (.ref a1), .val (.int (0 : Int32)), .val (.int (7 : Int32)), .val .null, .unset] [(.int (7 : Int32)), (.int (0 : Int32)), (.ref a1)])) rfl (by rw [hml]; rfl) (argsL := [(.ref a1), (.int (0 : Int32)), (.int (7 : Int32))]) (rest := []) (lenOf pd_1 rfl) rfl (by show 2 * 0 + _ ≤ _; exact Nat.le_of_eq rfl) (hb hby d2_36) (fun _ _ => ⟨rfl, e2, (by decide : 0 + 1 ≤ _), (by decide : 0 + 7 ≤ _)⟩)
  dsimp only [Pt.U, Pt.locs, Pt.cells, Pt.slots] at X3 l3 y3 z3 st3 hQ3
  subst l3 y3 z3
  obtain ⟨h3, e3⟩ : ∃ z, T3.heap = z := ⟨_, rfl⟩
  rw [e3] at hQ3
  obtain ⟨va3, kb3, rfl, Nq3, Kq3, sd3, Vq3⟩ := hQ3
  have N3 := Fr.app N0 Nq3
  have sz_va3 : h0.size ≤ va3 := Nat.le_trans (Keep.refl h0 [a0]).1 sd3
  have ne_a0_va3 : a0 ≠ va3 := Nat.ne_of_lt (Nat.lt_of_lt_of_le E_a0.lt sd3)
  have K3 : Keep h0 h3 [a0] := (Keep.refl h0 [a0]).trans Kq3 all0
  refine Rest.via (fun t k => st3 t k) ?_
  show Rest p.tables e below s _ _ _ (T3.setTop (mkF m 39 #[.val (.ref a0), .val (.ref a1), .val (.int (0 : Int32)), .val (.int (7 : Int32)), .val .null, .unset] [(.ref va3)]))
  refine Rest.via (fun t k => XS.astore X3.here hx rfl (hb hby d2_39) rfl rfl (l' := #[.val (.ref a0), .val (.ref a1), .val (.int (0 : Int32)), .val (.int (7 : Int32)), .val .null, .val (.ref va3)]) rfl k) ?_
  show Rest p.tables e below s _ _ _ (T3.setTop (mkF m 41 #[.val (.ref a0), .val (.ref a1), .val (.int (0 : Int32)), .val (.int (7 : Int32)), .val .null, .val (.ref va3)] []))
  refine Rest.via (fun t k => XS.aloadN X3.here hx rfl (hb hby d2_41) rfl rfl k) ?_
  show Rest p.tables e below s _ _ _ (T3.setTop (mkF m 42 #[.val (.ref a0), .val (.ref a1), .val (.int (0 : Int32)), .val (.int (7 : Int32)), .val .null, .val (.ref va3)] [(.ref a0)]))
  refine Rest.via (fun t k => XS.aload X3.here hx rfl (hb hby d2_42) rfl rfl k) ?_
  show Rest p.tables e below s _ _ _ (T3.setTop (mkF m 44 #[.val (.ref a0), .val (.ref a1), .val (.int (0 : Int32)), .val (.int (7 : Int32)), .val .null, .val (.ref va3)] [(.ref va3), (.ref a0)]))
  refine Rest.via (fun t k => XS.iloadN X3.here hx rfl (hb hby d2_44) rfl k) ?_
  show Rest p.tables e below s _ _ _ (T3.setTop (mkF m 45 #[.val (.ref a0), .val (.ref a1), .val (.int (0 : Int32)), .val (.int (7 : Int32)), .val .null, .val (.ref va3)] [(.int (7 : Int32)), (.ref va3), (.ref a0)]))
  obtain ⟨_, _, ⟨T4, L4, k4, n4⟩, -, X4, ⟨Lc4, hQ4, l4, y4, z4⟩, st4⟩ := Jvm.LawKit.callS X3 hx (y := (⟨"java/lang/StringUTF16", "coderFromArrayLen", "([BI)B"⟩ : MethodName)) hown (mvT hZ (hw _ (List.mem_of_getElem? (i := 27) rfl))) (mvT hZ (hw _ (List.mem_of_getElem? (i := 28) rfl))) (mvT hZ (hw _ (List.mem_of_getElem? (i := 21) rfl))) (mvT hZ (hw _ (List.mem_of_getElem? (i := 29) rfl))) (by decide) (backOf (W := 1) (rmC7 l Z aw hw [] va3 kb3 _ h3 n0 (Nat.le_trans Z0 K3.1) Vq3) hZ (hw _ (List.mem_of_getElem? (i := 29) rfl)) (hw _ (List.mem_of_getElem? (i := 21) rfl)) (by decide) (by decide)) (g := (mkF m 45 #[.val (.ref a0), .val (.ref a1), .val (.int (0 : Int32)), .val (.int (7 : Int32)), .val .null, .val (.ref va3)] [(.int (7 : Int32)), (.ref va3), (.ref a0)])) rfl (by rw [hml]; rfl) (argsL := [(.ref va3), (.int (7 : Int32))]) (rest := [(.ref a0)]) (lenOf pd_2 rfl) rfl (by show 2 * 0 + _ ≤ _; exact Nat.le_of_eq rfl) (hb hby d2_45) (fun _ _ => ⟨rfl, e3, (by decide : 1 + 0 ≤ _), (by decide : 7 + 0 ≤ _)⟩)
  dsimp only [Pt.U, Pt.locs, Pt.cells, Pt.slots] at X4 l4 y4 z4 st4 hQ4
  subst l4 y4 z4
  obtain ⟨rfl, Nq4, e4⟩ := hQ4
  have N4 := Fr.app N3 Nq4
  refine Rest.via (fun t k => st4 t k) ?_
  show Rest p.tables e below s _ _ _ (T4.setTop (mkF m 48 #[.val (.ref a0), .val (.ref a1), .val (.int (0 : Int32)), .val (.int (7 : Int32)), .val .null, .val (.ref va3)] [(.int (0 : Int32)), (.ref a0)]))
  have Fo5 := (F_c.keep Kq3 nin0)
  obtain ⟨T5, h5, X5, e5, W5, st5⟩ := putFN X4 hx hZ hown (hw _ (List.mem_of_getElem? (i := 30) rfl)) Via.refl e4 Fo5 (E_a0.keep Kq3) (Or.inr ⟨(hw _ (List.mem_of_getElem? (i := 31) rfl)), rfl, hnm⟩) (hw _ (List.mem_of_getElem? (i := 6) rfl)) (ty := .byte) (v' := (.int (0 : Int32))) (by decide) rfl (by decide) (g := (mkF m 48 #[.val (.ref a0), .val (.ref a1), .val (.int (0 : Int32)), .val (.int (7 : Int32)), .val .null, .val (.ref va3)] [(.int (0 : Int32)), (.ref a0)])) rfl rfl (hb hby d2_48)
  refine Rest.via (fun t k => st5 t k) ?_
  have N5 := Fr.snoc X5 N4 g_a0
  have K5 : Keep h0 h5 [a0] := K3.wr W5 (Or.inl (List.mem_of_getElem? (i := 0) rfl))
  have Fw5 := Fo5.same W5
  show Rest p.tables e below s _ _ _ (T5.setTop (mkF m 51 #[.val (.ref a0), .val (.ref a1), .val (.int (0 : Int32)), .val (.int (7 : Int32)), .val .null, .val (.ref va3)] []))
  refine Rest.via (fun t k => XS.aloadN X5.here hx rfl (hb hby d2_51) rfl rfl k) ?_
  show Rest p.tables e below s _ _ _ (T5.setTop (mkF m 52 #[.val (.ref a0), .val (.ref a1), .val (.int (0 : Int32)), .val (.int (7 : Int32)), .val .null, .val (.ref va3)] [(.ref a0)]))
  refine Rest.via (fun t k => XS.aload X5.here hx rfl (hb hby d2_52) rfl rfl k) ?_
  show Rest p.tables e below s _ _ _ (T5.setTop (mkF m 54 #[.val (.ref a0), .val (.ref a1), .val (.int (0 : Int32)), .val (.int (7 : Int32)), .val .null, .val (.ref va3)] [(.ref va3), (.ref a0)]))
  have Fo6 := ((F_v.keep Kq3 nin0).other W5 (Or.inr (slot_ne (Or.inr (hw _ (List.mem_of_getElem? (i := 33) rfl))) (Or.inr (hw _ (List.mem_of_getElem? (i := 31) rfl))) (by decide) (t := (.array .byte)) (t' := .byte) (by decide) (by decide))))
  obtain ⟨T6, h6, X6, e6, W6, st6⟩ := putF X5 hx hZ hown (host := "") (Or.inl (hw _ (List.mem_of_getElem? (i := 32) rfl))) Via.refl e5 Fo6 ((E_a0.keep Kq3).wr W5) (Or.inr ⟨(hw _ (List.mem_of_getElem? (i := 33) rfl)), rfl, hnm⟩) (hw _ (List.mem_of_getElem? (i := 6) rfl)) (ty := (.array .byte)) (by decide) rfl rfl (g := (mkF m 54 #[.val (.ref a0), .val (.ref a1), .val (.int (0 : Int32)), .val (.int (7 : Int32)), .val .null, .val (.ref va3)] [(.ref va3), (.ref a0)])) rfl rfl (hb hby d2_54)
  refine Rest.via (fun t k => st6 t k) ?_
  have N6 := Fr.snoc X6 N5 g_a0
  have K6 : Keep h0 h6 [a0] := K5.wr W6 (Or.inl (List.mem_of_getElem? (i := 0) rfl))
  have Fw6 := Fo6.same W6
  show Rest p.tables e below s _ _ _ (T6.setTop (mkF m 57 #[.val (.ref a0), .val (.ref a1), .val (.int (0 : Int32)), .val (.int (7 : Int32)), .val .null, .val (.ref va3)] []))
  refine Rest.ret X6 (v := none) (fun _ => rfl) hlk (fun fs hr => X6.returnOut hx Bd.returns (hb hby d2_57) hr) ?_ (by decide) (by decide)
  rw [e6]
  exact ⟨rfl, N6, K6, va3, kb3, sz_va3, Fw6, (Fw5.other W6 (Or.inr (slot_ne (Or.inr (hw _ (List.mem_of_getElem? (i := 31) rfl))) (Or.inr (hw _ (List.mem_of_getElem? (i := 33) rfl))) (by decide) (t := .byte) (t' := (.array .byte)) (by decide) (by decide)))), ((Vq3.other W5 (Ne.symm ne_a0_va3)).other W6 (Ne.symm ne_a0_va3)), ne_a0_va3⟩
theorem ef_SI7 (m : MethodId) (a0 : Addr) (a1 : Addr) : entryFrame m #[(.ref a0), (.ref a1)] 2 = mkF m 0 #[.val (.ref a0), .val (.ref a1)] [] := by first | (simp [entryFrame, mkF, argsToLocals, Value.category, maxLocals]; done) | rfl
def QSI7 (Z : State) (a0 : Addr) (a1 : Addr) (kc : ClassId) (ic : Int32) (ca : Int32) (cb : Int32) (cc : Int32) (cd : Int32) (ce : Int32) (cf : Int32) (cg : Int32) (h0 : Heap) (n0 : Nat) (v : Option Value) (h : Heap) (L : List Loc) : Prop := v = none ∧ Fr n0 L ∧ Keep h0 h [a0] ∧ ∃ va kb, h0.size ≤ va ∧ Fld Z h a0 "java/lang/String" "value" "[B" (.ref va) ∧ Fld Z h a0 "java/lang/String" "coder" "B" (.int (0 : Int32)) ∧ Arv Z h va kb .byte (7 : Int32) [(.int (own_by ca)), (.int (own_by cb)), (.int (own_by cc)), (.int (own_by cd)), (.int (own_by ce)), (.int (own_by cf)), (.int (own_by cg))] (.int (0 : Int32)) ∧ a0 ≠ va
set_option maxRecDepth 65536 in
set_option maxHeartbeats 40000000 in
theorem rmSI7 (l : Launch) (Z : State) (aw : Array Value) (hw : ∀ d ∈ tables_1, d.before aw Z = true) (ws : List Jvm.Cond) (a0 : Addr) (a1 : Addr) (kc : ClassId) (ic : Int32) (ca : Int32) (cb : Int32) (cc : Int32) (cd : Int32) (ce : Int32) (cf : Int32) (cg : Int32) (h0 : Heap) (n0 : Nat) (Z0 : n0 ≤ h0.size) (E_a0 : Exa Z h0 a0 "java/lang/String") (F_v : Fld Z h0 a0 "java/lang/String" "value" "[B" .null) (F_c : Fld Z h0 a0 "java/lang/String" "coder" "B" (.int (0 : Int32))) (g_a0 : n0 ≤ a0) (V1 : Arv Z h0 a1 kc .char (7 : Int32) [(.int ca), (.int cb), (.int cc), (.int cd), (.int ce), (.int cf), (.int cg)] (.int (0 : Int32))) (hca : ¬ ((255 : Int32) < ca)) (hcb : ¬ ((255 : Int32) < cb)) (hcc : ¬ ((255 : Int32) < cc)) (hcd : ¬ ((255 : Int32) < cd)) (hce : ¬ ((255 : Int32) < ce)) (hcf : ¬ ((255 : Int32) < cf)) (hcg : ¬ ((255 : Int32) < cg)) (O : Old Z n0 h0) (CS : own_CS Z ic) :
    MetFree l (⟨"java/lang/String", "<init>", "([C)V"⟩ : MethodName) (head1 (Jvm.Cond.code (⟨"java/lang/String", "<init>", "([C)V"⟩ : MethodName) jdk_42_method_3_code 2 none :: ws) ({ frames := 3, cells := 1, slots := 7, locals := 52 } : Room)) (fun a U => a = #[(.ref a0), (.ref a1)] ∧ Z.Warmed39 U.vm ∧ U.heap = h0) (fun _ _ _ _ _ => True) (fun _ U o U' => ∃ v L, o = .returned v ∧ QSI7 Z a0 a1 kc ic ca cb cc cd ce cf cg h0 n0 v U'.heap L ∧ FrameEnd U o U' L ({ frames := 3, cells := 1, slots := 7, locals := 52 } : Room).cells ({ frames := 3, cells := 1, slots := 7, locals := 52 } : Room).slots) := by
  refine MetFree.of_bodySF (plainFor_of_name pn_1) hisR ?_
  intro p e s m args below meth c s₁ Bd hml0 hP hK
  obtain ⟨rfl, hZ, hh⟩ := hP
  have hx := Bd.exec
  have hby := Bd.bytes
  have hml : c.maxLocals = 2 := hml0
  have hown : s.vm.findClass "java/lang/String" = some m.cls := findClass_of_methodNamed Bd.named
  have hnm := (name_of_methodNamed Bd.named Bd.method).1
  have hlk : meth.locks = false := BodyLoose.notSynchronized Bd
  have X0 : Stand p l e ({ frames := 3, cells := 1, slots := 7, locals := 52 } : Room) s m #[(.ref a0), (.ref a1)] below meth c s₁ [] 0 0 := Stand.of_body Bd
  have eh0 : s₁.heap = h0 := by rw [← hh, Bd.state]; rfl
  have N0 := Fr.nil n0
  show Rest p.tables e below s (QSI7 Z a0 a1 kc ic ca cb cc cd ce cf cg h0 n0) _ _ (s₁.setTop (entryFrame m #[(.ref a0), (.ref a1)] 2))
  refine Rest.via (fun t k => castTop (ef_SI7 m a0 a1) k) ?_
  show Rest p.tables e below s _ _ _ (s₁.setTop (mkF m 0 #[.val (.ref a0), .val (.ref a1)] []))
  refine Rest.via (fun t k => XS.aloadN X0.here hx rfl (hb hby d1_0) rfl rfl k) ?_
  show Rest p.tables e below s _ _ _ (s₁.setTop (mkF m 1 #[.val (.ref a0), .val (.ref a1)] [(.ref a0)]))
  refine Rest.via (fun t k => XS.aloadN X0.here hx rfl (hb hby d1_1) rfl rfl k) ?_
  show Rest p.tables e below s _ _ _ (s₁.setTop (mkF m 2 #[.val (.ref a0), .val (.ref a1)] [(.ref a1), (.ref a0)]))
  refine Rest.via (fun t k => XS.iconst X0.here hx rfl (hb hby d1_2) k) ?_
  show Rest p.tables e below s _ _ _ (s₁.setTop (mkF m 3 #[.val (.ref a0), .val (.ref a1)] [(.int (0 : Int32)), (.ref a1), (.ref a0)]))
  refine Rest.via (fun t k => XS.aloadN X0.here hx rfl (hb hby d1_3) rfl rfl k) ?_
  show Rest p.tables e below s _ _ _ (s₁.setTop (mkF m 4 #[.val (.ref a0), .val (.ref a1)] [(.ref a1), (.int (0 : Int32)), (.ref a1), (.ref a0)]))
  obtain ⟨cl1, Ar1, -, S1, P1, -, -⟩ := id V1
  refine Rest.via (fun t k => X0.arraylength hx (by rw [eh0]; exact Ar1.1) (State.isArrayOf_alike hZ.alike Ar1.2.1) (g := (mkF m 4 #[.val (.ref a0), .val (.ref a1)] [(.ref a1), (.int (0 : Int32)), (.ref a1), (.ref a0)])) rfl rfl (hb hby d1_4) t k) ?_
  rw [len_of S1 P1]
  show Rest p.tables e below s _ _ _ (s₁.setTop (mkF m 5 #[.val (.ref a0), .val (.ref a1)] [(.int (7 : Int32)), (.int (0 : Int32)), (.ref a1), (.ref a0)]))
  refine Rest.via (fun t k => XS.aconstNull X0.here hx rfl (hb hby d1_5) k) ?_
  show Rest p.tables e below s _ _ _ (s₁.setTop (mkF m 6 #[.val (.ref a0), .val (.ref a1)] [.null, (.int (7 : Int32)), (.int (0 : Int32)), (.ref a1), (.ref a0)]))
  obtain ⟨_, _, ⟨T2, L2, k2, n2⟩, -, X2, ⟨Lc2, hQ2, l2, y2, z2⟩, st2⟩ := X0.specialBack hx (y := (⟨"java/lang/String", "<init>", "([CIILjava/lang/Void;)V"⟩ : MethodName)) rfl hown (mvT hZ (hw _ (List.mem_of_getElem? (i := 11) rfl))) (mvT hZ (hw _ (List.mem_of_getElem? (i := 12) rfl))) (mvT hZ (hw _ (List.mem_of_getElem? (i := 14) rfl))) (by decide) (backOf (W := 0) (rmSJ7 l Z aw hw [] a0 a1 kc ic ca cb cc cd ce cf cg h0 n0 (Nat.le_trans Z0 (Keep.refl h0 [a0]).1) E_a0 F_v F_c g_a0 V1 hca hcb hcc hcd hce hcf hcg (O.keep (Keep.refl h0 [a0]) (allS g_a0 all0)) CS) hZ (hw _ (List.mem_of_getElem? (i := 14) rfl)) (hw _ (List.mem_of_getElem? (i := 7) rfl)) (by decide) (by decide)) (g := (mkF m 6 #[.val (.ref a0), .val (.ref a1)] [.null, (.int (7 : Int32)), (.int (0 : Int32)), (.ref a1), (.ref a0)])) rfl (by rw [hml]; rfl) (Steps.refl _) (a := a0) (argsL := [(.ref a1), (.int (0 : Int32)), (.int (7 : Int32)), .null]) (rest := []) (lenOf pd_3 rfl) rfl (by show 2 * 0 + _ ≤ _; exact Nat.le_of_eq rfl) (hb hby d1_6) (fun _ _ => ⟨rfl, eh0, (by decide : 0 + 1 ≤ _), (by decide : 0 + 7 ≤ _)⟩)
  dsimp only [Pt.U, Pt.locs, Pt.cells, Pt.slots] at X2 l2 y2 z2 st2 hQ2
  subst l2 y2 z2
  obtain ⟨h2, e2⟩ : ∃ z, T2.heap = z := ⟨_, rfl⟩
  rw [e2] at hQ2
  obtain ⟨rfl, Nq2, Kq2, va2, kb2, sd2, Fv2, Fc2, Vq2, nb2⟩ := hQ2
  have N2 := Fr.app N0 Nq2
  have K2 : Keep h0 h2 [a0] := (Keep.refl h0 [a0]).trans Kq2 (allS (Or.inl (List.mem_of_getElem? (i := 0) rfl)) all0)
  refine Rest.via (fun t k => st2.trans k) ?_
  show Rest p.tables e below s _ _ _ (T2.setTop (mkF m 9 #[.val (.ref a0), .val (.ref a1)] []))
  refine Rest.ret X2 (v := none) (fun _ => rfl) hlk (fun fs hr => X2.returnOut hx Bd.returns (hb hby d1_9) hr) ?_ (by decide) (by decide)
  rw [e2]
  exact ⟨rfl, N2, K2, va2, kb2, Nat.le_trans (Keep.refl h0 [a0]).1 sd2, Fv2, Fc2, Vq2, nb2⟩
theorem d10_0 : decode jdk_43_method_13_code 0 = .ok (.aload_n 0, 1) := by decide +kernel
theorem d10_1 : decode jdk_43_method_13_code 1 = .ok (.arraylength, 1) := by decide +kernel
theorem d10_2 : decode jdk_43_method_13_code 2 = .ok (.aload_n 1, 1) := by decide +kernel
theorem d10_3 : decode jdk_43_method_13_code 3 = .ok (.arraylength, 1) := by decide +kernel
theorem d10_4 : decode jdk_43_method_13_code 4 = .ok (.if_icmp .ne 30, 3) := by decide +kernel
theorem d10_7 : decode jdk_43_method_13_code 7 = .ok (.iconst 0, 1) := by decide +kernel
theorem d10_8 : decode jdk_43_method_13_code 8 = .ok (.istore_n 2, 1) := by decide +kernel
theorem d10_9 : decode jdk_43_method_13_code 9 = .ok (.iload_n 2, 1) := by decide +kernel
theorem d10_10 : decode jdk_43_method_13_code 10 = .ok (.aload_n 0, 1) := by decide +kernel
theorem d10_11 : decode jdk_43_method_13_code 11 = .ok (.arraylength, 1) := by decide +kernel
theorem d10_12 : decode jdk_43_method_13_code 12 = .ok (.if_icmp .ge 20, 3) := by decide +kernel
theorem d10_15 : decode jdk_43_method_13_code 15 = .ok (.aload_n 0, 1) := by decide +kernel
theorem d10_16 : decode jdk_43_method_13_code 16 = .ok (.iload_n 2, 1) := by decide +kernel
theorem d10_17 : decode jdk_43_method_13_code 17 = .ok (.baload, 1) := by decide +kernel
theorem d10_18 : decode jdk_43_method_13_code 18 = .ok (.aload_n 1, 1) := by decide +kernel
theorem d10_19 : decode jdk_43_method_13_code 19 = .ok (.iload_n 2, 1) := by decide +kernel
theorem d10_20 : decode jdk_43_method_13_code 20 = .ok (.baload, 1) := by decide +kernel
theorem d10_21 : decode jdk_43_method_13_code 21 = .ok (.if_icmp .eq 5, 3) := by decide +kernel
theorem d10_24 : decode jdk_43_method_13_code 24 = .ok (.iconst 0, 1) := by decide +kernel
theorem d10_25 : decode jdk_43_method_13_code 25 = .ok (.ireturn, 1) := by decide +kernel
theorem d10_26 : decode jdk_43_method_13_code 26 = .ok (.iinc 2 1, 3) := by decide +kernel
theorem d10_29 : decode jdk_43_method_13_code 29 = .ok (.goto (-20), 3) := by decide +kernel
theorem d10_32 : decode jdk_43_method_13_code 32 = .ok (.iconst 1, 1) := by decide +kernel
theorem d10_33 : decode jdk_43_method_13_code 33 = .ok (.ireturn, 1) := by decide +kernel
theorem pn_2 : plainName "java/lang/StringLatin1" = true := by first | (simp [plainName, overriddenIn]; done) | decide +kernel
theorem ef_LE5_5 (m : MethodId) (a0 : Addr) (a1 : Addr) : entryFrame m #[(.ref a0), (.ref a1)] 3 = mkF m 0 #[.val (.ref a0), .val (.ref a1), .unset] [] := by first | (simp [entryFrame, mkF, argsToLocals, Value.category, maxLocals]; done) | rfl
def QLE5_5 (Z : State) (a0 : Addr) (a1 : Addr) (k0 : ClassId) (k1 : ClassId) (xa : Int32) (xb : Int32) (xc : Int32) (xd : Int32) (xe : Int32) (ya : Int32) (yb : Int32) (yc : Int32) (yd : Int32) (ye : Int32) (h0 : Heap) (n0 : Nat) (v : Option Value) (h : Heap) (L : List Loc) : Prop := v = some (.int (if ([xa, xb, xc, xd, xe] : List Int32) = [ya, yb, yc, yd, ye] then (1 : Int32) else 0)) ∧ Fr n0 L ∧ h = h0
set_option maxRecDepth 65536 in
set_option maxHeartbeats 40000000 in
theorem rmLE5_5 (l : Launch) (Z : State) (aw : Array Value) (hw : ∀ d ∈ tables_1, d.before aw Z = true) (ws : List Jvm.Cond) (a0 : Addr) (a1 : Addr) (k0 : ClassId) (k1 : ClassId) (xa : Int32) (xb : Int32) (xc : Int32) (xd : Int32) (xe : Int32) (ya : Int32) (yb : Int32) (yc : Int32) (yd : Int32) (ye : Int32) (h0 : Heap) (n0 : Nat) (Z0 : n0 ≤ h0.size) (V0 : Arv Z h0 a0 k0 .byte (5 : Int32) [(.int xa), (.int xb), (.int xc), (.int xd), (.int xe)] (.int (0 : Int32))) (V1 : Arv Z h0 a1 k1 .byte (5 : Int32) [(.int ya), (.int yb), (.int yc), (.int yd), (.int ye)] (.int (0 : Int32))) :
    MetFree l (⟨"java/lang/StringLatin1", "equals", "([B[B)Z"⟩ : MethodName) (head1 (Jvm.Cond.code (⟨"java/lang/StringLatin1", "equals", "([B[B)Z"⟩ : MethodName) jdk_43_method_13_code 3 (some .boolean) :: ws) ({ frames := 0, cells := 0, slots := 0, locals := 0 } : Room)) (fun a U => a = #[(.ref a0), (.ref a1)] ∧ Z.Warmed39 U.vm ∧ U.heap = h0) (fun _ _ _ _ _ => True) (fun _ U o U' => ∃ v L, o = .returned v ∧ QLE5_5 Z a0 a1 k0 k1 xa xb xc xd xe ya yb yc yd ye h0 n0 v U'.heap L ∧ FrameEnd U o U' L ({ frames := 0, cells := 0, slots := 0, locals := 0 } : Room).cells ({ frames := 0, cells := 0, slots := 0, locals := 0 } : Room).slots) := by
  refine MetFree.of_bodySF (plainFor_of_name pn_2) hisR ?_
  intro p e s m args below meth c s₁ Bd hml0 hP hK
  obtain ⟨rfl, hZ, hh⟩ := hP
  have hx := Bd.exec
  have hby := Bd.bytes
  have hml : c.maxLocals = 3 := hml0
  have hown : s.vm.findClass "java/lang/StringLatin1" = some m.cls := findClass_of_methodNamed Bd.named
  have hnm := (name_of_methodNamed Bd.named Bd.method).1
  have hlk : meth.locks = false := BodyLoose.notSynchronized Bd
  have X0 : Stand p l e ({ frames := 0, cells := 0, slots := 0, locals := 0 } : Room) s m #[(.ref a0), (.ref a1)] below meth c s₁ [] 0 0 := Stand.of_body Bd
  have eh0 : s₁.heap = h0 := by rw [← hh, Bd.state]; rfl
  have N0 := Fr.nil n0
  show Rest p.tables e below s (QLE5_5 Z a0 a1 k0 k1 xa xb xc xd xe ya yb yc yd ye h0 n0) _ _ (s₁.setTop (entryFrame m #[(.ref a0), (.ref a1)] 3))
  refine Rest.via (fun t k => castTop (ef_LE5_5 m a0 a1) k) ?_
  show Rest p.tables e below s _ _ _ (s₁.setTop (mkF m 0 #[.val (.ref a0), .val (.ref a1), .unset] []))
  refine Rest.via (fun t k => XS.aloadN X0.here hx rfl (hb hby d10_0) rfl rfl k) ?_
  show Rest p.tables e below s _ _ _ (s₁.setTop (mkF m 1 #[.val (.ref a0), .val (.ref a1), .unset] [(.ref a0)]))
  obtain ⟨cl1, Ar1, -, S1, P1, -, -⟩ := id V0
  refine Rest.via (fun t k => X0.arraylength hx (by rw [eh0]; exact Ar1.1) (State.isArrayOf_alike hZ.alike Ar1.2.1) (g := (mkF m 1 #[.val (.ref a0), .val (.ref a1), .unset] [(.ref a0)])) rfl rfl (hb hby d10_1) t k) ?_
  rw [len_of S1 P1]
  show Rest p.tables e below s _ _ _ (s₁.setTop (mkF m 2 #[.val (.ref a0), .val (.ref a1), .unset] [(.int (5 : Int32))]))
  refine Rest.via (fun t k => XS.aloadN X0.here hx rfl (hb hby d10_2) rfl rfl k) ?_
  show Rest p.tables e below s _ _ _ (s₁.setTop (mkF m 3 #[.val (.ref a0), .val (.ref a1), .unset] [(.ref a1), (.int (5 : Int32))]))
  obtain ⟨cl2, Ar2, -, S2, P2, -, -⟩ := id V1
  refine Rest.via (fun t k => X0.arraylength hx (by rw [eh0]; exact Ar2.1) (State.isArrayOf_alike hZ.alike Ar2.2.1) (g := (mkF m 3 #[.val (.ref a0), .val (.ref a1), .unset] [(.ref a1), (.int (5 : Int32))])) rfl rfl (hb hby d10_3) t k) ?_
  rw [len_of S2 P2]
  show Rest p.tables e below s _ _ _ (s₁.setTop (mkF m 4 #[.val (.ref a0), .val (.ref a1), .unset] [(.int (5 : Int32)), (.int (5 : Int32))]))
  refine Rest.via (fun t k => XS.icmpNo X0.here hx rfl (hb hby d10_4) rfl (teq (by decide : (5 : Int32) = (5 : Int32))).2 k) ?_
  show Rest p.tables e below s _ _ _ (s₁.setTop (mkF m 7 #[.val (.ref a0), .val (.ref a1), .unset] []))
  refine Rest.via (fun t k => XS.iconst X0.here hx rfl (hb hby d10_7) k) ?_
  show Rest p.tables e below s _ _ _ (s₁.setTop (mkF m 8 #[.val (.ref a0), .val (.ref a1), .unset] [(.int (0 : Int32))]))
  refine Rest.via (fun t k => XS.istoreN X0.here hx rfl (hb hby d10_8) rfl (l' := #[.val (.ref a0), .val (.ref a1), .val (.int (0 : Int32))]) rfl k) ?_
  show Rest p.tables e below s _ _ _ (s₁.setTop (mkF m 9 #[.val (.ref a0), .val (.ref a1), .val (.int (0 : Int32))] []))
  refine Rest.via (fun t k => XS.iloadN X0.here hx rfl (hb hby d10_9) rfl k) ?_
  show Rest p.tables e below s _ _ _ (s₁.setTop (mkF m 10 #[.val (.ref a0), .val (.ref a1), .val (.int (0 : Int32))] [(.int (0 : Int32))]))
  refine Rest.via (fun t k => XS.aloadN X0.here hx rfl (hb hby d10_10) rfl rfl k) ?_
  show Rest p.tables e below s _ _ _ (s₁.setTop (mkF m 11 #[.val (.ref a0), .val (.ref a1), .val (.int (0 : Int32))] [(.ref a0), (.int (0 : Int32))]))
  obtain ⟨cl3, Ar3, -, S3, P3, -, -⟩ := id V0
  refine Rest.via (fun t k => X0.arraylength hx (by rw [eh0]; exact Ar3.1) (State.isArrayOf_alike hZ.alike Ar3.2.1) (g := (mkF m 11 #[.val (.ref a0), .val (.ref a1), .val (.int (0 : Int32))] [(.ref a0), (.int (0 : Int32))])) rfl rfl (hb hby d10_11) t k) ?_
  rw [len_of S3 P3]
  show Rest p.tables e below s _ _ _ (s₁.setTop (mkF m 12 #[.val (.ref a0), .val (.ref a1), .val (.int (0 : Int32))] [(.int (5 : Int32)), (.int (0 : Int32))]))
  refine Rest.via (fun t k => XS.icmpNo X0.here hx rfl (hb hby d10_12) rfl (tlt (by decide : (0 : Int32) < (5 : Int32))).2.1 k) ?_
  show Rest p.tables e below s _ _ _ (s₁.setTop (mkF m 15 #[.val (.ref a0), .val (.ref a1), .val (.int (0 : Int32))] []))
  refine Rest.via (fun t k => XS.aloadN X0.here hx rfl (hb hby d10_15) rfl rfl k) ?_
  show Rest p.tables e below s _ _ _ (s₁.setTop (mkF m 16 #[.val (.ref a0), .val (.ref a1), .val (.int (0 : Int32))] [(.ref a0)]))
  refine Rest.via (fun t k => XS.iloadN X0.here hx rfl (hb hby d10_16) rfl k) ?_
  show Rest p.tables e below s _ _ _ (s₁.setTop (mkF m 17 #[.val (.ref a0), .val (.ref a1), .val (.int (0 : Int32))] [(.int (0 : Int32)), (.ref a0)]))
  obtain ⟨cl4, Ar4, qa4, Sa4, Pa4, Ha4, Ga4⟩ := id V0
  have hin4 := inb_of (j := (0 : Int32)) Sa4 ⟨by decide, by decide⟩
  have hat4 : cl4.slots[((0 : Int32)).toNatClampNeg]? = some (.int xa) := Has.at Ha4 hin4 rfl
  refine Rest.via (fun t k => X0.baloadBytes hx (j := (0 : Int32)) (v := (.int xa)) (by rw [eh0]; exact Ar4.1) (State.isArrayOf_alike hZ.alike Ar4.2.1) Ar4.2.2 hin4 hat4 (g := (mkF m 17 #[.val (.ref a0), .val (.ref a1), .val (.int (0 : Int32))] [(.int (0 : Int32)), (.ref a0)])) rfl rfl (hb hby d10_17) t k) ?_
  show Rest p.tables e below s _ _ _ (s₁.setTop (mkF m 18 #[.val (.ref a0), .val (.ref a1), .val (.int (0 : Int32))] [(.int xa)]))
  refine Rest.via (fun t k => XS.aloadN X0.here hx rfl (hb hby d10_18) rfl rfl k) ?_
  show Rest p.tables e below s _ _ _ (s₁.setTop (mkF m 19 #[.val (.ref a0), .val (.ref a1), .val (.int (0 : Int32))] [(.ref a1), (.int xa)]))
  refine Rest.via (fun t k => XS.iloadN X0.here hx rfl (hb hby d10_19) rfl k) ?_
  show Rest p.tables e below s _ _ _ (s₁.setTop (mkF m 20 #[.val (.ref a0), .val (.ref a1), .val (.int (0 : Int32))] [(.int (0 : Int32)), (.ref a1), (.int xa)]))
  obtain ⟨cl5, Ar5, qa5, Sa5, Pa5, Ha5, Ga5⟩ := id V1
  have hin5 := inb_of (j := (0 : Int32)) Sa5 ⟨by decide, by decide⟩
  have hat5 : cl5.slots[((0 : Int32)).toNatClampNeg]? = some (.int ya) := Has.at Ha5 hin5 rfl
  refine Rest.via (fun t k => X0.baloadBytes hx (j := (0 : Int32)) (v := (.int ya)) (by rw [eh0]; exact Ar5.1) (State.isArrayOf_alike hZ.alike Ar5.2.1) Ar5.2.2 hin5 hat5 (g := (mkF m 20 #[.val (.ref a0), .val (.ref a1), .val (.int (0 : Int32))] [(.int (0 : Int32)), (.ref a1), (.int xa)])) rfl rfl (hb hby d10_20) t k) ?_
  show Rest p.tables e below s _ _ _ (s₁.setTop (mkF m 21 #[.val (.ref a0), .val (.ref a1), .val (.int (0 : Int32))] [(.int ya), (.int xa)]))
  by_cases hq0 : xa = ya
  · refine Rest.via (fun t k => XS.icmpYes X0.here hx rfl (pc0 := 21) (pc' := 26) rfl (hb hby d10_21) rfl (teq hq0).1 (by decide) (by decide) k) ?_
    show Rest p.tables e below s _ _ _ (s₁.setTop (mkF m 26 #[.val (.ref a0), .val (.ref a1), .val (.int (0 : Int32))] []))
    refine Rest.via (fun t k => XS.iinc X0.here hx rfl (hb hby d10_26) rfl (l' := #[.val (.ref a0), .val (.ref a1), .val (.int ((0 : Int32) + (1 : Int32)))]) rfl k) ?_
    show Rest p.tables e below s _ _ _ (s₁.setTop (mkF m 29 #[.val (.ref a0), .val (.ref a1), .val (.int ((0 : Int32) + (1 : Int32)))] []))
    rw [(by decide : ((0 : Int32) + (1 : Int32)) = (1 : Int32))]
    show Rest p.tables e below s _ _ _ (s₁.setTop (mkF m 29 #[.val (.ref a0), .val (.ref a1), .val (.int (1 : Int32))] []))
    refine Rest.via (fun t k => XS.goto X0.here hx rfl (pc0 := 29) (pc' := 9) rfl (hb hby d10_29) (by decide) (by decide) k) ?_
    show Rest p.tables e below s _ _ _ (s₁.setTop (mkF m 9 #[.val (.ref a0), .val (.ref a1), .val (.int (1 : Int32))] []))
    refine Rest.via (fun t k => XS.iloadN X0.here hx rfl (hb hby d10_9) rfl k) ?_
    show Rest p.tables e below s _ _ _ (s₁.setTop (mkF m 10 #[.val (.ref a0), .val (.ref a1), .val (.int (1 : Int32))] [(.int (1 : Int32))]))
    refine Rest.via (fun t k => XS.aloadN X0.here hx rfl (hb hby d10_10) rfl rfl k) ?_
    show Rest p.tables e below s _ _ _ (s₁.setTop (mkF m 11 #[.val (.ref a0), .val (.ref a1), .val (.int (1 : Int32))] [(.ref a0), (.int (1 : Int32))]))
    obtain ⟨cl6, Ar6, -, S6, P6, -, -⟩ := id V0
    refine Rest.via (fun t k => X0.arraylength hx (by rw [eh0]; exact Ar6.1) (State.isArrayOf_alike hZ.alike Ar6.2.1) (g := (mkF m 11 #[.val (.ref a0), .val (.ref a1), .val (.int (1 : Int32))] [(.ref a0), (.int (1 : Int32))])) rfl rfl (hb hby d10_11) t k) ?_
    rw [len_of S6 P6]
    show Rest p.tables e below s _ _ _ (s₁.setTop (mkF m 12 #[.val (.ref a0), .val (.ref a1), .val (.int (1 : Int32))] [(.int (5 : Int32)), (.int (1 : Int32))]))
    refine Rest.via (fun t k => XS.icmpNo X0.here hx rfl (hb hby d10_12) rfl (tlt (by decide : (1 : Int32) < (5 : Int32))).2.1 k) ?_
    show Rest p.tables e below s _ _ _ (s₁.setTop (mkF m 15 #[.val (.ref a0), .val (.ref a1), .val (.int (1 : Int32))] []))
    refine Rest.via (fun t k => XS.aloadN X0.here hx rfl (hb hby d10_15) rfl rfl k) ?_
    show Rest p.tables e below s _ _ _ (s₁.setTop (mkF m 16 #[.val (.ref a0), .val (.ref a1), .val (.int (1 : Int32))] [(.ref a0)]))
    refine Rest.via (fun t k => XS.iloadN X0.here hx rfl (hb hby d10_16) rfl k) ?_
    show Rest p.tables e below s _ _ _ (s₁.setTop (mkF m 17 #[.val (.ref a0), .val (.ref a1), .val (.int (1 : Int32))] [(.int (1 : Int32)), (.ref a0)]))
    obtain ⟨cl7, Ar7, qa7, Sa7, Pa7, Ha7, Ga7⟩ := id V0
    have hin7 := inb_of (j := (1 : Int32)) Sa7 ⟨by decide, by decide⟩
    have hat7 : cl7.slots[((1 : Int32)).toNatClampNeg]? = some (.int xb) := Has.at Ha7 hin7 rfl
    refine Rest.via (fun t k => X0.baloadBytes hx (j := (1 : Int32)) (v := (.int xb)) (by rw [eh0]; exact Ar7.1) (State.isArrayOf_alike hZ.alike Ar7.2.1) Ar7.2.2 hin7 hat7 (g := (mkF m 17 #[.val (.ref a0), .val (.ref a1), .val (.int (1 : Int32))] [(.int (1 : Int32)), (.ref a0)])) rfl rfl (hb hby d10_17) t k) ?_
    show Rest p.tables e below s _ _ _ (s₁.setTop (mkF m 18 #[.val (.ref a0), .val (.ref a1), .val (.int (1 : Int32))] [(.int xb)]))
    refine Rest.via (fun t k => XS.aloadN X0.here hx rfl (hb hby d10_18) rfl rfl k) ?_
    show Rest p.tables e below s _ _ _ (s₁.setTop (mkF m 19 #[.val (.ref a0), .val (.ref a1), .val (.int (1 : Int32))] [(.ref a1), (.int xb)]))
    refine Rest.via (fun t k => XS.iloadN X0.here hx rfl (hb hby d10_19) rfl k) ?_
    show Rest p.tables e below s _ _ _ (s₁.setTop (mkF m 20 #[.val (.ref a0), .val (.ref a1), .val (.int (1 : Int32))] [(.int (1 : Int32)), (.ref a1), (.int xb)]))
    obtain ⟨cl8, Ar8, qa8, Sa8, Pa8, Ha8, Ga8⟩ := id V1
    have hin8 := inb_of (j := (1 : Int32)) Sa8 ⟨by decide, by decide⟩
    have hat8 : cl8.slots[((1 : Int32)).toNatClampNeg]? = some (.int yb) := Has.at Ha8 hin8 rfl
    refine Rest.via (fun t k => X0.baloadBytes hx (j := (1 : Int32)) (v := (.int yb)) (by rw [eh0]; exact Ar8.1) (State.isArrayOf_alike hZ.alike Ar8.2.1) Ar8.2.2 hin8 hat8 (g := (mkF m 20 #[.val (.ref a0), .val (.ref a1), .val (.int (1 : Int32))] [(.int (1 : Int32)), (.ref a1), (.int xb)])) rfl rfl (hb hby d10_20) t k) ?_
    show Rest p.tables e below s _ _ _ (s₁.setTop (mkF m 21 #[.val (.ref a0), .val (.ref a1), .val (.int (1 : Int32))] [(.int yb), (.int xb)]))
    by_cases hq1 : xb = yb
    · refine Rest.via (fun t k => XS.icmpYes X0.here hx rfl (pc0 := 21) (pc' := 26) rfl (hb hby d10_21) rfl (teq hq1).1 (by decide) (by decide) k) ?_
      show Rest p.tables e below s _ _ _ (s₁.setTop (mkF m 26 #[.val (.ref a0), .val (.ref a1), .val (.int (1 : Int32))] []))
      refine Rest.via (fun t k => XS.iinc X0.here hx rfl (hb hby d10_26) rfl (l' := #[.val (.ref a0), .val (.ref a1), .val (.int ((1 : Int32) + (1 : Int32)))]) rfl k) ?_
      show Rest p.tables e below s _ _ _ (s₁.setTop (mkF m 29 #[.val (.ref a0), .val (.ref a1), .val (.int ((1 : Int32) + (1 : Int32)))] []))
      rw [(by decide : ((1 : Int32) + (1 : Int32)) = (2 : Int32))]
      show Rest p.tables e below s _ _ _ (s₁.setTop (mkF m 29 #[.val (.ref a0), .val (.ref a1), .val (.int (2 : Int32))] []))
      refine Rest.via (fun t k => XS.goto X0.here hx rfl (pc0 := 29) (pc' := 9) rfl (hb hby d10_29) (by decide) (by decide) k) ?_
      show Rest p.tables e below s _ _ _ (s₁.setTop (mkF m 9 #[.val (.ref a0), .val (.ref a1), .val (.int (2 : Int32))] []))
      refine Rest.via (fun t k => XS.iloadN X0.here hx rfl (hb hby d10_9) rfl k) ?_
      show Rest p.tables e below s _ _ _ (s₁.setTop (mkF m 10 #[.val (.ref a0), .val (.ref a1), .val (.int (2 : Int32))] [(.int (2 : Int32))]))
      refine Rest.via (fun t k => XS.aloadN X0.here hx rfl (hb hby d10_10) rfl rfl k) ?_
      show Rest p.tables e below s _ _ _ (s₁.setTop (mkF m 11 #[.val (.ref a0), .val (.ref a1), .val (.int (2 : Int32))] [(.ref a0), (.int (2 : Int32))]))
      obtain ⟨cl9, Ar9, -, S9, P9, -, -⟩ := id V0
      refine Rest.via (fun t k => X0.arraylength hx (by rw [eh0]; exact Ar9.1) (State.isArrayOf_alike hZ.alike Ar9.2.1) (g := (mkF m 11 #[.val (.ref a0), .val (.ref a1), .val (.int (2 : Int32))] [(.ref a0), (.int (2 : Int32))])) rfl rfl (hb hby d10_11) t k) ?_
      rw [len_of S9 P9]
      show Rest p.tables e below s _ _ _ (s₁.setTop (mkF m 12 #[.val (.ref a0), .val (.ref a1), .val (.int (2 : Int32))] [(.int (5 : Int32)), (.int (2 : Int32))]))
      refine Rest.via (fun t k => XS.icmpNo X0.here hx rfl (hb hby d10_12) rfl (tlt (by decide : (2 : Int32) < (5 : Int32))).2.1 k) ?_
      show Rest p.tables e below s _ _ _ (s₁.setTop (mkF m 15 #[.val (.ref a0), .val (.ref a1), .val (.int (2 : Int32))] []))
      refine Rest.via (fun t k => XS.aloadN X0.here hx rfl (hb hby d10_15) rfl rfl k) ?_
      show Rest p.tables e below s _ _ _ (s₁.setTop (mkF m 16 #[.val (.ref a0), .val (.ref a1), .val (.int (2 : Int32))] [(.ref a0)]))
      refine Rest.via (fun t k => XS.iloadN X0.here hx rfl (hb hby d10_16) rfl k) ?_
      show Rest p.tables e below s _ _ _ (s₁.setTop (mkF m 17 #[.val (.ref a0), .val (.ref a1), .val (.int (2 : Int32))] [(.int (2 : Int32)), (.ref a0)]))
      obtain ⟨cl10, Ar10, qa10, Sa10, Pa10, Ha10, Ga10⟩ := id V0
      have hin10 := inb_of (j := (2 : Int32)) Sa10 ⟨by decide, by decide⟩
      have hat10 : cl10.slots[((2 : Int32)).toNatClampNeg]? = some (.int xc) := Has.at Ha10 hin10 rfl
      refine Rest.via (fun t k => X0.baloadBytes hx (j := (2 : Int32)) (v := (.int xc)) (by rw [eh0]; exact Ar10.1) (State.isArrayOf_alike hZ.alike Ar10.2.1) Ar10.2.2 hin10 hat10 (g := (mkF m 17 #[.val (.ref a0), .val (.ref a1), .val (.int (2 : Int32))] [(.int (2 : Int32)), (.ref a0)])) rfl rfl (hb hby d10_17) t k) ?_
      show Rest p.tables e below s _ _ _ (s₁.setTop (mkF m 18 #[.val (.ref a0), .val (.ref a1), .val (.int (2 : Int32))] [(.int xc)]))
      refine Rest.via (fun t k => XS.aloadN X0.here hx rfl (hb hby d10_18) rfl rfl k) ?_
      show Rest p.tables e below s _ _ _ (s₁.setTop (mkF m 19 #[.val (.ref a0), .val (.ref a1), .val (.int (2 : Int32))] [(.ref a1), (.int xc)]))
      refine Rest.via (fun t k => XS.iloadN X0.here hx rfl (hb hby d10_19) rfl k) ?_
      show Rest p.tables e below s _ _ _ (s₁.setTop (mkF m 20 #[.val (.ref a0), .val (.ref a1), .val (.int (2 : Int32))] [(.int (2 : Int32)), (.ref a1), (.int xc)]))
      obtain ⟨cl11, Ar11, qa11, Sa11, Pa11, Ha11, Ga11⟩ := id V1
      have hin11 := inb_of (j := (2 : Int32)) Sa11 ⟨by decide, by decide⟩
      have hat11 : cl11.slots[((2 : Int32)).toNatClampNeg]? = some (.int yc) := Has.at Ha11 hin11 rfl
      refine Rest.via (fun t k => X0.baloadBytes hx (j := (2 : Int32)) (v := (.int yc)) (by rw [eh0]; exact Ar11.1) (State.isArrayOf_alike hZ.alike Ar11.2.1) Ar11.2.2 hin11 hat11 (g := (mkF m 20 #[.val (.ref a0), .val (.ref a1), .val (.int (2 : Int32))] [(.int (2 : Int32)), (.ref a1), (.int xc)])) rfl rfl (hb hby d10_20) t k) ?_
      show Rest p.tables e below s _ _ _ (s₁.setTop (mkF m 21 #[.val (.ref a0), .val (.ref a1), .val (.int (2 : Int32))] [(.int yc), (.int xc)]))
      by_cases hq2 : xc = yc
      · refine Rest.via (fun t k => XS.icmpYes X0.here hx rfl (pc0 := 21) (pc' := 26) rfl (hb hby d10_21) rfl (teq hq2).1 (by decide) (by decide) k) ?_
        show Rest p.tables e below s _ _ _ (s₁.setTop (mkF m 26 #[.val (.ref a0), .val (.ref a1), .val (.int (2 : Int32))] []))
        refine Rest.via (fun t k => XS.iinc X0.here hx rfl (hb hby d10_26) rfl (l' := #[.val (.ref a0), .val (.ref a1), .val (.int ((2 : Int32) + (1 : Int32)))]) rfl k) ?_
        show Rest p.tables e below s _ _ _ (s₁.setTop (mkF m 29 #[.val (.ref a0), .val (.ref a1), .val (.int ((2 : Int32) + (1 : Int32)))] []))
        rw [(by decide : ((2 : Int32) + (1 : Int32)) = (3 : Int32))]
        show Rest p.tables e below s _ _ _ (s₁.setTop (mkF m 29 #[.val (.ref a0), .val (.ref a1), .val (.int (3 : Int32))] []))
        refine Rest.via (fun t k => XS.goto X0.here hx rfl (pc0 := 29) (pc' := 9) rfl (hb hby d10_29) (by decide) (by decide) k) ?_
        show Rest p.tables e below s _ _ _ (s₁.setTop (mkF m 9 #[.val (.ref a0), .val (.ref a1), .val (.int (3 : Int32))] []))
        refine Rest.via (fun t k => XS.iloadN X0.here hx rfl (hb hby d10_9) rfl k) ?_
        show Rest p.tables e below s _ _ _ (s₁.setTop (mkF m 10 #[.val (.ref a0), .val (.ref a1), .val (.int (3 : Int32))] [(.int (3 : Int32))]))
        refine Rest.via (fun t k => XS.aloadN X0.here hx rfl (hb hby d10_10) rfl rfl k) ?_
        show Rest p.tables e below s _ _ _ (s₁.setTop (mkF m 11 #[.val (.ref a0), .val (.ref a1), .val (.int (3 : Int32))] [(.ref a0), (.int (3 : Int32))]))
        obtain ⟨cl12, Ar12, -, S12, P12, -, -⟩ := id V0
        refine Rest.via (fun t k => X0.arraylength hx (by rw [eh0]; exact Ar12.1) (State.isArrayOf_alike hZ.alike Ar12.2.1) (g := (mkF m 11 #[.val (.ref a0), .val (.ref a1), .val (.int (3 : Int32))] [(.ref a0), (.int (3 : Int32))])) rfl rfl (hb hby d10_11) t k) ?_
        rw [len_of S12 P12]
        show Rest p.tables e below s _ _ _ (s₁.setTop (mkF m 12 #[.val (.ref a0), .val (.ref a1), .val (.int (3 : Int32))] [(.int (5 : Int32)), (.int (3 : Int32))]))
        refine Rest.via (fun t k => XS.icmpNo X0.here hx rfl (hb hby d10_12) rfl (tlt (by decide : (3 : Int32) < (5 : Int32))).2.1 k) ?_
        show Rest p.tables e below s _ _ _ (s₁.setTop (mkF m 15 #[.val (.ref a0), .val (.ref a1), .val (.int (3 : Int32))] []))
        refine Rest.via (fun t k => XS.aloadN X0.here hx rfl (hb hby d10_15) rfl rfl k) ?_
        show Rest p.tables e below s _ _ _ (s₁.setTop (mkF m 16 #[.val (.ref a0), .val (.ref a1), .val (.int (3 : Int32))] [(.ref a0)]))
        refine Rest.via (fun t k => XS.iloadN X0.here hx rfl (hb hby d10_16) rfl k) ?_
        show Rest p.tables e below s _ _ _ (s₁.setTop (mkF m 17 #[.val (.ref a0), .val (.ref a1), .val (.int (3 : Int32))] [(.int (3 : Int32)), (.ref a0)]))
        obtain ⟨cl13, Ar13, qa13, Sa13, Pa13, Ha13, Ga13⟩ := id V0
        have hin13 := inb_of (j := (3 : Int32)) Sa13 ⟨by decide, by decide⟩
        have hat13 : cl13.slots[((3 : Int32)).toNatClampNeg]? = some (.int xd) := Has.at Ha13 hin13 rfl
        refine Rest.via (fun t k => X0.baloadBytes hx (j := (3 : Int32)) (v := (.int xd)) (by rw [eh0]; exact Ar13.1) (State.isArrayOf_alike hZ.alike Ar13.2.1) Ar13.2.2 hin13 hat13 (g := (mkF m 17 #[.val (.ref a0), .val (.ref a1), .val (.int (3 : Int32))] [(.int (3 : Int32)), (.ref a0)])) rfl rfl (hb hby d10_17) t k) ?_
        show Rest p.tables e below s _ _ _ (s₁.setTop (mkF m 18 #[.val (.ref a0), .val (.ref a1), .val (.int (3 : Int32))] [(.int xd)]))
        refine Rest.via (fun t k => XS.aloadN X0.here hx rfl (hb hby d10_18) rfl rfl k) ?_
        show Rest p.tables e below s _ _ _ (s₁.setTop (mkF m 19 #[.val (.ref a0), .val (.ref a1), .val (.int (3 : Int32))] [(.ref a1), (.int xd)]))
        refine Rest.via (fun t k => XS.iloadN X0.here hx rfl (hb hby d10_19) rfl k) ?_
        show Rest p.tables e below s _ _ _ (s₁.setTop (mkF m 20 #[.val (.ref a0), .val (.ref a1), .val (.int (3 : Int32))] [(.int (3 : Int32)), (.ref a1), (.int xd)]))
        obtain ⟨cl14, Ar14, qa14, Sa14, Pa14, Ha14, Ga14⟩ := id V1
        have hin14 := inb_of (j := (3 : Int32)) Sa14 ⟨by decide, by decide⟩
        have hat14 : cl14.slots[((3 : Int32)).toNatClampNeg]? = some (.int yd) := Has.at Ha14 hin14 rfl
        refine Rest.via (fun t k => X0.baloadBytes hx (j := (3 : Int32)) (v := (.int yd)) (by rw [eh0]; exact Ar14.1) (State.isArrayOf_alike hZ.alike Ar14.2.1) Ar14.2.2 hin14 hat14 (g := (mkF m 20 #[.val (.ref a0), .val (.ref a1), .val (.int (3 : Int32))] [(.int (3 : Int32)), (.ref a1), (.int xd)])) rfl rfl (hb hby d10_20) t k) ?_
        show Rest p.tables e below s _ _ _ (s₁.setTop (mkF m 21 #[.val (.ref a0), .val (.ref a1), .val (.int (3 : Int32))] [(.int yd), (.int xd)]))
        by_cases hq3 : xd = yd
        · refine Rest.via (fun t k => XS.icmpYes X0.here hx rfl (pc0 := 21) (pc' := 26) rfl (hb hby d10_21) rfl (teq hq3).1 (by decide) (by decide) k) ?_
          show Rest p.tables e below s _ _ _ (s₁.setTop (mkF m 26 #[.val (.ref a0), .val (.ref a1), .val (.int (3 : Int32))] []))
          refine Rest.via (fun t k => XS.iinc X0.here hx rfl (hb hby d10_26) rfl (l' := #[.val (.ref a0), .val (.ref a1), .val (.int ((3 : Int32) + (1 : Int32)))]) rfl k) ?_
          show Rest p.tables e below s _ _ _ (s₁.setTop (mkF m 29 #[.val (.ref a0), .val (.ref a1), .val (.int ((3 : Int32) + (1 : Int32)))] []))
          rw [(by decide : ((3 : Int32) + (1 : Int32)) = (4 : Int32))]
          show Rest p.tables e below s _ _ _ (s₁.setTop (mkF m 29 #[.val (.ref a0), .val (.ref a1), .val (.int (4 : Int32))] []))
          refine Rest.via (fun t k => XS.goto X0.here hx rfl (pc0 := 29) (pc' := 9) rfl (hb hby d10_29) (by decide) (by decide) k) ?_
          show Rest p.tables e below s _ _ _ (s₁.setTop (mkF m 9 #[.val (.ref a0), .val (.ref a1), .val (.int (4 : Int32))] []))
          refine Rest.via (fun t k => XS.iloadN X0.here hx rfl (hb hby d10_9) rfl k) ?_
          show Rest p.tables e below s _ _ _ (s₁.setTop (mkF m 10 #[.val (.ref a0), .val (.ref a1), .val (.int (4 : Int32))] [(.int (4 : Int32))]))
          refine Rest.via (fun t k => XS.aloadN X0.here hx rfl (hb hby d10_10) rfl rfl k) ?_
          show Rest p.tables e below s _ _ _ (s₁.setTop (mkF m 11 #[.val (.ref a0), .val (.ref a1), .val (.int (4 : Int32))] [(.ref a0), (.int (4 : Int32))]))
          obtain ⟨cl15, Ar15, -, S15, P15, -, -⟩ := id V0
          refine Rest.via (fun t k => X0.arraylength hx (by rw [eh0]; exact Ar15.1) (State.isArrayOf_alike hZ.alike Ar15.2.1) (g := (mkF m 11 #[.val (.ref a0), .val (.ref a1), .val (.int (4 : Int32))] [(.ref a0), (.int (4 : Int32))])) rfl rfl (hb hby d10_11) t k) ?_
          rw [len_of S15 P15]
          show Rest p.tables e below s _ _ _ (s₁.setTop (mkF m 12 #[.val (.ref a0), .val (.ref a1), .val (.int (4 : Int32))] [(.int (5 : Int32)), (.int (4 : Int32))]))
          refine Rest.via (fun t k => XS.icmpNo X0.here hx rfl (hb hby d10_12) rfl (tlt (by decide : (4 : Int32) < (5 : Int32))).2.1 k) ?_
          show Rest p.tables e below s _ _ _ (s₁.setTop (mkF m 15 #[.val (.ref a0), .val (.ref a1), .val (.int (4 : Int32))] []))
          refine Rest.via (fun t k => XS.aloadN X0.here hx rfl (hb hby d10_15) rfl rfl k) ?_
          show Rest p.tables e below s _ _ _ (s₁.setTop (mkF m 16 #[.val (.ref a0), .val (.ref a1), .val (.int (4 : Int32))] [(.ref a0)]))
          refine Rest.via (fun t k => XS.iloadN X0.here hx rfl (hb hby d10_16) rfl k) ?_
          show Rest p.tables e below s _ _ _ (s₁.setTop (mkF m 17 #[.val (.ref a0), .val (.ref a1), .val (.int (4 : Int32))] [(.int (4 : Int32)), (.ref a0)]))
          obtain ⟨cl16, Ar16, qa16, Sa16, Pa16, Ha16, Ga16⟩ := id V0
          have hin16 := inb_of (j := (4 : Int32)) Sa16 ⟨by decide, by decide⟩
          have hat16 : cl16.slots[((4 : Int32)).toNatClampNeg]? = some (.int xe) := Has.at Ha16 hin16 rfl
          refine Rest.via (fun t k => X0.baloadBytes hx (j := (4 : Int32)) (v := (.int xe)) (by rw [eh0]; exact Ar16.1) (State.isArrayOf_alike hZ.alike Ar16.2.1) Ar16.2.2 hin16 hat16 (g := (mkF m 17 #[.val (.ref a0), .val (.ref a1), .val (.int (4 : Int32))] [(.int (4 : Int32)), (.ref a0)])) rfl rfl (hb hby d10_17) t k) ?_
          show Rest p.tables e below s _ _ _ (s₁.setTop (mkF m 18 #[.val (.ref a0), .val (.ref a1), .val (.int (4 : Int32))] [(.int xe)]))
          refine Rest.via (fun t k => XS.aloadN X0.here hx rfl (hb hby d10_18) rfl rfl k) ?_
          show Rest p.tables e below s _ _ _ (s₁.setTop (mkF m 19 #[.val (.ref a0), .val (.ref a1), .val (.int (4 : Int32))] [(.ref a1), (.int xe)]))
          refine Rest.via (fun t k => XS.iloadN X0.here hx rfl (hb hby d10_19) rfl k) ?_
          show Rest p.tables e below s _ _ _ (s₁.setTop (mkF m 20 #[.val (.ref a0), .val (.ref a1), .val (.int (4 : Int32))] [(.int (4 : Int32)), (.ref a1), (.int xe)]))
          obtain ⟨cl17, Ar17, qa17, Sa17, Pa17, Ha17, Ga17⟩ := id V1
          have hin17 := inb_of (j := (4 : Int32)) Sa17 ⟨by decide, by decide⟩
          have hat17 : cl17.slots[((4 : Int32)).toNatClampNeg]? = some (.int ye) := Has.at Ha17 hin17 rfl
          refine Rest.via (fun t k => X0.baloadBytes hx (j := (4 : Int32)) (v := (.int ye)) (by rw [eh0]; exact Ar17.1) (State.isArrayOf_alike hZ.alike Ar17.2.1) Ar17.2.2 hin17 hat17 (g := (mkF m 20 #[.val (.ref a0), .val (.ref a1), .val (.int (4 : Int32))] [(.int (4 : Int32)), (.ref a1), (.int xe)])) rfl rfl (hb hby d10_20) t k) ?_
          show Rest p.tables e below s _ _ _ (s₁.setTop (mkF m 21 #[.val (.ref a0), .val (.ref a1), .val (.int (4 : Int32))] [(.int ye), (.int xe)]))
          by_cases hq4 : xe = ye
          · refine Rest.via (fun t k => XS.icmpYes X0.here hx rfl (pc0 := 21) (pc' := 26) rfl (hb hby d10_21) rfl (teq hq4).1 (by decide) (by decide) k) ?_
            show Rest p.tables e below s _ _ _ (s₁.setTop (mkF m 26 #[.val (.ref a0), .val (.ref a1), .val (.int (4 : Int32))] []))
            refine Rest.via (fun t k => XS.iinc X0.here hx rfl (hb hby d10_26) rfl (l' := #[.val (.ref a0), .val (.ref a1), .val (.int ((4 : Int32) + (1 : Int32)))]) rfl k) ?_
            show Rest p.tables e below s _ _ _ (s₁.setTop (mkF m 29 #[.val (.ref a0), .val (.ref a1), .val (.int ((4 : Int32) + (1 : Int32)))] []))
            rw [(by decide : ((4 : Int32) + (1 : Int32)) = (5 : Int32))]
            show Rest p.tables e below s _ _ _ (s₁.setTop (mkF m 29 #[.val (.ref a0), .val (.ref a1), .val (.int (5 : Int32))] []))
            refine Rest.via (fun t k => XS.goto X0.here hx rfl (pc0 := 29) (pc' := 9) rfl (hb hby d10_29) (by decide) (by decide) k) ?_
            show Rest p.tables e below s _ _ _ (s₁.setTop (mkF m 9 #[.val (.ref a0), .val (.ref a1), .val (.int (5 : Int32))] []))
            refine Rest.via (fun t k => XS.iloadN X0.here hx rfl (hb hby d10_9) rfl k) ?_
            show Rest p.tables e below s _ _ _ (s₁.setTop (mkF m 10 #[.val (.ref a0), .val (.ref a1), .val (.int (5 : Int32))] [(.int (5 : Int32))]))
            refine Rest.via (fun t k => XS.aloadN X0.here hx rfl (hb hby d10_10) rfl rfl k) ?_
            show Rest p.tables e below s _ _ _ (s₁.setTop (mkF m 11 #[.val (.ref a0), .val (.ref a1), .val (.int (5 : Int32))] [(.ref a0), (.int (5 : Int32))]))
            obtain ⟨cl18, Ar18, -, S18, P18, -, -⟩ := id V0
            refine Rest.via (fun t k => X0.arraylength hx (by rw [eh0]; exact Ar18.1) (State.isArrayOf_alike hZ.alike Ar18.2.1) (g := (mkF m 11 #[.val (.ref a0), .val (.ref a1), .val (.int (5 : Int32))] [(.ref a0), (.int (5 : Int32))])) rfl rfl (hb hby d10_11) t k) ?_
            rw [len_of S18 P18]
            show Rest p.tables e below s _ _ _ (s₁.setTop (mkF m 12 #[.val (.ref a0), .val (.ref a1), .val (.int (5 : Int32))] [(.int (5 : Int32)), (.int (5 : Int32))]))
            refine Rest.via (fun t k => XS.icmpYes X0.here hx rfl (pc0 := 12) (pc' := 32) rfl (hb hby d10_12) rfl (flt (by decide : ¬ ((5 : Int32) < (5 : Int32)))).2.1 (by decide) (by decide) k) ?_
            show Rest p.tables e below s _ _ _ (s₁.setTop (mkF m 32 #[.val (.ref a0), .val (.ref a1), .val (.int (5 : Int32))] []))
            refine Rest.via (fun t k => XS.iconst X0.here hx rfl (hb hby d10_32) k) ?_
            show Rest p.tables e below s _ _ _ (s₁.setTop (mkF m 33 #[.val (.ref a0), .val (.ref a1), .val (.int (5 : Int32))] [(.int (1 : Int32))]))
            refine Rest.ret X0 (v := some (.int (nar .boolean (1 : Int32)))) (fun h => by rw [Bd.returns] at h; cases h) hlk (fun fs hr => retN X0 hx (t := .boolean) Bd.returns (by simp) (hb hby d10_33) hr) ?_ (by decide) (by decide)
            rw [eh0]
            exact ⟨by show some (Value.int (1 : Int32)) = _; rw [if_pos (by rw [hq0, hq1, hq2, hq3, hq4])], N0, rfl⟩
          · refine Rest.via (fun t k => XS.icmpNo X0.here hx rfl (hb hby d10_21) rfl (feq hq4).1 k) ?_
            show Rest p.tables e below s _ _ _ (s₁.setTop (mkF m 24 #[.val (.ref a0), .val (.ref a1), .val (.int (4 : Int32))] []))
            refine Rest.via (fun t k => XS.iconst X0.here hx rfl (hb hby d10_24) k) ?_
            show Rest p.tables e below s _ _ _ (s₁.setTop (mkF m 25 #[.val (.ref a0), .val (.ref a1), .val (.int (4 : Int32))] [(.int (0 : Int32))]))
            refine Rest.ret X0 (v := some (.int (nar .boolean (0 : Int32)))) (fun h => by rw [Bd.returns] at h; cases h) hlk (fun fs hr => retN X0 hx (t := .boolean) Bd.returns (by simp) (hb hby d10_25) hr) ?_ (by decide) (by decide)
            rw [eh0]
            exact ⟨by show some (Value.int (0 : Int32)) = _; rw [if_neg (by simp [hq4])], N0, rfl⟩
        · refine Rest.via (fun t k => XS.icmpNo X0.here hx rfl (hb hby d10_21) rfl (feq hq3).1 k) ?_
          show Rest p.tables e below s _ _ _ (s₁.setTop (mkF m 24 #[.val (.ref a0), .val (.ref a1), .val (.int (3 : Int32))] []))
          refine Rest.via (fun t k => XS.iconst X0.here hx rfl (hb hby d10_24) k) ?_
          show Rest p.tables e below s _ _ _ (s₁.setTop (mkF m 25 #[.val (.ref a0), .val (.ref a1), .val (.int (3 : Int32))] [(.int (0 : Int32))]))
          refine Rest.ret X0 (v := some (.int (nar .boolean (0 : Int32)))) (fun h => by rw [Bd.returns] at h; cases h) hlk (fun fs hr => retN X0 hx (t := .boolean) Bd.returns (by simp) (hb hby d10_25) hr) ?_ (by decide) (by decide)
          rw [eh0]
          exact ⟨by show some (Value.int (0 : Int32)) = _; rw [if_neg (by simp [hq3])], N0, rfl⟩
      · refine Rest.via (fun t k => XS.icmpNo X0.here hx rfl (hb hby d10_21) rfl (feq hq2).1 k) ?_
        show Rest p.tables e below s _ _ _ (s₁.setTop (mkF m 24 #[.val (.ref a0), .val (.ref a1), .val (.int (2 : Int32))] []))
        refine Rest.via (fun t k => XS.iconst X0.here hx rfl (hb hby d10_24) k) ?_
        show Rest p.tables e below s _ _ _ (s₁.setTop (mkF m 25 #[.val (.ref a0), .val (.ref a1), .val (.int (2 : Int32))] [(.int (0 : Int32))]))
        refine Rest.ret X0 (v := some (.int (nar .boolean (0 : Int32)))) (fun h => by rw [Bd.returns] at h; cases h) hlk (fun fs hr => retN X0 hx (t := .boolean) Bd.returns (by simp) (hb hby d10_25) hr) ?_ (by decide) (by decide)
        rw [eh0]
        exact ⟨by show some (Value.int (0 : Int32)) = _; rw [if_neg (by simp [hq2])], N0, rfl⟩
    · refine Rest.via (fun t k => XS.icmpNo X0.here hx rfl (hb hby d10_21) rfl (feq hq1).1 k) ?_
      show Rest p.tables e below s _ _ _ (s₁.setTop (mkF m 24 #[.val (.ref a0), .val (.ref a1), .val (.int (1 : Int32))] []))
      refine Rest.via (fun t k => XS.iconst X0.here hx rfl (hb hby d10_24) k) ?_
      show Rest p.tables e below s _ _ _ (s₁.setTop (mkF m 25 #[.val (.ref a0), .val (.ref a1), .val (.int (1 : Int32))] [(.int (0 : Int32))]))
      refine Rest.ret X0 (v := some (.int (nar .boolean (0 : Int32)))) (fun h => by rw [Bd.returns] at h; cases h) hlk (fun fs hr => retN X0 hx (t := .boolean) Bd.returns (by simp) (hb hby d10_25) hr) ?_ (by decide) (by decide)
      rw [eh0]
      exact ⟨by show some (Value.int (0 : Int32)) = _; rw [if_neg (by simp [hq1])], N0, rfl⟩
  · refine Rest.via (fun t k => XS.icmpNo X0.here hx rfl (hb hby d10_21) rfl (feq hq0).1 k) ?_
    show Rest p.tables e below s _ _ _ (s₁.setTop (mkF m 24 #[.val (.ref a0), .val (.ref a1), .val (.int (0 : Int32))] []))
    refine Rest.via (fun t k => XS.iconst X0.here hx rfl (hb hby d10_24) k) ?_
    show Rest p.tables e below s _ _ _ (s₁.setTop (mkF m 25 #[.val (.ref a0), .val (.ref a1), .val (.int (0 : Int32))] [(.int (0 : Int32))]))
    refine Rest.ret X0 (v := some (.int (nar .boolean (0 : Int32)))) (fun h => by rw [Bd.returns] at h; cases h) hlk (fun fs hr => retN X0 hx (t := .boolean) Bd.returns (by simp) (hb hby d10_25) hr) ?_ (by decide) (by decide)
    rw [eh0]
    exact ⟨by show some (Value.int (0 : Int32)) = _; rw [if_neg (by simp [hq0])], N0, rfl⟩
theorem pd_4 : parseMethodDescriptor "([B[B)Z" = some ⟨[(.array .byte), (.array .byte)], some .boolean⟩ := by decide +kernel
theorem d9_0 : decode jdk_42_method_66_code 0 = .ok (.aload_n 0, 1) := by decide +kernel
theorem d9_1 : decode jdk_42_method_66_code 1 = .ok (.aload_n 1, 1) := by decide +kernel
theorem d9_2 : decode jdk_42_method_66_code 2 = .ok (.if_acmp .ne 5, 3) := by decide +kernel
theorem d9_7 : decode jdk_42_method_66_code 7 = .ok (.aload_n 1, 1) := by decide +kernel
theorem d9_8 : decode jdk_42_method_66_code 8 = .ok (.instanceof 10, 3) := by decide +kernel
theorem d9_11 : decode jdk_42_method_66_code 11 = .ok (.ifCond .eq 43, 3) := by decide +kernel
theorem d9_14 : decode jdk_42_method_66_code 14 = .ok (.aload_n 1, 1) := by decide +kernel
theorem d9_15 : decode jdk_42_method_66_code 15 = .ok (.checkcast 10, 3) := by decide +kernel
theorem d9_18 : decode jdk_42_method_66_code 18 = .ok (.astore_n 2, 1) := by decide +kernel
theorem d9_19 : decode jdk_42_method_66_code 19 = .ok (.getstatic 38, 3) := by decide +kernel
theorem d9_22 : decode jdk_42_method_66_code 22 = .ok (.ifCond .eq 14, 3) := by decide +kernel
theorem d9_25 : decode jdk_42_method_66_code 25 = .ok (.aload_n 0, 1) := by decide +kernel
theorem d9_26 : decode jdk_42_method_66_code 26 = .ok (.getfield 15, 3) := by decide +kernel
theorem d9_29 : decode jdk_42_method_66_code 29 = .ok (.aload_n 2, 1) := by decide +kernel
theorem d9_30 : decode jdk_42_method_66_code 30 = .ok (.getfield 15, 3) := by decide +kernel
theorem d9_33 : decode jdk_42_method_66_code 33 = .ok (.if_icmp .ne 21, 3) := by decide +kernel
theorem d9_36 : decode jdk_42_method_66_code 36 = .ok (.aload_n 0, 1) := by decide +kernel
theorem d9_37 : decode jdk_42_method_66_code 37 = .ok (.getfield 9, 3) := by decide +kernel
theorem d9_40 : decode jdk_42_method_66_code 40 = .ok (.aload_n 2, 1) := by decide +kernel
theorem d9_41 : decode jdk_42_method_66_code 41 = .ok (.getfield 9, 3) := by decide +kernel
theorem d9_44 : decode jdk_42_method_66_code 44 = .ok (.invokestatic 541, 3) := by decide +kernel
theorem d9_47 : decode jdk_42_method_66_code 47 = .ok (.ifCond .eq 7, 3) := by decide +kernel
theorem d9_50 : decode jdk_42_method_66_code 50 = .ok (.iconst 1, 1) := by decide +kernel
theorem d9_51 : decode jdk_42_method_66_code 51 = .ok (.goto 4, 3) := by decide +kernel
theorem d9_54 : decode jdk_42_method_66_code 54 = .ok (.iconst 0, 1) := by decide +kernel
theorem d9_55 : decode jdk_42_method_66_code 55 = .ok (.ireturn, 1) := by decide +kernel
theorem ef_SE5_5 (m : MethodId) (a0 : Addr) (a1 : Addr) : entryFrame m #[(.ref a0), (.ref a1)] 3 = mkF m 0 #[.val (.ref a0), .val (.ref a1), .unset] [] := by first | (simp [entryFrame, mkF, argsToLocals, Value.category, maxLocals]; done) | rfl
def QSE5_5 (Z : State) (a0 : Addr) (a1 : Addr) (va0 : Addr) (k0 : ClassId) (va1 : Addr) (k1 : ClassId) (ic : Int32) (xa : Int32) (xb : Int32) (xc : Int32) (xd : Int32) (xe : Int32) (ya : Int32) (yb : Int32) (yc : Int32) (yd : Int32) (ye : Int32) (h0 : Heap) (n0 : Nat) (v : Option Value) (h : Heap) (L : List Loc) : Prop := v = some (.int (if ([xa, xb, xc, xd, xe] : List Int32) = [ya, yb, yc, yd, ye] then (1 : Int32) else 0)) ∧ Fr n0 L ∧ h = h0
set_option maxRecDepth 65536 in
set_option maxHeartbeats 40000000 in
theorem rmSE5_5 (l : Launch) (Z : State) (aw : Array Value) (hw : ∀ d ∈ tables_1, d.before aw Z = true) (ws : List Jvm.Cond) (a0 : Addr) (a1 : Addr) (va0 : Addr) (k0 : ClassId) (va1 : Addr) (k1 : ClassId) (ic : Int32) (xa : Int32) (xb : Int32) (xc : Int32) (xd : Int32) (xe : Int32) (ya : Int32) (yb : Int32) (yc : Int32) (yd : Int32) (ye : Int32) (h0 : Heap) (n0 : Nat) (Z0 : n0 ≤ h0.size) (S0 : own_St Z h0 a0 va0 k0 (5 : Int32) [(.int xa), (.int xb), (.int xc), (.int xd), (.int xe)]) (S1 : own_St Z h0 a1 va1 k1 (5 : Int32) [(.int ya), (.int yb), (.int yc), (.int yd), (.int ye)]) (n01 : a0 ≠ a1) (O : Old Z n0 h0) (CS : own_CS Z ic) :
    MetFree l (⟨"java/lang/String", "equals", "(Ljava/lang/Object;)Z"⟩ : MethodName) (head1 (Jvm.Cond.code (⟨"java/lang/String", "equals", "(Ljava/lang/Object;)Z"⟩ : MethodName) jdk_42_method_66_code 3 (some .boolean) :: ws) ({ frames := 1, cells := 0, slots := 0, locals := 14 } : Room)) (fun a U => a = #[(.ref a0), (.ref a1)] ∧ Z.Warmed39 U.vm ∧ U.heap = h0) (fun _ _ _ _ _ => True) (fun _ U o U' => ∃ v L, o = .returned v ∧ QSE5_5 Z a0 a1 va0 k0 va1 k1 ic xa xb xc xd xe ya yb yc yd ye h0 n0 v U'.heap L ∧ FrameEnd U o U' L ({ frames := 1, cells := 0, slots := 0, locals := 14 } : Room).cells ({ frames := 1, cells := 0, slots := 0, locals := 14 } : Room).slots) := by
  refine MetFree.of_bodySF (plainFor_of_name pn_1) hisR ?_
  intro p e s m args below meth c s₁ Bd hml0 hP hK
  obtain ⟨rfl, hZ, hh⟩ := hP
  have hx := Bd.exec
  have hby := Bd.bytes
  have hml : c.maxLocals = 3 := hml0
  have hown : s.vm.findClass "java/lang/String" = some m.cls := findClass_of_methodNamed Bd.named
  have hnm := (name_of_methodNamed Bd.named Bd.method).1
  have hlk : meth.locks = false := BodyLoose.notSynchronized Bd
  have X0 : Stand p l e ({ frames := 1, cells := 0, slots := 0, locals := 14 } : Room) s m #[(.ref a0), (.ref a1)] below meth c s₁ [] 0 0 := Stand.of_body Bd
  have eh0 : s₁.heap = h0 := by rw [← hh, Bd.state]; rfl
  have N0 := Fr.nil n0
  show Rest p.tables e below s (QSE5_5 Z a0 a1 va0 k0 va1 k1 ic xa xb xc xd xe ya yb yc yd ye h0 n0) _ _ (s₁.setTop (entryFrame m #[(.ref a0), (.ref a1)] 3))
  refine Rest.via (fun t k => castTop (ef_SE5_5 m a0 a1) k) ?_
  obtain ⟨E_a0, Fv_a0, Fc_a0, V_a0⟩ := id S0
  obtain ⟨E_a1, Fv_a1, Fc_a1, V_a1⟩ := id S1
  show Rest p.tables e below s _ _ _ (s₁.setTop (mkF m 0 #[.val (.ref a0), .val (.ref a1), .unset] []))
  refine Rest.via (fun t k => XS.aloadN X0.here hx rfl (hb hby d9_0) rfl rfl k) ?_
  show Rest p.tables e below s _ _ _ (s₁.setTop (mkF m 1 #[.val (.ref a0), .val (.ref a1), .unset] [(.ref a0)]))
  refine Rest.via (fun t k => XS.aloadN X0.here hx rfl (hb hby d9_1) rfl rfl k) ?_
  show Rest p.tables e below s _ _ _ (s₁.setTop (mkF m 2 #[.val (.ref a0), .val (.ref a1), .unset] [(.ref a1), (.ref a0)]))
  refine Rest.via (fun t k => Jvm.RoadKit.acmp (g := (mkF m 2 #[.val (.ref a0), .val (.ref a1), .unset] [(.ref a1), (.ref a0)])) X0 hx rfl rfl rfl (pc0 := 2) (pc' := 7) (same := false) rfl (hb hby d9_2) rfl (decide_eq_false fun q => n01 (Value.ref.inj q)) (by decide) (by decide) k) ?_
  show Rest p.tables e below s _ _ _ (s₁.setTop (mkF m 7 #[.val (.ref a0), .val (.ref a1), .unset] []))
  refine Rest.via (fun t k => XS.aloadN X0.here hx rfl (hb hby d9_7) rfl rfl k) ?_
  show Rest p.tables e below s _ _ _ (s₁.setTop (mkF m 8 #[.val (.ref a0), .val (.ref a1), .unset] [(.ref a1)]))
  obtain ⟨T1, X1, e1, st1⟩ := instY X0 hx hZ hown (hw _ (List.mem_of_getElem? (i := 59) rfl)) eh0 (Ins.self E_a1) (g := (mkF m 8 #[.val (.ref a0), .val (.ref a1), .unset] [(.ref a1)])) rfl rfl (hb hby d9_8)
  refine Rest.via (fun t k => st1 t k) ?_
  show Rest p.tables e below s _ _ _ (T1.setTop (mkF m 11 #[.val (.ref a0), .val (.ref a1), .unset] [(.int (1 : Int32))]))
  refine Rest.via (fun t k => XS.ifNo X1.here hx rfl (hb hby d9_11) rfl ((if0 _ _).trans (feq (by decide : ¬ ((1 : Int32) = (0 : Int32)))).1) k) ?_
  show Rest p.tables e below s _ _ _ (T1.setTop (mkF m 14 #[.val (.ref a0), .val (.ref a1), .unset] []))
  refine Rest.via (fun t k => XS.aloadN X1.here hx rfl (hb hby d9_14) rfl rfl k) ?_
  show Rest p.tables e below s _ _ _ (T1.setTop (mkF m 15 #[.val (.ref a0), .val (.ref a1), .unset] [(.ref a1)]))
  obtain ⟨T2, X2, e2, st2⟩ := castY X1 hx hZ hown (hw _ (List.mem_of_getElem? (i := 59) rfl)) e1 (Ins.self E_a1) (g := (mkF m 15 #[.val (.ref a0), .val (.ref a1), .unset] [(.ref a1)])) rfl rfl (hb hby d9_15)
  refine Rest.via (fun t k => st2 t k) ?_
  show Rest p.tables e below s _ _ _ (T2.setTop (mkF m 18 #[.val (.ref a0), .val (.ref a1), .unset] [(.ref a1)]))
  refine Rest.via (fun t k => XS.astoreN X2.here hx rfl (hb hby d9_18) rfl rfl (l' := #[.val (.ref a0), .val (.ref a1), .val (.ref a1)]) rfl k) ?_
  show Rest p.tables e below s _ _ _ (T2.setTop (mkF m 19 #[.val (.ref a0), .val (.ref a1), .val (.ref a1)] []))
  obtain ⟨T3, X3, e3, st3⟩ := getS2 X2 hx hZ hown (host := "") (Or.inl (hw _ (List.mem_of_getElem? (i := 18) rfl))) Via.refl e2 (CS.1.ext (O.keep (Keep.refl h0 []) all0).2) (g := (mkF m 19 #[.val (.ref a0), .val (.ref a1), .val (.ref a1)] [])) rfl (hb hby d9_19)
  refine Rest.via (fun t k => st3 t k) ?_
  show Rest p.tables e below s _ _ _ (T3.setTop (mkF m 22 #[.val (.ref a0), .val (.ref a1), .val (.ref a1)] [(.int ic)]))
  refine Rest.via (fun t k => XS.ifNo X3.here hx rfl (hb hby d9_22) rfl ((if0 _ _).trans (feq (CS.2 : ¬ (ic = (0 : Int32)))).1) k) ?_
  show Rest p.tables e below s _ _ _ (T3.setTop (mkF m 25 #[.val (.ref a0), .val (.ref a1), .val (.ref a1)] []))
  refine Rest.via (fun t k => XS.aloadN X3.here hx rfl (hb hby d9_25) rfl rfl k) ?_
  show Rest p.tables e below s _ _ _ (T3.setTop (mkF m 26 #[.val (.ref a0), .val (.ref a1), .val (.ref a1)] [(.ref a0)]))
  obtain ⟨T4, X4, e4, st4⟩ := getF X3 hx hZ hown (host := "") (Or.inl (hw _ (List.mem_of_getElem? (i := 30) rfl))) Via.refl e3 Fc_a0 (g := (mkF m 26 #[.val (.ref a0), .val (.ref a1), .val (.ref a1)] [(.ref a0)])) rfl rfl (hb hby d9_26)
  refine Rest.via (fun t k => st4 t k) ?_
  show Rest p.tables e below s _ _ _ (T4.setTop (mkF m 29 #[.val (.ref a0), .val (.ref a1), .val (.ref a1)] [(.int (0 : Int32))]))
  refine Rest.via (fun t k => XS.aloadN X4.here hx rfl (hb hby d9_29) rfl rfl k) ?_
  show Rest p.tables e below s _ _ _ (T4.setTop (mkF m 30 #[.val (.ref a0), .val (.ref a1), .val (.ref a1)] [(.ref a1), (.int (0 : Int32))]))
  obtain ⟨T5, X5, e5, st5⟩ := getF X4 hx hZ hown (host := "") (Or.inl (hw _ (List.mem_of_getElem? (i := 30) rfl))) Via.refl e4 Fc_a1 (g := (mkF m 30 #[.val (.ref a0), .val (.ref a1), .val (.ref a1)] [(.ref a1), (.int (0 : Int32))])) rfl rfl (hb hby d9_30)
  refine Rest.via (fun t k => st5 t k) ?_
  show Rest p.tables e below s _ _ _ (T5.setTop (mkF m 33 #[.val (.ref a0), .val (.ref a1), .val (.ref a1)] [(.int (0 : Int32)), (.int (0 : Int32))]))
  refine Rest.via (fun t k => XS.icmpNo X5.here hx rfl (hb hby d9_33) rfl (teq (by decide : (0 : Int32) = (0 : Int32))).2 k) ?_
  show Rest p.tables e below s _ _ _ (T5.setTop (mkF m 36 #[.val (.ref a0), .val (.ref a1), .val (.ref a1)] []))
  refine Rest.via (fun t k => XS.aloadN X5.here hx rfl (hb hby d9_36) rfl rfl k) ?_
  show Rest p.tables e below s _ _ _ (T5.setTop (mkF m 37 #[.val (.ref a0), .val (.ref a1), .val (.ref a1)] [(.ref a0)]))
  obtain ⟨T6, X6, e6, st6⟩ := getF X5 hx hZ hown (host := "") (Or.inl (hw _ (List.mem_of_getElem? (i := 32) rfl))) Via.refl e5 Fv_a0 (g := (mkF m 37 #[.val (.ref a0), .val (.ref a1), .val (.ref a1)] [(.ref a0)])) rfl rfl (hb hby d9_37)
  refine Rest.via (fun t k => st6 t k) ?_
  show Rest p.tables e below s _ _ _ (T6.setTop (mkF m 40 #[.val (.ref a0), .val (.ref a1), .val (.ref a1)] [(.ref va0)]))
  refine Rest.via (fun t k => XS.aloadN X6.here hx rfl (hb hby d9_40) rfl rfl k) ?_
  show Rest p.tables e below s _ _ _ (T6.setTop (mkF m 41 #[.val (.ref a0), .val (.ref a1), .val (.ref a1)] [(.ref a1), (.ref va0)]))
  obtain ⟨T7, X7, e7, st7⟩ := getF X6 hx hZ hown (host := "") (Or.inl (hw _ (List.mem_of_getElem? (i := 32) rfl))) Via.refl e6 Fv_a1 (g := (mkF m 41 #[.val (.ref a0), .val (.ref a1), .val (.ref a1)] [(.ref a1), (.ref va0)])) rfl rfl (hb hby d9_41)
  refine Rest.via (fun t k => st7 t k) ?_
  show Rest p.tables e below s _ _ _ (T7.setTop (mkF m 44 #[.val (.ref a0), .val (.ref a1), .val (.ref a1)] [(.ref va1), (.ref va0)]))
  obtain ⟨_, _, ⟨T8, L8, k8, n8⟩, -, X8, ⟨Lc8, hQ8, l8, y8, z8⟩, st8⟩ := Jvm.LawKit.callS X7 hx (y := (⟨"java/lang/StringLatin1", "equals", "([B[B)Z"⟩ : MethodName)) hown (mvT hZ (hw _ (List.mem_of_getElem? (i := 60) rfl))) (mvT hZ (hw _ (List.mem_of_getElem? (i := 61) rfl))) (mvT hZ (hw _ (List.mem_of_getElem? (i := 62) rfl))) (mvT hZ (hw _ (List.mem_of_getElem? (i := 63) rfl))) (by decide) (backOf (W := 0) (rmLE5_5 l Z aw hw [] va0 va1 k0 k1 xa xb xc xd xe ya yb yc yd ye h0 n0 (Nat.le_trans Z0 (Keep.refl h0 []).1) V_a0 V_a1) hZ (hw _ (List.mem_of_getElem? (i := 63) rfl)) (hw _ (List.mem_of_getElem? (i := 62) rfl)) (by decide) (by decide)) (g := (mkF m 44 #[.val (.ref a0), .val (.ref a1), .val (.ref a1)] [(.ref va1), (.ref va0)])) rfl (by rw [hml]; rfl) (argsL := [(.ref va0), (.ref va1)]) (rest := []) (lenOf pd_4 rfl) rfl (by show 2 * 0 + _ ≤ _; exact Nat.le_of_eq rfl) (hb hby d9_44) (fun _ _ => ⟨rfl, e7, (by decide : 0 + 0 ≤ _), (by decide : 0 + 0 ≤ _)⟩)
  dsimp only [Pt.U, Pt.locs, Pt.cells, Pt.slots] at X8 l8 y8 z8 st8 hQ8
  subst l8 y8 z8
  obtain ⟨rfl, Nq8, e8⟩ := hQ8
  have N8 := Fr.app N0 Nq8
  refine Rest.via (fun t k => st8 t k) ?_
  show Rest p.tables e below s _ _ _ (T8.setTop (mkF m 47 #[.val (.ref a0), .val (.ref a1), .val (.ref a1)] [(.int (if ([xa, xb, xc, xd, xe] : List Int32) = [ya, yb, yc, yd, ye] then (1 : Int32) else 0))]))
  by_cases hz : (if ([xa, xb, xc, xd, xe] : List Int32) = [ya, yb, yc, yd, ye] then (1 : Int32) else 0) = (0 : Int32)
  · refine Rest.via (fun t k => XS.ifYes X8.here hx rfl (pc0 := 47) (pc' := 54) rfl (hb hby d9_47) rfl ((if0 _ _).trans (teq hz).1) (by decide) (by decide) k) ?_
    show Rest p.tables e below s _ _ _ (T8.setTop (mkF m 54 #[.val (.ref a0), .val (.ref a1), .val (.ref a1)] []))
    refine Rest.via (fun t k => XS.iconst X8.here hx rfl (hb hby d9_54) k) ?_
    show Rest p.tables e below s _ _ _ (T8.setTop (mkF m 55 #[.val (.ref a0), .val (.ref a1), .val (.ref a1)] [(.int (0 : Int32))]))
    refine Rest.ret X8 (v := some (.int (nar .boolean (0 : Int32)))) (fun h => by rw [Bd.returns] at h; cases h) hlk (fun fs hr => retN X8 hx (t := .boolean) Bd.returns (by simp) (hb hby d9_55) hr) ?_ (by decide) (by decide)
    rw [e8]
    exact ⟨by show some (Value.int (0 : Int32)) = _; rw [hz], N8, rfl⟩
  · refine Rest.via (fun t k => XS.ifNo X8.here hx rfl (hb hby d9_47) rfl ((if0 _ _).trans (feq hz).1) k) ?_
    show Rest p.tables e below s _ _ _ (T8.setTop (mkF m 50 #[.val (.ref a0), .val (.ref a1), .val (.ref a1)] []))
    refine Rest.via (fun t k => XS.iconst X8.here hx rfl (hb hby d9_50) k) ?_
    show Rest p.tables e below s _ _ _ (T8.setTop (mkF m 51 #[.val (.ref a0), .val (.ref a1), .val (.ref a1)] [(.int (1 : Int32))]))
    refine Rest.via (fun t k => XS.goto X8.here hx rfl (pc0 := 51) (pc' := 55) rfl (hb hby d9_51) (by decide) (by decide) k) ?_
    show Rest p.tables e below s _ _ _ (T8.setTop (mkF m 55 #[.val (.ref a0), .val (.ref a1), .val (.ref a1)] [(.int (1 : Int32))]))
    refine Rest.ret X8 (v := some (.int (nar .boolean (1 : Int32)))) (fun h => by rw [Bd.returns] at h; cases h) hlk (fun fs hr => retN X8 hx (t := .boolean) Bd.returns (by simp) (hb hby d9_55) hr) ?_ (by decide) (by decide)
    rw [e8]
    exact ⟨by show some (Value.int (1 : Int32)) = _; rw [own_ite1 hz], N8, rfl⟩
theorem d10_34 : decode jdk_43_method_13_code 34 = .ok (.iconst 0, 1) := by decide +kernel
theorem d10_35 : decode jdk_43_method_13_code 35 = .ok (.ireturn, 1) := by decide +kernel
theorem ef_LE5_6 (m : MethodId) (a0 : Addr) (a1 : Addr) : entryFrame m #[(.ref a0), (.ref a1)] 3 = mkF m 0 #[.val (.ref a0), .val (.ref a1), .unset] [] := by first | (simp [entryFrame, mkF, argsToLocals, Value.category, maxLocals]; done) | rfl
def QLE5_6 (Z : State) (a0 : Addr) (a1 : Addr) (k0 : ClassId) (k1 : ClassId) (xa : Int32) (xb : Int32) (xc : Int32) (xd : Int32) (xe : Int32) (ya : Int32) (yb : Int32) (yc : Int32) (yd : Int32) (ye : Int32) (yf : Int32) (h0 : Heap) (n0 : Nat) (v : Option Value) (h : Heap) (L : List Loc) : Prop := v = some (.int (if ([xa, xb, xc, xd, xe] : List Int32) = [ya, yb, yc, yd, ye, yf] then (1 : Int32) else 0)) ∧ Fr n0 L ∧ h = h0
set_option maxRecDepth 65536 in
set_option maxHeartbeats 40000000 in
theorem rmLE5_6 (l : Launch) (Z : State) (aw : Array Value) (hw : ∀ d ∈ tables_1, d.before aw Z = true) (ws : List Jvm.Cond) (a0 : Addr) (a1 : Addr) (k0 : ClassId) (k1 : ClassId) (xa : Int32) (xb : Int32) (xc : Int32) (xd : Int32) (xe : Int32) (ya : Int32) (yb : Int32) (yc : Int32) (yd : Int32) (ye : Int32) (yf : Int32) (h0 : Heap) (n0 : Nat) (Z0 : n0 ≤ h0.size) (V0 : Arv Z h0 a0 k0 .byte (5 : Int32) [(.int xa), (.int xb), (.int xc), (.int xd), (.int xe)] (.int (0 : Int32))) (V1 : Arv Z h0 a1 k1 .byte (6 : Int32) [(.int ya), (.int yb), (.int yc), (.int yd), (.int ye), (.int yf)] (.int (0 : Int32))) :
    MetFree l (⟨"java/lang/StringLatin1", "equals", "([B[B)Z"⟩ : MethodName) (head1 (Jvm.Cond.code (⟨"java/lang/StringLatin1", "equals", "([B[B)Z"⟩ : MethodName) jdk_43_method_13_code 3 (some .boolean) :: ws) ({ frames := 0, cells := 0, slots := 0, locals := 0 } : Room)) (fun a U => a = #[(.ref a0), (.ref a1)] ∧ Z.Warmed39 U.vm ∧ U.heap = h0) (fun _ _ _ _ _ => True) (fun _ U o U' => ∃ v L, o = .returned v ∧ QLE5_6 Z a0 a1 k0 k1 xa xb xc xd xe ya yb yc yd ye yf h0 n0 v U'.heap L ∧ FrameEnd U o U' L ({ frames := 0, cells := 0, slots := 0, locals := 0 } : Room).cells ({ frames := 0, cells := 0, slots := 0, locals := 0 } : Room).slots) := by
  refine MetFree.of_bodySF (plainFor_of_name pn_2) hisR ?_
  intro p e s m args below meth c s₁ Bd hml0 hP hK
  obtain ⟨rfl, hZ, hh⟩ := hP
  have hx := Bd.exec
  have hby := Bd.bytes
  have hml : c.maxLocals = 3 := hml0
  have hown : s.vm.findClass "java/lang/StringLatin1" = some m.cls := findClass_of_methodNamed Bd.named
  have hnm := (name_of_methodNamed Bd.named Bd.method).1
  have hlk : meth.locks = false := BodyLoose.notSynchronized Bd
  have X0 : Stand p l e ({ frames := 0, cells := 0, slots := 0, locals := 0 } : Room) s m #[(.ref a0), (.ref a1)] below meth c s₁ [] 0 0 := Stand.of_body Bd
  have eh0 : s₁.heap = h0 := by rw [← hh, Bd.state]; rfl
  have N0 := Fr.nil n0
  show Rest p.tables e below s (QLE5_6 Z a0 a1 k0 k1 xa xb xc xd xe ya yb yc yd ye yf h0 n0) _ _ (s₁.setTop (entryFrame m #[(.ref a0), (.ref a1)] 3))
  refine Rest.via (fun t k => castTop (ef_LE5_6 m a0 a1) k) ?_
  show Rest p.tables e below s _ _ _ (s₁.setTop (mkF m 0 #[.val (.ref a0), .val (.ref a1), .unset] []))
  refine Rest.via (fun t k => XS.aloadN X0.here hx rfl (hb hby d10_0) rfl rfl k) ?_
  show Rest p.tables e below s _ _ _ (s₁.setTop (mkF m 1 #[.val (.ref a0), .val (.ref a1), .unset] [(.ref a0)]))
  obtain ⟨cl1, Ar1, -, S1, P1, -, -⟩ := id V0
  refine Rest.via (fun t k => X0.arraylength hx (by rw [eh0]; exact Ar1.1) (State.isArrayOf_alike hZ.alike Ar1.2.1) (g := (mkF m 1 #[.val (.ref a0), .val (.ref a1), .unset] [(.ref a0)])) rfl rfl (hb hby d10_1) t k) ?_
  rw [len_of S1 P1]
  show Rest p.tables e below s _ _ _ (s₁.setTop (mkF m 2 #[.val (.ref a0), .val (.ref a1), .unset] [(.int (5 : Int32))]))
  refine Rest.via (fun t k => XS.aloadN X0.here hx rfl (hb hby d10_2) rfl rfl k) ?_
  show Rest p.tables e below s _ _ _ (s₁.setTop (mkF m 3 #[.val (.ref a0), .val (.ref a1), .unset] [(.ref a1), (.int (5 : Int32))]))
  obtain ⟨cl2, Ar2, -, S2, P2, -, -⟩ := id V1
  refine Rest.via (fun t k => X0.arraylength hx (by rw [eh0]; exact Ar2.1) (State.isArrayOf_alike hZ.alike Ar2.2.1) (g := (mkF m 3 #[.val (.ref a0), .val (.ref a1), .unset] [(.ref a1), (.int (5 : Int32))])) rfl rfl (hb hby d10_3) t k) ?_
  rw [len_of S2 P2]
  show Rest p.tables e below s _ _ _ (s₁.setTop (mkF m 4 #[.val (.ref a0), .val (.ref a1), .unset] [(.int (6 : Int32)), (.int (5 : Int32))]))
  refine Rest.via (fun t k => XS.icmpYes X0.here hx rfl (pc0 := 4) (pc' := 34) rfl (hb hby d10_4) rfl (feq (by decide : ¬ ((5 : Int32) = (6 : Int32)))).2 (by decide) (by decide) k) ?_
  show Rest p.tables e below s _ _ _ (s₁.setTop (mkF m 34 #[.val (.ref a0), .val (.ref a1), .unset] []))
  refine Rest.via (fun t k => XS.iconst X0.here hx rfl (hb hby d10_34) k) ?_
  show Rest p.tables e below s _ _ _ (s₁.setTop (mkF m 35 #[.val (.ref a0), .val (.ref a1), .unset] [(.int (0 : Int32))]))
  refine Rest.ret X0 (v := some (.int (nar .boolean (0 : Int32)))) (fun h => by rw [Bd.returns] at h; cases h) hlk (fun fs hr => retN X0 hx (t := .boolean) Bd.returns (by simp) (hb hby d10_35) hr) ?_ (by decide) (by decide)
  rw [eh0]
  exact ⟨by show some (Value.int (0 : Int32)) = _; rw [if_neg (by simp)], N0, rfl⟩
theorem ef_SE5_6 (m : MethodId) (a0 : Addr) (a1 : Addr) : entryFrame m #[(.ref a0), (.ref a1)] 3 = mkF m 0 #[.val (.ref a0), .val (.ref a1), .unset] [] := by first | (simp [entryFrame, mkF, argsToLocals, Value.category, maxLocals]; done) | rfl
def QSE5_6 (Z : State) (a0 : Addr) (a1 : Addr) (va0 : Addr) (k0 : ClassId) (va1 : Addr) (k1 : ClassId) (ic : Int32) (xa : Int32) (xb : Int32) (xc : Int32) (xd : Int32) (xe : Int32) (ya : Int32) (yb : Int32) (yc : Int32) (yd : Int32) (ye : Int32) (yf : Int32) (h0 : Heap) (n0 : Nat) (v : Option Value) (h : Heap) (L : List Loc) : Prop := v = some (.int (if ([xa, xb, xc, xd, xe] : List Int32) = [ya, yb, yc, yd, ye, yf] then (1 : Int32) else 0)) ∧ Fr n0 L ∧ h = h0
set_option maxRecDepth 65536 in
set_option maxHeartbeats 40000000 in
theorem rmSE5_6 (l : Launch) (Z : State) (aw : Array Value) (hw : ∀ d ∈ tables_1, d.before aw Z = true) (ws : List Jvm.Cond) (a0 : Addr) (a1 : Addr) (va0 : Addr) (k0 : ClassId) (va1 : Addr) (k1 : ClassId) (ic : Int32) (xa : Int32) (xb : Int32) (xc : Int32) (xd : Int32) (xe : Int32) (ya : Int32) (yb : Int32) (yc : Int32) (yd : Int32) (ye : Int32) (yf : Int32) (h0 : Heap) (n0 : Nat) (Z0 : n0 ≤ h0.size) (S0 : own_St Z h0 a0 va0 k0 (5 : Int32) [(.int xa), (.int xb), (.int xc), (.int xd), (.int xe)]) (S1 : own_St Z h0 a1 va1 k1 (6 : Int32) [(.int ya), (.int yb), (.int yc), (.int yd), (.int ye), (.int yf)]) (n01 : a0 ≠ a1) (O : Old Z n0 h0) (CS : own_CS Z ic) :
    MetFree l (⟨"java/lang/String", "equals", "(Ljava/lang/Object;)Z"⟩ : MethodName) (head1 (Jvm.Cond.code (⟨"java/lang/String", "equals", "(Ljava/lang/Object;)Z"⟩ : MethodName) jdk_42_method_66_code 3 (some .boolean) :: ws) ({ frames := 1, cells := 0, slots := 0, locals := 14 } : Room)) (fun a U => a = #[(.ref a0), (.ref a1)] ∧ Z.Warmed39 U.vm ∧ U.heap = h0) (fun _ _ _ _ _ => True) (fun _ U o U' => ∃ v L, o = .returned v ∧ QSE5_6 Z a0 a1 va0 k0 va1 k1 ic xa xb xc xd xe ya yb yc yd ye yf h0 n0 v U'.heap L ∧ FrameEnd U o U' L ({ frames := 1, cells := 0, slots := 0, locals := 14 } : Room).cells ({ frames := 1, cells := 0, slots := 0, locals := 14 } : Room).slots) := by
  refine MetFree.of_bodySF (plainFor_of_name pn_1) hisR ?_
  intro p e s m args below meth c s₁ Bd hml0 hP hK
  obtain ⟨rfl, hZ, hh⟩ := hP
  have hx := Bd.exec
  have hby := Bd.bytes
  have hml : c.maxLocals = 3 := hml0
  have hown : s.vm.findClass "java/lang/String" = some m.cls := findClass_of_methodNamed Bd.named
  have hnm := (name_of_methodNamed Bd.named Bd.method).1
  have hlk : meth.locks = false := BodyLoose.notSynchronized Bd
  have X0 : Stand p l e ({ frames := 1, cells := 0, slots := 0, locals := 14 } : Room) s m #[(.ref a0), (.ref a1)] below meth c s₁ [] 0 0 := Stand.of_body Bd
  have eh0 : s₁.heap = h0 := by rw [← hh, Bd.state]; rfl
  have N0 := Fr.nil n0
  show Rest p.tables e below s (QSE5_6 Z a0 a1 va0 k0 va1 k1 ic xa xb xc xd xe ya yb yc yd ye yf h0 n0) _ _ (s₁.setTop (entryFrame m #[(.ref a0), (.ref a1)] 3))
  refine Rest.via (fun t k => castTop (ef_SE5_6 m a0 a1) k) ?_
  obtain ⟨E_a0, Fv_a0, Fc_a0, V_a0⟩ := id S0
  obtain ⟨E_a1, Fv_a1, Fc_a1, V_a1⟩ := id S1
  show Rest p.tables e below s _ _ _ (s₁.setTop (mkF m 0 #[.val (.ref a0), .val (.ref a1), .unset] []))
  refine Rest.via (fun t k => XS.aloadN X0.here hx rfl (hb hby d9_0) rfl rfl k) ?_
  show Rest p.tables e below s _ _ _ (s₁.setTop (mkF m 1 #[.val (.ref a0), .val (.ref a1), .unset] [(.ref a0)]))
  refine Rest.via (fun t k => XS.aloadN X0.here hx rfl (hb hby d9_1) rfl rfl k) ?_
  show Rest p.tables e below s _ _ _ (s₁.setTop (mkF m 2 #[.val (.ref a0), .val (.ref a1), .unset] [(.ref a1), (.ref a0)]))
  refine Rest.via (fun t k => Jvm.RoadKit.acmp (g := (mkF m 2 #[.val (.ref a0), .val (.ref a1), .unset] [(.ref a1), (.ref a0)])) X0 hx rfl rfl rfl (pc0 := 2) (pc' := 7) (same := false) rfl (hb hby d9_2) rfl (decide_eq_false fun q => n01 (Value.ref.inj q)) (by decide) (by decide) k) ?_
  show Rest p.tables e below s _ _ _ (s₁.setTop (mkF m 7 #[.val (.ref a0), .val (.ref a1), .unset] []))
  refine Rest.via (fun t k => XS.aloadN X0.here hx rfl (hb hby d9_7) rfl rfl k) ?_
  show Rest p.tables e below s _ _ _ (s₁.setTop (mkF m 8 #[.val (.ref a0), .val (.ref a1), .unset] [(.ref a1)]))
  obtain ⟨T1, X1, e1, st1⟩ := instY X0 hx hZ hown (hw _ (List.mem_of_getElem? (i := 59) rfl)) eh0 (Ins.self E_a1) (g := (mkF m 8 #[.val (.ref a0), .val (.ref a1), .unset] [(.ref a1)])) rfl rfl (hb hby d9_8)
  refine Rest.via (fun t k => st1 t k) ?_
  show Rest p.tables e below s _ _ _ (T1.setTop (mkF m 11 #[.val (.ref a0), .val (.ref a1), .unset] [(.int (1 : Int32))]))
  refine Rest.via (fun t k => XS.ifNo X1.here hx rfl (hb hby d9_11) rfl ((if0 _ _).trans (feq (by decide : ¬ ((1 : Int32) = (0 : Int32)))).1) k) ?_
  show Rest p.tables e below s _ _ _ (T1.setTop (mkF m 14 #[.val (.ref a0), .val (.ref a1), .unset] []))
  refine Rest.via (fun t k => XS.aloadN X1.here hx rfl (hb hby d9_14) rfl rfl k) ?_
  show Rest p.tables e below s _ _ _ (T1.setTop (mkF m 15 #[.val (.ref a0), .val (.ref a1), .unset] [(.ref a1)]))
  obtain ⟨T2, X2, e2, st2⟩ := castY X1 hx hZ hown (hw _ (List.mem_of_getElem? (i := 59) rfl)) e1 (Ins.self E_a1) (g := (mkF m 15 #[.val (.ref a0), .val (.ref a1), .unset] [(.ref a1)])) rfl rfl (hb hby d9_15)
  refine Rest.via (fun t k => st2 t k) ?_
  show Rest p.tables e below s _ _ _ (T2.setTop (mkF m 18 #[.val (.ref a0), .val (.ref a1), .unset] [(.ref a1)]))
  refine Rest.via (fun t k => XS.astoreN X2.here hx rfl (hb hby d9_18) rfl rfl (l' := #[.val (.ref a0), .val (.ref a1), .val (.ref a1)]) rfl k) ?_
  show Rest p.tables e below s _ _ _ (T2.setTop (mkF m 19 #[.val (.ref a0), .val (.ref a1), .val (.ref a1)] []))
  obtain ⟨T3, X3, e3, st3⟩ := getS2 X2 hx hZ hown (host := "") (Or.inl (hw _ (List.mem_of_getElem? (i := 18) rfl))) Via.refl e2 (CS.1.ext (O.keep (Keep.refl h0 []) all0).2) (g := (mkF m 19 #[.val (.ref a0), .val (.ref a1), .val (.ref a1)] [])) rfl (hb hby d9_19)
  refine Rest.via (fun t k => st3 t k) ?_
  show Rest p.tables e below s _ _ _ (T3.setTop (mkF m 22 #[.val (.ref a0), .val (.ref a1), .val (.ref a1)] [(.int ic)]))
  refine Rest.via (fun t k => XS.ifNo X3.here hx rfl (hb hby d9_22) rfl ((if0 _ _).trans (feq (CS.2 : ¬ (ic = (0 : Int32)))).1) k) ?_
  show Rest p.tables e below s _ _ _ (T3.setTop (mkF m 25 #[.val (.ref a0), .val (.ref a1), .val (.ref a1)] []))
  refine Rest.via (fun t k => XS.aloadN X3.here hx rfl (hb hby d9_25) rfl rfl k) ?_
  show Rest p.tables e below s _ _ _ (T3.setTop (mkF m 26 #[.val (.ref a0), .val (.ref a1), .val (.ref a1)] [(.ref a0)]))
  obtain ⟨T4, X4, e4, st4⟩ := getF X3 hx hZ hown (host := "") (Or.inl (hw _ (List.mem_of_getElem? (i := 30) rfl))) Via.refl e3 Fc_a0 (g := (mkF m 26 #[.val (.ref a0), .val (.ref a1), .val (.ref a1)] [(.ref a0)])) rfl rfl (hb hby d9_26)
  refine Rest.via (fun t k => st4 t k) ?_
  show Rest p.tables e below s _ _ _ (T4.setTop (mkF m 29 #[.val (.ref a0), .val (.ref a1), .val (.ref a1)] [(.int (0 : Int32))]))
  refine Rest.via (fun t k => XS.aloadN X4.here hx rfl (hb hby d9_29) rfl rfl k) ?_
  show Rest p.tables e below s _ _ _ (T4.setTop (mkF m 30 #[.val (.ref a0), .val (.ref a1), .val (.ref a1)] [(.ref a1), (.int (0 : Int32))]))
  obtain ⟨T5, X5, e5, st5⟩ := getF X4 hx hZ hown (host := "") (Or.inl (hw _ (List.mem_of_getElem? (i := 30) rfl))) Via.refl e4 Fc_a1 (g := (mkF m 30 #[.val (.ref a0), .val (.ref a1), .val (.ref a1)] [(.ref a1), (.int (0 : Int32))])) rfl rfl (hb hby d9_30)
  refine Rest.via (fun t k => st5 t k) ?_
  show Rest p.tables e below s _ _ _ (T5.setTop (mkF m 33 #[.val (.ref a0), .val (.ref a1), .val (.ref a1)] [(.int (0 : Int32)), (.int (0 : Int32))]))
  refine Rest.via (fun t k => XS.icmpNo X5.here hx rfl (hb hby d9_33) rfl (teq (by decide : (0 : Int32) = (0 : Int32))).2 k) ?_
  show Rest p.tables e below s _ _ _ (T5.setTop (mkF m 36 #[.val (.ref a0), .val (.ref a1), .val (.ref a1)] []))
  refine Rest.via (fun t k => XS.aloadN X5.here hx rfl (hb hby d9_36) rfl rfl k) ?_
  show Rest p.tables e below s _ _ _ (T5.setTop (mkF m 37 #[.val (.ref a0), .val (.ref a1), .val (.ref a1)] [(.ref a0)]))
  obtain ⟨T6, X6, e6, st6⟩ := getF X5 hx hZ hown (host := "") (Or.inl (hw _ (List.mem_of_getElem? (i := 32) rfl))) Via.refl e5 Fv_a0 (g := (mkF m 37 #[.val (.ref a0), .val (.ref a1), .val (.ref a1)] [(.ref a0)])) rfl rfl (hb hby d9_37)
  refine Rest.via (fun t k => st6 t k) ?_
  show Rest p.tables e below s _ _ _ (T6.setTop (mkF m 40 #[.val (.ref a0), .val (.ref a1), .val (.ref a1)] [(.ref va0)]))
  refine Rest.via (fun t k => XS.aloadN X6.here hx rfl (hb hby d9_40) rfl rfl k) ?_
  show Rest p.tables e below s _ _ _ (T6.setTop (mkF m 41 #[.val (.ref a0), .val (.ref a1), .val (.ref a1)] [(.ref a1), (.ref va0)]))
  obtain ⟨T7, X7, e7, st7⟩ := getF X6 hx hZ hown (host := "") (Or.inl (hw _ (List.mem_of_getElem? (i := 32) rfl))) Via.refl e6 Fv_a1 (g := (mkF m 41 #[.val (.ref a0), .val (.ref a1), .val (.ref a1)] [(.ref a1), (.ref va0)])) rfl rfl (hb hby d9_41)
  refine Rest.via (fun t k => st7 t k) ?_
  show Rest p.tables e below s _ _ _ (T7.setTop (mkF m 44 #[.val (.ref a0), .val (.ref a1), .val (.ref a1)] [(.ref va1), (.ref va0)]))
  obtain ⟨_, _, ⟨T8, L8, k8, n8⟩, -, X8, ⟨Lc8, hQ8, l8, y8, z8⟩, st8⟩ := Jvm.LawKit.callS X7 hx (y := (⟨"java/lang/StringLatin1", "equals", "([B[B)Z"⟩ : MethodName)) hown (mvT hZ (hw _ (List.mem_of_getElem? (i := 60) rfl))) (mvT hZ (hw _ (List.mem_of_getElem? (i := 61) rfl))) (mvT hZ (hw _ (List.mem_of_getElem? (i := 62) rfl))) (mvT hZ (hw _ (List.mem_of_getElem? (i := 63) rfl))) (by decide) (backOf (W := 0) (rmLE5_6 l Z aw hw [] va0 va1 k0 k1 xa xb xc xd xe ya yb yc yd ye yf h0 n0 (Nat.le_trans Z0 (Keep.refl h0 []).1) V_a0 V_a1) hZ (hw _ (List.mem_of_getElem? (i := 63) rfl)) (hw _ (List.mem_of_getElem? (i := 62) rfl)) (by decide) (by decide)) (g := (mkF m 44 #[.val (.ref a0), .val (.ref a1), .val (.ref a1)] [(.ref va1), (.ref va0)])) rfl (by rw [hml]; rfl) (argsL := [(.ref va0), (.ref va1)]) (rest := []) (lenOf pd_4 rfl) rfl (by show 2 * 0 + _ ≤ _; exact Nat.le_of_eq rfl) (hb hby d9_44) (fun _ _ => ⟨rfl, e7, (by decide : 0 + 0 ≤ _), (by decide : 0 + 0 ≤ _)⟩)
  dsimp only [Pt.U, Pt.locs, Pt.cells, Pt.slots] at X8 l8 y8 z8 st8 hQ8
  subst l8 y8 z8
  obtain ⟨rfl, Nq8, e8⟩ := hQ8
  have N8 := Fr.app N0 Nq8
  refine Rest.via (fun t k => st8 t k) ?_
  show Rest p.tables e below s _ _ _ (T8.setTop (mkF m 47 #[.val (.ref a0), .val (.ref a1), .val (.ref a1)] [(.int (if ([xa, xb, xc, xd, xe] : List Int32) = [ya, yb, yc, yd, ye, yf] then (1 : Int32) else 0))]))
  by_cases hz : (if ([xa, xb, xc, xd, xe] : List Int32) = [ya, yb, yc, yd, ye, yf] then (1 : Int32) else 0) = (0 : Int32)
  · refine Rest.via (fun t k => XS.ifYes X8.here hx rfl (pc0 := 47) (pc' := 54) rfl (hb hby d9_47) rfl ((if0 _ _).trans (teq hz).1) (by decide) (by decide) k) ?_
    show Rest p.tables e below s _ _ _ (T8.setTop (mkF m 54 #[.val (.ref a0), .val (.ref a1), .val (.ref a1)] []))
    refine Rest.via (fun t k => XS.iconst X8.here hx rfl (hb hby d9_54) k) ?_
    show Rest p.tables e below s _ _ _ (T8.setTop (mkF m 55 #[.val (.ref a0), .val (.ref a1), .val (.ref a1)] [(.int (0 : Int32))]))
    refine Rest.ret X8 (v := some (.int (nar .boolean (0 : Int32)))) (fun h => by rw [Bd.returns] at h; cases h) hlk (fun fs hr => retN X8 hx (t := .boolean) Bd.returns (by simp) (hb hby d9_55) hr) ?_ (by decide) (by decide)
    rw [e8]
    exact ⟨by show some (Value.int (0 : Int32)) = _; rw [hz], N8, rfl⟩
  · refine Rest.via (fun t k => XS.ifNo X8.here hx rfl (hb hby d9_47) rfl ((if0 _ _).trans (feq hz).1) k) ?_
    show Rest p.tables e below s _ _ _ (T8.setTop (mkF m 50 #[.val (.ref a0), .val (.ref a1), .val (.ref a1)] []))
    refine Rest.via (fun t k => XS.iconst X8.here hx rfl (hb hby d9_50) k) ?_
    show Rest p.tables e below s _ _ _ (T8.setTop (mkF m 51 #[.val (.ref a0), .val (.ref a1), .val (.ref a1)] [(.int (1 : Int32))]))
    refine Rest.via (fun t k => XS.goto X8.here hx rfl (pc0 := 51) (pc' := 55) rfl (hb hby d9_51) (by decide) (by decide) k) ?_
    show Rest p.tables e below s _ _ _ (T8.setTop (mkF m 55 #[.val (.ref a0), .val (.ref a1), .val (.ref a1)] [(.int (1 : Int32))]))
    refine Rest.ret X8 (v := some (.int (nar .boolean (1 : Int32)))) (fun h => by rw [Bd.returns] at h; cases h) hlk (fun fs hr => retN X8 hx (t := .boolean) Bd.returns (by simp) (hb hby d9_55) hr) ?_ (by decide) (by decide)
    rw [e8]
    exact ⟨by show some (Value.int (1 : Int32)) = _; rw [own_ite1 hz], N8, rfl⟩
theorem ef_LE5_7 (m : MethodId) (a0 : Addr) (a1 : Addr) : entryFrame m #[(.ref a0), (.ref a1)] 3 = mkF m 0 #[.val (.ref a0), .val (.ref a1), .unset] [] := by first | (simp [entryFrame, mkF, argsToLocals, Value.category, maxLocals]; done) | rfl
def QLE5_7 (Z : State) (a0 : Addr) (a1 : Addr) (k0 : ClassId) (k1 : ClassId) (xa : Int32) (xb : Int32) (xc : Int32) (xd : Int32) (xe : Int32) (ya : Int32) (yb : Int32) (yc : Int32) (yd : Int32) (ye : Int32) (yf : Int32) (yg : Int32) (h0 : Heap) (n0 : Nat) (v : Option Value) (h : Heap) (L : List Loc) : Prop := v = some (.int (if ([xa, xb, xc, xd, xe] : List Int32) = [ya, yb, yc, yd, ye, yf, yg] then (1 : Int32) else 0)) ∧ Fr n0 L ∧ h = h0
set_option maxRecDepth 65536 in
set_option maxHeartbeats 40000000 in
theorem rmLE5_7 (l : Launch) (Z : State) (aw : Array Value) (hw : ∀ d ∈ tables_1, d.before aw Z = true) (ws : List Jvm.Cond) (a0 : Addr) (a1 : Addr) (k0 : ClassId) (k1 : ClassId) (xa : Int32) (xb : Int32) (xc : Int32) (xd : Int32) (xe : Int32) (ya : Int32) (yb : Int32) (yc : Int32) (yd : Int32) (ye : Int32) (yf : Int32) (yg : Int32) (h0 : Heap) (n0 : Nat) (Z0 : n0 ≤ h0.size) (V0 : Arv Z h0 a0 k0 .byte (5 : Int32) [(.int xa), (.int xb), (.int xc), (.int xd), (.int xe)] (.int (0 : Int32))) (V1 : Arv Z h0 a1 k1 .byte (7 : Int32) [(.int ya), (.int yb), (.int yc), (.int yd), (.int ye), (.int yf), (.int yg)] (.int (0 : Int32))) :
    MetFree l (⟨"java/lang/StringLatin1", "equals", "([B[B)Z"⟩ : MethodName) (head1 (Jvm.Cond.code (⟨"java/lang/StringLatin1", "equals", "([B[B)Z"⟩ : MethodName) jdk_43_method_13_code 3 (some .boolean) :: ws) ({ frames := 0, cells := 0, slots := 0, locals := 0 } : Room)) (fun a U => a = #[(.ref a0), (.ref a1)] ∧ Z.Warmed39 U.vm ∧ U.heap = h0) (fun _ _ _ _ _ => True) (fun _ U o U' => ∃ v L, o = .returned v ∧ QLE5_7 Z a0 a1 k0 k1 xa xb xc xd xe ya yb yc yd ye yf yg h0 n0 v U'.heap L ∧ FrameEnd U o U' L ({ frames := 0, cells := 0, slots := 0, locals := 0 } : Room).cells ({ frames := 0, cells := 0, slots := 0, locals := 0 } : Room).slots) := by
  refine MetFree.of_bodySF (plainFor_of_name pn_2) hisR ?_
  intro p e s m args below meth c s₁ Bd hml0 hP hK
  obtain ⟨rfl, hZ, hh⟩ := hP
  have hx := Bd.exec
  have hby := Bd.bytes
  have hml : c.maxLocals = 3 := hml0
  have hown : s.vm.findClass "java/lang/StringLatin1" = some m.cls := findClass_of_methodNamed Bd.named
  have hnm := (name_of_methodNamed Bd.named Bd.method).1
  have hlk : meth.locks = false := BodyLoose.notSynchronized Bd
  have X0 : Stand p l e ({ frames := 0, cells := 0, slots := 0, locals := 0 } : Room) s m #[(.ref a0), (.ref a1)] below meth c s₁ [] 0 0 := Stand.of_body Bd
  have eh0 : s₁.heap = h0 := by rw [← hh, Bd.state]; rfl
  have N0 := Fr.nil n0
  show Rest p.tables e below s (QLE5_7 Z a0 a1 k0 k1 xa xb xc xd xe ya yb yc yd ye yf yg h0 n0) _ _ (s₁.setTop (entryFrame m #[(.ref a0), (.ref a1)] 3))
  refine Rest.via (fun t k => castTop (ef_LE5_7 m a0 a1) k) ?_
  show Rest p.tables e below s _ _ _ (s₁.setTop (mkF m 0 #[.val (.ref a0), .val (.ref a1), .unset] []))
  refine Rest.via (fun t k => XS.aloadN X0.here hx rfl (hb hby d10_0) rfl rfl k) ?_
  show Rest p.tables e below s _ _ _ (s₁.setTop (mkF m 1 #[.val (.ref a0), .val (.ref a1), .unset] [(.ref a0)]))
  obtain ⟨cl1, Ar1, -, S1, P1, -, -⟩ := id V0
  refine Rest.via (fun t k => X0.arraylength hx (by rw [eh0]; exact Ar1.1) (State.isArrayOf_alike hZ.alike Ar1.2.1) (g := (mkF m 1 #[.val (.ref a0), .val (.ref a1), .unset] [(.ref a0)])) rfl rfl (hb hby d10_1) t k) ?_
  rw [len_of S1 P1]
  show Rest p.tables e below s _ _ _ (s₁.setTop (mkF m 2 #[.val (.ref a0), .val (.ref a1), .unset] [(.int (5 : Int32))]))
  refine Rest.via (fun t k => XS.aloadN X0.here hx rfl (hb hby d10_2) rfl rfl k) ?_
  show Rest p.tables e below s _ _ _ (s₁.setTop (mkF m 3 #[.val (.ref a0), .val (.ref a1), .unset] [(.ref a1), (.int (5 : Int32))]))
  obtain ⟨cl2, Ar2, -, S2, P2, -, -⟩ := id V1
  refine Rest.via (fun t k => X0.arraylength hx (by rw [eh0]; exact Ar2.1) (State.isArrayOf_alike hZ.alike Ar2.2.1) (g := (mkF m 3 #[.val (.ref a0), .val (.ref a1), .unset] [(.ref a1), (.int (5 : Int32))])) rfl rfl (hb hby d10_3) t k) ?_
  rw [len_of S2 P2]
  show Rest p.tables e below s _ _ _ (s₁.setTop (mkF m 4 #[.val (.ref a0), .val (.ref a1), .unset] [(.int (7 : Int32)), (.int (5 : Int32))]))
  refine Rest.via (fun t k => XS.icmpYes X0.here hx rfl (pc0 := 4) (pc' := 34) rfl (hb hby d10_4) rfl (feq (by decide : ¬ ((5 : Int32) = (7 : Int32)))).2 (by decide) (by decide) k) ?_
  show Rest p.tables e below s _ _ _ (s₁.setTop (mkF m 34 #[.val (.ref a0), .val (.ref a1), .unset] []))
  refine Rest.via (fun t k => XS.iconst X0.here hx rfl (hb hby d10_34) k) ?_
  show Rest p.tables e below s _ _ _ (s₁.setTop (mkF m 35 #[.val (.ref a0), .val (.ref a1), .unset] [(.int (0 : Int32))]))
  refine Rest.ret X0 (v := some (.int (nar .boolean (0 : Int32)))) (fun h => by rw [Bd.returns] at h; cases h) hlk (fun fs hr => retN X0 hx (t := .boolean) Bd.returns (by simp) (hb hby d10_35) hr) ?_ (by decide) (by decide)
  rw [eh0]
  exact ⟨by show some (Value.int (0 : Int32)) = _; rw [if_neg (by simp)], N0, rfl⟩
theorem ef_SE5_7 (m : MethodId) (a0 : Addr) (a1 : Addr) : entryFrame m #[(.ref a0), (.ref a1)] 3 = mkF m 0 #[.val (.ref a0), .val (.ref a1), .unset] [] := by first | (simp [entryFrame, mkF, argsToLocals, Value.category, maxLocals]; done) | rfl
def QSE5_7 (Z : State) (a0 : Addr) (a1 : Addr) (va0 : Addr) (k0 : ClassId) (va1 : Addr) (k1 : ClassId) (ic : Int32) (xa : Int32) (xb : Int32) (xc : Int32) (xd : Int32) (xe : Int32) (ya : Int32) (yb : Int32) (yc : Int32) (yd : Int32) (ye : Int32) (yf : Int32) (yg : Int32) (h0 : Heap) (n0 : Nat) (v : Option Value) (h : Heap) (L : List Loc) : Prop := v = some (.int (if ([xa, xb, xc, xd, xe] : List Int32) = [ya, yb, yc, yd, ye, yf, yg] then (1 : Int32) else 0)) ∧ Fr n0 L ∧ h = h0
set_option maxRecDepth 65536 in
set_option maxHeartbeats 40000000 in
theorem rmSE5_7 (l : Launch) (Z : State) (aw : Array Value) (hw : ∀ d ∈ tables_1, d.before aw Z = true) (ws : List Jvm.Cond) (a0 : Addr) (a1 : Addr) (va0 : Addr) (k0 : ClassId) (va1 : Addr) (k1 : ClassId) (ic : Int32) (xa : Int32) (xb : Int32) (xc : Int32) (xd : Int32) (xe : Int32) (ya : Int32) (yb : Int32) (yc : Int32) (yd : Int32) (ye : Int32) (yf : Int32) (yg : Int32) (h0 : Heap) (n0 : Nat) (Z0 : n0 ≤ h0.size) (S0 : own_St Z h0 a0 va0 k0 (5 : Int32) [(.int xa), (.int xb), (.int xc), (.int xd), (.int xe)]) (S1 : own_St Z h0 a1 va1 k1 (7 : Int32) [(.int ya), (.int yb), (.int yc), (.int yd), (.int ye), (.int yf), (.int yg)]) (n01 : a0 ≠ a1) (O : Old Z n0 h0) (CS : own_CS Z ic) :
    MetFree l (⟨"java/lang/String", "equals", "(Ljava/lang/Object;)Z"⟩ : MethodName) (head1 (Jvm.Cond.code (⟨"java/lang/String", "equals", "(Ljava/lang/Object;)Z"⟩ : MethodName) jdk_42_method_66_code 3 (some .boolean) :: ws) ({ frames := 1, cells := 0, slots := 0, locals := 14 } : Room)) (fun a U => a = #[(.ref a0), (.ref a1)] ∧ Z.Warmed39 U.vm ∧ U.heap = h0) (fun _ _ _ _ _ => True) (fun _ U o U' => ∃ v L, o = .returned v ∧ QSE5_7 Z a0 a1 va0 k0 va1 k1 ic xa xb xc xd xe ya yb yc yd ye yf yg h0 n0 v U'.heap L ∧ FrameEnd U o U' L ({ frames := 1, cells := 0, slots := 0, locals := 14 } : Room).cells ({ frames := 1, cells := 0, slots := 0, locals := 14 } : Room).slots) := by
  refine MetFree.of_bodySF (plainFor_of_name pn_1) hisR ?_
  intro p e s m args below meth c s₁ Bd hml0 hP hK
  obtain ⟨rfl, hZ, hh⟩ := hP
  have hx := Bd.exec
  have hby := Bd.bytes
  have hml : c.maxLocals = 3 := hml0
  have hown : s.vm.findClass "java/lang/String" = some m.cls := findClass_of_methodNamed Bd.named
  have hnm := (name_of_methodNamed Bd.named Bd.method).1
  have hlk : meth.locks = false := BodyLoose.notSynchronized Bd
  have X0 : Stand p l e ({ frames := 1, cells := 0, slots := 0, locals := 14 } : Room) s m #[(.ref a0), (.ref a1)] below meth c s₁ [] 0 0 := Stand.of_body Bd
  have eh0 : s₁.heap = h0 := by rw [← hh, Bd.state]; rfl
  have N0 := Fr.nil n0
  show Rest p.tables e below s (QSE5_7 Z a0 a1 va0 k0 va1 k1 ic xa xb xc xd xe ya yb yc yd ye yf yg h0 n0) _ _ (s₁.setTop (entryFrame m #[(.ref a0), (.ref a1)] 3))
  refine Rest.via (fun t k => castTop (ef_SE5_7 m a0 a1) k) ?_
  obtain ⟨E_a0, Fv_a0, Fc_a0, V_a0⟩ := id S0
  obtain ⟨E_a1, Fv_a1, Fc_a1, V_a1⟩ := id S1
  show Rest p.tables e below s _ _ _ (s₁.setTop (mkF m 0 #[.val (.ref a0), .val (.ref a1), .unset] []))
  refine Rest.via (fun t k => XS.aloadN X0.here hx rfl (hb hby d9_0) rfl rfl k) ?_
  show Rest p.tables e below s _ _ _ (s₁.setTop (mkF m 1 #[.val (.ref a0), .val (.ref a1), .unset] [(.ref a0)]))
  refine Rest.via (fun t k => XS.aloadN X0.here hx rfl (hb hby d9_1) rfl rfl k) ?_
  show Rest p.tables e below s _ _ _ (s₁.setTop (mkF m 2 #[.val (.ref a0), .val (.ref a1), .unset] [(.ref a1), (.ref a0)]))
  refine Rest.via (fun t k => Jvm.RoadKit.acmp (g := (mkF m 2 #[.val (.ref a0), .val (.ref a1), .unset] [(.ref a1), (.ref a0)])) X0 hx rfl rfl rfl (pc0 := 2) (pc' := 7) (same := false) rfl (hb hby d9_2) rfl (decide_eq_false fun q => n01 (Value.ref.inj q)) (by decide) (by decide) k) ?_
  show Rest p.tables e below s _ _ _ (s₁.setTop (mkF m 7 #[.val (.ref a0), .val (.ref a1), .unset] []))
  refine Rest.via (fun t k => XS.aloadN X0.here hx rfl (hb hby d9_7) rfl rfl k) ?_
  show Rest p.tables e below s _ _ _ (s₁.setTop (mkF m 8 #[.val (.ref a0), .val (.ref a1), .unset] [(.ref a1)]))
  obtain ⟨T1, X1, e1, st1⟩ := instY X0 hx hZ hown (hw _ (List.mem_of_getElem? (i := 59) rfl)) eh0 (Ins.self E_a1) (g := (mkF m 8 #[.val (.ref a0), .val (.ref a1), .unset] [(.ref a1)])) rfl rfl (hb hby d9_8)
  refine Rest.via (fun t k => st1 t k) ?_
  show Rest p.tables e below s _ _ _ (T1.setTop (mkF m 11 #[.val (.ref a0), .val (.ref a1), .unset] [(.int (1 : Int32))]))
  refine Rest.via (fun t k => XS.ifNo X1.here hx rfl (hb hby d9_11) rfl ((if0 _ _).trans (feq (by decide : ¬ ((1 : Int32) = (0 : Int32)))).1) k) ?_
  show Rest p.tables e below s _ _ _ (T1.setTop (mkF m 14 #[.val (.ref a0), .val (.ref a1), .unset] []))
  refine Rest.via (fun t k => XS.aloadN X1.here hx rfl (hb hby d9_14) rfl rfl k) ?_
  show Rest p.tables e below s _ _ _ (T1.setTop (mkF m 15 #[.val (.ref a0), .val (.ref a1), .unset] [(.ref a1)]))
  obtain ⟨T2, X2, e2, st2⟩ := castY X1 hx hZ hown (hw _ (List.mem_of_getElem? (i := 59) rfl)) e1 (Ins.self E_a1) (g := (mkF m 15 #[.val (.ref a0), .val (.ref a1), .unset] [(.ref a1)])) rfl rfl (hb hby d9_15)
  refine Rest.via (fun t k => st2 t k) ?_
  show Rest p.tables e below s _ _ _ (T2.setTop (mkF m 18 #[.val (.ref a0), .val (.ref a1), .unset] [(.ref a1)]))
  refine Rest.via (fun t k => XS.astoreN X2.here hx rfl (hb hby d9_18) rfl rfl (l' := #[.val (.ref a0), .val (.ref a1), .val (.ref a1)]) rfl k) ?_
  show Rest p.tables e below s _ _ _ (T2.setTop (mkF m 19 #[.val (.ref a0), .val (.ref a1), .val (.ref a1)] []))
  obtain ⟨T3, X3, e3, st3⟩ := getS2 X2 hx hZ hown (host := "") (Or.inl (hw _ (List.mem_of_getElem? (i := 18) rfl))) Via.refl e2 (CS.1.ext (O.keep (Keep.refl h0 []) all0).2) (g := (mkF m 19 #[.val (.ref a0), .val (.ref a1), .val (.ref a1)] [])) rfl (hb hby d9_19)
  refine Rest.via (fun t k => st3 t k) ?_
  show Rest p.tables e below s _ _ _ (T3.setTop (mkF m 22 #[.val (.ref a0), .val (.ref a1), .val (.ref a1)] [(.int ic)]))
  refine Rest.via (fun t k => XS.ifNo X3.here hx rfl (hb hby d9_22) rfl ((if0 _ _).trans (feq (CS.2 : ¬ (ic = (0 : Int32)))).1) k) ?_
  show Rest p.tables e below s _ _ _ (T3.setTop (mkF m 25 #[.val (.ref a0), .val (.ref a1), .val (.ref a1)] []))
  refine Rest.via (fun t k => XS.aloadN X3.here hx rfl (hb hby d9_25) rfl rfl k) ?_
  show Rest p.tables e below s _ _ _ (T3.setTop (mkF m 26 #[.val (.ref a0), .val (.ref a1), .val (.ref a1)] [(.ref a0)]))
  obtain ⟨T4, X4, e4, st4⟩ := getF X3 hx hZ hown (host := "") (Or.inl (hw _ (List.mem_of_getElem? (i := 30) rfl))) Via.refl e3 Fc_a0 (g := (mkF m 26 #[.val (.ref a0), .val (.ref a1), .val (.ref a1)] [(.ref a0)])) rfl rfl (hb hby d9_26)
  refine Rest.via (fun t k => st4 t k) ?_
  show Rest p.tables e below s _ _ _ (T4.setTop (mkF m 29 #[.val (.ref a0), .val (.ref a1), .val (.ref a1)] [(.int (0 : Int32))]))
  refine Rest.via (fun t k => XS.aloadN X4.here hx rfl (hb hby d9_29) rfl rfl k) ?_
  show Rest p.tables e below s _ _ _ (T4.setTop (mkF m 30 #[.val (.ref a0), .val (.ref a1), .val (.ref a1)] [(.ref a1), (.int (0 : Int32))]))
  obtain ⟨T5, X5, e5, st5⟩ := getF X4 hx hZ hown (host := "") (Or.inl (hw _ (List.mem_of_getElem? (i := 30) rfl))) Via.refl e4 Fc_a1 (g := (mkF m 30 #[.val (.ref a0), .val (.ref a1), .val (.ref a1)] [(.ref a1), (.int (0 : Int32))])) rfl rfl (hb hby d9_30)
  refine Rest.via (fun t k => st5 t k) ?_
  show Rest p.tables e below s _ _ _ (T5.setTop (mkF m 33 #[.val (.ref a0), .val (.ref a1), .val (.ref a1)] [(.int (0 : Int32)), (.int (0 : Int32))]))
  refine Rest.via (fun t k => XS.icmpNo X5.here hx rfl (hb hby d9_33) rfl (teq (by decide : (0 : Int32) = (0 : Int32))).2 k) ?_
  show Rest p.tables e below s _ _ _ (T5.setTop (mkF m 36 #[.val (.ref a0), .val (.ref a1), .val (.ref a1)] []))
  refine Rest.via (fun t k => XS.aloadN X5.here hx rfl (hb hby d9_36) rfl rfl k) ?_
  show Rest p.tables e below s _ _ _ (T5.setTop (mkF m 37 #[.val (.ref a0), .val (.ref a1), .val (.ref a1)] [(.ref a0)]))
  obtain ⟨T6, X6, e6, st6⟩ := getF X5 hx hZ hown (host := "") (Or.inl (hw _ (List.mem_of_getElem? (i := 32) rfl))) Via.refl e5 Fv_a0 (g := (mkF m 37 #[.val (.ref a0), .val (.ref a1), .val (.ref a1)] [(.ref a0)])) rfl rfl (hb hby d9_37)
  refine Rest.via (fun t k => st6 t k) ?_
  show Rest p.tables e below s _ _ _ (T6.setTop (mkF m 40 #[.val (.ref a0), .val (.ref a1), .val (.ref a1)] [(.ref va0)]))
  refine Rest.via (fun t k => XS.aloadN X6.here hx rfl (hb hby d9_40) rfl rfl k) ?_
  show Rest p.tables e below s _ _ _ (T6.setTop (mkF m 41 #[.val (.ref a0), .val (.ref a1), .val (.ref a1)] [(.ref a1), (.ref va0)]))
  obtain ⟨T7, X7, e7, st7⟩ := getF X6 hx hZ hown (host := "") (Or.inl (hw _ (List.mem_of_getElem? (i := 32) rfl))) Via.refl e6 Fv_a1 (g := (mkF m 41 #[.val (.ref a0), .val (.ref a1), .val (.ref a1)] [(.ref a1), (.ref va0)])) rfl rfl (hb hby d9_41)
  refine Rest.via (fun t k => st7 t k) ?_
  show Rest p.tables e below s _ _ _ (T7.setTop (mkF m 44 #[.val (.ref a0), .val (.ref a1), .val (.ref a1)] [(.ref va1), (.ref va0)]))
  obtain ⟨_, _, ⟨T8, L8, k8, n8⟩, -, X8, ⟨Lc8, hQ8, l8, y8, z8⟩, st8⟩ := Jvm.LawKit.callS X7 hx (y := (⟨"java/lang/StringLatin1", "equals", "([B[B)Z"⟩ : MethodName)) hown (mvT hZ (hw _ (List.mem_of_getElem? (i := 60) rfl))) (mvT hZ (hw _ (List.mem_of_getElem? (i := 61) rfl))) (mvT hZ (hw _ (List.mem_of_getElem? (i := 62) rfl))) (mvT hZ (hw _ (List.mem_of_getElem? (i := 63) rfl))) (by decide) (backOf (W := 0) (rmLE5_7 l Z aw hw [] va0 va1 k0 k1 xa xb xc xd xe ya yb yc yd ye yf yg h0 n0 (Nat.le_trans Z0 (Keep.refl h0 []).1) V_a0 V_a1) hZ (hw _ (List.mem_of_getElem? (i := 63) rfl)) (hw _ (List.mem_of_getElem? (i := 62) rfl)) (by decide) (by decide)) (g := (mkF m 44 #[.val (.ref a0), .val (.ref a1), .val (.ref a1)] [(.ref va1), (.ref va0)])) rfl (by rw [hml]; rfl) (argsL := [(.ref va0), (.ref va1)]) (rest := []) (lenOf pd_4 rfl) rfl (by show 2 * 0 + _ ≤ _; exact Nat.le_of_eq rfl) (hb hby d9_44) (fun _ _ => ⟨rfl, e7, (by decide : 0 + 0 ≤ _), (by decide : 0 + 0 ≤ _)⟩)
  dsimp only [Pt.U, Pt.locs, Pt.cells, Pt.slots] at X8 l8 y8 z8 st8 hQ8
  subst l8 y8 z8
  obtain ⟨rfl, Nq8, e8⟩ := hQ8
  have N8 := Fr.app N0 Nq8
  refine Rest.via (fun t k => st8 t k) ?_
  show Rest p.tables e below s _ _ _ (T8.setTop (mkF m 47 #[.val (.ref a0), .val (.ref a1), .val (.ref a1)] [(.int (if ([xa, xb, xc, xd, xe] : List Int32) = [ya, yb, yc, yd, ye, yf, yg] then (1 : Int32) else 0))]))
  by_cases hz : (if ([xa, xb, xc, xd, xe] : List Int32) = [ya, yb, yc, yd, ye, yf, yg] then (1 : Int32) else 0) = (0 : Int32)
  · refine Rest.via (fun t k => XS.ifYes X8.here hx rfl (pc0 := 47) (pc' := 54) rfl (hb hby d9_47) rfl ((if0 _ _).trans (teq hz).1) (by decide) (by decide) k) ?_
    show Rest p.tables e below s _ _ _ (T8.setTop (mkF m 54 #[.val (.ref a0), .val (.ref a1), .val (.ref a1)] []))
    refine Rest.via (fun t k => XS.iconst X8.here hx rfl (hb hby d9_54) k) ?_
    show Rest p.tables e below s _ _ _ (T8.setTop (mkF m 55 #[.val (.ref a0), .val (.ref a1), .val (.ref a1)] [(.int (0 : Int32))]))
    refine Rest.ret X8 (v := some (.int (nar .boolean (0 : Int32)))) (fun h => by rw [Bd.returns] at h; cases h) hlk (fun fs hr => retN X8 hx (t := .boolean) Bd.returns (by simp) (hb hby d9_55) hr) ?_ (by decide) (by decide)
    rw [e8]
    exact ⟨by show some (Value.int (0 : Int32)) = _; rw [hz], N8, rfl⟩
  · refine Rest.via (fun t k => XS.ifNo X8.here hx rfl (hb hby d9_47) rfl ((if0 _ _).trans (feq hz).1) k) ?_
    show Rest p.tables e below s _ _ _ (T8.setTop (mkF m 50 #[.val (.ref a0), .val (.ref a1), .val (.ref a1)] []))
    refine Rest.via (fun t k => XS.iconst X8.here hx rfl (hb hby d9_50) k) ?_
    show Rest p.tables e below s _ _ _ (T8.setTop (mkF m 51 #[.val (.ref a0), .val (.ref a1), .val (.ref a1)] [(.int (1 : Int32))]))
    refine Rest.via (fun t k => XS.goto X8.here hx rfl (pc0 := 51) (pc' := 55) rfl (hb hby d9_51) (by decide) (by decide) k) ?_
    show Rest p.tables e below s _ _ _ (T8.setTop (mkF m 55 #[.val (.ref a0), .val (.ref a1), .val (.ref a1)] [(.int (1 : Int32))]))
    refine Rest.ret X8 (v := some (.int (nar .boolean (1 : Int32)))) (fun h => by rw [Bd.returns] at h; cases h) hlk (fun fs hr => retN X8 hx (t := .boolean) Bd.returns (by simp) (hb hby d9_55) hr) ?_ (by decide) (by decide)
    rw [e8]
    exact ⟨by show some (Value.int (1 : Int32)) = _; rw [own_ite1 hz], N8, rfl⟩
theorem ef_LE6_6 (m : MethodId) (a0 : Addr) (a1 : Addr) : entryFrame m #[(.ref a0), (.ref a1)] 3 = mkF m 0 #[.val (.ref a0), .val (.ref a1), .unset] [] := by first | (simp [entryFrame, mkF, argsToLocals, Value.category, maxLocals]; done) | rfl
def QLE6_6 (Z : State) (a0 : Addr) (a1 : Addr) (k0 : ClassId) (k1 : ClassId) (xa : Int32) (xb : Int32) (xc : Int32) (xd : Int32) (xe : Int32) (xf : Int32) (ya : Int32) (yb : Int32) (yc : Int32) (yd : Int32) (ye : Int32) (yf : Int32) (h0 : Heap) (n0 : Nat) (v : Option Value) (h : Heap) (L : List Loc) : Prop := v = some (.int (if ([xa, xb, xc, xd, xe, xf] : List Int32) = [ya, yb, yc, yd, ye, yf] then (1 : Int32) else 0)) ∧ Fr n0 L ∧ h = h0
set_option maxRecDepth 65536 in
set_option maxHeartbeats 40000000 in
theorem rmLE6_6 (l : Launch) (Z : State) (aw : Array Value) (hw : ∀ d ∈ tables_1, d.before aw Z = true) (ws : List Jvm.Cond) (a0 : Addr) (a1 : Addr) (k0 : ClassId) (k1 : ClassId) (xa : Int32) (xb : Int32) (xc : Int32) (xd : Int32) (xe : Int32) (xf : Int32) (ya : Int32) (yb : Int32) (yc : Int32) (yd : Int32) (ye : Int32) (yf : Int32) (h0 : Heap) (n0 : Nat) (Z0 : n0 ≤ h0.size) (V0 : Arv Z h0 a0 k0 .byte (6 : Int32) [(.int xa), (.int xb), (.int xc), (.int xd), (.int xe), (.int xf)] (.int (0 : Int32))) (V1 : Arv Z h0 a1 k1 .byte (6 : Int32) [(.int ya), (.int yb), (.int yc), (.int yd), (.int ye), (.int yf)] (.int (0 : Int32))) :
    MetFree l (⟨"java/lang/StringLatin1", "equals", "([B[B)Z"⟩ : MethodName) (head1 (Jvm.Cond.code (⟨"java/lang/StringLatin1", "equals", "([B[B)Z"⟩ : MethodName) jdk_43_method_13_code 3 (some .boolean) :: ws) ({ frames := 0, cells := 0, slots := 0, locals := 0 } : Room)) (fun a U => a = #[(.ref a0), (.ref a1)] ∧ Z.Warmed39 U.vm ∧ U.heap = h0) (fun _ _ _ _ _ => True) (fun _ U o U' => ∃ v L, o = .returned v ∧ QLE6_6 Z a0 a1 k0 k1 xa xb xc xd xe xf ya yb yc yd ye yf h0 n0 v U'.heap L ∧ FrameEnd U o U' L ({ frames := 0, cells := 0, slots := 0, locals := 0 } : Room).cells ({ frames := 0, cells := 0, slots := 0, locals := 0 } : Room).slots) := by
  refine MetFree.of_bodySF (plainFor_of_name pn_2) hisR ?_
  intro p e s m args below meth c s₁ Bd hml0 hP hK
  obtain ⟨rfl, hZ, hh⟩ := hP
  have hx := Bd.exec
  have hby := Bd.bytes
  have hml : c.maxLocals = 3 := hml0
  have hown : s.vm.findClass "java/lang/StringLatin1" = some m.cls := findClass_of_methodNamed Bd.named
  have hnm := (name_of_methodNamed Bd.named Bd.method).1
  have hlk : meth.locks = false := BodyLoose.notSynchronized Bd
  have X0 : Stand p l e ({ frames := 0, cells := 0, slots := 0, locals := 0 } : Room) s m #[(.ref a0), (.ref a1)] below meth c s₁ [] 0 0 := Stand.of_body Bd
  have eh0 : s₁.heap = h0 := by rw [← hh, Bd.state]; rfl
  have N0 := Fr.nil n0
  show Rest p.tables e below s (QLE6_6 Z a0 a1 k0 k1 xa xb xc xd xe xf ya yb yc yd ye yf h0 n0) _ _ (s₁.setTop (entryFrame m #[(.ref a0), (.ref a1)] 3))
  refine Rest.via (fun t k => castTop (ef_LE6_6 m a0 a1) k) ?_
  show Rest p.tables e below s _ _ _ (s₁.setTop (mkF m 0 #[.val (.ref a0), .val (.ref a1), .unset] []))
  refine Rest.via (fun t k => XS.aloadN X0.here hx rfl (hb hby d10_0) rfl rfl k) ?_
  show Rest p.tables e below s _ _ _ (s₁.setTop (mkF m 1 #[.val (.ref a0), .val (.ref a1), .unset] [(.ref a0)]))
  obtain ⟨cl1, Ar1, -, S1, P1, -, -⟩ := id V0
  refine Rest.via (fun t k => X0.arraylength hx (by rw [eh0]; exact Ar1.1) (State.isArrayOf_alike hZ.alike Ar1.2.1) (g := (mkF m 1 #[.val (.ref a0), .val (.ref a1), .unset] [(.ref a0)])) rfl rfl (hb hby d10_1) t k) ?_
  rw [len_of S1 P1]
  show Rest p.tables e below s _ _ _ (s₁.setTop (mkF m 2 #[.val (.ref a0), .val (.ref a1), .unset] [(.int (6 : Int32))]))
  refine Rest.via (fun t k => XS.aloadN X0.here hx rfl (hb hby d10_2) rfl rfl k) ?_
  show Rest p.tables e below s _ _ _ (s₁.setTop (mkF m 3 #[.val (.ref a0), .val (.ref a1), .unset] [(.ref a1), (.int (6 : Int32))]))
  obtain ⟨cl2, Ar2, -, S2, P2, -, -⟩ := id V1
  refine Rest.via (fun t k => X0.arraylength hx (by rw [eh0]; exact Ar2.1) (State.isArrayOf_alike hZ.alike Ar2.2.1) (g := (mkF m 3 #[.val (.ref a0), .val (.ref a1), .unset] [(.ref a1), (.int (6 : Int32))])) rfl rfl (hb hby d10_3) t k) ?_
  rw [len_of S2 P2]
  show Rest p.tables e below s _ _ _ (s₁.setTop (mkF m 4 #[.val (.ref a0), .val (.ref a1), .unset] [(.int (6 : Int32)), (.int (6 : Int32))]))
  refine Rest.via (fun t k => XS.icmpNo X0.here hx rfl (hb hby d10_4) rfl (teq (by decide : (6 : Int32) = (6 : Int32))).2 k) ?_
  show Rest p.tables e below s _ _ _ (s₁.setTop (mkF m 7 #[.val (.ref a0), .val (.ref a1), .unset] []))
  refine Rest.via (fun t k => XS.iconst X0.here hx rfl (hb hby d10_7) k) ?_
  show Rest p.tables e below s _ _ _ (s₁.setTop (mkF m 8 #[.val (.ref a0), .val (.ref a1), .unset] [(.int (0 : Int32))]))
  refine Rest.via (fun t k => XS.istoreN X0.here hx rfl (hb hby d10_8) rfl (l' := #[.val (.ref a0), .val (.ref a1), .val (.int (0 : Int32))]) rfl k) ?_
  show Rest p.tables e below s _ _ _ (s₁.setTop (mkF m 9 #[.val (.ref a0), .val (.ref a1), .val (.int (0 : Int32))] []))
  refine Rest.via (fun t k => XS.iloadN X0.here hx rfl (hb hby d10_9) rfl k) ?_
  show Rest p.tables e below s _ _ _ (s₁.setTop (mkF m 10 #[.val (.ref a0), .val (.ref a1), .val (.int (0 : Int32))] [(.int (0 : Int32))]))
  refine Rest.via (fun t k => XS.aloadN X0.here hx rfl (hb hby d10_10) rfl rfl k) ?_
  show Rest p.tables e below s _ _ _ (s₁.setTop (mkF m 11 #[.val (.ref a0), .val (.ref a1), .val (.int (0 : Int32))] [(.ref a0), (.int (0 : Int32))]))
  obtain ⟨cl3, Ar3, -, S3, P3, -, -⟩ := id V0
  refine Rest.via (fun t k => X0.arraylength hx (by rw [eh0]; exact Ar3.1) (State.isArrayOf_alike hZ.alike Ar3.2.1) (g := (mkF m 11 #[.val (.ref a0), .val (.ref a1), .val (.int (0 : Int32))] [(.ref a0), (.int (0 : Int32))])) rfl rfl (hb hby d10_11) t k) ?_
  rw [len_of S3 P3]
  show Rest p.tables e below s _ _ _ (s₁.setTop (mkF m 12 #[.val (.ref a0), .val (.ref a1), .val (.int (0 : Int32))] [(.int (6 : Int32)), (.int (0 : Int32))]))
  refine Rest.via (fun t k => XS.icmpNo X0.here hx rfl (hb hby d10_12) rfl (tlt (by decide : (0 : Int32) < (6 : Int32))).2.1 k) ?_
  show Rest p.tables e below s _ _ _ (s₁.setTop (mkF m 15 #[.val (.ref a0), .val (.ref a1), .val (.int (0 : Int32))] []))
  refine Rest.via (fun t k => XS.aloadN X0.here hx rfl (hb hby d10_15) rfl rfl k) ?_
  show Rest p.tables e below s _ _ _ (s₁.setTop (mkF m 16 #[.val (.ref a0), .val (.ref a1), .val (.int (0 : Int32))] [(.ref a0)]))
  refine Rest.via (fun t k => XS.iloadN X0.here hx rfl (hb hby d10_16) rfl k) ?_
  show Rest p.tables e below s _ _ _ (s₁.setTop (mkF m 17 #[.val (.ref a0), .val (.ref a1), .val (.int (0 : Int32))] [(.int (0 : Int32)), (.ref a0)]))
  obtain ⟨cl4, Ar4, qa4, Sa4, Pa4, Ha4, Ga4⟩ := id V0
  have hin4 := inb_of (j := (0 : Int32)) Sa4 ⟨by decide, by decide⟩
  have hat4 : cl4.slots[((0 : Int32)).toNatClampNeg]? = some (.int xa) := Has.at Ha4 hin4 rfl
  refine Rest.via (fun t k => X0.baloadBytes hx (j := (0 : Int32)) (v := (.int xa)) (by rw [eh0]; exact Ar4.1) (State.isArrayOf_alike hZ.alike Ar4.2.1) Ar4.2.2 hin4 hat4 (g := (mkF m 17 #[.val (.ref a0), .val (.ref a1), .val (.int (0 : Int32))] [(.int (0 : Int32)), (.ref a0)])) rfl rfl (hb hby d10_17) t k) ?_
  show Rest p.tables e below s _ _ _ (s₁.setTop (mkF m 18 #[.val (.ref a0), .val (.ref a1), .val (.int (0 : Int32))] [(.int xa)]))
  refine Rest.via (fun t k => XS.aloadN X0.here hx rfl (hb hby d10_18) rfl rfl k) ?_
  show Rest p.tables e below s _ _ _ (s₁.setTop (mkF m 19 #[.val (.ref a0), .val (.ref a1), .val (.int (0 : Int32))] [(.ref a1), (.int xa)]))
  refine Rest.via (fun t k => XS.iloadN X0.here hx rfl (hb hby d10_19) rfl k) ?_
  show Rest p.tables e below s _ _ _ (s₁.setTop (mkF m 20 #[.val (.ref a0), .val (.ref a1), .val (.int (0 : Int32))] [(.int (0 : Int32)), (.ref a1), (.int xa)]))
  obtain ⟨cl5, Ar5, qa5, Sa5, Pa5, Ha5, Ga5⟩ := id V1
  have hin5 := inb_of (j := (0 : Int32)) Sa5 ⟨by decide, by decide⟩
  have hat5 : cl5.slots[((0 : Int32)).toNatClampNeg]? = some (.int ya) := Has.at Ha5 hin5 rfl
  refine Rest.via (fun t k => X0.baloadBytes hx (j := (0 : Int32)) (v := (.int ya)) (by rw [eh0]; exact Ar5.1) (State.isArrayOf_alike hZ.alike Ar5.2.1) Ar5.2.2 hin5 hat5 (g := (mkF m 20 #[.val (.ref a0), .val (.ref a1), .val (.int (0 : Int32))] [(.int (0 : Int32)), (.ref a1), (.int xa)])) rfl rfl (hb hby d10_20) t k) ?_
  show Rest p.tables e below s _ _ _ (s₁.setTop (mkF m 21 #[.val (.ref a0), .val (.ref a1), .val (.int (0 : Int32))] [(.int ya), (.int xa)]))
  by_cases hq0 : xa = ya
  · refine Rest.via (fun t k => XS.icmpYes X0.here hx rfl (pc0 := 21) (pc' := 26) rfl (hb hby d10_21) rfl (teq hq0).1 (by decide) (by decide) k) ?_
    show Rest p.tables e below s _ _ _ (s₁.setTop (mkF m 26 #[.val (.ref a0), .val (.ref a1), .val (.int (0 : Int32))] []))
    refine Rest.via (fun t k => XS.iinc X0.here hx rfl (hb hby d10_26) rfl (l' := #[.val (.ref a0), .val (.ref a1), .val (.int ((0 : Int32) + (1 : Int32)))]) rfl k) ?_
    show Rest p.tables e below s _ _ _ (s₁.setTop (mkF m 29 #[.val (.ref a0), .val (.ref a1), .val (.int ((0 : Int32) + (1 : Int32)))] []))
    rw [(by decide : ((0 : Int32) + (1 : Int32)) = (1 : Int32))]
    show Rest p.tables e below s _ _ _ (s₁.setTop (mkF m 29 #[.val (.ref a0), .val (.ref a1), .val (.int (1 : Int32))] []))
    refine Rest.via (fun t k => XS.goto X0.here hx rfl (pc0 := 29) (pc' := 9) rfl (hb hby d10_29) (by decide) (by decide) k) ?_
    show Rest p.tables e below s _ _ _ (s₁.setTop (mkF m 9 #[.val (.ref a0), .val (.ref a1), .val (.int (1 : Int32))] []))
    refine Rest.via (fun t k => XS.iloadN X0.here hx rfl (hb hby d10_9) rfl k) ?_
    show Rest p.tables e below s _ _ _ (s₁.setTop (mkF m 10 #[.val (.ref a0), .val (.ref a1), .val (.int (1 : Int32))] [(.int (1 : Int32))]))
    refine Rest.via (fun t k => XS.aloadN X0.here hx rfl (hb hby d10_10) rfl rfl k) ?_
    show Rest p.tables e below s _ _ _ (s₁.setTop (mkF m 11 #[.val (.ref a0), .val (.ref a1), .val (.int (1 : Int32))] [(.ref a0), (.int (1 : Int32))]))
    obtain ⟨cl6, Ar6, -, S6, P6, -, -⟩ := id V0
    refine Rest.via (fun t k => X0.arraylength hx (by rw [eh0]; exact Ar6.1) (State.isArrayOf_alike hZ.alike Ar6.2.1) (g := (mkF m 11 #[.val (.ref a0), .val (.ref a1), .val (.int (1 : Int32))] [(.ref a0), (.int (1 : Int32))])) rfl rfl (hb hby d10_11) t k) ?_
    rw [len_of S6 P6]
    show Rest p.tables e below s _ _ _ (s₁.setTop (mkF m 12 #[.val (.ref a0), .val (.ref a1), .val (.int (1 : Int32))] [(.int (6 : Int32)), (.int (1 : Int32))]))
    refine Rest.via (fun t k => XS.icmpNo X0.here hx rfl (hb hby d10_12) rfl (tlt (by decide : (1 : Int32) < (6 : Int32))).2.1 k) ?_
    show Rest p.tables e below s _ _ _ (s₁.setTop (mkF m 15 #[.val (.ref a0), .val (.ref a1), .val (.int (1 : Int32))] []))
    refine Rest.via (fun t k => XS.aloadN X0.here hx rfl (hb hby d10_15) rfl rfl k) ?_
    show Rest p.tables e below s _ _ _ (s₁.setTop (mkF m 16 #[.val (.ref a0), .val (.ref a1), .val (.int (1 : Int32))] [(.ref a0)]))
    refine Rest.via (fun t k => XS.iloadN X0.here hx rfl (hb hby d10_16) rfl k) ?_
    show Rest p.tables e below s _ _ _ (s₁.setTop (mkF m 17 #[.val (.ref a0), .val (.ref a1), .val (.int (1 : Int32))] [(.int (1 : Int32)), (.ref a0)]))
    obtain ⟨cl7, Ar7, qa7, Sa7, Pa7, Ha7, Ga7⟩ := id V0
    have hin7 := inb_of (j := (1 : Int32)) Sa7 ⟨by decide, by decide⟩
    have hat7 : cl7.slots[((1 : Int32)).toNatClampNeg]? = some (.int xb) := Has.at Ha7 hin7 rfl
    refine Rest.via (fun t k => X0.baloadBytes hx (j := (1 : Int32)) (v := (.int xb)) (by rw [eh0]; exact Ar7.1) (State.isArrayOf_alike hZ.alike Ar7.2.1) Ar7.2.2 hin7 hat7 (g := (mkF m 17 #[.val (.ref a0), .val (.ref a1), .val (.int (1 : Int32))] [(.int (1 : Int32)), (.ref a0)])) rfl rfl (hb hby d10_17) t k) ?_
    show Rest p.tables e below s _ _ _ (s₁.setTop (mkF m 18 #[.val (.ref a0), .val (.ref a1), .val (.int (1 : Int32))] [(.int xb)]))
    refine Rest.via (fun t k => XS.aloadN X0.here hx rfl (hb hby d10_18) rfl rfl k) ?_
    show Rest p.tables e below s _ _ _ (s₁.setTop (mkF m 19 #[.val (.ref a0), .val (.ref a1), .val (.int (1 : Int32))] [(.ref a1), (.int xb)]))
    refine Rest.via (fun t k => XS.iloadN X0.here hx rfl (hb hby d10_19) rfl k) ?_
    show Rest p.tables e below s _ _ _ (s₁.setTop (mkF m 20 #[.val (.ref a0), .val (.ref a1), .val (.int (1 : Int32))] [(.int (1 : Int32)), (.ref a1), (.int xb)]))
    obtain ⟨cl8, Ar8, qa8, Sa8, Pa8, Ha8, Ga8⟩ := id V1
    have hin8 := inb_of (j := (1 : Int32)) Sa8 ⟨by decide, by decide⟩
    have hat8 : cl8.slots[((1 : Int32)).toNatClampNeg]? = some (.int yb) := Has.at Ha8 hin8 rfl
    refine Rest.via (fun t k => X0.baloadBytes hx (j := (1 : Int32)) (v := (.int yb)) (by rw [eh0]; exact Ar8.1) (State.isArrayOf_alike hZ.alike Ar8.2.1) Ar8.2.2 hin8 hat8 (g := (mkF m 20 #[.val (.ref a0), .val (.ref a1), .val (.int (1 : Int32))] [(.int (1 : Int32)), (.ref a1), (.int xb)])) rfl rfl (hb hby d10_20) t k) ?_
    show Rest p.tables e below s _ _ _ (s₁.setTop (mkF m 21 #[.val (.ref a0), .val (.ref a1), .val (.int (1 : Int32))] [(.int yb), (.int xb)]))
    by_cases hq1 : xb = yb
    · refine Rest.via (fun t k => XS.icmpYes X0.here hx rfl (pc0 := 21) (pc' := 26) rfl (hb hby d10_21) rfl (teq hq1).1 (by decide) (by decide) k) ?_
      show Rest p.tables e below s _ _ _ (s₁.setTop (mkF m 26 #[.val (.ref a0), .val (.ref a1), .val (.int (1 : Int32))] []))
      refine Rest.via (fun t k => XS.iinc X0.here hx rfl (hb hby d10_26) rfl (l' := #[.val (.ref a0), .val (.ref a1), .val (.int ((1 : Int32) + (1 : Int32)))]) rfl k) ?_
      show Rest p.tables e below s _ _ _ (s₁.setTop (mkF m 29 #[.val (.ref a0), .val (.ref a1), .val (.int ((1 : Int32) + (1 : Int32)))] []))
      rw [(by decide : ((1 : Int32) + (1 : Int32)) = (2 : Int32))]
      show Rest p.tables e below s _ _ _ (s₁.setTop (mkF m 29 #[.val (.ref a0), .val (.ref a1), .val (.int (2 : Int32))] []))
      refine Rest.via (fun t k => XS.goto X0.here hx rfl (pc0 := 29) (pc' := 9) rfl (hb hby d10_29) (by decide) (by decide) k) ?_
      show Rest p.tables e below s _ _ _ (s₁.setTop (mkF m 9 #[.val (.ref a0), .val (.ref a1), .val (.int (2 : Int32))] []))
      refine Rest.via (fun t k => XS.iloadN X0.here hx rfl (hb hby d10_9) rfl k) ?_
      show Rest p.tables e below s _ _ _ (s₁.setTop (mkF m 10 #[.val (.ref a0), .val (.ref a1), .val (.int (2 : Int32))] [(.int (2 : Int32))]))
      refine Rest.via (fun t k => XS.aloadN X0.here hx rfl (hb hby d10_10) rfl rfl k) ?_
      show Rest p.tables e below s _ _ _ (s₁.setTop (mkF m 11 #[.val (.ref a0), .val (.ref a1), .val (.int (2 : Int32))] [(.ref a0), (.int (2 : Int32))]))
      obtain ⟨cl9, Ar9, -, S9, P9, -, -⟩ := id V0
      refine Rest.via (fun t k => X0.arraylength hx (by rw [eh0]; exact Ar9.1) (State.isArrayOf_alike hZ.alike Ar9.2.1) (g := (mkF m 11 #[.val (.ref a0), .val (.ref a1), .val (.int (2 : Int32))] [(.ref a0), (.int (2 : Int32))])) rfl rfl (hb hby d10_11) t k) ?_
      rw [len_of S9 P9]
      show Rest p.tables e below s _ _ _ (s₁.setTop (mkF m 12 #[.val (.ref a0), .val (.ref a1), .val (.int (2 : Int32))] [(.int (6 : Int32)), (.int (2 : Int32))]))
      refine Rest.via (fun t k => XS.icmpNo X0.here hx rfl (hb hby d10_12) rfl (tlt (by decide : (2 : Int32) < (6 : Int32))).2.1 k) ?_
      show Rest p.tables e below s _ _ _ (s₁.setTop (mkF m 15 #[.val (.ref a0), .val (.ref a1), .val (.int (2 : Int32))] []))
      refine Rest.via (fun t k => XS.aloadN X0.here hx rfl (hb hby d10_15) rfl rfl k) ?_
      show Rest p.tables e below s _ _ _ (s₁.setTop (mkF m 16 #[.val (.ref a0), .val (.ref a1), .val (.int (2 : Int32))] [(.ref a0)]))
      refine Rest.via (fun t k => XS.iloadN X0.here hx rfl (hb hby d10_16) rfl k) ?_
      show Rest p.tables e below s _ _ _ (s₁.setTop (mkF m 17 #[.val (.ref a0), .val (.ref a1), .val (.int (2 : Int32))] [(.int (2 : Int32)), (.ref a0)]))
      obtain ⟨cl10, Ar10, qa10, Sa10, Pa10, Ha10, Ga10⟩ := id V0
      have hin10 := inb_of (j := (2 : Int32)) Sa10 ⟨by decide, by decide⟩
      have hat10 : cl10.slots[((2 : Int32)).toNatClampNeg]? = some (.int xc) := Has.at Ha10 hin10 rfl
      refine Rest.via (fun t k => X0.baloadBytes hx (j := (2 : Int32)) (v := (.int xc)) (by rw [eh0]; exact Ar10.1) (State.isArrayOf_alike hZ.alike Ar10.2.1) Ar10.2.2 hin10 hat10 (g := (mkF m 17 #[.val (.ref a0), .val (.ref a1), .val (.int (2 : Int32))] [(.int (2 : Int32)), (.ref a0)])) rfl rfl (hb hby d10_17) t k) ?_
      show Rest p.tables e below s _ _ _ (s₁.setTop (mkF m 18 #[.val (.ref a0), .val (.ref a1), .val (.int (2 : Int32))] [(.int xc)]))
      refine Rest.via (fun t k => XS.aloadN X0.here hx rfl (hb hby d10_18) rfl rfl k) ?_
      show Rest p.tables e below s _ _ _ (s₁.setTop (mkF m 19 #[.val (.ref a0), .val (.ref a1), .val (.int (2 : Int32))] [(.ref a1), (.int xc)]))
      refine Rest.via (fun t k => XS.iloadN X0.here hx rfl (hb hby d10_19) rfl k) ?_
      show Rest p.tables e below s _ _ _ (s₁.setTop (mkF m 20 #[.val (.ref a0), .val (.ref a1), .val (.int (2 : Int32))] [(.int (2 : Int32)), (.ref a1), (.int xc)]))
      obtain ⟨cl11, Ar11, qa11, Sa11, Pa11, Ha11, Ga11⟩ := id V1
      have hin11 := inb_of (j := (2 : Int32)) Sa11 ⟨by decide, by decide⟩
      have hat11 : cl11.slots[((2 : Int32)).toNatClampNeg]? = some (.int yc) := Has.at Ha11 hin11 rfl
      refine Rest.via (fun t k => X0.baloadBytes hx (j := (2 : Int32)) (v := (.int yc)) (by rw [eh0]; exact Ar11.1) (State.isArrayOf_alike hZ.alike Ar11.2.1) Ar11.2.2 hin11 hat11 (g := (mkF m 20 #[.val (.ref a0), .val (.ref a1), .val (.int (2 : Int32))] [(.int (2 : Int32)), (.ref a1), (.int xc)])) rfl rfl (hb hby d10_20) t k) ?_
      show Rest p.tables e below s _ _ _ (s₁.setTop (mkF m 21 #[.val (.ref a0), .val (.ref a1), .val (.int (2 : Int32))] [(.int yc), (.int xc)]))
      by_cases hq2 : xc = yc
      · refine Rest.via (fun t k => XS.icmpYes X0.here hx rfl (pc0 := 21) (pc' := 26) rfl (hb hby d10_21) rfl (teq hq2).1 (by decide) (by decide) k) ?_
        show Rest p.tables e below s _ _ _ (s₁.setTop (mkF m 26 #[.val (.ref a0), .val (.ref a1), .val (.int (2 : Int32))] []))
        refine Rest.via (fun t k => XS.iinc X0.here hx rfl (hb hby d10_26) rfl (l' := #[.val (.ref a0), .val (.ref a1), .val (.int ((2 : Int32) + (1 : Int32)))]) rfl k) ?_
        show Rest p.tables e below s _ _ _ (s₁.setTop (mkF m 29 #[.val (.ref a0), .val (.ref a1), .val (.int ((2 : Int32) + (1 : Int32)))] []))
        rw [(by decide : ((2 : Int32) + (1 : Int32)) = (3 : Int32))]
        show Rest p.tables e below s _ _ _ (s₁.setTop (mkF m 29 #[.val (.ref a0), .val (.ref a1), .val (.int (3 : Int32))] []))
        refine Rest.via (fun t k => XS.goto X0.here hx rfl (pc0 := 29) (pc' := 9) rfl (hb hby d10_29) (by decide) (by decide) k) ?_
        show Rest p.tables e below s _ _ _ (s₁.setTop (mkF m 9 #[.val (.ref a0), .val (.ref a1), .val (.int (3 : Int32))] []))
        refine Rest.via (fun t k => XS.iloadN X0.here hx rfl (hb hby d10_9) rfl k) ?_
        show Rest p.tables e below s _ _ _ (s₁.setTop (mkF m 10 #[.val (.ref a0), .val (.ref a1), .val (.int (3 : Int32))] [(.int (3 : Int32))]))
        refine Rest.via (fun t k => XS.aloadN X0.here hx rfl (hb hby d10_10) rfl rfl k) ?_
        show Rest p.tables e below s _ _ _ (s₁.setTop (mkF m 11 #[.val (.ref a0), .val (.ref a1), .val (.int (3 : Int32))] [(.ref a0), (.int (3 : Int32))]))
        obtain ⟨cl12, Ar12, -, S12, P12, -, -⟩ := id V0
        refine Rest.via (fun t k => X0.arraylength hx (by rw [eh0]; exact Ar12.1) (State.isArrayOf_alike hZ.alike Ar12.2.1) (g := (mkF m 11 #[.val (.ref a0), .val (.ref a1), .val (.int (3 : Int32))] [(.ref a0), (.int (3 : Int32))])) rfl rfl (hb hby d10_11) t k) ?_
        rw [len_of S12 P12]
        show Rest p.tables e below s _ _ _ (s₁.setTop (mkF m 12 #[.val (.ref a0), .val (.ref a1), .val (.int (3 : Int32))] [(.int (6 : Int32)), (.int (3 : Int32))]))
        refine Rest.via (fun t k => XS.icmpNo X0.here hx rfl (hb hby d10_12) rfl (tlt (by decide : (3 : Int32) < (6 : Int32))).2.1 k) ?_
        show Rest p.tables e below s _ _ _ (s₁.setTop (mkF m 15 #[.val (.ref a0), .val (.ref a1), .val (.int (3 : Int32))] []))
        refine Rest.via (fun t k => XS.aloadN X0.here hx rfl (hb hby d10_15) rfl rfl k) ?_
        show Rest p.tables e below s _ _ _ (s₁.setTop (mkF m 16 #[.val (.ref a0), .val (.ref a1), .val (.int (3 : Int32))] [(.ref a0)]))
        refine Rest.via (fun t k => XS.iloadN X0.here hx rfl (hb hby d10_16) rfl k) ?_
        show Rest p.tables e below s _ _ _ (s₁.setTop (mkF m 17 #[.val (.ref a0), .val (.ref a1), .val (.int (3 : Int32))] [(.int (3 : Int32)), (.ref a0)]))
        obtain ⟨cl13, Ar13, qa13, Sa13, Pa13, Ha13, Ga13⟩ := id V0
        have hin13 := inb_of (j := (3 : Int32)) Sa13 ⟨by decide, by decide⟩
        have hat13 : cl13.slots[((3 : Int32)).toNatClampNeg]? = some (.int xd) := Has.at Ha13 hin13 rfl
        refine Rest.via (fun t k => X0.baloadBytes hx (j := (3 : Int32)) (v := (.int xd)) (by rw [eh0]; exact Ar13.1) (State.isArrayOf_alike hZ.alike Ar13.2.1) Ar13.2.2 hin13 hat13 (g := (mkF m 17 #[.val (.ref a0), .val (.ref a1), .val (.int (3 : Int32))] [(.int (3 : Int32)), (.ref a0)])) rfl rfl (hb hby d10_17) t k) ?_
        show Rest p.tables e below s _ _ _ (s₁.setTop (mkF m 18 #[.val (.ref a0), .val (.ref a1), .val (.int (3 : Int32))] [(.int xd)]))
        refine Rest.via (fun t k => XS.aloadN X0.here hx rfl (hb hby d10_18) rfl rfl k) ?_
        show Rest p.tables e below s _ _ _ (s₁.setTop (mkF m 19 #[.val (.ref a0), .val (.ref a1), .val (.int (3 : Int32))] [(.ref a1), (.int xd)]))
        refine Rest.via (fun t k => XS.iloadN X0.here hx rfl (hb hby d10_19) rfl k) ?_
        show Rest p.tables e below s _ _ _ (s₁.setTop (mkF m 20 #[.val (.ref a0), .val (.ref a1), .val (.int (3 : Int32))] [(.int (3 : Int32)), (.ref a1), (.int xd)]))
        obtain ⟨cl14, Ar14, qa14, Sa14, Pa14, Ha14, Ga14⟩ := id V1
        have hin14 := inb_of (j := (3 : Int32)) Sa14 ⟨by decide, by decide⟩
        have hat14 : cl14.slots[((3 : Int32)).toNatClampNeg]? = some (.int yd) := Has.at Ha14 hin14 rfl
        refine Rest.via (fun t k => X0.baloadBytes hx (j := (3 : Int32)) (v := (.int yd)) (by rw [eh0]; exact Ar14.1) (State.isArrayOf_alike hZ.alike Ar14.2.1) Ar14.2.2 hin14 hat14 (g := (mkF m 20 #[.val (.ref a0), .val (.ref a1), .val (.int (3 : Int32))] [(.int (3 : Int32)), (.ref a1), (.int xd)])) rfl rfl (hb hby d10_20) t k) ?_
        show Rest p.tables e below s _ _ _ (s₁.setTop (mkF m 21 #[.val (.ref a0), .val (.ref a1), .val (.int (3 : Int32))] [(.int yd), (.int xd)]))
        by_cases hq3 : xd = yd
        · refine Rest.via (fun t k => XS.icmpYes X0.here hx rfl (pc0 := 21) (pc' := 26) rfl (hb hby d10_21) rfl (teq hq3).1 (by decide) (by decide) k) ?_
          show Rest p.tables e below s _ _ _ (s₁.setTop (mkF m 26 #[.val (.ref a0), .val (.ref a1), .val (.int (3 : Int32))] []))
          refine Rest.via (fun t k => XS.iinc X0.here hx rfl (hb hby d10_26) rfl (l' := #[.val (.ref a0), .val (.ref a1), .val (.int ((3 : Int32) + (1 : Int32)))]) rfl k) ?_
          show Rest p.tables e below s _ _ _ (s₁.setTop (mkF m 29 #[.val (.ref a0), .val (.ref a1), .val (.int ((3 : Int32) + (1 : Int32)))] []))
          rw [(by decide : ((3 : Int32) + (1 : Int32)) = (4 : Int32))]
          show Rest p.tables e below s _ _ _ (s₁.setTop (mkF m 29 #[.val (.ref a0), .val (.ref a1), .val (.int (4 : Int32))] []))
          refine Rest.via (fun t k => XS.goto X0.here hx rfl (pc0 := 29) (pc' := 9) rfl (hb hby d10_29) (by decide) (by decide) k) ?_
          show Rest p.tables e below s _ _ _ (s₁.setTop (mkF m 9 #[.val (.ref a0), .val (.ref a1), .val (.int (4 : Int32))] []))
          refine Rest.via (fun t k => XS.iloadN X0.here hx rfl (hb hby d10_9) rfl k) ?_
          show Rest p.tables e below s _ _ _ (s₁.setTop (mkF m 10 #[.val (.ref a0), .val (.ref a1), .val (.int (4 : Int32))] [(.int (4 : Int32))]))
          refine Rest.via (fun t k => XS.aloadN X0.here hx rfl (hb hby d10_10) rfl rfl k) ?_
          show Rest p.tables e below s _ _ _ (s₁.setTop (mkF m 11 #[.val (.ref a0), .val (.ref a1), .val (.int (4 : Int32))] [(.ref a0), (.int (4 : Int32))]))
          obtain ⟨cl15, Ar15, -, S15, P15, -, -⟩ := id V0
          refine Rest.via (fun t k => X0.arraylength hx (by rw [eh0]; exact Ar15.1) (State.isArrayOf_alike hZ.alike Ar15.2.1) (g := (mkF m 11 #[.val (.ref a0), .val (.ref a1), .val (.int (4 : Int32))] [(.ref a0), (.int (4 : Int32))])) rfl rfl (hb hby d10_11) t k) ?_
          rw [len_of S15 P15]
          show Rest p.tables e below s _ _ _ (s₁.setTop (mkF m 12 #[.val (.ref a0), .val (.ref a1), .val (.int (4 : Int32))] [(.int (6 : Int32)), (.int (4 : Int32))]))
          refine Rest.via (fun t k => XS.icmpNo X0.here hx rfl (hb hby d10_12) rfl (tlt (by decide : (4 : Int32) < (6 : Int32))).2.1 k) ?_
          show Rest p.tables e below s _ _ _ (s₁.setTop (mkF m 15 #[.val (.ref a0), .val (.ref a1), .val (.int (4 : Int32))] []))
          refine Rest.via (fun t k => XS.aloadN X0.here hx rfl (hb hby d10_15) rfl rfl k) ?_
          show Rest p.tables e below s _ _ _ (s₁.setTop (mkF m 16 #[.val (.ref a0), .val (.ref a1), .val (.int (4 : Int32))] [(.ref a0)]))
          refine Rest.via (fun t k => XS.iloadN X0.here hx rfl (hb hby d10_16) rfl k) ?_
          show Rest p.tables e below s _ _ _ (s₁.setTop (mkF m 17 #[.val (.ref a0), .val (.ref a1), .val (.int (4 : Int32))] [(.int (4 : Int32)), (.ref a0)]))
          obtain ⟨cl16, Ar16, qa16, Sa16, Pa16, Ha16, Ga16⟩ := id V0
          have hin16 := inb_of (j := (4 : Int32)) Sa16 ⟨by decide, by decide⟩
          have hat16 : cl16.slots[((4 : Int32)).toNatClampNeg]? = some (.int xe) := Has.at Ha16 hin16 rfl
          refine Rest.via (fun t k => X0.baloadBytes hx (j := (4 : Int32)) (v := (.int xe)) (by rw [eh0]; exact Ar16.1) (State.isArrayOf_alike hZ.alike Ar16.2.1) Ar16.2.2 hin16 hat16 (g := (mkF m 17 #[.val (.ref a0), .val (.ref a1), .val (.int (4 : Int32))] [(.int (4 : Int32)), (.ref a0)])) rfl rfl (hb hby d10_17) t k) ?_
          show Rest p.tables e below s _ _ _ (s₁.setTop (mkF m 18 #[.val (.ref a0), .val (.ref a1), .val (.int (4 : Int32))] [(.int xe)]))
          refine Rest.via (fun t k => XS.aloadN X0.here hx rfl (hb hby d10_18) rfl rfl k) ?_
          show Rest p.tables e below s _ _ _ (s₁.setTop (mkF m 19 #[.val (.ref a0), .val (.ref a1), .val (.int (4 : Int32))] [(.ref a1), (.int xe)]))
          refine Rest.via (fun t k => XS.iloadN X0.here hx rfl (hb hby d10_19) rfl k) ?_
          show Rest p.tables e below s _ _ _ (s₁.setTop (mkF m 20 #[.val (.ref a0), .val (.ref a1), .val (.int (4 : Int32))] [(.int (4 : Int32)), (.ref a1), (.int xe)]))
          obtain ⟨cl17, Ar17, qa17, Sa17, Pa17, Ha17, Ga17⟩ := id V1
          have hin17 := inb_of (j := (4 : Int32)) Sa17 ⟨by decide, by decide⟩
          have hat17 : cl17.slots[((4 : Int32)).toNatClampNeg]? = some (.int ye) := Has.at Ha17 hin17 rfl
          refine Rest.via (fun t k => X0.baloadBytes hx (j := (4 : Int32)) (v := (.int ye)) (by rw [eh0]; exact Ar17.1) (State.isArrayOf_alike hZ.alike Ar17.2.1) Ar17.2.2 hin17 hat17 (g := (mkF m 20 #[.val (.ref a0), .val (.ref a1), .val (.int (4 : Int32))] [(.int (4 : Int32)), (.ref a1), (.int xe)])) rfl rfl (hb hby d10_20) t k) ?_
          show Rest p.tables e below s _ _ _ (s₁.setTop (mkF m 21 #[.val (.ref a0), .val (.ref a1), .val (.int (4 : Int32))] [(.int ye), (.int xe)]))
          by_cases hq4 : xe = ye
          · refine Rest.via (fun t k => XS.icmpYes X0.here hx rfl (pc0 := 21) (pc' := 26) rfl (hb hby d10_21) rfl (teq hq4).1 (by decide) (by decide) k) ?_
            show Rest p.tables e below s _ _ _ (s₁.setTop (mkF m 26 #[.val (.ref a0), .val (.ref a1), .val (.int (4 : Int32))] []))
            refine Rest.via (fun t k => XS.iinc X0.here hx rfl (hb hby d10_26) rfl (l' := #[.val (.ref a0), .val (.ref a1), .val (.int ((4 : Int32) + (1 : Int32)))]) rfl k) ?_
            show Rest p.tables e below s _ _ _ (s₁.setTop (mkF m 29 #[.val (.ref a0), .val (.ref a1), .val (.int ((4 : Int32) + (1 : Int32)))] []))
            rw [(by decide : ((4 : Int32) + (1 : Int32)) = (5 : Int32))]
            show Rest p.tables e below s _ _ _ (s₁.setTop (mkF m 29 #[.val (.ref a0), .val (.ref a1), .val (.int (5 : Int32))] []))
            refine Rest.via (fun t k => XS.goto X0.here hx rfl (pc0 := 29) (pc' := 9) rfl (hb hby d10_29) (by decide) (by decide) k) ?_
            show Rest p.tables e below s _ _ _ (s₁.setTop (mkF m 9 #[.val (.ref a0), .val (.ref a1), .val (.int (5 : Int32))] []))
            refine Rest.via (fun t k => XS.iloadN X0.here hx rfl (hb hby d10_9) rfl k) ?_
            show Rest p.tables e below s _ _ _ (s₁.setTop (mkF m 10 #[.val (.ref a0), .val (.ref a1), .val (.int (5 : Int32))] [(.int (5 : Int32))]))
            refine Rest.via (fun t k => XS.aloadN X0.here hx rfl (hb hby d10_10) rfl rfl k) ?_
            show Rest p.tables e below s _ _ _ (s₁.setTop (mkF m 11 #[.val (.ref a0), .val (.ref a1), .val (.int (5 : Int32))] [(.ref a0), (.int (5 : Int32))]))
            obtain ⟨cl18, Ar18, -, S18, P18, -, -⟩ := id V0
            refine Rest.via (fun t k => X0.arraylength hx (by rw [eh0]; exact Ar18.1) (State.isArrayOf_alike hZ.alike Ar18.2.1) (g := (mkF m 11 #[.val (.ref a0), .val (.ref a1), .val (.int (5 : Int32))] [(.ref a0), (.int (5 : Int32))])) rfl rfl (hb hby d10_11) t k) ?_
            rw [len_of S18 P18]
            show Rest p.tables e below s _ _ _ (s₁.setTop (mkF m 12 #[.val (.ref a0), .val (.ref a1), .val (.int (5 : Int32))] [(.int (6 : Int32)), (.int (5 : Int32))]))
            refine Rest.via (fun t k => XS.icmpNo X0.here hx rfl (hb hby d10_12) rfl (tlt (by decide : (5 : Int32) < (6 : Int32))).2.1 k) ?_
            show Rest p.tables e below s _ _ _ (s₁.setTop (mkF m 15 #[.val (.ref a0), .val (.ref a1), .val (.int (5 : Int32))] []))
            refine Rest.via (fun t k => XS.aloadN X0.here hx rfl (hb hby d10_15) rfl rfl k) ?_
            show Rest p.tables e below s _ _ _ (s₁.setTop (mkF m 16 #[.val (.ref a0), .val (.ref a1), .val (.int (5 : Int32))] [(.ref a0)]))
            refine Rest.via (fun t k => XS.iloadN X0.here hx rfl (hb hby d10_16) rfl k) ?_
            show Rest p.tables e below s _ _ _ (s₁.setTop (mkF m 17 #[.val (.ref a0), .val (.ref a1), .val (.int (5 : Int32))] [(.int (5 : Int32)), (.ref a0)]))
            obtain ⟨cl19, Ar19, qa19, Sa19, Pa19, Ha19, Ga19⟩ := id V0
            have hin19 := inb_of (j := (5 : Int32)) Sa19 ⟨by decide, by decide⟩
            have hat19 : cl19.slots[((5 : Int32)).toNatClampNeg]? = some (.int xf) := Has.at Ha19 hin19 rfl
            refine Rest.via (fun t k => X0.baloadBytes hx (j := (5 : Int32)) (v := (.int xf)) (by rw [eh0]; exact Ar19.1) (State.isArrayOf_alike hZ.alike Ar19.2.1) Ar19.2.2 hin19 hat19 (g := (mkF m 17 #[.val (.ref a0), .val (.ref a1), .val (.int (5 : Int32))] [(.int (5 : Int32)), (.ref a0)])) rfl rfl (hb hby d10_17) t k) ?_
            show Rest p.tables e below s _ _ _ (s₁.setTop (mkF m 18 #[.val (.ref a0), .val (.ref a1), .val (.int (5 : Int32))] [(.int xf)]))
            refine Rest.via (fun t k => XS.aloadN X0.here hx rfl (hb hby d10_18) rfl rfl k) ?_
            show Rest p.tables e below s _ _ _ (s₁.setTop (mkF m 19 #[.val (.ref a0), .val (.ref a1), .val (.int (5 : Int32))] [(.ref a1), (.int xf)]))
            refine Rest.via (fun t k => XS.iloadN X0.here hx rfl (hb hby d10_19) rfl k) ?_
            show Rest p.tables e below s _ _ _ (s₁.setTop (mkF m 20 #[.val (.ref a0), .val (.ref a1), .val (.int (5 : Int32))] [(.int (5 : Int32)), (.ref a1), (.int xf)]))
            obtain ⟨cl20, Ar20, qa20, Sa20, Pa20, Ha20, Ga20⟩ := id V1
            have hin20 := inb_of (j := (5 : Int32)) Sa20 ⟨by decide, by decide⟩
            have hat20 : cl20.slots[((5 : Int32)).toNatClampNeg]? = some (.int yf) := Has.at Ha20 hin20 rfl
            refine Rest.via (fun t k => X0.baloadBytes hx (j := (5 : Int32)) (v := (.int yf)) (by rw [eh0]; exact Ar20.1) (State.isArrayOf_alike hZ.alike Ar20.2.1) Ar20.2.2 hin20 hat20 (g := (mkF m 20 #[.val (.ref a0), .val (.ref a1), .val (.int (5 : Int32))] [(.int (5 : Int32)), (.ref a1), (.int xf)])) rfl rfl (hb hby d10_20) t k) ?_
            show Rest p.tables e below s _ _ _ (s₁.setTop (mkF m 21 #[.val (.ref a0), .val (.ref a1), .val (.int (5 : Int32))] [(.int yf), (.int xf)]))
            by_cases hq5 : xf = yf
            · refine Rest.via (fun t k => XS.icmpYes X0.here hx rfl (pc0 := 21) (pc' := 26) rfl (hb hby d10_21) rfl (teq hq5).1 (by decide) (by decide) k) ?_
              show Rest p.tables e below s _ _ _ (s₁.setTop (mkF m 26 #[.val (.ref a0), .val (.ref a1), .val (.int (5 : Int32))] []))
              refine Rest.via (fun t k => XS.iinc X0.here hx rfl (hb hby d10_26) rfl (l' := #[.val (.ref a0), .val (.ref a1), .val (.int ((5 : Int32) + (1 : Int32)))]) rfl k) ?_
              show Rest p.tables e below s _ _ _ (s₁.setTop (mkF m 29 #[.val (.ref a0), .val (.ref a1), .val (.int ((5 : Int32) + (1 : Int32)))] []))
              rw [(by decide : ((5 : Int32) + (1 : Int32)) = (6 : Int32))]
              show Rest p.tables e below s _ _ _ (s₁.setTop (mkF m 29 #[.val (.ref a0), .val (.ref a1), .val (.int (6 : Int32))] []))
              refine Rest.via (fun t k => XS.goto X0.here hx rfl (pc0 := 29) (pc' := 9) rfl (hb hby d10_29) (by decide) (by decide) k) ?_
              show Rest p.tables e below s _ _ _ (s₁.setTop (mkF m 9 #[.val (.ref a0), .val (.ref a1), .val (.int (6 : Int32))] []))
              refine Rest.via (fun t k => XS.iloadN X0.here hx rfl (hb hby d10_9) rfl k) ?_
              show Rest p.tables e below s _ _ _ (s₁.setTop (mkF m 10 #[.val (.ref a0), .val (.ref a1), .val (.int (6 : Int32))] [(.int (6 : Int32))]))
              refine Rest.via (fun t k => XS.aloadN X0.here hx rfl (hb hby d10_10) rfl rfl k) ?_
              show Rest p.tables e below s _ _ _ (s₁.setTop (mkF m 11 #[.val (.ref a0), .val (.ref a1), .val (.int (6 : Int32))] [(.ref a0), (.int (6 : Int32))]))
              obtain ⟨cl21, Ar21, -, S21, P21, -, -⟩ := id V0
              refine Rest.via (fun t k => X0.arraylength hx (by rw [eh0]; exact Ar21.1) (State.isArrayOf_alike hZ.alike Ar21.2.1) (g := (mkF m 11 #[.val (.ref a0), .val (.ref a1), .val (.int (6 : Int32))] [(.ref a0), (.int (6 : Int32))])) rfl rfl (hb hby d10_11) t k) ?_
              rw [len_of S21 P21]
              show Rest p.tables e below s _ _ _ (s₁.setTop (mkF m 12 #[.val (.ref a0), .val (.ref a1), .val (.int (6 : Int32))] [(.int (6 : Int32)), (.int (6 : Int32))]))
              refine Rest.via (fun t k => XS.icmpYes X0.here hx rfl (pc0 := 12) (pc' := 32) rfl (hb hby d10_12) rfl (flt (by decide : ¬ ((6 : Int32) < (6 : Int32)))).2.1 (by decide) (by decide) k) ?_
              show Rest p.tables e below s _ _ _ (s₁.setTop (mkF m 32 #[.val (.ref a0), .val (.ref a1), .val (.int (6 : Int32))] []))
              refine Rest.via (fun t k => XS.iconst X0.here hx rfl (hb hby d10_32) k) ?_
              show Rest p.tables e below s _ _ _ (s₁.setTop (mkF m 33 #[.val (.ref a0), .val (.ref a1), .val (.int (6 : Int32))] [(.int (1 : Int32))]))
              refine Rest.ret X0 (v := some (.int (nar .boolean (1 : Int32)))) (fun h => by rw [Bd.returns] at h; cases h) hlk (fun fs hr => retN X0 hx (t := .boolean) Bd.returns (by simp) (hb hby d10_33) hr) ?_ (by decide) (by decide)
              rw [eh0]
              exact ⟨by show some (Value.int (1 : Int32)) = _; rw [if_pos (by rw [hq0, hq1, hq2, hq3, hq4, hq5])], N0, rfl⟩
            · refine Rest.via (fun t k => XS.icmpNo X0.here hx rfl (hb hby d10_21) rfl (feq hq5).1 k) ?_
              show Rest p.tables e below s _ _ _ (s₁.setTop (mkF m 24 #[.val (.ref a0), .val (.ref a1), .val (.int (5 : Int32))] []))
              refine Rest.via (fun t k => XS.iconst X0.here hx rfl (hb hby d10_24) k) ?_
              show Rest p.tables e below s _ _ _ (s₁.setTop (mkF m 25 #[.val (.ref a0), .val (.ref a1), .val (.int (5 : Int32))] [(.int (0 : Int32))]))
              refine Rest.ret X0 (v := some (.int (nar .boolean (0 : Int32)))) (fun h => by rw [Bd.returns] at h; cases h) hlk (fun fs hr => retN X0 hx (t := .boolean) Bd.returns (by simp) (hb hby d10_25) hr) ?_ (by decide) (by decide)
              rw [eh0]
              exact ⟨by show some (Value.int (0 : Int32)) = _; rw [if_neg (by simp [hq5])], N0, rfl⟩
          · refine Rest.via (fun t k => XS.icmpNo X0.here hx rfl (hb hby d10_21) rfl (feq hq4).1 k) ?_
            show Rest p.tables e below s _ _ _ (s₁.setTop (mkF m 24 #[.val (.ref a0), .val (.ref a1), .val (.int (4 : Int32))] []))
            refine Rest.via (fun t k => XS.iconst X0.here hx rfl (hb hby d10_24) k) ?_
            show Rest p.tables e below s _ _ _ (s₁.setTop (mkF m 25 #[.val (.ref a0), .val (.ref a1), .val (.int (4 : Int32))] [(.int (0 : Int32))]))
            refine Rest.ret X0 (v := some (.int (nar .boolean (0 : Int32)))) (fun h => by rw [Bd.returns] at h; cases h) hlk (fun fs hr => retN X0 hx (t := .boolean) Bd.returns (by simp) (hb hby d10_25) hr) ?_ (by decide) (by decide)
            rw [eh0]
            exact ⟨by show some (Value.int (0 : Int32)) = _; rw [if_neg (by simp [hq4])], N0, rfl⟩
        · refine Rest.via (fun t k => XS.icmpNo X0.here hx rfl (hb hby d10_21) rfl (feq hq3).1 k) ?_
          show Rest p.tables e below s _ _ _ (s₁.setTop (mkF m 24 #[.val (.ref a0), .val (.ref a1), .val (.int (3 : Int32))] []))
          refine Rest.via (fun t k => XS.iconst X0.here hx rfl (hb hby d10_24) k) ?_
          show Rest p.tables e below s _ _ _ (s₁.setTop (mkF m 25 #[.val (.ref a0), .val (.ref a1), .val (.int (3 : Int32))] [(.int (0 : Int32))]))
          refine Rest.ret X0 (v := some (.int (nar .boolean (0 : Int32)))) (fun h => by rw [Bd.returns] at h; cases h) hlk (fun fs hr => retN X0 hx (t := .boolean) Bd.returns (by simp) (hb hby d10_25) hr) ?_ (by decide) (by decide)
          rw [eh0]
          exact ⟨by show some (Value.int (0 : Int32)) = _; rw [if_neg (by simp [hq3])], N0, rfl⟩
      · refine Rest.via (fun t k => XS.icmpNo X0.here hx rfl (hb hby d10_21) rfl (feq hq2).1 k) ?_
        show Rest p.tables e below s _ _ _ (s₁.setTop (mkF m 24 #[.val (.ref a0), .val (.ref a1), .val (.int (2 : Int32))] []))
        refine Rest.via (fun t k => XS.iconst X0.here hx rfl (hb hby d10_24) k) ?_
        show Rest p.tables e below s _ _ _ (s₁.setTop (mkF m 25 #[.val (.ref a0), .val (.ref a1), .val (.int (2 : Int32))] [(.int (0 : Int32))]))
        refine Rest.ret X0 (v := some (.int (nar .boolean (0 : Int32)))) (fun h => by rw [Bd.returns] at h; cases h) hlk (fun fs hr => retN X0 hx (t := .boolean) Bd.returns (by simp) (hb hby d10_25) hr) ?_ (by decide) (by decide)
        rw [eh0]
        exact ⟨by show some (Value.int (0 : Int32)) = _; rw [if_neg (by simp [hq2])], N0, rfl⟩
    · refine Rest.via (fun t k => XS.icmpNo X0.here hx rfl (hb hby d10_21) rfl (feq hq1).1 k) ?_
      show Rest p.tables e below s _ _ _ (s₁.setTop (mkF m 24 #[.val (.ref a0), .val (.ref a1), .val (.int (1 : Int32))] []))
      refine Rest.via (fun t k => XS.iconst X0.here hx rfl (hb hby d10_24) k) ?_
      show Rest p.tables e below s _ _ _ (s₁.setTop (mkF m 25 #[.val (.ref a0), .val (.ref a1), .val (.int (1 : Int32))] [(.int (0 : Int32))]))
      refine Rest.ret X0 (v := some (.int (nar .boolean (0 : Int32)))) (fun h => by rw [Bd.returns] at h; cases h) hlk (fun fs hr => retN X0 hx (t := .boolean) Bd.returns (by simp) (hb hby d10_25) hr) ?_ (by decide) (by decide)
      rw [eh0]
      exact ⟨by show some (Value.int (0 : Int32)) = _; rw [if_neg (by simp [hq1])], N0, rfl⟩
  · refine Rest.via (fun t k => XS.icmpNo X0.here hx rfl (hb hby d10_21) rfl (feq hq0).1 k) ?_
    show Rest p.tables e below s _ _ _ (s₁.setTop (mkF m 24 #[.val (.ref a0), .val (.ref a1), .val (.int (0 : Int32))] []))
    refine Rest.via (fun t k => XS.iconst X0.here hx rfl (hb hby d10_24) k) ?_
    show Rest p.tables e below s _ _ _ (s₁.setTop (mkF m 25 #[.val (.ref a0), .val (.ref a1), .val (.int (0 : Int32))] [(.int (0 : Int32))]))
    refine Rest.ret X0 (v := some (.int (nar .boolean (0 : Int32)))) (fun h => by rw [Bd.returns] at h; cases h) hlk (fun fs hr => retN X0 hx (t := .boolean) Bd.returns (by simp) (hb hby d10_25) hr) ?_ (by decide) (by decide)
    rw [eh0]
    exact ⟨by show some (Value.int (0 : Int32)) = _; rw [if_neg (by simp [hq0])], N0, rfl⟩
theorem ef_SE6_6 (m : MethodId) (a0 : Addr) (a1 : Addr) : entryFrame m #[(.ref a0), (.ref a1)] 3 = mkF m 0 #[.val (.ref a0), .val (.ref a1), .unset] [] := by first | (simp [entryFrame, mkF, argsToLocals, Value.category, maxLocals]; done) | rfl
def QSE6_6 (Z : State) (a0 : Addr) (a1 : Addr) (va0 : Addr) (k0 : ClassId) (va1 : Addr) (k1 : ClassId) (ic : Int32) (xa : Int32) (xb : Int32) (xc : Int32) (xd : Int32) (xe : Int32) (xf : Int32) (ya : Int32) (yb : Int32) (yc : Int32) (yd : Int32) (ye : Int32) (yf : Int32) (h0 : Heap) (n0 : Nat) (v : Option Value) (h : Heap) (L : List Loc) : Prop := v = some (.int (if ([xa, xb, xc, xd, xe, xf] : List Int32) = [ya, yb, yc, yd, ye, yf] then (1 : Int32) else 0)) ∧ Fr n0 L ∧ h = h0
set_option maxRecDepth 65536 in
set_option maxHeartbeats 40000000 in
theorem rmSE6_6 (l : Launch) (Z : State) (aw : Array Value) (hw : ∀ d ∈ tables_1, d.before aw Z = true) (ws : List Jvm.Cond) (a0 : Addr) (a1 : Addr) (va0 : Addr) (k0 : ClassId) (va1 : Addr) (k1 : ClassId) (ic : Int32) (xa : Int32) (xb : Int32) (xc : Int32) (xd : Int32) (xe : Int32) (xf : Int32) (ya : Int32) (yb : Int32) (yc : Int32) (yd : Int32) (ye : Int32) (yf : Int32) (h0 : Heap) (n0 : Nat) (Z0 : n0 ≤ h0.size) (S0 : own_St Z h0 a0 va0 k0 (6 : Int32) [(.int xa), (.int xb), (.int xc), (.int xd), (.int xe), (.int xf)]) (S1 : own_St Z h0 a1 va1 k1 (6 : Int32) [(.int ya), (.int yb), (.int yc), (.int yd), (.int ye), (.int yf)]) (n01 : a0 ≠ a1) (O : Old Z n0 h0) (CS : own_CS Z ic) :
    MetFree l (⟨"java/lang/String", "equals", "(Ljava/lang/Object;)Z"⟩ : MethodName) (head1 (Jvm.Cond.code (⟨"java/lang/String", "equals", "(Ljava/lang/Object;)Z"⟩ : MethodName) jdk_42_method_66_code 3 (some .boolean) :: ws) ({ frames := 1, cells := 0, slots := 0, locals := 14 } : Room)) (fun a U => a = #[(.ref a0), (.ref a1)] ∧ Z.Warmed39 U.vm ∧ U.heap = h0) (fun _ _ _ _ _ => True) (fun _ U o U' => ∃ v L, o = .returned v ∧ QSE6_6 Z a0 a1 va0 k0 va1 k1 ic xa xb xc xd xe xf ya yb yc yd ye yf h0 n0 v U'.heap L ∧ FrameEnd U o U' L ({ frames := 1, cells := 0, slots := 0, locals := 14 } : Room).cells ({ frames := 1, cells := 0, slots := 0, locals := 14 } : Room).slots) := by
  refine MetFree.of_bodySF (plainFor_of_name pn_1) hisR ?_
  intro p e s m args below meth c s₁ Bd hml0 hP hK
  obtain ⟨rfl, hZ, hh⟩ := hP
  have hx := Bd.exec
  have hby := Bd.bytes
  have hml : c.maxLocals = 3 := hml0
  have hown : s.vm.findClass "java/lang/String" = some m.cls := findClass_of_methodNamed Bd.named
  have hnm := (name_of_methodNamed Bd.named Bd.method).1
  have hlk : meth.locks = false := BodyLoose.notSynchronized Bd
  have X0 : Stand p l e ({ frames := 1, cells := 0, slots := 0, locals := 14 } : Room) s m #[(.ref a0), (.ref a1)] below meth c s₁ [] 0 0 := Stand.of_body Bd
  have eh0 : s₁.heap = h0 := by rw [← hh, Bd.state]; rfl
  have N0 := Fr.nil n0
  show Rest p.tables e below s (QSE6_6 Z a0 a1 va0 k0 va1 k1 ic xa xb xc xd xe xf ya yb yc yd ye yf h0 n0) _ _ (s₁.setTop (entryFrame m #[(.ref a0), (.ref a1)] 3))
  refine Rest.via (fun t k => castTop (ef_SE6_6 m a0 a1) k) ?_
  obtain ⟨E_a0, Fv_a0, Fc_a0, V_a0⟩ := id S0
  obtain ⟨E_a1, Fv_a1, Fc_a1, V_a1⟩ := id S1
  show Rest p.tables e below s _ _ _ (s₁.setTop (mkF m 0 #[.val (.ref a0), .val (.ref a1), .unset] []))
  refine Rest.via (fun t k => XS.aloadN X0.here hx rfl (hb hby d9_0) rfl rfl k) ?_
  show Rest p.tables e below s _ _ _ (s₁.setTop (mkF m 1 #[.val (.ref a0), .val (.ref a1), .unset] [(.ref a0)]))
  refine Rest.via (fun t k => XS.aloadN X0.here hx rfl (hb hby d9_1) rfl rfl k) ?_
  show Rest p.tables e below s _ _ _ (s₁.setTop (mkF m 2 #[.val (.ref a0), .val (.ref a1), .unset] [(.ref a1), (.ref a0)]))
  refine Rest.via (fun t k => Jvm.RoadKit.acmp (g := (mkF m 2 #[.val (.ref a0), .val (.ref a1), .unset] [(.ref a1), (.ref a0)])) X0 hx rfl rfl rfl (pc0 := 2) (pc' := 7) (same := false) rfl (hb hby d9_2) rfl (decide_eq_false fun q => n01 (Value.ref.inj q)) (by decide) (by decide) k) ?_
  show Rest p.tables e below s _ _ _ (s₁.setTop (mkF m 7 #[.val (.ref a0), .val (.ref a1), .unset] []))
  refine Rest.via (fun t k => XS.aloadN X0.here hx rfl (hb hby d9_7) rfl rfl k) ?_
  show Rest p.tables e below s _ _ _ (s₁.setTop (mkF m 8 #[.val (.ref a0), .val (.ref a1), .unset] [(.ref a1)]))
  obtain ⟨T1, X1, e1, st1⟩ := instY X0 hx hZ hown (hw _ (List.mem_of_getElem? (i := 59) rfl)) eh0 (Ins.self E_a1) (g := (mkF m 8 #[.val (.ref a0), .val (.ref a1), .unset] [(.ref a1)])) rfl rfl (hb hby d9_8)
  refine Rest.via (fun t k => st1 t k) ?_
  show Rest p.tables e below s _ _ _ (T1.setTop (mkF m 11 #[.val (.ref a0), .val (.ref a1), .unset] [(.int (1 : Int32))]))
  refine Rest.via (fun t k => XS.ifNo X1.here hx rfl (hb hby d9_11) rfl ((if0 _ _).trans (feq (by decide : ¬ ((1 : Int32) = (0 : Int32)))).1) k) ?_
  show Rest p.tables e below s _ _ _ (T1.setTop (mkF m 14 #[.val (.ref a0), .val (.ref a1), .unset] []))
  refine Rest.via (fun t k => XS.aloadN X1.here hx rfl (hb hby d9_14) rfl rfl k) ?_
  show Rest p.tables e below s _ _ _ (T1.setTop (mkF m 15 #[.val (.ref a0), .val (.ref a1), .unset] [(.ref a1)]))
  obtain ⟨T2, X2, e2, st2⟩ := castY X1 hx hZ hown (hw _ (List.mem_of_getElem? (i := 59) rfl)) e1 (Ins.self E_a1) (g := (mkF m 15 #[.val (.ref a0), .val (.ref a1), .unset] [(.ref a1)])) rfl rfl (hb hby d9_15)
  refine Rest.via (fun t k => st2 t k) ?_
  show Rest p.tables e below s _ _ _ (T2.setTop (mkF m 18 #[.val (.ref a0), .val (.ref a1), .unset] [(.ref a1)]))
  refine Rest.via (fun t k => XS.astoreN X2.here hx rfl (hb hby d9_18) rfl rfl (l' := #[.val (.ref a0), .val (.ref a1), .val (.ref a1)]) rfl k) ?_
  show Rest p.tables e below s _ _ _ (T2.setTop (mkF m 19 #[.val (.ref a0), .val (.ref a1), .val (.ref a1)] []))
  obtain ⟨T3, X3, e3, st3⟩ := getS2 X2 hx hZ hown (host := "") (Or.inl (hw _ (List.mem_of_getElem? (i := 18) rfl))) Via.refl e2 (CS.1.ext (O.keep (Keep.refl h0 []) all0).2) (g := (mkF m 19 #[.val (.ref a0), .val (.ref a1), .val (.ref a1)] [])) rfl (hb hby d9_19)
  refine Rest.via (fun t k => st3 t k) ?_
  show Rest p.tables e below s _ _ _ (T3.setTop (mkF m 22 #[.val (.ref a0), .val (.ref a1), .val (.ref a1)] [(.int ic)]))
  refine Rest.via (fun t k => XS.ifNo X3.here hx rfl (hb hby d9_22) rfl ((if0 _ _).trans (feq (CS.2 : ¬ (ic = (0 : Int32)))).1) k) ?_
  show Rest p.tables e below s _ _ _ (T3.setTop (mkF m 25 #[.val (.ref a0), .val (.ref a1), .val (.ref a1)] []))
  refine Rest.via (fun t k => XS.aloadN X3.here hx rfl (hb hby d9_25) rfl rfl k) ?_
  show Rest p.tables e below s _ _ _ (T3.setTop (mkF m 26 #[.val (.ref a0), .val (.ref a1), .val (.ref a1)] [(.ref a0)]))
  obtain ⟨T4, X4, e4, st4⟩ := getF X3 hx hZ hown (host := "") (Or.inl (hw _ (List.mem_of_getElem? (i := 30) rfl))) Via.refl e3 Fc_a0 (g := (mkF m 26 #[.val (.ref a0), .val (.ref a1), .val (.ref a1)] [(.ref a0)])) rfl rfl (hb hby d9_26)
  refine Rest.via (fun t k => st4 t k) ?_
  show Rest p.tables e below s _ _ _ (T4.setTop (mkF m 29 #[.val (.ref a0), .val (.ref a1), .val (.ref a1)] [(.int (0 : Int32))]))
  refine Rest.via (fun t k => XS.aloadN X4.here hx rfl (hb hby d9_29) rfl rfl k) ?_
  show Rest p.tables e below s _ _ _ (T4.setTop (mkF m 30 #[.val (.ref a0), .val (.ref a1), .val (.ref a1)] [(.ref a1), (.int (0 : Int32))]))
  obtain ⟨T5, X5, e5, st5⟩ := getF X4 hx hZ hown (host := "") (Or.inl (hw _ (List.mem_of_getElem? (i := 30) rfl))) Via.refl e4 Fc_a1 (g := (mkF m 30 #[.val (.ref a0), .val (.ref a1), .val (.ref a1)] [(.ref a1), (.int (0 : Int32))])) rfl rfl (hb hby d9_30)
  refine Rest.via (fun t k => st5 t k) ?_
  show Rest p.tables e below s _ _ _ (T5.setTop (mkF m 33 #[.val (.ref a0), .val (.ref a1), .val (.ref a1)] [(.int (0 : Int32)), (.int (0 : Int32))]))
  refine Rest.via (fun t k => XS.icmpNo X5.here hx rfl (hb hby d9_33) rfl (teq (by decide : (0 : Int32) = (0 : Int32))).2 k) ?_
  show Rest p.tables e below s _ _ _ (T5.setTop (mkF m 36 #[.val (.ref a0), .val (.ref a1), .val (.ref a1)] []))
  refine Rest.via (fun t k => XS.aloadN X5.here hx rfl (hb hby d9_36) rfl rfl k) ?_
  show Rest p.tables e below s _ _ _ (T5.setTop (mkF m 37 #[.val (.ref a0), .val (.ref a1), .val (.ref a1)] [(.ref a0)]))
  obtain ⟨T6, X6, e6, st6⟩ := getF X5 hx hZ hown (host := "") (Or.inl (hw _ (List.mem_of_getElem? (i := 32) rfl))) Via.refl e5 Fv_a0 (g := (mkF m 37 #[.val (.ref a0), .val (.ref a1), .val (.ref a1)] [(.ref a0)])) rfl rfl (hb hby d9_37)
  refine Rest.via (fun t k => st6 t k) ?_
  show Rest p.tables e below s _ _ _ (T6.setTop (mkF m 40 #[.val (.ref a0), .val (.ref a1), .val (.ref a1)] [(.ref va0)]))
  refine Rest.via (fun t k => XS.aloadN X6.here hx rfl (hb hby d9_40) rfl rfl k) ?_
  show Rest p.tables e below s _ _ _ (T6.setTop (mkF m 41 #[.val (.ref a0), .val (.ref a1), .val (.ref a1)] [(.ref a1), (.ref va0)]))
  obtain ⟨T7, X7, e7, st7⟩ := getF X6 hx hZ hown (host := "") (Or.inl (hw _ (List.mem_of_getElem? (i := 32) rfl))) Via.refl e6 Fv_a1 (g := (mkF m 41 #[.val (.ref a0), .val (.ref a1), .val (.ref a1)] [(.ref a1), (.ref va0)])) rfl rfl (hb hby d9_41)
  refine Rest.via (fun t k => st7 t k) ?_
  show Rest p.tables e below s _ _ _ (T7.setTop (mkF m 44 #[.val (.ref a0), .val (.ref a1), .val (.ref a1)] [(.ref va1), (.ref va0)]))
  obtain ⟨_, _, ⟨T8, L8, k8, n8⟩, -, X8, ⟨Lc8, hQ8, l8, y8, z8⟩, st8⟩ := Jvm.LawKit.callS X7 hx (y := (⟨"java/lang/StringLatin1", "equals", "([B[B)Z"⟩ : MethodName)) hown (mvT hZ (hw _ (List.mem_of_getElem? (i := 60) rfl))) (mvT hZ (hw _ (List.mem_of_getElem? (i := 61) rfl))) (mvT hZ (hw _ (List.mem_of_getElem? (i := 62) rfl))) (mvT hZ (hw _ (List.mem_of_getElem? (i := 63) rfl))) (by decide) (backOf (W := 0) (rmLE6_6 l Z aw hw [] va0 va1 k0 k1 xa xb xc xd xe xf ya yb yc yd ye yf h0 n0 (Nat.le_trans Z0 (Keep.refl h0 []).1) V_a0 V_a1) hZ (hw _ (List.mem_of_getElem? (i := 63) rfl)) (hw _ (List.mem_of_getElem? (i := 62) rfl)) (by decide) (by decide)) (g := (mkF m 44 #[.val (.ref a0), .val (.ref a1), .val (.ref a1)] [(.ref va1), (.ref va0)])) rfl (by rw [hml]; rfl) (argsL := [(.ref va0), (.ref va1)]) (rest := []) (lenOf pd_4 rfl) rfl (by show 2 * 0 + _ ≤ _; exact Nat.le_of_eq rfl) (hb hby d9_44) (fun _ _ => ⟨rfl, e7, (by decide : 0 + 0 ≤ _), (by decide : 0 + 0 ≤ _)⟩)
  dsimp only [Pt.U, Pt.locs, Pt.cells, Pt.slots] at X8 l8 y8 z8 st8 hQ8
  subst l8 y8 z8
  obtain ⟨rfl, Nq8, e8⟩ := hQ8
  have N8 := Fr.app N0 Nq8
  refine Rest.via (fun t k => st8 t k) ?_
  show Rest p.tables e below s _ _ _ (T8.setTop (mkF m 47 #[.val (.ref a0), .val (.ref a1), .val (.ref a1)] [(.int (if ([xa, xb, xc, xd, xe, xf] : List Int32) = [ya, yb, yc, yd, ye, yf] then (1 : Int32) else 0))]))
  by_cases hz : (if ([xa, xb, xc, xd, xe, xf] : List Int32) = [ya, yb, yc, yd, ye, yf] then (1 : Int32) else 0) = (0 : Int32)
  · refine Rest.via (fun t k => XS.ifYes X8.here hx rfl (pc0 := 47) (pc' := 54) rfl (hb hby d9_47) rfl ((if0 _ _).trans (teq hz).1) (by decide) (by decide) k) ?_
    show Rest p.tables e below s _ _ _ (T8.setTop (mkF m 54 #[.val (.ref a0), .val (.ref a1), .val (.ref a1)] []))
    refine Rest.via (fun t k => XS.iconst X8.here hx rfl (hb hby d9_54) k) ?_
    show Rest p.tables e below s _ _ _ (T8.setTop (mkF m 55 #[.val (.ref a0), .val (.ref a1), .val (.ref a1)] [(.int (0 : Int32))]))
    refine Rest.ret X8 (v := some (.int (nar .boolean (0 : Int32)))) (fun h => by rw [Bd.returns] at h; cases h) hlk (fun fs hr => retN X8 hx (t := .boolean) Bd.returns (by simp) (hb hby d9_55) hr) ?_ (by decide) (by decide)
    rw [e8]
    exact ⟨by show some (Value.int (0 : Int32)) = _; rw [hz], N8, rfl⟩
  · refine Rest.via (fun t k => XS.ifNo X8.here hx rfl (hb hby d9_47) rfl ((if0 _ _).trans (feq hz).1) k) ?_
    show Rest p.tables e below s _ _ _ (T8.setTop (mkF m 50 #[.val (.ref a0), .val (.ref a1), .val (.ref a1)] []))
    refine Rest.via (fun t k => XS.iconst X8.here hx rfl (hb hby d9_50) k) ?_
    show Rest p.tables e below s _ _ _ (T8.setTop (mkF m 51 #[.val (.ref a0), .val (.ref a1), .val (.ref a1)] [(.int (1 : Int32))]))
    refine Rest.via (fun t k => XS.goto X8.here hx rfl (pc0 := 51) (pc' := 55) rfl (hb hby d9_51) (by decide) (by decide) k) ?_
    show Rest p.tables e below s _ _ _ (T8.setTop (mkF m 55 #[.val (.ref a0), .val (.ref a1), .val (.ref a1)] [(.int (1 : Int32))]))
    refine Rest.ret X8 (v := some (.int (nar .boolean (1 : Int32)))) (fun h => by rw [Bd.returns] at h; cases h) hlk (fun fs hr => retN X8 hx (t := .boolean) Bd.returns (by simp) (hb hby d9_55) hr) ?_ (by decide) (by decide)
    rw [e8]
    exact ⟨by show some (Value.int (1 : Int32)) = _; rw [own_ite1 hz], N8, rfl⟩
theorem ef_LE6_7 (m : MethodId) (a0 : Addr) (a1 : Addr) : entryFrame m #[(.ref a0), (.ref a1)] 3 = mkF m 0 #[.val (.ref a0), .val (.ref a1), .unset] [] := by first | (simp [entryFrame, mkF, argsToLocals, Value.category, maxLocals]; done) | rfl
def QLE6_7 (Z : State) (a0 : Addr) (a1 : Addr) (k0 : ClassId) (k1 : ClassId) (xa : Int32) (xb : Int32) (xc : Int32) (xd : Int32) (xe : Int32) (xf : Int32) (ya : Int32) (yb : Int32) (yc : Int32) (yd : Int32) (ye : Int32) (yf : Int32) (yg : Int32) (h0 : Heap) (n0 : Nat) (v : Option Value) (h : Heap) (L : List Loc) : Prop := v = some (.int (if ([xa, xb, xc, xd, xe, xf] : List Int32) = [ya, yb, yc, yd, ye, yf, yg] then (1 : Int32) else 0)) ∧ Fr n0 L ∧ h = h0
set_option maxRecDepth 65536 in
set_option maxHeartbeats 40000000 in
theorem rmLE6_7 (l : Launch) (Z : State) (aw : Array Value) (hw : ∀ d ∈ tables_1, d.before aw Z = true) (ws : List Jvm.Cond) (a0 : Addr) (a1 : Addr) (k0 : ClassId) (k1 : ClassId) (xa : Int32) (xb : Int32) (xc : Int32) (xd : Int32) (xe : Int32) (xf : Int32) (ya : Int32) (yb : Int32) (yc : Int32) (yd : Int32) (ye : Int32) (yf : Int32) (yg : Int32) (h0 : Heap) (n0 : Nat) (Z0 : n0 ≤ h0.size) (V0 : Arv Z h0 a0 k0 .byte (6 : Int32) [(.int xa), (.int xb), (.int xc), (.int xd), (.int xe), (.int xf)] (.int (0 : Int32))) (V1 : Arv Z h0 a1 k1 .byte (7 : Int32) [(.int ya), (.int yb), (.int yc), (.int yd), (.int ye), (.int yf), (.int yg)] (.int (0 : Int32))) :
    MetFree l (⟨"java/lang/StringLatin1", "equals", "([B[B)Z"⟩ : MethodName) (head1 (Jvm.Cond.code (⟨"java/lang/StringLatin1", "equals", "([B[B)Z"⟩ : MethodName) jdk_43_method_13_code 3 (some .boolean) :: ws) ({ frames := 0, cells := 0, slots := 0, locals := 0 } : Room)) (fun a U => a = #[(.ref a0), (.ref a1)] ∧ Z.Warmed39 U.vm ∧ U.heap = h0) (fun _ _ _ _ _ => True) (fun _ U o U' => ∃ v L, o = .returned v ∧ QLE6_7 Z a0 a1 k0 k1 xa xb xc xd xe xf ya yb yc yd ye yf yg h0 n0 v U'.heap L ∧ FrameEnd U o U' L ({ frames := 0, cells := 0, slots := 0, locals := 0 } : Room).cells ({ frames := 0, cells := 0, slots := 0, locals := 0 } : Room).slots) := by
  refine MetFree.of_bodySF (plainFor_of_name pn_2) hisR ?_
  intro p e s m args below meth c s₁ Bd hml0 hP hK
  obtain ⟨rfl, hZ, hh⟩ := hP
  have hx := Bd.exec
  have hby := Bd.bytes
  have hml : c.maxLocals = 3 := hml0
  have hown : s.vm.findClass "java/lang/StringLatin1" = some m.cls := findClass_of_methodNamed Bd.named
  have hnm := (name_of_methodNamed Bd.named Bd.method).1
  have hlk : meth.locks = false := BodyLoose.notSynchronized Bd
  have X0 : Stand p l e ({ frames := 0, cells := 0, slots := 0, locals := 0 } : Room) s m #[(.ref a0), (.ref a1)] below meth c s₁ [] 0 0 := Stand.of_body Bd
  have eh0 : s₁.heap = h0 := by rw [← hh, Bd.state]; rfl
  have N0 := Fr.nil n0
  show Rest p.tables e below s (QLE6_7 Z a0 a1 k0 k1 xa xb xc xd xe xf ya yb yc yd ye yf yg h0 n0) _ _ (s₁.setTop (entryFrame m #[(.ref a0), (.ref a1)] 3))
  refine Rest.via (fun t k => castTop (ef_LE6_7 m a0 a1) k) ?_
  show Rest p.tables e below s _ _ _ (s₁.setTop (mkF m 0 #[.val (.ref a0), .val (.ref a1), .unset] []))
  refine Rest.via (fun t k => XS.aloadN X0.here hx rfl (hb hby d10_0) rfl rfl k) ?_
  show Rest p.tables e below s _ _ _ (s₁.setTop (mkF m 1 #[.val (.ref a0), .val (.ref a1), .unset] [(.ref a0)]))
  obtain ⟨cl1, Ar1, -, S1, P1, -, -⟩ := id V0
  refine Rest.via (fun t k => X0.arraylength hx (by rw [eh0]; exact Ar1.1) (State.isArrayOf_alike hZ.alike Ar1.2.1) (g := (mkF m 1 #[.val (.ref a0), .val (.ref a1), .unset] [(.ref a0)])) rfl rfl (hb hby d10_1) t k) ?_
  rw [len_of S1 P1]
  show Rest p.tables e below s _ _ _ (s₁.setTop (mkF m 2 #[.val (.ref a0), .val (.ref a1), .unset] [(.int (6 : Int32))]))
  refine Rest.via (fun t k => XS.aloadN X0.here hx rfl (hb hby d10_2) rfl rfl k) ?_
  show Rest p.tables e below s _ _ _ (s₁.setTop (mkF m 3 #[.val (.ref a0), .val (.ref a1), .unset] [(.ref a1), (.int (6 : Int32))]))
  obtain ⟨cl2, Ar2, -, S2, P2, -, -⟩ := id V1
  refine Rest.via (fun t k => X0.arraylength hx (by rw [eh0]; exact Ar2.1) (State.isArrayOf_alike hZ.alike Ar2.2.1) (g := (mkF m 3 #[.val (.ref a0), .val (.ref a1), .unset] [(.ref a1), (.int (6 : Int32))])) rfl rfl (hb hby d10_3) t k) ?_
  rw [len_of S2 P2]
  show Rest p.tables e below s _ _ _ (s₁.setTop (mkF m 4 #[.val (.ref a0), .val (.ref a1), .unset] [(.int (7 : Int32)), (.int (6 : Int32))]))
  refine Rest.via (fun t k => XS.icmpYes X0.here hx rfl (pc0 := 4) (pc' := 34) rfl (hb hby d10_4) rfl (feq (by decide : ¬ ((6 : Int32) = (7 : Int32)))).2 (by decide) (by decide) k) ?_
  show Rest p.tables e below s _ _ _ (s₁.setTop (mkF m 34 #[.val (.ref a0), .val (.ref a1), .unset] []))
  refine Rest.via (fun t k => XS.iconst X0.here hx rfl (hb hby d10_34) k) ?_
  show Rest p.tables e below s _ _ _ (s₁.setTop (mkF m 35 #[.val (.ref a0), .val (.ref a1), .unset] [(.int (0 : Int32))]))
  refine Rest.ret X0 (v := some (.int (nar .boolean (0 : Int32)))) (fun h => by rw [Bd.returns] at h; cases h) hlk (fun fs hr => retN X0 hx (t := .boolean) Bd.returns (by simp) (hb hby d10_35) hr) ?_ (by decide) (by decide)
  rw [eh0]
  exact ⟨by show some (Value.int (0 : Int32)) = _; rw [if_neg (by simp)], N0, rfl⟩
theorem ef_SE6_7 (m : MethodId) (a0 : Addr) (a1 : Addr) : entryFrame m #[(.ref a0), (.ref a1)] 3 = mkF m 0 #[.val (.ref a0), .val (.ref a1), .unset] [] := by first | (simp [entryFrame, mkF, argsToLocals, Value.category, maxLocals]; done) | rfl
def QSE6_7 (Z : State) (a0 : Addr) (a1 : Addr) (va0 : Addr) (k0 : ClassId) (va1 : Addr) (k1 : ClassId) (ic : Int32) (xa : Int32) (xb : Int32) (xc : Int32) (xd : Int32) (xe : Int32) (xf : Int32) (ya : Int32) (yb : Int32) (yc : Int32) (yd : Int32) (ye : Int32) (yf : Int32) (yg : Int32) (h0 : Heap) (n0 : Nat) (v : Option Value) (h : Heap) (L : List Loc) : Prop := v = some (.int (if ([xa, xb, xc, xd, xe, xf] : List Int32) = [ya, yb, yc, yd, ye, yf, yg] then (1 : Int32) else 0)) ∧ Fr n0 L ∧ h = h0
set_option maxRecDepth 65536 in
set_option maxHeartbeats 40000000 in
theorem rmSE6_7 (l : Launch) (Z : State) (aw : Array Value) (hw : ∀ d ∈ tables_1, d.before aw Z = true) (ws : List Jvm.Cond) (a0 : Addr) (a1 : Addr) (va0 : Addr) (k0 : ClassId) (va1 : Addr) (k1 : ClassId) (ic : Int32) (xa : Int32) (xb : Int32) (xc : Int32) (xd : Int32) (xe : Int32) (xf : Int32) (ya : Int32) (yb : Int32) (yc : Int32) (yd : Int32) (ye : Int32) (yf : Int32) (yg : Int32) (h0 : Heap) (n0 : Nat) (Z0 : n0 ≤ h0.size) (S0 : own_St Z h0 a0 va0 k0 (6 : Int32) [(.int xa), (.int xb), (.int xc), (.int xd), (.int xe), (.int xf)]) (S1 : own_St Z h0 a1 va1 k1 (7 : Int32) [(.int ya), (.int yb), (.int yc), (.int yd), (.int ye), (.int yf), (.int yg)]) (n01 : a0 ≠ a1) (O : Old Z n0 h0) (CS : own_CS Z ic) :
    MetFree l (⟨"java/lang/String", "equals", "(Ljava/lang/Object;)Z"⟩ : MethodName) (head1 (Jvm.Cond.code (⟨"java/lang/String", "equals", "(Ljava/lang/Object;)Z"⟩ : MethodName) jdk_42_method_66_code 3 (some .boolean) :: ws) ({ frames := 1, cells := 0, slots := 0, locals := 14 } : Room)) (fun a U => a = #[(.ref a0), (.ref a1)] ∧ Z.Warmed39 U.vm ∧ U.heap = h0) (fun _ _ _ _ _ => True) (fun _ U o U' => ∃ v L, o = .returned v ∧ QSE6_7 Z a0 a1 va0 k0 va1 k1 ic xa xb xc xd xe xf ya yb yc yd ye yf yg h0 n0 v U'.heap L ∧ FrameEnd U o U' L ({ frames := 1, cells := 0, slots := 0, locals := 14 } : Room).cells ({ frames := 1, cells := 0, slots := 0, locals := 14 } : Room).slots) := by
  refine MetFree.of_bodySF (plainFor_of_name pn_1) hisR ?_
  intro p e s m args below meth c s₁ Bd hml0 hP hK
  obtain ⟨rfl, hZ, hh⟩ := hP
  have hx := Bd.exec
  have hby := Bd.bytes
  have hml : c.maxLocals = 3 := hml0
  have hown : s.vm.findClass "java/lang/String" = some m.cls := findClass_of_methodNamed Bd.named
  have hnm := (name_of_methodNamed Bd.named Bd.method).1
  have hlk : meth.locks = false := BodyLoose.notSynchronized Bd
  have X0 : Stand p l e ({ frames := 1, cells := 0, slots := 0, locals := 14 } : Room) s m #[(.ref a0), (.ref a1)] below meth c s₁ [] 0 0 := Stand.of_body Bd
  have eh0 : s₁.heap = h0 := by rw [← hh, Bd.state]; rfl
  have N0 := Fr.nil n0
  show Rest p.tables e below s (QSE6_7 Z a0 a1 va0 k0 va1 k1 ic xa xb xc xd xe xf ya yb yc yd ye yf yg h0 n0) _ _ (s₁.setTop (entryFrame m #[(.ref a0), (.ref a1)] 3))
  refine Rest.via (fun t k => castTop (ef_SE6_7 m a0 a1) k) ?_
  obtain ⟨E_a0, Fv_a0, Fc_a0, V_a0⟩ := id S0
  obtain ⟨E_a1, Fv_a1, Fc_a1, V_a1⟩ := id S1
  show Rest p.tables e below s _ _ _ (s₁.setTop (mkF m 0 #[.val (.ref a0), .val (.ref a1), .unset] []))
  refine Rest.via (fun t k => XS.aloadN X0.here hx rfl (hb hby d9_0) rfl rfl k) ?_
  show Rest p.tables e below s _ _ _ (s₁.setTop (mkF m 1 #[.val (.ref a0), .val (.ref a1), .unset] [(.ref a0)]))
  refine Rest.via (fun t k => XS.aloadN X0.here hx rfl (hb hby d9_1) rfl rfl k) ?_
  show Rest p.tables e below s _ _ _ (s₁.setTop (mkF m 2 #[.val (.ref a0), .val (.ref a1), .unset] [(.ref a1), (.ref a0)]))
  refine Rest.via (fun t k => Jvm.RoadKit.acmp (g := (mkF m 2 #[.val (.ref a0), .val (.ref a1), .unset] [(.ref a1), (.ref a0)])) X0 hx rfl rfl rfl (pc0 := 2) (pc' := 7) (same := false) rfl (hb hby d9_2) rfl (decide_eq_false fun q => n01 (Value.ref.inj q)) (by decide) (by decide) k) ?_
  show Rest p.tables e below s _ _ _ (s₁.setTop (mkF m 7 #[.val (.ref a0), .val (.ref a1), .unset] []))
  refine Rest.via (fun t k => XS.aloadN X0.here hx rfl (hb hby d9_7) rfl rfl k) ?_
  show Rest p.tables e below s _ _ _ (s₁.setTop (mkF m 8 #[.val (.ref a0), .val (.ref a1), .unset] [(.ref a1)]))
  obtain ⟨T1, X1, e1, st1⟩ := instY X0 hx hZ hown (hw _ (List.mem_of_getElem? (i := 59) rfl)) eh0 (Ins.self E_a1) (g := (mkF m 8 #[.val (.ref a0), .val (.ref a1), .unset] [(.ref a1)])) rfl rfl (hb hby d9_8)
  refine Rest.via (fun t k => st1 t k) ?_
  show Rest p.tables e below s _ _ _ (T1.setTop (mkF m 11 #[.val (.ref a0), .val (.ref a1), .unset] [(.int (1 : Int32))]))
  refine Rest.via (fun t k => XS.ifNo X1.here hx rfl (hb hby d9_11) rfl ((if0 _ _).trans (feq (by decide : ¬ ((1 : Int32) = (0 : Int32)))).1) k) ?_
  show Rest p.tables e below s _ _ _ (T1.setTop (mkF m 14 #[.val (.ref a0), .val (.ref a1), .unset] []))
  refine Rest.via (fun t k => XS.aloadN X1.here hx rfl (hb hby d9_14) rfl rfl k) ?_
  show Rest p.tables e below s _ _ _ (T1.setTop (mkF m 15 #[.val (.ref a0), .val (.ref a1), .unset] [(.ref a1)]))
  obtain ⟨T2, X2, e2, st2⟩ := castY X1 hx hZ hown (hw _ (List.mem_of_getElem? (i := 59) rfl)) e1 (Ins.self E_a1) (g := (mkF m 15 #[.val (.ref a0), .val (.ref a1), .unset] [(.ref a1)])) rfl rfl (hb hby d9_15)
  refine Rest.via (fun t k => st2 t k) ?_
  show Rest p.tables e below s _ _ _ (T2.setTop (mkF m 18 #[.val (.ref a0), .val (.ref a1), .unset] [(.ref a1)]))
  refine Rest.via (fun t k => XS.astoreN X2.here hx rfl (hb hby d9_18) rfl rfl (l' := #[.val (.ref a0), .val (.ref a1), .val (.ref a1)]) rfl k) ?_
  show Rest p.tables e below s _ _ _ (T2.setTop (mkF m 19 #[.val (.ref a0), .val (.ref a1), .val (.ref a1)] []))
  obtain ⟨T3, X3, e3, st3⟩ := getS2 X2 hx hZ hown (host := "") (Or.inl (hw _ (List.mem_of_getElem? (i := 18) rfl))) Via.refl e2 (CS.1.ext (O.keep (Keep.refl h0 []) all0).2) (g := (mkF m 19 #[.val (.ref a0), .val (.ref a1), .val (.ref a1)] [])) rfl (hb hby d9_19)
  refine Rest.via (fun t k => st3 t k) ?_
  show Rest p.tables e below s _ _ _ (T3.setTop (mkF m 22 #[.val (.ref a0), .val (.ref a1), .val (.ref a1)] [(.int ic)]))
  refine Rest.via (fun t k => XS.ifNo X3.here hx rfl (hb hby d9_22) rfl ((if0 _ _).trans (feq (CS.2 : ¬ (ic = (0 : Int32)))).1) k) ?_
  show Rest p.tables e below s _ _ _ (T3.setTop (mkF m 25 #[.val (.ref a0), .val (.ref a1), .val (.ref a1)] []))
  refine Rest.via (fun t k => XS.aloadN X3.here hx rfl (hb hby d9_25) rfl rfl k) ?_
  show Rest p.tables e below s _ _ _ (T3.setTop (mkF m 26 #[.val (.ref a0), .val (.ref a1), .val (.ref a1)] [(.ref a0)]))
  obtain ⟨T4, X4, e4, st4⟩ := getF X3 hx hZ hown (host := "") (Or.inl (hw _ (List.mem_of_getElem? (i := 30) rfl))) Via.refl e3 Fc_a0 (g := (mkF m 26 #[.val (.ref a0), .val (.ref a1), .val (.ref a1)] [(.ref a0)])) rfl rfl (hb hby d9_26)
  refine Rest.via (fun t k => st4 t k) ?_
  show Rest p.tables e below s _ _ _ (T4.setTop (mkF m 29 #[.val (.ref a0), .val (.ref a1), .val (.ref a1)] [(.int (0 : Int32))]))
  refine Rest.via (fun t k => XS.aloadN X4.here hx rfl (hb hby d9_29) rfl rfl k) ?_
  show Rest p.tables e below s _ _ _ (T4.setTop (mkF m 30 #[.val (.ref a0), .val (.ref a1), .val (.ref a1)] [(.ref a1), (.int (0 : Int32))]))
  obtain ⟨T5, X5, e5, st5⟩ := getF X4 hx hZ hown (host := "") (Or.inl (hw _ (List.mem_of_getElem? (i := 30) rfl))) Via.refl e4 Fc_a1 (g := (mkF m 30 #[.val (.ref a0), .val (.ref a1), .val (.ref a1)] [(.ref a1), (.int (0 : Int32))])) rfl rfl (hb hby d9_30)
  refine Rest.via (fun t k => st5 t k) ?_
  show Rest p.tables e below s _ _ _ (T5.setTop (mkF m 33 #[.val (.ref a0), .val (.ref a1), .val (.ref a1)] [(.int (0 : Int32)), (.int (0 : Int32))]))
  refine Rest.via (fun t k => XS.icmpNo X5.here hx rfl (hb hby d9_33) rfl (teq (by decide : (0 : Int32) = (0 : Int32))).2 k) ?_
  show Rest p.tables e below s _ _ _ (T5.setTop (mkF m 36 #[.val (.ref a0), .val (.ref a1), .val (.ref a1)] []))
  refine Rest.via (fun t k => XS.aloadN X5.here hx rfl (hb hby d9_36) rfl rfl k) ?_
  show Rest p.tables e below s _ _ _ (T5.setTop (mkF m 37 #[.val (.ref a0), .val (.ref a1), .val (.ref a1)] [(.ref a0)]))
  obtain ⟨T6, X6, e6, st6⟩ := getF X5 hx hZ hown (host := "") (Or.inl (hw _ (List.mem_of_getElem? (i := 32) rfl))) Via.refl e5 Fv_a0 (g := (mkF m 37 #[.val (.ref a0), .val (.ref a1), .val (.ref a1)] [(.ref a0)])) rfl rfl (hb hby d9_37)
  refine Rest.via (fun t k => st6 t k) ?_
  show Rest p.tables e below s _ _ _ (T6.setTop (mkF m 40 #[.val (.ref a0), .val (.ref a1), .val (.ref a1)] [(.ref va0)]))
  refine Rest.via (fun t k => XS.aloadN X6.here hx rfl (hb hby d9_40) rfl rfl k) ?_
  show Rest p.tables e below s _ _ _ (T6.setTop (mkF m 41 #[.val (.ref a0), .val (.ref a1), .val (.ref a1)] [(.ref a1), (.ref va0)]))
  obtain ⟨T7, X7, e7, st7⟩ := getF X6 hx hZ hown (host := "") (Or.inl (hw _ (List.mem_of_getElem? (i := 32) rfl))) Via.refl e6 Fv_a1 (g := (mkF m 41 #[.val (.ref a0), .val (.ref a1), .val (.ref a1)] [(.ref a1), (.ref va0)])) rfl rfl (hb hby d9_41)
  refine Rest.via (fun t k => st7 t k) ?_
  show Rest p.tables e below s _ _ _ (T7.setTop (mkF m 44 #[.val (.ref a0), .val (.ref a1), .val (.ref a1)] [(.ref va1), (.ref va0)]))
  obtain ⟨_, _, ⟨T8, L8, k8, n8⟩, -, X8, ⟨Lc8, hQ8, l8, y8, z8⟩, st8⟩ := Jvm.LawKit.callS X7 hx (y := (⟨"java/lang/StringLatin1", "equals", "([B[B)Z"⟩ : MethodName)) hown (mvT hZ (hw _ (List.mem_of_getElem? (i := 60) rfl))) (mvT hZ (hw _ (List.mem_of_getElem? (i := 61) rfl))) (mvT hZ (hw _ (List.mem_of_getElem? (i := 62) rfl))) (mvT hZ (hw _ (List.mem_of_getElem? (i := 63) rfl))) (by decide) (backOf (W := 0) (rmLE6_7 l Z aw hw [] va0 va1 k0 k1 xa xb xc xd xe xf ya yb yc yd ye yf yg h0 n0 (Nat.le_trans Z0 (Keep.refl h0 []).1) V_a0 V_a1) hZ (hw _ (List.mem_of_getElem? (i := 63) rfl)) (hw _ (List.mem_of_getElem? (i := 62) rfl)) (by decide) (by decide)) (g := (mkF m 44 #[.val (.ref a0), .val (.ref a1), .val (.ref a1)] [(.ref va1), (.ref va0)])) rfl (by rw [hml]; rfl) (argsL := [(.ref va0), (.ref va1)]) (rest := []) (lenOf pd_4 rfl) rfl (by show 2 * 0 + _ ≤ _; exact Nat.le_of_eq rfl) (hb hby d9_44) (fun _ _ => ⟨rfl, e7, (by decide : 0 + 0 ≤ _), (by decide : 0 + 0 ≤ _)⟩)
  dsimp only [Pt.U, Pt.locs, Pt.cells, Pt.slots] at X8 l8 y8 z8 st8 hQ8
  subst l8 y8 z8
  obtain ⟨rfl, Nq8, e8⟩ := hQ8
  have N8 := Fr.app N0 Nq8
  refine Rest.via (fun t k => st8 t k) ?_
  show Rest p.tables e below s _ _ _ (T8.setTop (mkF m 47 #[.val (.ref a0), .val (.ref a1), .val (.ref a1)] [(.int (if ([xa, xb, xc, xd, xe, xf] : List Int32) = [ya, yb, yc, yd, ye, yf, yg] then (1 : Int32) else 0))]))
  by_cases hz : (if ([xa, xb, xc, xd, xe, xf] : List Int32) = [ya, yb, yc, yd, ye, yf, yg] then (1 : Int32) else 0) = (0 : Int32)
  · refine Rest.via (fun t k => XS.ifYes X8.here hx rfl (pc0 := 47) (pc' := 54) rfl (hb hby d9_47) rfl ((if0 _ _).trans (teq hz).1) (by decide) (by decide) k) ?_
    show Rest p.tables e below s _ _ _ (T8.setTop (mkF m 54 #[.val (.ref a0), .val (.ref a1), .val (.ref a1)] []))
    refine Rest.via (fun t k => XS.iconst X8.here hx rfl (hb hby d9_54) k) ?_
    show Rest p.tables e below s _ _ _ (T8.setTop (mkF m 55 #[.val (.ref a0), .val (.ref a1), .val (.ref a1)] [(.int (0 : Int32))]))
    refine Rest.ret X8 (v := some (.int (nar .boolean (0 : Int32)))) (fun h => by rw [Bd.returns] at h; cases h) hlk (fun fs hr => retN X8 hx (t := .boolean) Bd.returns (by simp) (hb hby d9_55) hr) ?_ (by decide) (by decide)
    rw [e8]
    exact ⟨by show some (Value.int (0 : Int32)) = _; rw [hz], N8, rfl⟩
  · refine Rest.via (fun t k => XS.ifNo X8.here hx rfl (hb hby d9_47) rfl ((if0 _ _).trans (feq hz).1) k) ?_
    show Rest p.tables e below s _ _ _ (T8.setTop (mkF m 50 #[.val (.ref a0), .val (.ref a1), .val (.ref a1)] []))
    refine Rest.via (fun t k => XS.iconst X8.here hx rfl (hb hby d9_50) k) ?_
    show Rest p.tables e below s _ _ _ (T8.setTop (mkF m 51 #[.val (.ref a0), .val (.ref a1), .val (.ref a1)] [(.int (1 : Int32))]))
    refine Rest.via (fun t k => XS.goto X8.here hx rfl (pc0 := 51) (pc' := 55) rfl (hb hby d9_51) (by decide) (by decide) k) ?_
    show Rest p.tables e below s _ _ _ (T8.setTop (mkF m 55 #[.val (.ref a0), .val (.ref a1), .val (.ref a1)] [(.int (1 : Int32))]))
    refine Rest.ret X8 (v := some (.int (nar .boolean (1 : Int32)))) (fun h => by rw [Bd.returns] at h; cases h) hlk (fun fs hr => retN X8 hx (t := .boolean) Bd.returns (by simp) (hb hby d9_55) hr) ?_ (by decide) (by decide)
    rw [e8]
    exact ⟨by show some (Value.int (1 : Int32)) = _; rw [own_ite1 hz], N8, rfl⟩
theorem ef_LE7_7 (m : MethodId) (a0 : Addr) (a1 : Addr) : entryFrame m #[(.ref a0), (.ref a1)] 3 = mkF m 0 #[.val (.ref a0), .val (.ref a1), .unset] [] := by first | (simp [entryFrame, mkF, argsToLocals, Value.category, maxLocals]; done) | rfl
def QLE7_7 (Z : State) (a0 : Addr) (a1 : Addr) (k0 : ClassId) (k1 : ClassId) (xa : Int32) (xb : Int32) (xc : Int32) (xd : Int32) (xe : Int32) (xf : Int32) (xg : Int32) (ya : Int32) (yb : Int32) (yc : Int32) (yd : Int32) (ye : Int32) (yf : Int32) (yg : Int32) (h0 : Heap) (n0 : Nat) (v : Option Value) (h : Heap) (L : List Loc) : Prop := v = some (.int (if ([xa, xb, xc, xd, xe, xf, xg] : List Int32) = [ya, yb, yc, yd, ye, yf, yg] then (1 : Int32) else 0)) ∧ Fr n0 L ∧ h = h0
set_option maxRecDepth 65536 in
set_option maxHeartbeats 40000000 in
theorem rmLE7_7 (l : Launch) (Z : State) (aw : Array Value) (hw : ∀ d ∈ tables_1, d.before aw Z = true) (ws : List Jvm.Cond) (a0 : Addr) (a1 : Addr) (k0 : ClassId) (k1 : ClassId) (xa : Int32) (xb : Int32) (xc : Int32) (xd : Int32) (xe : Int32) (xf : Int32) (xg : Int32) (ya : Int32) (yb : Int32) (yc : Int32) (yd : Int32) (ye : Int32) (yf : Int32) (yg : Int32) (h0 : Heap) (n0 : Nat) (Z0 : n0 ≤ h0.size) (V0 : Arv Z h0 a0 k0 .byte (7 : Int32) [(.int xa), (.int xb), (.int xc), (.int xd), (.int xe), (.int xf), (.int xg)] (.int (0 : Int32))) (V1 : Arv Z h0 a1 k1 .byte (7 : Int32) [(.int ya), (.int yb), (.int yc), (.int yd), (.int ye), (.int yf), (.int yg)] (.int (0 : Int32))) :
    MetFree l (⟨"java/lang/StringLatin1", "equals", "([B[B)Z"⟩ : MethodName) (head1 (Jvm.Cond.code (⟨"java/lang/StringLatin1", "equals", "([B[B)Z"⟩ : MethodName) jdk_43_method_13_code 3 (some .boolean) :: ws) ({ frames := 0, cells := 0, slots := 0, locals := 0 } : Room)) (fun a U => a = #[(.ref a0), (.ref a1)] ∧ Z.Warmed39 U.vm ∧ U.heap = h0) (fun _ _ _ _ _ => True) (fun _ U o U' => ∃ v L, o = .returned v ∧ QLE7_7 Z a0 a1 k0 k1 xa xb xc xd xe xf xg ya yb yc yd ye yf yg h0 n0 v U'.heap L ∧ FrameEnd U o U' L ({ frames := 0, cells := 0, slots := 0, locals := 0 } : Room).cells ({ frames := 0, cells := 0, slots := 0, locals := 0 } : Room).slots) := by
  refine MetFree.of_bodySF (plainFor_of_name pn_2) hisR ?_
  intro p e s m args below meth c s₁ Bd hml0 hP hK
  obtain ⟨rfl, hZ, hh⟩ := hP
  have hx := Bd.exec
  have hby := Bd.bytes
  have hml : c.maxLocals = 3 := hml0
  have hown : s.vm.findClass "java/lang/StringLatin1" = some m.cls := findClass_of_methodNamed Bd.named
  have hnm := (name_of_methodNamed Bd.named Bd.method).1
  have hlk : meth.locks = false := BodyLoose.notSynchronized Bd
  have X0 : Stand p l e ({ frames := 0, cells := 0, slots := 0, locals := 0 } : Room) s m #[(.ref a0), (.ref a1)] below meth c s₁ [] 0 0 := Stand.of_body Bd
  have eh0 : s₁.heap = h0 := by rw [← hh, Bd.state]; rfl
  have N0 := Fr.nil n0
  show Rest p.tables e below s (QLE7_7 Z a0 a1 k0 k1 xa xb xc xd xe xf xg ya yb yc yd ye yf yg h0 n0) _ _ (s₁.setTop (entryFrame m #[(.ref a0), (.ref a1)] 3))
  refine Rest.via (fun t k => castTop (ef_LE7_7 m a0 a1) k) ?_
  show Rest p.tables e below s _ _ _ (s₁.setTop (mkF m 0 #[.val (.ref a0), .val (.ref a1), .unset] []))
  refine Rest.via (fun t k => XS.aloadN X0.here hx rfl (hb hby d10_0) rfl rfl k) ?_
  show Rest p.tables e below s _ _ _ (s₁.setTop (mkF m 1 #[.val (.ref a0), .val (.ref a1), .unset] [(.ref a0)]))
  obtain ⟨cl1, Ar1, -, S1, P1, -, -⟩ := id V0
  refine Rest.via (fun t k => X0.arraylength hx (by rw [eh0]; exact Ar1.1) (State.isArrayOf_alike hZ.alike Ar1.2.1) (g := (mkF m 1 #[.val (.ref a0), .val (.ref a1), .unset] [(.ref a0)])) rfl rfl (hb hby d10_1) t k) ?_
  rw [len_of S1 P1]
  show Rest p.tables e below s _ _ _ (s₁.setTop (mkF m 2 #[.val (.ref a0), .val (.ref a1), .unset] [(.int (7 : Int32))]))
  refine Rest.via (fun t k => XS.aloadN X0.here hx rfl (hb hby d10_2) rfl rfl k) ?_
  show Rest p.tables e below s _ _ _ (s₁.setTop (mkF m 3 #[.val (.ref a0), .val (.ref a1), .unset] [(.ref a1), (.int (7 : Int32))]))
  obtain ⟨cl2, Ar2, -, S2, P2, -, -⟩ := id V1
  refine Rest.via (fun t k => X0.arraylength hx (by rw [eh0]; exact Ar2.1) (State.isArrayOf_alike hZ.alike Ar2.2.1) (g := (mkF m 3 #[.val (.ref a0), .val (.ref a1), .unset] [(.ref a1), (.int (7 : Int32))])) rfl rfl (hb hby d10_3) t k) ?_
  rw [len_of S2 P2]
  show Rest p.tables e below s _ _ _ (s₁.setTop (mkF m 4 #[.val (.ref a0), .val (.ref a1), .unset] [(.int (7 : Int32)), (.int (7 : Int32))]))
  refine Rest.via (fun t k => XS.icmpNo X0.here hx rfl (hb hby d10_4) rfl (teq (by decide : (7 : Int32) = (7 : Int32))).2 k) ?_
  show Rest p.tables e below s _ _ _ (s₁.setTop (mkF m 7 #[.val (.ref a0), .val (.ref a1), .unset] []))
  refine Rest.via (fun t k => XS.iconst X0.here hx rfl (hb hby d10_7) k) ?_
  show Rest p.tables e below s _ _ _ (s₁.setTop (mkF m 8 #[.val (.ref a0), .val (.ref a1), .unset] [(.int (0 : Int32))]))
  refine Rest.via (fun t k => XS.istoreN X0.here hx rfl (hb hby d10_8) rfl (l' := #[.val (.ref a0), .val (.ref a1), .val (.int (0 : Int32))]) rfl k) ?_
  show Rest p.tables e below s _ _ _ (s₁.setTop (mkF m 9 #[.val (.ref a0), .val (.ref a1), .val (.int (0 : Int32))] []))
  refine Rest.via (fun t k => XS.iloadN X0.here hx rfl (hb hby d10_9) rfl k) ?_
  show Rest p.tables e below s _ _ _ (s₁.setTop (mkF m 10 #[.val (.ref a0), .val (.ref a1), .val (.int (0 : Int32))] [(.int (0 : Int32))]))
  refine Rest.via (fun t k => XS.aloadN X0.here hx rfl (hb hby d10_10) rfl rfl k) ?_
  show Rest p.tables e below s _ _ _ (s₁.setTop (mkF m 11 #[.val (.ref a0), .val (.ref a1), .val (.int (0 : Int32))] [(.ref a0), (.int (0 : Int32))]))
  obtain ⟨cl3, Ar3, -, S3, P3, -, -⟩ := id V0
  refine Rest.via (fun t k => X0.arraylength hx (by rw [eh0]; exact Ar3.1) (State.isArrayOf_alike hZ.alike Ar3.2.1) (g := (mkF m 11 #[.val (.ref a0), .val (.ref a1), .val (.int (0 : Int32))] [(.ref a0), (.int (0 : Int32))])) rfl rfl (hb hby d10_11) t k) ?_
  rw [len_of S3 P3]
  show Rest p.tables e below s _ _ _ (s₁.setTop (mkF m 12 #[.val (.ref a0), .val (.ref a1), .val (.int (0 : Int32))] [(.int (7 : Int32)), (.int (0 : Int32))]))
  refine Rest.via (fun t k => XS.icmpNo X0.here hx rfl (hb hby d10_12) rfl (tlt (by decide : (0 : Int32) < (7 : Int32))).2.1 k) ?_
  show Rest p.tables e below s _ _ _ (s₁.setTop (mkF m 15 #[.val (.ref a0), .val (.ref a1), .val (.int (0 : Int32))] []))
  refine Rest.via (fun t k => XS.aloadN X0.here hx rfl (hb hby d10_15) rfl rfl k) ?_
  show Rest p.tables e below s _ _ _ (s₁.setTop (mkF m 16 #[.val (.ref a0), .val (.ref a1), .val (.int (0 : Int32))] [(.ref a0)]))
  refine Rest.via (fun t k => XS.iloadN X0.here hx rfl (hb hby d10_16) rfl k) ?_
  show Rest p.tables e below s _ _ _ (s₁.setTop (mkF m 17 #[.val (.ref a0), .val (.ref a1), .val (.int (0 : Int32))] [(.int (0 : Int32)), (.ref a0)]))
  obtain ⟨cl4, Ar4, qa4, Sa4, Pa4, Ha4, Ga4⟩ := id V0
  have hin4 := inb_of (j := (0 : Int32)) Sa4 ⟨by decide, by decide⟩
  have hat4 : cl4.slots[((0 : Int32)).toNatClampNeg]? = some (.int xa) := Has.at Ha4 hin4 rfl
  refine Rest.via (fun t k => X0.baloadBytes hx (j := (0 : Int32)) (v := (.int xa)) (by rw [eh0]; exact Ar4.1) (State.isArrayOf_alike hZ.alike Ar4.2.1) Ar4.2.2 hin4 hat4 (g := (mkF m 17 #[.val (.ref a0), .val (.ref a1), .val (.int (0 : Int32))] [(.int (0 : Int32)), (.ref a0)])) rfl rfl (hb hby d10_17) t k) ?_
  show Rest p.tables e below s _ _ _ (s₁.setTop (mkF m 18 #[.val (.ref a0), .val (.ref a1), .val (.int (0 : Int32))] [(.int xa)]))
  refine Rest.via (fun t k => XS.aloadN X0.here hx rfl (hb hby d10_18) rfl rfl k) ?_
  show Rest p.tables e below s _ _ _ (s₁.setTop (mkF m 19 #[.val (.ref a0), .val (.ref a1), .val (.int (0 : Int32))] [(.ref a1), (.int xa)]))
  refine Rest.via (fun t k => XS.iloadN X0.here hx rfl (hb hby d10_19) rfl k) ?_
  show Rest p.tables e below s _ _ _ (s₁.setTop (mkF m 20 #[.val (.ref a0), .val (.ref a1), .val (.int (0 : Int32))] [(.int (0 : Int32)), (.ref a1), (.int xa)]))
  obtain ⟨cl5, Ar5, qa5, Sa5, Pa5, Ha5, Ga5⟩ := id V1
  have hin5 := inb_of (j := (0 : Int32)) Sa5 ⟨by decide, by decide⟩
  have hat5 : cl5.slots[((0 : Int32)).toNatClampNeg]? = some (.int ya) := Has.at Ha5 hin5 rfl
  refine Rest.via (fun t k => X0.baloadBytes hx (j := (0 : Int32)) (v := (.int ya)) (by rw [eh0]; exact Ar5.1) (State.isArrayOf_alike hZ.alike Ar5.2.1) Ar5.2.2 hin5 hat5 (g := (mkF m 20 #[.val (.ref a0), .val (.ref a1), .val (.int (0 : Int32))] [(.int (0 : Int32)), (.ref a1), (.int xa)])) rfl rfl (hb hby d10_20) t k) ?_
  show Rest p.tables e below s _ _ _ (s₁.setTop (mkF m 21 #[.val (.ref a0), .val (.ref a1), .val (.int (0 : Int32))] [(.int ya), (.int xa)]))
  by_cases hq0 : xa = ya
  · refine Rest.via (fun t k => XS.icmpYes X0.here hx rfl (pc0 := 21) (pc' := 26) rfl (hb hby d10_21) rfl (teq hq0).1 (by decide) (by decide) k) ?_
    show Rest p.tables e below s _ _ _ (s₁.setTop (mkF m 26 #[.val (.ref a0), .val (.ref a1), .val (.int (0 : Int32))] []))
    refine Rest.via (fun t k => XS.iinc X0.here hx rfl (hb hby d10_26) rfl (l' := #[.val (.ref a0), .val (.ref a1), .val (.int ((0 : Int32) + (1 : Int32)))]) rfl k) ?_
    show Rest p.tables e below s _ _ _ (s₁.setTop (mkF m 29 #[.val (.ref a0), .val (.ref a1), .val (.int ((0 : Int32) + (1 : Int32)))] []))
    rw [(by decide : ((0 : Int32) + (1 : Int32)) = (1 : Int32))]
    show Rest p.tables e below s _ _ _ (s₁.setTop (mkF m 29 #[.val (.ref a0), .val (.ref a1), .val (.int (1 : Int32))] []))
    refine Rest.via (fun t k => XS.goto X0.here hx rfl (pc0 := 29) (pc' := 9) rfl (hb hby d10_29) (by decide) (by decide) k) ?_
    show Rest p.tables e below s _ _ _ (s₁.setTop (mkF m 9 #[.val (.ref a0), .val (.ref a1), .val (.int (1 : Int32))] []))
    refine Rest.via (fun t k => XS.iloadN X0.here hx rfl (hb hby d10_9) rfl k) ?_
    show Rest p.tables e below s _ _ _ (s₁.setTop (mkF m 10 #[.val (.ref a0), .val (.ref a1), .val (.int (1 : Int32))] [(.int (1 : Int32))]))
    refine Rest.via (fun t k => XS.aloadN X0.here hx rfl (hb hby d10_10) rfl rfl k) ?_
    show Rest p.tables e below s _ _ _ (s₁.setTop (mkF m 11 #[.val (.ref a0), .val (.ref a1), .val (.int (1 : Int32))] [(.ref a0), (.int (1 : Int32))]))
    obtain ⟨cl6, Ar6, -, S6, P6, -, -⟩ := id V0
    refine Rest.via (fun t k => X0.arraylength hx (by rw [eh0]; exact Ar6.1) (State.isArrayOf_alike hZ.alike Ar6.2.1) (g := (mkF m 11 #[.val (.ref a0), .val (.ref a1), .val (.int (1 : Int32))] [(.ref a0), (.int (1 : Int32))])) rfl rfl (hb hby d10_11) t k) ?_
    rw [len_of S6 P6]
    show Rest p.tables e below s _ _ _ (s₁.setTop (mkF m 12 #[.val (.ref a0), .val (.ref a1), .val (.int (1 : Int32))] [(.int (7 : Int32)), (.int (1 : Int32))]))
    refine Rest.via (fun t k => XS.icmpNo X0.here hx rfl (hb hby d10_12) rfl (tlt (by decide : (1 : Int32) < (7 : Int32))).2.1 k) ?_
    show Rest p.tables e below s _ _ _ (s₁.setTop (mkF m 15 #[.val (.ref a0), .val (.ref a1), .val (.int (1 : Int32))] []))
    refine Rest.via (fun t k => XS.aloadN X0.here hx rfl (hb hby d10_15) rfl rfl k) ?_
    show Rest p.tables e below s _ _ _ (s₁.setTop (mkF m 16 #[.val (.ref a0), .val (.ref a1), .val (.int (1 : Int32))] [(.ref a0)]))
    refine Rest.via (fun t k => XS.iloadN X0.here hx rfl (hb hby d10_16) rfl k) ?_
    show Rest p.tables e below s _ _ _ (s₁.setTop (mkF m 17 #[.val (.ref a0), .val (.ref a1), .val (.int (1 : Int32))] [(.int (1 : Int32)), (.ref a0)]))
    obtain ⟨cl7, Ar7, qa7, Sa7, Pa7, Ha7, Ga7⟩ := id V0
    have hin7 := inb_of (j := (1 : Int32)) Sa7 ⟨by decide, by decide⟩
    have hat7 : cl7.slots[((1 : Int32)).toNatClampNeg]? = some (.int xb) := Has.at Ha7 hin7 rfl
    refine Rest.via (fun t k => X0.baloadBytes hx (j := (1 : Int32)) (v := (.int xb)) (by rw [eh0]; exact Ar7.1) (State.isArrayOf_alike hZ.alike Ar7.2.1) Ar7.2.2 hin7 hat7 (g := (mkF m 17 #[.val (.ref a0), .val (.ref a1), .val (.int (1 : Int32))] [(.int (1 : Int32)), (.ref a0)])) rfl rfl (hb hby d10_17) t k) ?_
    show Rest p.tables e below s _ _ _ (s₁.setTop (mkF m 18 #[.val (.ref a0), .val (.ref a1), .val (.int (1 : Int32))] [(.int xb)]))
    refine Rest.via (fun t k => XS.aloadN X0.here hx rfl (hb hby d10_18) rfl rfl k) ?_
    show Rest p.tables e below s _ _ _ (s₁.setTop (mkF m 19 #[.val (.ref a0), .val (.ref a1), .val (.int (1 : Int32))] [(.ref a1), (.int xb)]))
    refine Rest.via (fun t k => XS.iloadN X0.here hx rfl (hb hby d10_19) rfl k) ?_
    show Rest p.tables e below s _ _ _ (s₁.setTop (mkF m 20 #[.val (.ref a0), .val (.ref a1), .val (.int (1 : Int32))] [(.int (1 : Int32)), (.ref a1), (.int xb)]))
    obtain ⟨cl8, Ar8, qa8, Sa8, Pa8, Ha8, Ga8⟩ := id V1
    have hin8 := inb_of (j := (1 : Int32)) Sa8 ⟨by decide, by decide⟩
    have hat8 : cl8.slots[((1 : Int32)).toNatClampNeg]? = some (.int yb) := Has.at Ha8 hin8 rfl
    refine Rest.via (fun t k => X0.baloadBytes hx (j := (1 : Int32)) (v := (.int yb)) (by rw [eh0]; exact Ar8.1) (State.isArrayOf_alike hZ.alike Ar8.2.1) Ar8.2.2 hin8 hat8 (g := (mkF m 20 #[.val (.ref a0), .val (.ref a1), .val (.int (1 : Int32))] [(.int (1 : Int32)), (.ref a1), (.int xb)])) rfl rfl (hb hby d10_20) t k) ?_
    show Rest p.tables e below s _ _ _ (s₁.setTop (mkF m 21 #[.val (.ref a0), .val (.ref a1), .val (.int (1 : Int32))] [(.int yb), (.int xb)]))
    by_cases hq1 : xb = yb
    · refine Rest.via (fun t k => XS.icmpYes X0.here hx rfl (pc0 := 21) (pc' := 26) rfl (hb hby d10_21) rfl (teq hq1).1 (by decide) (by decide) k) ?_
      show Rest p.tables e below s _ _ _ (s₁.setTop (mkF m 26 #[.val (.ref a0), .val (.ref a1), .val (.int (1 : Int32))] []))
      refine Rest.via (fun t k => XS.iinc X0.here hx rfl (hb hby d10_26) rfl (l' := #[.val (.ref a0), .val (.ref a1), .val (.int ((1 : Int32) + (1 : Int32)))]) rfl k) ?_
      show Rest p.tables e below s _ _ _ (s₁.setTop (mkF m 29 #[.val (.ref a0), .val (.ref a1), .val (.int ((1 : Int32) + (1 : Int32)))] []))
      rw [(by decide : ((1 : Int32) + (1 : Int32)) = (2 : Int32))]
      show Rest p.tables e below s _ _ _ (s₁.setTop (mkF m 29 #[.val (.ref a0), .val (.ref a1), .val (.int (2 : Int32))] []))
      refine Rest.via (fun t k => XS.goto X0.here hx rfl (pc0 := 29) (pc' := 9) rfl (hb hby d10_29) (by decide) (by decide) k) ?_
      show Rest p.tables e below s _ _ _ (s₁.setTop (mkF m 9 #[.val (.ref a0), .val (.ref a1), .val (.int (2 : Int32))] []))
      refine Rest.via (fun t k => XS.iloadN X0.here hx rfl (hb hby d10_9) rfl k) ?_
      show Rest p.tables e below s _ _ _ (s₁.setTop (mkF m 10 #[.val (.ref a0), .val (.ref a1), .val (.int (2 : Int32))] [(.int (2 : Int32))]))
      refine Rest.via (fun t k => XS.aloadN X0.here hx rfl (hb hby d10_10) rfl rfl k) ?_
      show Rest p.tables e below s _ _ _ (s₁.setTop (mkF m 11 #[.val (.ref a0), .val (.ref a1), .val (.int (2 : Int32))] [(.ref a0), (.int (2 : Int32))]))
      obtain ⟨cl9, Ar9, -, S9, P9, -, -⟩ := id V0
      refine Rest.via (fun t k => X0.arraylength hx (by rw [eh0]; exact Ar9.1) (State.isArrayOf_alike hZ.alike Ar9.2.1) (g := (mkF m 11 #[.val (.ref a0), .val (.ref a1), .val (.int (2 : Int32))] [(.ref a0), (.int (2 : Int32))])) rfl rfl (hb hby d10_11) t k) ?_
      rw [len_of S9 P9]
      show Rest p.tables e below s _ _ _ (s₁.setTop (mkF m 12 #[.val (.ref a0), .val (.ref a1), .val (.int (2 : Int32))] [(.int (7 : Int32)), (.int (2 : Int32))]))
      refine Rest.via (fun t k => XS.icmpNo X0.here hx rfl (hb hby d10_12) rfl (tlt (by decide : (2 : Int32) < (7 : Int32))).2.1 k) ?_
      show Rest p.tables e below s _ _ _ (s₁.setTop (mkF m 15 #[.val (.ref a0), .val (.ref a1), .val (.int (2 : Int32))] []))
      refine Rest.via (fun t k => XS.aloadN X0.here hx rfl (hb hby d10_15) rfl rfl k) ?_
      show Rest p.tables e below s _ _ _ (s₁.setTop (mkF m 16 #[.val (.ref a0), .val (.ref a1), .val (.int (2 : Int32))] [(.ref a0)]))
      refine Rest.via (fun t k => XS.iloadN X0.here hx rfl (hb hby d10_16) rfl k) ?_
      show Rest p.tables e below s _ _ _ (s₁.setTop (mkF m 17 #[.val (.ref a0), .val (.ref a1), .val (.int (2 : Int32))] [(.int (2 : Int32)), (.ref a0)]))
      obtain ⟨cl10, Ar10, qa10, Sa10, Pa10, Ha10, Ga10⟩ := id V0
      have hin10 := inb_of (j := (2 : Int32)) Sa10 ⟨by decide, by decide⟩
      have hat10 : cl10.slots[((2 : Int32)).toNatClampNeg]? = some (.int xc) := Has.at Ha10 hin10 rfl
      refine Rest.via (fun t k => X0.baloadBytes hx (j := (2 : Int32)) (v := (.int xc)) (by rw [eh0]; exact Ar10.1) (State.isArrayOf_alike hZ.alike Ar10.2.1) Ar10.2.2 hin10 hat10 (g := (mkF m 17 #[.val (.ref a0), .val (.ref a1), .val (.int (2 : Int32))] [(.int (2 : Int32)), (.ref a0)])) rfl rfl (hb hby d10_17) t k) ?_
      show Rest p.tables e below s _ _ _ (s₁.setTop (mkF m 18 #[.val (.ref a0), .val (.ref a1), .val (.int (2 : Int32))] [(.int xc)]))
      refine Rest.via (fun t k => XS.aloadN X0.here hx rfl (hb hby d10_18) rfl rfl k) ?_
      show Rest p.tables e below s _ _ _ (s₁.setTop (mkF m 19 #[.val (.ref a0), .val (.ref a1), .val (.int (2 : Int32))] [(.ref a1), (.int xc)]))
      refine Rest.via (fun t k => XS.iloadN X0.here hx rfl (hb hby d10_19) rfl k) ?_
      show Rest p.tables e below s _ _ _ (s₁.setTop (mkF m 20 #[.val (.ref a0), .val (.ref a1), .val (.int (2 : Int32))] [(.int (2 : Int32)), (.ref a1), (.int xc)]))
      obtain ⟨cl11, Ar11, qa11, Sa11, Pa11, Ha11, Ga11⟩ := id V1
      have hin11 := inb_of (j := (2 : Int32)) Sa11 ⟨by decide, by decide⟩
      have hat11 : cl11.slots[((2 : Int32)).toNatClampNeg]? = some (.int yc) := Has.at Ha11 hin11 rfl
      refine Rest.via (fun t k => X0.baloadBytes hx (j := (2 : Int32)) (v := (.int yc)) (by rw [eh0]; exact Ar11.1) (State.isArrayOf_alike hZ.alike Ar11.2.1) Ar11.2.2 hin11 hat11 (g := (mkF m 20 #[.val (.ref a0), .val (.ref a1), .val (.int (2 : Int32))] [(.int (2 : Int32)), (.ref a1), (.int xc)])) rfl rfl (hb hby d10_20) t k) ?_
      show Rest p.tables e below s _ _ _ (s₁.setTop (mkF m 21 #[.val (.ref a0), .val (.ref a1), .val (.int (2 : Int32))] [(.int yc), (.int xc)]))
      by_cases hq2 : xc = yc
      · refine Rest.via (fun t k => XS.icmpYes X0.here hx rfl (pc0 := 21) (pc' := 26) rfl (hb hby d10_21) rfl (teq hq2).1 (by decide) (by decide) k) ?_
        show Rest p.tables e below s _ _ _ (s₁.setTop (mkF m 26 #[.val (.ref a0), .val (.ref a1), .val (.int (2 : Int32))] []))
        refine Rest.via (fun t k => XS.iinc X0.here hx rfl (hb hby d10_26) rfl (l' := #[.val (.ref a0), .val (.ref a1), .val (.int ((2 : Int32) + (1 : Int32)))]) rfl k) ?_
        show Rest p.tables e below s _ _ _ (s₁.setTop (mkF m 29 #[.val (.ref a0), .val (.ref a1), .val (.int ((2 : Int32) + (1 : Int32)))] []))
        rw [(by decide : ((2 : Int32) + (1 : Int32)) = (3 : Int32))]
        show Rest p.tables e below s _ _ _ (s₁.setTop (mkF m 29 #[.val (.ref a0), .val (.ref a1), .val (.int (3 : Int32))] []))
        refine Rest.via (fun t k => XS.goto X0.here hx rfl (pc0 := 29) (pc' := 9) rfl (hb hby d10_29) (by decide) (by decide) k) ?_
        show Rest p.tables e below s _ _ _ (s₁.setTop (mkF m 9 #[.val (.ref a0), .val (.ref a1), .val (.int (3 : Int32))] []))
        refine Rest.via (fun t k => XS.iloadN X0.here hx rfl (hb hby d10_9) rfl k) ?_
        show Rest p.tables e below s _ _ _ (s₁.setTop (mkF m 10 #[.val (.ref a0), .val (.ref a1), .val (.int (3 : Int32))] [(.int (3 : Int32))]))
        refine Rest.via (fun t k => XS.aloadN X0.here hx rfl (hb hby d10_10) rfl rfl k) ?_
        show Rest p.tables e below s _ _ _ (s₁.setTop (mkF m 11 #[.val (.ref a0), .val (.ref a1), .val (.int (3 : Int32))] [(.ref a0), (.int (3 : Int32))]))
        obtain ⟨cl12, Ar12, -, S12, P12, -, -⟩ := id V0
        refine Rest.via (fun t k => X0.arraylength hx (by rw [eh0]; exact Ar12.1) (State.isArrayOf_alike hZ.alike Ar12.2.1) (g := (mkF m 11 #[.val (.ref a0), .val (.ref a1), .val (.int (3 : Int32))] [(.ref a0), (.int (3 : Int32))])) rfl rfl (hb hby d10_11) t k) ?_
        rw [len_of S12 P12]
        show Rest p.tables e below s _ _ _ (s₁.setTop (mkF m 12 #[.val (.ref a0), .val (.ref a1), .val (.int (3 : Int32))] [(.int (7 : Int32)), (.int (3 : Int32))]))
        refine Rest.via (fun t k => XS.icmpNo X0.here hx rfl (hb hby d10_12) rfl (tlt (by decide : (3 : Int32) < (7 : Int32))).2.1 k) ?_
        show Rest p.tables e below s _ _ _ (s₁.setTop (mkF m 15 #[.val (.ref a0), .val (.ref a1), .val (.int (3 : Int32))] []))
        refine Rest.via (fun t k => XS.aloadN X0.here hx rfl (hb hby d10_15) rfl rfl k) ?_
        show Rest p.tables e below s _ _ _ (s₁.setTop (mkF m 16 #[.val (.ref a0), .val (.ref a1), .val (.int (3 : Int32))] [(.ref a0)]))
        refine Rest.via (fun t k => XS.iloadN X0.here hx rfl (hb hby d10_16) rfl k) ?_
        show Rest p.tables e below s _ _ _ (s₁.setTop (mkF m 17 #[.val (.ref a0), .val (.ref a1), .val (.int (3 : Int32))] [(.int (3 : Int32)), (.ref a0)]))
        obtain ⟨cl13, Ar13, qa13, Sa13, Pa13, Ha13, Ga13⟩ := id V0
        have hin13 := inb_of (j := (3 : Int32)) Sa13 ⟨by decide, by decide⟩
        have hat13 : cl13.slots[((3 : Int32)).toNatClampNeg]? = some (.int xd) := Has.at Ha13 hin13 rfl
        refine Rest.via (fun t k => X0.baloadBytes hx (j := (3 : Int32)) (v := (.int xd)) (by rw [eh0]; exact Ar13.1) (State.isArrayOf_alike hZ.alike Ar13.2.1) Ar13.2.2 hin13 hat13 (g := (mkF m 17 #[.val (.ref a0), .val (.ref a1), .val (.int (3 : Int32))] [(.int (3 : Int32)), (.ref a0)])) rfl rfl (hb hby d10_17) t k) ?_
        show Rest p.tables e below s _ _ _ (s₁.setTop (mkF m 18 #[.val (.ref a0), .val (.ref a1), .val (.int (3 : Int32))] [(.int xd)]))
        refine Rest.via (fun t k => XS.aloadN X0.here hx rfl (hb hby d10_18) rfl rfl k) ?_
        show Rest p.tables e below s _ _ _ (s₁.setTop (mkF m 19 #[.val (.ref a0), .val (.ref a1), .val (.int (3 : Int32))] [(.ref a1), (.int xd)]))
        refine Rest.via (fun t k => XS.iloadN X0.here hx rfl (hb hby d10_19) rfl k) ?_
        show Rest p.tables e below s _ _ _ (s₁.setTop (mkF m 20 #[.val (.ref a0), .val (.ref a1), .val (.int (3 : Int32))] [(.int (3 : Int32)), (.ref a1), (.int xd)]))
        obtain ⟨cl14, Ar14, qa14, Sa14, Pa14, Ha14, Ga14⟩ := id V1
        have hin14 := inb_of (j := (3 : Int32)) Sa14 ⟨by decide, by decide⟩
        have hat14 : cl14.slots[((3 : Int32)).toNatClampNeg]? = some (.int yd) := Has.at Ha14 hin14 rfl
        refine Rest.via (fun t k => X0.baloadBytes hx (j := (3 : Int32)) (v := (.int yd)) (by rw [eh0]; exact Ar14.1) (State.isArrayOf_alike hZ.alike Ar14.2.1) Ar14.2.2 hin14 hat14 (g := (mkF m 20 #[.val (.ref a0), .val (.ref a1), .val (.int (3 : Int32))] [(.int (3 : Int32)), (.ref a1), (.int xd)])) rfl rfl (hb hby d10_20) t k) ?_
        show Rest p.tables e below s _ _ _ (s₁.setTop (mkF m 21 #[.val (.ref a0), .val (.ref a1), .val (.int (3 : Int32))] [(.int yd), (.int xd)]))
        by_cases hq3 : xd = yd
        · refine Rest.via (fun t k => XS.icmpYes X0.here hx rfl (pc0 := 21) (pc' := 26) rfl (hb hby d10_21) rfl (teq hq3).1 (by decide) (by decide) k) ?_
          show Rest p.tables e below s _ _ _ (s₁.setTop (mkF m 26 #[.val (.ref a0), .val (.ref a1), .val (.int (3 : Int32))] []))
          refine Rest.via (fun t k => XS.iinc X0.here hx rfl (hb hby d10_26) rfl (l' := #[.val (.ref a0), .val (.ref a1), .val (.int ((3 : Int32) + (1 : Int32)))]) rfl k) ?_
          show Rest p.tables e below s _ _ _ (s₁.setTop (mkF m 29 #[.val (.ref a0), .val (.ref a1), .val (.int ((3 : Int32) + (1 : Int32)))] []))
          rw [(by decide : ((3 : Int32) + (1 : Int32)) = (4 : Int32))]
          show Rest p.tables e below s _ _ _ (s₁.setTop (mkF m 29 #[.val (.ref a0), .val (.ref a1), .val (.int (4 : Int32))] []))
          refine Rest.via (fun t k => XS.goto X0.here hx rfl (pc0 := 29) (pc' := 9) rfl (hb hby d10_29) (by decide) (by decide) k) ?_
          show Rest p.tables e below s _ _ _ (s₁.setTop (mkF m 9 #[.val (.ref a0), .val (.ref a1), .val (.int (4 : Int32))] []))
          refine Rest.via (fun t k => XS.iloadN X0.here hx rfl (hb hby d10_9) rfl k) ?_
          show Rest p.tables e below s _ _ _ (s₁.setTop (mkF m 10 #[.val (.ref a0), .val (.ref a1), .val (.int (4 : Int32))] [(.int (4 : Int32))]))
          refine Rest.via (fun t k => XS.aloadN X0.here hx rfl (hb hby d10_10) rfl rfl k) ?_
          show Rest p.tables e below s _ _ _ (s₁.setTop (mkF m 11 #[.val (.ref a0), .val (.ref a1), .val (.int (4 : Int32))] [(.ref a0), (.int (4 : Int32))]))
          obtain ⟨cl15, Ar15, -, S15, P15, -, -⟩ := id V0
          refine Rest.via (fun t k => X0.arraylength hx (by rw [eh0]; exact Ar15.1) (State.isArrayOf_alike hZ.alike Ar15.2.1) (g := (mkF m 11 #[.val (.ref a0), .val (.ref a1), .val (.int (4 : Int32))] [(.ref a0), (.int (4 : Int32))])) rfl rfl (hb hby d10_11) t k) ?_
          rw [len_of S15 P15]
          show Rest p.tables e below s _ _ _ (s₁.setTop (mkF m 12 #[.val (.ref a0), .val (.ref a1), .val (.int (4 : Int32))] [(.int (7 : Int32)), (.int (4 : Int32))]))
          refine Rest.via (fun t k => XS.icmpNo X0.here hx rfl (hb hby d10_12) rfl (tlt (by decide : (4 : Int32) < (7 : Int32))).2.1 k) ?_
          show Rest p.tables e below s _ _ _ (s₁.setTop (mkF m 15 #[.val (.ref a0), .val (.ref a1), .val (.int (4 : Int32))] []))
          refine Rest.via (fun t k => XS.aloadN X0.here hx rfl (hb hby d10_15) rfl rfl k) ?_
          show Rest p.tables e below s _ _ _ (s₁.setTop (mkF m 16 #[.val (.ref a0), .val (.ref a1), .val (.int (4 : Int32))] [(.ref a0)]))
          refine Rest.via (fun t k => XS.iloadN X0.here hx rfl (hb hby d10_16) rfl k) ?_
          show Rest p.tables e below s _ _ _ (s₁.setTop (mkF m 17 #[.val (.ref a0), .val (.ref a1), .val (.int (4 : Int32))] [(.int (4 : Int32)), (.ref a0)]))
          obtain ⟨cl16, Ar16, qa16, Sa16, Pa16, Ha16, Ga16⟩ := id V0
          have hin16 := inb_of (j := (4 : Int32)) Sa16 ⟨by decide, by decide⟩
          have hat16 : cl16.slots[((4 : Int32)).toNatClampNeg]? = some (.int xe) := Has.at Ha16 hin16 rfl
          refine Rest.via (fun t k => X0.baloadBytes hx (j := (4 : Int32)) (v := (.int xe)) (by rw [eh0]; exact Ar16.1) (State.isArrayOf_alike hZ.alike Ar16.2.1) Ar16.2.2 hin16 hat16 (g := (mkF m 17 #[.val (.ref a0), .val (.ref a1), .val (.int (4 : Int32))] [(.int (4 : Int32)), (.ref a0)])) rfl rfl (hb hby d10_17) t k) ?_
          show Rest p.tables e below s _ _ _ (s₁.setTop (mkF m 18 #[.val (.ref a0), .val (.ref a1), .val (.int (4 : Int32))] [(.int xe)]))
          refine Rest.via (fun t k => XS.aloadN X0.here hx rfl (hb hby d10_18) rfl rfl k) ?_
          show Rest p.tables e below s _ _ _ (s₁.setTop (mkF m 19 #[.val (.ref a0), .val (.ref a1), .val (.int (4 : Int32))] [(.ref a1), (.int xe)]))
          refine Rest.via (fun t k => XS.iloadN X0.here hx rfl (hb hby d10_19) rfl k) ?_
          show Rest p.tables e below s _ _ _ (s₁.setTop (mkF m 20 #[.val (.ref a0), .val (.ref a1), .val (.int (4 : Int32))] [(.int (4 : Int32)), (.ref a1), (.int xe)]))
          obtain ⟨cl17, Ar17, qa17, Sa17, Pa17, Ha17, Ga17⟩ := id V1
          have hin17 := inb_of (j := (4 : Int32)) Sa17 ⟨by decide, by decide⟩
          have hat17 : cl17.slots[((4 : Int32)).toNatClampNeg]? = some (.int ye) := Has.at Ha17 hin17 rfl
          refine Rest.via (fun t k => X0.baloadBytes hx (j := (4 : Int32)) (v := (.int ye)) (by rw [eh0]; exact Ar17.1) (State.isArrayOf_alike hZ.alike Ar17.2.1) Ar17.2.2 hin17 hat17 (g := (mkF m 20 #[.val (.ref a0), .val (.ref a1), .val (.int (4 : Int32))] [(.int (4 : Int32)), (.ref a1), (.int xe)])) rfl rfl (hb hby d10_20) t k) ?_
          show Rest p.tables e below s _ _ _ (s₁.setTop (mkF m 21 #[.val (.ref a0), .val (.ref a1), .val (.int (4 : Int32))] [(.int ye), (.int xe)]))
          by_cases hq4 : xe = ye
          · refine Rest.via (fun t k => XS.icmpYes X0.here hx rfl (pc0 := 21) (pc' := 26) rfl (hb hby d10_21) rfl (teq hq4).1 (by decide) (by decide) k) ?_
            show Rest p.tables e below s _ _ _ (s₁.setTop (mkF m 26 #[.val (.ref a0), .val (.ref a1), .val (.int (4 : Int32))] []))
            refine Rest.via (fun t k => XS.iinc X0.here hx rfl (hb hby d10_26) rfl (l' := #[.val (.ref a0), .val (.ref a1), .val (.int ((4 : Int32) + (1 : Int32)))]) rfl k) ?_
            show Rest p.tables e below s _ _ _ (s₁.setTop (mkF m 29 #[.val (.ref a0), .val (.ref a1), .val (.int ((4 : Int32) + (1 : Int32)))] []))
            rw [(by decide : ((4 : Int32) + (1 : Int32)) = (5 : Int32))]
            show Rest p.tables e below s _ _ _ (s₁.setTop (mkF m 29 #[.val (.ref a0), .val (.ref a1), .val (.int (5 : Int32))] []))
            refine Rest.via (fun t k => XS.goto X0.here hx rfl (pc0 := 29) (pc' := 9) rfl (hb hby d10_29) (by decide) (by decide) k) ?_
            show Rest p.tables e below s _ _ _ (s₁.setTop (mkF m 9 #[.val (.ref a0), .val (.ref a1), .val (.int (5 : Int32))] []))
            refine Rest.via (fun t k => XS.iloadN X0.here hx rfl (hb hby d10_9) rfl k) ?_
            show Rest p.tables e below s _ _ _ (s₁.setTop (mkF m 10 #[.val (.ref a0), .val (.ref a1), .val (.int (5 : Int32))] [(.int (5 : Int32))]))
            refine Rest.via (fun t k => XS.aloadN X0.here hx rfl (hb hby d10_10) rfl rfl k) ?_
            show Rest p.tables e below s _ _ _ (s₁.setTop (mkF m 11 #[.val (.ref a0), .val (.ref a1), .val (.int (5 : Int32))] [(.ref a0), (.int (5 : Int32))]))
            obtain ⟨cl18, Ar18, -, S18, P18, -, -⟩ := id V0
            refine Rest.via (fun t k => X0.arraylength hx (by rw [eh0]; exact Ar18.1) (State.isArrayOf_alike hZ.alike Ar18.2.1) (g := (mkF m 11 #[.val (.ref a0), .val (.ref a1), .val (.int (5 : Int32))] [(.ref a0), (.int (5 : Int32))])) rfl rfl (hb hby d10_11) t k) ?_
            rw [len_of S18 P18]
            show Rest p.tables e below s _ _ _ (s₁.setTop (mkF m 12 #[.val (.ref a0), .val (.ref a1), .val (.int (5 : Int32))] [(.int (7 : Int32)), (.int (5 : Int32))]))
            refine Rest.via (fun t k => XS.icmpNo X0.here hx rfl (hb hby d10_12) rfl (tlt (by decide : (5 : Int32) < (7 : Int32))).2.1 k) ?_
            show Rest p.tables e below s _ _ _ (s₁.setTop (mkF m 15 #[.val (.ref a0), .val (.ref a1), .val (.int (5 : Int32))] []))
            refine Rest.via (fun t k => XS.aloadN X0.here hx rfl (hb hby d10_15) rfl rfl k) ?_
            show Rest p.tables e below s _ _ _ (s₁.setTop (mkF m 16 #[.val (.ref a0), .val (.ref a1), .val (.int (5 : Int32))] [(.ref a0)]))
            refine Rest.via (fun t k => XS.iloadN X0.here hx rfl (hb hby d10_16) rfl k) ?_
            show Rest p.tables e below s _ _ _ (s₁.setTop (mkF m 17 #[.val (.ref a0), .val (.ref a1), .val (.int (5 : Int32))] [(.int (5 : Int32)), (.ref a0)]))
            obtain ⟨cl19, Ar19, qa19, Sa19, Pa19, Ha19, Ga19⟩ := id V0
            have hin19 := inb_of (j := (5 : Int32)) Sa19 ⟨by decide, by decide⟩
            have hat19 : cl19.slots[((5 : Int32)).toNatClampNeg]? = some (.int xf) := Has.at Ha19 hin19 rfl
            refine Rest.via (fun t k => X0.baloadBytes hx (j := (5 : Int32)) (v := (.int xf)) (by rw [eh0]; exact Ar19.1) (State.isArrayOf_alike hZ.alike Ar19.2.1) Ar19.2.2 hin19 hat19 (g := (mkF m 17 #[.val (.ref a0), .val (.ref a1), .val (.int (5 : Int32))] [(.int (5 : Int32)), (.ref a0)])) rfl rfl (hb hby d10_17) t k) ?_
            show Rest p.tables e below s _ _ _ (s₁.setTop (mkF m 18 #[.val (.ref a0), .val (.ref a1), .val (.int (5 : Int32))] [(.int xf)]))
            refine Rest.via (fun t k => XS.aloadN X0.here hx rfl (hb hby d10_18) rfl rfl k) ?_
            show Rest p.tables e below s _ _ _ (s₁.setTop (mkF m 19 #[.val (.ref a0), .val (.ref a1), .val (.int (5 : Int32))] [(.ref a1), (.int xf)]))
            refine Rest.via (fun t k => XS.iloadN X0.here hx rfl (hb hby d10_19) rfl k) ?_
            show Rest p.tables e below s _ _ _ (s₁.setTop (mkF m 20 #[.val (.ref a0), .val (.ref a1), .val (.int (5 : Int32))] [(.int (5 : Int32)), (.ref a1), (.int xf)]))
            obtain ⟨cl20, Ar20, qa20, Sa20, Pa20, Ha20, Ga20⟩ := id V1
            have hin20 := inb_of (j := (5 : Int32)) Sa20 ⟨by decide, by decide⟩
            have hat20 : cl20.slots[((5 : Int32)).toNatClampNeg]? = some (.int yf) := Has.at Ha20 hin20 rfl
            refine Rest.via (fun t k => X0.baloadBytes hx (j := (5 : Int32)) (v := (.int yf)) (by rw [eh0]; exact Ar20.1) (State.isArrayOf_alike hZ.alike Ar20.2.1) Ar20.2.2 hin20 hat20 (g := (mkF m 20 #[.val (.ref a0), .val (.ref a1), .val (.int (5 : Int32))] [(.int (5 : Int32)), (.ref a1), (.int xf)])) rfl rfl (hb hby d10_20) t k) ?_
            show Rest p.tables e below s _ _ _ (s₁.setTop (mkF m 21 #[.val (.ref a0), .val (.ref a1), .val (.int (5 : Int32))] [(.int yf), (.int xf)]))
            by_cases hq5 : xf = yf
            · refine Rest.via (fun t k => XS.icmpYes X0.here hx rfl (pc0 := 21) (pc' := 26) rfl (hb hby d10_21) rfl (teq hq5).1 (by decide) (by decide) k) ?_
              show Rest p.tables e below s _ _ _ (s₁.setTop (mkF m 26 #[.val (.ref a0), .val (.ref a1), .val (.int (5 : Int32))] []))
              refine Rest.via (fun t k => XS.iinc X0.here hx rfl (hb hby d10_26) rfl (l' := #[.val (.ref a0), .val (.ref a1), .val (.int ((5 : Int32) + (1 : Int32)))]) rfl k) ?_
              show Rest p.tables e below s _ _ _ (s₁.setTop (mkF m 29 #[.val (.ref a0), .val (.ref a1), .val (.int ((5 : Int32) + (1 : Int32)))] []))
              rw [(by decide : ((5 : Int32) + (1 : Int32)) = (6 : Int32))]
              show Rest p.tables e below s _ _ _ (s₁.setTop (mkF m 29 #[.val (.ref a0), .val (.ref a1), .val (.int (6 : Int32))] []))
              refine Rest.via (fun t k => XS.goto X0.here hx rfl (pc0 := 29) (pc' := 9) rfl (hb hby d10_29) (by decide) (by decide) k) ?_
              show Rest p.tables e below s _ _ _ (s₁.setTop (mkF m 9 #[.val (.ref a0), .val (.ref a1), .val (.int (6 : Int32))] []))
              refine Rest.via (fun t k => XS.iloadN X0.here hx rfl (hb hby d10_9) rfl k) ?_
              show Rest p.tables e below s _ _ _ (s₁.setTop (mkF m 10 #[.val (.ref a0), .val (.ref a1), .val (.int (6 : Int32))] [(.int (6 : Int32))]))
              refine Rest.via (fun t k => XS.aloadN X0.here hx rfl (hb hby d10_10) rfl rfl k) ?_
              show Rest p.tables e below s _ _ _ (s₁.setTop (mkF m 11 #[.val (.ref a0), .val (.ref a1), .val (.int (6 : Int32))] [(.ref a0), (.int (6 : Int32))]))
              obtain ⟨cl21, Ar21, -, S21, P21, -, -⟩ := id V0
              refine Rest.via (fun t k => X0.arraylength hx (by rw [eh0]; exact Ar21.1) (State.isArrayOf_alike hZ.alike Ar21.2.1) (g := (mkF m 11 #[.val (.ref a0), .val (.ref a1), .val (.int (6 : Int32))] [(.ref a0), (.int (6 : Int32))])) rfl rfl (hb hby d10_11) t k) ?_
              rw [len_of S21 P21]
              show Rest p.tables e below s _ _ _ (s₁.setTop (mkF m 12 #[.val (.ref a0), .val (.ref a1), .val (.int (6 : Int32))] [(.int (7 : Int32)), (.int (6 : Int32))]))
              refine Rest.via (fun t k => XS.icmpNo X0.here hx rfl (hb hby d10_12) rfl (tlt (by decide : (6 : Int32) < (7 : Int32))).2.1 k) ?_
              show Rest p.tables e below s _ _ _ (s₁.setTop (mkF m 15 #[.val (.ref a0), .val (.ref a1), .val (.int (6 : Int32))] []))
              refine Rest.via (fun t k => XS.aloadN X0.here hx rfl (hb hby d10_15) rfl rfl k) ?_
              show Rest p.tables e below s _ _ _ (s₁.setTop (mkF m 16 #[.val (.ref a0), .val (.ref a1), .val (.int (6 : Int32))] [(.ref a0)]))
              refine Rest.via (fun t k => XS.iloadN X0.here hx rfl (hb hby d10_16) rfl k) ?_
              show Rest p.tables e below s _ _ _ (s₁.setTop (mkF m 17 #[.val (.ref a0), .val (.ref a1), .val (.int (6 : Int32))] [(.int (6 : Int32)), (.ref a0)]))
              obtain ⟨cl22, Ar22, qa22, Sa22, Pa22, Ha22, Ga22⟩ := id V0
              have hin22 := inb_of (j := (6 : Int32)) Sa22 ⟨by decide, by decide⟩
              have hat22 : cl22.slots[((6 : Int32)).toNatClampNeg]? = some (.int xg) := Has.at Ha22 hin22 rfl
              refine Rest.via (fun t k => X0.baloadBytes hx (j := (6 : Int32)) (v := (.int xg)) (by rw [eh0]; exact Ar22.1) (State.isArrayOf_alike hZ.alike Ar22.2.1) Ar22.2.2 hin22 hat22 (g := (mkF m 17 #[.val (.ref a0), .val (.ref a1), .val (.int (6 : Int32))] [(.int (6 : Int32)), (.ref a0)])) rfl rfl (hb hby d10_17) t k) ?_
              show Rest p.tables e below s _ _ _ (s₁.setTop (mkF m 18 #[.val (.ref a0), .val (.ref a1), .val (.int (6 : Int32))] [(.int xg)]))
              refine Rest.via (fun t k => XS.aloadN X0.here hx rfl (hb hby d10_18) rfl rfl k) ?_
              show Rest p.tables e below s _ _ _ (s₁.setTop (mkF m 19 #[.val (.ref a0), .val (.ref a1), .val (.int (6 : Int32))] [(.ref a1), (.int xg)]))
              refine Rest.via (fun t k => XS.iloadN X0.here hx rfl (hb hby d10_19) rfl k) ?_
              show Rest p.tables e below s _ _ _ (s₁.setTop (mkF m 20 #[.val (.ref a0), .val (.ref a1), .val (.int (6 : Int32))] [(.int (6 : Int32)), (.ref a1), (.int xg)]))
              obtain ⟨cl23, Ar23, qa23, Sa23, Pa23, Ha23, Ga23⟩ := id V1
              have hin23 := inb_of (j := (6 : Int32)) Sa23 ⟨by decide, by decide⟩
              have hat23 : cl23.slots[((6 : Int32)).toNatClampNeg]? = some (.int yg) := Has.at Ha23 hin23 rfl
              refine Rest.via (fun t k => X0.baloadBytes hx (j := (6 : Int32)) (v := (.int yg)) (by rw [eh0]; exact Ar23.1) (State.isArrayOf_alike hZ.alike Ar23.2.1) Ar23.2.2 hin23 hat23 (g := (mkF m 20 #[.val (.ref a0), .val (.ref a1), .val (.int (6 : Int32))] [(.int (6 : Int32)), (.ref a1), (.int xg)])) rfl rfl (hb hby d10_20) t k) ?_
              show Rest p.tables e below s _ _ _ (s₁.setTop (mkF m 21 #[.val (.ref a0), .val (.ref a1), .val (.int (6 : Int32))] [(.int yg), (.int xg)]))
              by_cases hq6 : xg = yg
              · refine Rest.via (fun t k => XS.icmpYes X0.here hx rfl (pc0 := 21) (pc' := 26) rfl (hb hby d10_21) rfl (teq hq6).1 (by decide) (by decide) k) ?_
                show Rest p.tables e below s _ _ _ (s₁.setTop (mkF m 26 #[.val (.ref a0), .val (.ref a1), .val (.int (6 : Int32))] []))
                refine Rest.via (fun t k => XS.iinc X0.here hx rfl (hb hby d10_26) rfl (l' := #[.val (.ref a0), .val (.ref a1), .val (.int ((6 : Int32) + (1 : Int32)))]) rfl k) ?_
                show Rest p.tables e below s _ _ _ (s₁.setTop (mkF m 29 #[.val (.ref a0), .val (.ref a1), .val (.int ((6 : Int32) + (1 : Int32)))] []))
                rw [(by decide : ((6 : Int32) + (1 : Int32)) = (7 : Int32))]
                show Rest p.tables e below s _ _ _ (s₁.setTop (mkF m 29 #[.val (.ref a0), .val (.ref a1), .val (.int (7 : Int32))] []))
                refine Rest.via (fun t k => XS.goto X0.here hx rfl (pc0 := 29) (pc' := 9) rfl (hb hby d10_29) (by decide) (by decide) k) ?_
                show Rest p.tables e below s _ _ _ (s₁.setTop (mkF m 9 #[.val (.ref a0), .val (.ref a1), .val (.int (7 : Int32))] []))
                refine Rest.via (fun t k => XS.iloadN X0.here hx rfl (hb hby d10_9) rfl k) ?_
                show Rest p.tables e below s _ _ _ (s₁.setTop (mkF m 10 #[.val (.ref a0), .val (.ref a1), .val (.int (7 : Int32))] [(.int (7 : Int32))]))
                refine Rest.via (fun t k => XS.aloadN X0.here hx rfl (hb hby d10_10) rfl rfl k) ?_
                show Rest p.tables e below s _ _ _ (s₁.setTop (mkF m 11 #[.val (.ref a0), .val (.ref a1), .val (.int (7 : Int32))] [(.ref a0), (.int (7 : Int32))]))
                obtain ⟨cl24, Ar24, -, S24, P24, -, -⟩ := id V0
                refine Rest.via (fun t k => X0.arraylength hx (by rw [eh0]; exact Ar24.1) (State.isArrayOf_alike hZ.alike Ar24.2.1) (g := (mkF m 11 #[.val (.ref a0), .val (.ref a1), .val (.int (7 : Int32))] [(.ref a0), (.int (7 : Int32))])) rfl rfl (hb hby d10_11) t k) ?_
                rw [len_of S24 P24]
                show Rest p.tables e below s _ _ _ (s₁.setTop (mkF m 12 #[.val (.ref a0), .val (.ref a1), .val (.int (7 : Int32))] [(.int (7 : Int32)), (.int (7 : Int32))]))
                refine Rest.via (fun t k => XS.icmpYes X0.here hx rfl (pc0 := 12) (pc' := 32) rfl (hb hby d10_12) rfl (flt (by decide : ¬ ((7 : Int32) < (7 : Int32)))).2.1 (by decide) (by decide) k) ?_
                show Rest p.tables e below s _ _ _ (s₁.setTop (mkF m 32 #[.val (.ref a0), .val (.ref a1), .val (.int (7 : Int32))] []))
                refine Rest.via (fun t k => XS.iconst X0.here hx rfl (hb hby d10_32) k) ?_
                show Rest p.tables e below s _ _ _ (s₁.setTop (mkF m 33 #[.val (.ref a0), .val (.ref a1), .val (.int (7 : Int32))] [(.int (1 : Int32))]))
                refine Rest.ret X0 (v := some (.int (nar .boolean (1 : Int32)))) (fun h => by rw [Bd.returns] at h; cases h) hlk (fun fs hr => retN X0 hx (t := .boolean) Bd.returns (by simp) (hb hby d10_33) hr) ?_ (by decide) (by decide)
                rw [eh0]
                exact ⟨by show some (Value.int (1 : Int32)) = _; rw [if_pos (by rw [hq0, hq1, hq2, hq3, hq4, hq5, hq6])], N0, rfl⟩
              · refine Rest.via (fun t k => XS.icmpNo X0.here hx rfl (hb hby d10_21) rfl (feq hq6).1 k) ?_
                show Rest p.tables e below s _ _ _ (s₁.setTop (mkF m 24 #[.val (.ref a0), .val (.ref a1), .val (.int (6 : Int32))] []))
                refine Rest.via (fun t k => XS.iconst X0.here hx rfl (hb hby d10_24) k) ?_
                show Rest p.tables e below s _ _ _ (s₁.setTop (mkF m 25 #[.val (.ref a0), .val (.ref a1), .val (.int (6 : Int32))] [(.int (0 : Int32))]))
                refine Rest.ret X0 (v := some (.int (nar .boolean (0 : Int32)))) (fun h => by rw [Bd.returns] at h; cases h) hlk (fun fs hr => retN X0 hx (t := .boolean) Bd.returns (by simp) (hb hby d10_25) hr) ?_ (by decide) (by decide)
                rw [eh0]
                exact ⟨by show some (Value.int (0 : Int32)) = _; rw [if_neg (by simp [hq6])], N0, rfl⟩
            · refine Rest.via (fun t k => XS.icmpNo X0.here hx rfl (hb hby d10_21) rfl (feq hq5).1 k) ?_
              show Rest p.tables e below s _ _ _ (s₁.setTop (mkF m 24 #[.val (.ref a0), .val (.ref a1), .val (.int (5 : Int32))] []))
              refine Rest.via (fun t k => XS.iconst X0.here hx rfl (hb hby d10_24) k) ?_
              show Rest p.tables e below s _ _ _ (s₁.setTop (mkF m 25 #[.val (.ref a0), .val (.ref a1), .val (.int (5 : Int32))] [(.int (0 : Int32))]))
              refine Rest.ret X0 (v := some (.int (nar .boolean (0 : Int32)))) (fun h => by rw [Bd.returns] at h; cases h) hlk (fun fs hr => retN X0 hx (t := .boolean) Bd.returns (by simp) (hb hby d10_25) hr) ?_ (by decide) (by decide)
              rw [eh0]
              exact ⟨by show some (Value.int (0 : Int32)) = _; rw [if_neg (by simp [hq5])], N0, rfl⟩
          · refine Rest.via (fun t k => XS.icmpNo X0.here hx rfl (hb hby d10_21) rfl (feq hq4).1 k) ?_
            show Rest p.tables e below s _ _ _ (s₁.setTop (mkF m 24 #[.val (.ref a0), .val (.ref a1), .val (.int (4 : Int32))] []))
            refine Rest.via (fun t k => XS.iconst X0.here hx rfl (hb hby d10_24) k) ?_
            show Rest p.tables e below s _ _ _ (s₁.setTop (mkF m 25 #[.val (.ref a0), .val (.ref a1), .val (.int (4 : Int32))] [(.int (0 : Int32))]))
            refine Rest.ret X0 (v := some (.int (nar .boolean (0 : Int32)))) (fun h => by rw [Bd.returns] at h; cases h) hlk (fun fs hr => retN X0 hx (t := .boolean) Bd.returns (by simp) (hb hby d10_25) hr) ?_ (by decide) (by decide)
            rw [eh0]
            exact ⟨by show some (Value.int (0 : Int32)) = _; rw [if_neg (by simp [hq4])], N0, rfl⟩
        · refine Rest.via (fun t k => XS.icmpNo X0.here hx rfl (hb hby d10_21) rfl (feq hq3).1 k) ?_
          show Rest p.tables e below s _ _ _ (s₁.setTop (mkF m 24 #[.val (.ref a0), .val (.ref a1), .val (.int (3 : Int32))] []))
          refine Rest.via (fun t k => XS.iconst X0.here hx rfl (hb hby d10_24) k) ?_
          show Rest p.tables e below s _ _ _ (s₁.setTop (mkF m 25 #[.val (.ref a0), .val (.ref a1), .val (.int (3 : Int32))] [(.int (0 : Int32))]))
          refine Rest.ret X0 (v := some (.int (nar .boolean (0 : Int32)))) (fun h => by rw [Bd.returns] at h; cases h) hlk (fun fs hr => retN X0 hx (t := .boolean) Bd.returns (by simp) (hb hby d10_25) hr) ?_ (by decide) (by decide)
          rw [eh0]
          exact ⟨by show some (Value.int (0 : Int32)) = _; rw [if_neg (by simp [hq3])], N0, rfl⟩
      · refine Rest.via (fun t k => XS.icmpNo X0.here hx rfl (hb hby d10_21) rfl (feq hq2).1 k) ?_
        show Rest p.tables e below s _ _ _ (s₁.setTop (mkF m 24 #[.val (.ref a0), .val (.ref a1), .val (.int (2 : Int32))] []))
        refine Rest.via (fun t k => XS.iconst X0.here hx rfl (hb hby d10_24) k) ?_
        show Rest p.tables e below s _ _ _ (s₁.setTop (mkF m 25 #[.val (.ref a0), .val (.ref a1), .val (.int (2 : Int32))] [(.int (0 : Int32))]))
        refine Rest.ret X0 (v := some (.int (nar .boolean (0 : Int32)))) (fun h => by rw [Bd.returns] at h; cases h) hlk (fun fs hr => retN X0 hx (t := .boolean) Bd.returns (by simp) (hb hby d10_25) hr) ?_ (by decide) (by decide)
        rw [eh0]
        exact ⟨by show some (Value.int (0 : Int32)) = _; rw [if_neg (by simp [hq2])], N0, rfl⟩
    · refine Rest.via (fun t k => XS.icmpNo X0.here hx rfl (hb hby d10_21) rfl (feq hq1).1 k) ?_
      show Rest p.tables e below s _ _ _ (s₁.setTop (mkF m 24 #[.val (.ref a0), .val (.ref a1), .val (.int (1 : Int32))] []))
      refine Rest.via (fun t k => XS.iconst X0.here hx rfl (hb hby d10_24) k) ?_
      show Rest p.tables e below s _ _ _ (s₁.setTop (mkF m 25 #[.val (.ref a0), .val (.ref a1), .val (.int (1 : Int32))] [(.int (0 : Int32))]))
      refine Rest.ret X0 (v := some (.int (nar .boolean (0 : Int32)))) (fun h => by rw [Bd.returns] at h; cases h) hlk (fun fs hr => retN X0 hx (t := .boolean) Bd.returns (by simp) (hb hby d10_25) hr) ?_ (by decide) (by decide)
      rw [eh0]
      exact ⟨by show some (Value.int (0 : Int32)) = _; rw [if_neg (by simp [hq1])], N0, rfl⟩
  · refine Rest.via (fun t k => XS.icmpNo X0.here hx rfl (hb hby d10_21) rfl (feq hq0).1 k) ?_
    show Rest p.tables e below s _ _ _ (s₁.setTop (mkF m 24 #[.val (.ref a0), .val (.ref a1), .val (.int (0 : Int32))] []))
    refine Rest.via (fun t k => XS.iconst X0.here hx rfl (hb hby d10_24) k) ?_
    show Rest p.tables e below s _ _ _ (s₁.setTop (mkF m 25 #[.val (.ref a0), .val (.ref a1), .val (.int (0 : Int32))] [(.int (0 : Int32))]))
    refine Rest.ret X0 (v := some (.int (nar .boolean (0 : Int32)))) (fun h => by rw [Bd.returns] at h; cases h) hlk (fun fs hr => retN X0 hx (t := .boolean) Bd.returns (by simp) (hb hby d10_25) hr) ?_ (by decide) (by decide)
    rw [eh0]
    exact ⟨by show some (Value.int (0 : Int32)) = _; rw [if_neg (by simp [hq0])], N0, rfl⟩
theorem ef_SE7_7 (m : MethodId) (a0 : Addr) (a1 : Addr) : entryFrame m #[(.ref a0), (.ref a1)] 3 = mkF m 0 #[.val (.ref a0), .val (.ref a1), .unset] [] := by first | (simp [entryFrame, mkF, argsToLocals, Value.category, maxLocals]; done) | rfl
def QSE7_7 (Z : State) (a0 : Addr) (a1 : Addr) (va0 : Addr) (k0 : ClassId) (va1 : Addr) (k1 : ClassId) (ic : Int32) (xa : Int32) (xb : Int32) (xc : Int32) (xd : Int32) (xe : Int32) (xf : Int32) (xg : Int32) (ya : Int32) (yb : Int32) (yc : Int32) (yd : Int32) (ye : Int32) (yf : Int32) (yg : Int32) (h0 : Heap) (n0 : Nat) (v : Option Value) (h : Heap) (L : List Loc) : Prop := v = some (.int (if ([xa, xb, xc, xd, xe, xf, xg] : List Int32) = [ya, yb, yc, yd, ye, yf, yg] then (1 : Int32) else 0)) ∧ Fr n0 L ∧ h = h0
set_option maxRecDepth 65536 in
set_option maxHeartbeats 40000000 in
theorem rmSE7_7 (l : Launch) (Z : State) (aw : Array Value) (hw : ∀ d ∈ tables_1, d.before aw Z = true) (ws : List Jvm.Cond) (a0 : Addr) (a1 : Addr) (va0 : Addr) (k0 : ClassId) (va1 : Addr) (k1 : ClassId) (ic : Int32) (xa : Int32) (xb : Int32) (xc : Int32) (xd : Int32) (xe : Int32) (xf : Int32) (xg : Int32) (ya : Int32) (yb : Int32) (yc : Int32) (yd : Int32) (ye : Int32) (yf : Int32) (yg : Int32) (h0 : Heap) (n0 : Nat) (Z0 : n0 ≤ h0.size) (S0 : own_St Z h0 a0 va0 k0 (7 : Int32) [(.int xa), (.int xb), (.int xc), (.int xd), (.int xe), (.int xf), (.int xg)]) (S1 : own_St Z h0 a1 va1 k1 (7 : Int32) [(.int ya), (.int yb), (.int yc), (.int yd), (.int ye), (.int yf), (.int yg)]) (n01 : a0 ≠ a1) (O : Old Z n0 h0) (CS : own_CS Z ic) :
    MetFree l (⟨"java/lang/String", "equals", "(Ljava/lang/Object;)Z"⟩ : MethodName) (head1 (Jvm.Cond.code (⟨"java/lang/String", "equals", "(Ljava/lang/Object;)Z"⟩ : MethodName) jdk_42_method_66_code 3 (some .boolean) :: ws) ({ frames := 1, cells := 0, slots := 0, locals := 14 } : Room)) (fun a U => a = #[(.ref a0), (.ref a1)] ∧ Z.Warmed39 U.vm ∧ U.heap = h0) (fun _ _ _ _ _ => True) (fun _ U o U' => ∃ v L, o = .returned v ∧ QSE7_7 Z a0 a1 va0 k0 va1 k1 ic xa xb xc xd xe xf xg ya yb yc yd ye yf yg h0 n0 v U'.heap L ∧ FrameEnd U o U' L ({ frames := 1, cells := 0, slots := 0, locals := 14 } : Room).cells ({ frames := 1, cells := 0, slots := 0, locals := 14 } : Room).slots) := by
  refine MetFree.of_bodySF (plainFor_of_name pn_1) hisR ?_
  intro p e s m args below meth c s₁ Bd hml0 hP hK
  obtain ⟨rfl, hZ, hh⟩ := hP
  have hx := Bd.exec
  have hby := Bd.bytes
  have hml : c.maxLocals = 3 := hml0
  have hown : s.vm.findClass "java/lang/String" = some m.cls := findClass_of_methodNamed Bd.named
  have hnm := (name_of_methodNamed Bd.named Bd.method).1
  have hlk : meth.locks = false := BodyLoose.notSynchronized Bd
  have X0 : Stand p l e ({ frames := 1, cells := 0, slots := 0, locals := 14 } : Room) s m #[(.ref a0), (.ref a1)] below meth c s₁ [] 0 0 := Stand.of_body Bd
  have eh0 : s₁.heap = h0 := by rw [← hh, Bd.state]; rfl
  have N0 := Fr.nil n0
  show Rest p.tables e below s (QSE7_7 Z a0 a1 va0 k0 va1 k1 ic xa xb xc xd xe xf xg ya yb yc yd ye yf yg h0 n0) _ _ (s₁.setTop (entryFrame m #[(.ref a0), (.ref a1)] 3))
  refine Rest.via (fun t k => castTop (ef_SE7_7 m a0 a1) k) ?_
  obtain ⟨E_a0, Fv_a0, Fc_a0, V_a0⟩ := id S0
  obtain ⟨E_a1, Fv_a1, Fc_a1, V_a1⟩ := id S1
  show Rest p.tables e below s _ _ _ (s₁.setTop (mkF m 0 #[.val (.ref a0), .val (.ref a1), .unset] []))
  refine Rest.via (fun t k => XS.aloadN X0.here hx rfl (hb hby d9_0) rfl rfl k) ?_
  show Rest p.tables e below s _ _ _ (s₁.setTop (mkF m 1 #[.val (.ref a0), .val (.ref a1), .unset] [(.ref a0)]))
  refine Rest.via (fun t k => XS.aloadN X0.here hx rfl (hb hby d9_1) rfl rfl k) ?_
  show Rest p.tables e below s _ _ _ (s₁.setTop (mkF m 2 #[.val (.ref a0), .val (.ref a1), .unset] [(.ref a1), (.ref a0)]))
  refine Rest.via (fun t k => Jvm.RoadKit.acmp (g := (mkF m 2 #[.val (.ref a0), .val (.ref a1), .unset] [(.ref a1), (.ref a0)])) X0 hx rfl rfl rfl (pc0 := 2) (pc' := 7) (same := false) rfl (hb hby d9_2) rfl (decide_eq_false fun q => n01 (Value.ref.inj q)) (by decide) (by decide) k) ?_
  show Rest p.tables e below s _ _ _ (s₁.setTop (mkF m 7 #[.val (.ref a0), .val (.ref a1), .unset] []))
  refine Rest.via (fun t k => XS.aloadN X0.here hx rfl (hb hby d9_7) rfl rfl k) ?_
  show Rest p.tables e below s _ _ _ (s₁.setTop (mkF m 8 #[.val (.ref a0), .val (.ref a1), .unset] [(.ref a1)]))
  obtain ⟨T1, X1, e1, st1⟩ := instY X0 hx hZ hown (hw _ (List.mem_of_getElem? (i := 59) rfl)) eh0 (Ins.self E_a1) (g := (mkF m 8 #[.val (.ref a0), .val (.ref a1), .unset] [(.ref a1)])) rfl rfl (hb hby d9_8)
  refine Rest.via (fun t k => st1 t k) ?_
  show Rest p.tables e below s _ _ _ (T1.setTop (mkF m 11 #[.val (.ref a0), .val (.ref a1), .unset] [(.int (1 : Int32))]))
  refine Rest.via (fun t k => XS.ifNo X1.here hx rfl (hb hby d9_11) rfl ((if0 _ _).trans (feq (by decide : ¬ ((1 : Int32) = (0 : Int32)))).1) k) ?_
  show Rest p.tables e below s _ _ _ (T1.setTop (mkF m 14 #[.val (.ref a0), .val (.ref a1), .unset] []))
  refine Rest.via (fun t k => XS.aloadN X1.here hx rfl (hb hby d9_14) rfl rfl k) ?_
  show Rest p.tables e below s _ _ _ (T1.setTop (mkF m 15 #[.val (.ref a0), .val (.ref a1), .unset] [(.ref a1)]))
  obtain ⟨T2, X2, e2, st2⟩ := castY X1 hx hZ hown (hw _ (List.mem_of_getElem? (i := 59) rfl)) e1 (Ins.self E_a1) (g := (mkF m 15 #[.val (.ref a0), .val (.ref a1), .unset] [(.ref a1)])) rfl rfl (hb hby d9_15)
  refine Rest.via (fun t k => st2 t k) ?_
  show Rest p.tables e below s _ _ _ (T2.setTop (mkF m 18 #[.val (.ref a0), .val (.ref a1), .unset] [(.ref a1)]))
  refine Rest.via (fun t k => XS.astoreN X2.here hx rfl (hb hby d9_18) rfl rfl (l' := #[.val (.ref a0), .val (.ref a1), .val (.ref a1)]) rfl k) ?_
  show Rest p.tables e below s _ _ _ (T2.setTop (mkF m 19 #[.val (.ref a0), .val (.ref a1), .val (.ref a1)] []))
  obtain ⟨T3, X3, e3, st3⟩ := getS2 X2 hx hZ hown (host := "") (Or.inl (hw _ (List.mem_of_getElem? (i := 18) rfl))) Via.refl e2 (CS.1.ext (O.keep (Keep.refl h0 []) all0).2) (g := (mkF m 19 #[.val (.ref a0), .val (.ref a1), .val (.ref a1)] [])) rfl (hb hby d9_19)
  refine Rest.via (fun t k => st3 t k) ?_
  show Rest p.tables e below s _ _ _ (T3.setTop (mkF m 22 #[.val (.ref a0), .val (.ref a1), .val (.ref a1)] [(.int ic)]))
  refine Rest.via (fun t k => XS.ifNo X3.here hx rfl (hb hby d9_22) rfl ((if0 _ _).trans (feq (CS.2 : ¬ (ic = (0 : Int32)))).1) k) ?_
  show Rest p.tables e below s _ _ _ (T3.setTop (mkF m 25 #[.val (.ref a0), .val (.ref a1), .val (.ref a1)] []))
  refine Rest.via (fun t k => XS.aloadN X3.here hx rfl (hb hby d9_25) rfl rfl k) ?_
  show Rest p.tables e below s _ _ _ (T3.setTop (mkF m 26 #[.val (.ref a0), .val (.ref a1), .val (.ref a1)] [(.ref a0)]))
  obtain ⟨T4, X4, e4, st4⟩ := getF X3 hx hZ hown (host := "") (Or.inl (hw _ (List.mem_of_getElem? (i := 30) rfl))) Via.refl e3 Fc_a0 (g := (mkF m 26 #[.val (.ref a0), .val (.ref a1), .val (.ref a1)] [(.ref a0)])) rfl rfl (hb hby d9_26)
  refine Rest.via (fun t k => st4 t k) ?_
  show Rest p.tables e below s _ _ _ (T4.setTop (mkF m 29 #[.val (.ref a0), .val (.ref a1), .val (.ref a1)] [(.int (0 : Int32))]))
  refine Rest.via (fun t k => XS.aloadN X4.here hx rfl (hb hby d9_29) rfl rfl k) ?_
  show Rest p.tables e below s _ _ _ (T4.setTop (mkF m 30 #[.val (.ref a0), .val (.ref a1), .val (.ref a1)] [(.ref a1), (.int (0 : Int32))]))
  obtain ⟨T5, X5, e5, st5⟩ := getF X4 hx hZ hown (host := "") (Or.inl (hw _ (List.mem_of_getElem? (i := 30) rfl))) Via.refl e4 Fc_a1 (g := (mkF m 30 #[.val (.ref a0), .val (.ref a1), .val (.ref a1)] [(.ref a1), (.int (0 : Int32))])) rfl rfl (hb hby d9_30)
  refine Rest.via (fun t k => st5 t k) ?_
  show Rest p.tables e below s _ _ _ (T5.setTop (mkF m 33 #[.val (.ref a0), .val (.ref a1), .val (.ref a1)] [(.int (0 : Int32)), (.int (0 : Int32))]))
  refine Rest.via (fun t k => XS.icmpNo X5.here hx rfl (hb hby d9_33) rfl (teq (by decide : (0 : Int32) = (0 : Int32))).2 k) ?_
  show Rest p.tables e below s _ _ _ (T5.setTop (mkF m 36 #[.val (.ref a0), .val (.ref a1), .val (.ref a1)] []))
  refine Rest.via (fun t k => XS.aloadN X5.here hx rfl (hb hby d9_36) rfl rfl k) ?_
  show Rest p.tables e below s _ _ _ (T5.setTop (mkF m 37 #[.val (.ref a0), .val (.ref a1), .val (.ref a1)] [(.ref a0)]))
  obtain ⟨T6, X6, e6, st6⟩ := getF X5 hx hZ hown (host := "") (Or.inl (hw _ (List.mem_of_getElem? (i := 32) rfl))) Via.refl e5 Fv_a0 (g := (mkF m 37 #[.val (.ref a0), .val (.ref a1), .val (.ref a1)] [(.ref a0)])) rfl rfl (hb hby d9_37)
  refine Rest.via (fun t k => st6 t k) ?_
  show Rest p.tables e below s _ _ _ (T6.setTop (mkF m 40 #[.val (.ref a0), .val (.ref a1), .val (.ref a1)] [(.ref va0)]))
  refine Rest.via (fun t k => XS.aloadN X6.here hx rfl (hb hby d9_40) rfl rfl k) ?_
  show Rest p.tables e below s _ _ _ (T6.setTop (mkF m 41 #[.val (.ref a0), .val (.ref a1), .val (.ref a1)] [(.ref a1), (.ref va0)]))
  obtain ⟨T7, X7, e7, st7⟩ := getF X6 hx hZ hown (host := "") (Or.inl (hw _ (List.mem_of_getElem? (i := 32) rfl))) Via.refl e6 Fv_a1 (g := (mkF m 41 #[.val (.ref a0), .val (.ref a1), .val (.ref a1)] [(.ref a1), (.ref va0)])) rfl rfl (hb hby d9_41)
  refine Rest.via (fun t k => st7 t k) ?_
  show Rest p.tables e below s _ _ _ (T7.setTop (mkF m 44 #[.val (.ref a0), .val (.ref a1), .val (.ref a1)] [(.ref va1), (.ref va0)]))
  obtain ⟨_, _, ⟨T8, L8, k8, n8⟩, -, X8, ⟨Lc8, hQ8, l8, y8, z8⟩, st8⟩ := Jvm.LawKit.callS X7 hx (y := (⟨"java/lang/StringLatin1", "equals", "([B[B)Z"⟩ : MethodName)) hown (mvT hZ (hw _ (List.mem_of_getElem? (i := 60) rfl))) (mvT hZ (hw _ (List.mem_of_getElem? (i := 61) rfl))) (mvT hZ (hw _ (List.mem_of_getElem? (i := 62) rfl))) (mvT hZ (hw _ (List.mem_of_getElem? (i := 63) rfl))) (by decide) (backOf (W := 0) (rmLE7_7 l Z aw hw [] va0 va1 k0 k1 xa xb xc xd xe xf xg ya yb yc yd ye yf yg h0 n0 (Nat.le_trans Z0 (Keep.refl h0 []).1) V_a0 V_a1) hZ (hw _ (List.mem_of_getElem? (i := 63) rfl)) (hw _ (List.mem_of_getElem? (i := 62) rfl)) (by decide) (by decide)) (g := (mkF m 44 #[.val (.ref a0), .val (.ref a1), .val (.ref a1)] [(.ref va1), (.ref va0)])) rfl (by rw [hml]; rfl) (argsL := [(.ref va0), (.ref va1)]) (rest := []) (lenOf pd_4 rfl) rfl (by show 2 * 0 + _ ≤ _; exact Nat.le_of_eq rfl) (hb hby d9_44) (fun _ _ => ⟨rfl, e7, (by decide : 0 + 0 ≤ _), (by decide : 0 + 0 ≤ _)⟩)
  dsimp only [Pt.U, Pt.locs, Pt.cells, Pt.slots] at X8 l8 y8 z8 st8 hQ8
  subst l8 y8 z8
  obtain ⟨rfl, Nq8, e8⟩ := hQ8
  have N8 := Fr.app N0 Nq8
  refine Rest.via (fun t k => st8 t k) ?_
  show Rest p.tables e below s _ _ _ (T8.setTop (mkF m 47 #[.val (.ref a0), .val (.ref a1), .val (.ref a1)] [(.int (if ([xa, xb, xc, xd, xe, xf, xg] : List Int32) = [ya, yb, yc, yd, ye, yf, yg] then (1 : Int32) else 0))]))
  by_cases hz : (if ([xa, xb, xc, xd, xe, xf, xg] : List Int32) = [ya, yb, yc, yd, ye, yf, yg] then (1 : Int32) else 0) = (0 : Int32)
  · refine Rest.via (fun t k => XS.ifYes X8.here hx rfl (pc0 := 47) (pc' := 54) rfl (hb hby d9_47) rfl ((if0 _ _).trans (teq hz).1) (by decide) (by decide) k) ?_
    show Rest p.tables e below s _ _ _ (T8.setTop (mkF m 54 #[.val (.ref a0), .val (.ref a1), .val (.ref a1)] []))
    refine Rest.via (fun t k => XS.iconst X8.here hx rfl (hb hby d9_54) k) ?_
    show Rest p.tables e below s _ _ _ (T8.setTop (mkF m 55 #[.val (.ref a0), .val (.ref a1), .val (.ref a1)] [(.int (0 : Int32))]))
    refine Rest.ret X8 (v := some (.int (nar .boolean (0 : Int32)))) (fun h => by rw [Bd.returns] at h; cases h) hlk (fun fs hr => retN X8 hx (t := .boolean) Bd.returns (by simp) (hb hby d9_55) hr) ?_ (by decide) (by decide)
    rw [e8]
    exact ⟨by show some (Value.int (0 : Int32)) = _; rw [hz], N8, rfl⟩
  · refine Rest.via (fun t k => XS.ifNo X8.here hx rfl (hb hby d9_47) rfl ((if0 _ _).trans (feq hz).1) k) ?_
    show Rest p.tables e below s _ _ _ (T8.setTop (mkF m 50 #[.val (.ref a0), .val (.ref a1), .val (.ref a1)] []))
    refine Rest.via (fun t k => XS.iconst X8.here hx rfl (hb hby d9_50) k) ?_
    show Rest p.tables e below s _ _ _ (T8.setTop (mkF m 51 #[.val (.ref a0), .val (.ref a1), .val (.ref a1)] [(.int (1 : Int32))]))
    refine Rest.via (fun t k => XS.goto X8.here hx rfl (pc0 := 51) (pc' := 55) rfl (hb hby d9_51) (by decide) (by decide) k) ?_
    show Rest p.tables e below s _ _ _ (T8.setTop (mkF m 55 #[.val (.ref a0), .val (.ref a1), .val (.ref a1)] [(.int (1 : Int32))]))
    refine Rest.ret X8 (v := some (.int (nar .boolean (1 : Int32)))) (fun h => by rw [Bd.returns] at h; cases h) hlk (fun fs hr => retN X8 hx (t := .boolean) Bd.returns (by simp) (hb hby d9_55) hr) ?_ (by decide) (by decide)
    rw [e8]
    exact ⟨by show some (Value.int (1 : Int32)) = _; rw [own_ite1 hz], N8, rfl⟩
theorem d9_5 : decode jdk_42_method_66_code 5 = .ok (.iconst 1, 1) := by decide +kernel
theorem d9_6 : decode jdk_42_method_66_code 6 = .ok (.ireturn, 1) := by decide +kernel
theorem ef_SEs (m : MethodId) (a0 : Addr) : entryFrame m #[(.ref a0), (.ref a0)] 3 = mkF m 0 #[.val (.ref a0), .val (.ref a0), .unset] [] := by first | (simp [entryFrame, mkF, argsToLocals, Value.category, maxLocals]; done) | rfl
def QSEs (Z : State) (a0 : Addr) (h0 : Heap) (n0 : Nat) (v : Option Value) (h : Heap) (L : List Loc) : Prop := v = some (.int (1 : Int32)) ∧ Fr n0 L ∧ h = h0
set_option maxRecDepth 65536 in
set_option maxHeartbeats 40000000 in
theorem rmSEs (l : Launch) (Z : State) (aw : Array Value) (hw : ∀ d ∈ tables_1, d.before aw Z = true) (ws : List Jvm.Cond) (a0 : Addr) (h0 : Heap) (n0 : Nat) (Z0 : n0 ≤ h0.size)  :
    MetFree l (⟨"java/lang/String", "equals", "(Ljava/lang/Object;)Z"⟩ : MethodName) (head1 (Jvm.Cond.code (⟨"java/lang/String", "equals", "(Ljava/lang/Object;)Z"⟩ : MethodName) jdk_42_method_66_code 3 (some .boolean) :: ws) ({ frames := 0, cells := 0, slots := 0, locals := 0 } : Room)) (fun a U => a = #[(.ref a0), (.ref a0)] ∧ Z.Warmed39 U.vm ∧ U.heap = h0) (fun _ _ _ _ _ => True) (fun _ U o U' => ∃ v L, o = .returned v ∧ QSEs Z a0 h0 n0 v U'.heap L ∧ FrameEnd U o U' L ({ frames := 0, cells := 0, slots := 0, locals := 0 } : Room).cells ({ frames := 0, cells := 0, slots := 0, locals := 0 } : Room).slots) := by
  refine MetFree.of_bodySF (plainFor_of_name pn_1) hisR ?_
  intro p e s m args below meth c s₁ Bd hml0 hP hK
  obtain ⟨rfl, hZ, hh⟩ := hP
  have hx := Bd.exec
  have hby := Bd.bytes
  have hml : c.maxLocals = 3 := hml0
  have hown : s.vm.findClass "java/lang/String" = some m.cls := findClass_of_methodNamed Bd.named
  have hnm := (name_of_methodNamed Bd.named Bd.method).1
  have hlk : meth.locks = false := BodyLoose.notSynchronized Bd
  have X0 : Stand p l e ({ frames := 0, cells := 0, slots := 0, locals := 0 } : Room) s m #[(.ref a0), (.ref a0)] below meth c s₁ [] 0 0 := Stand.of_body Bd
  have eh0 : s₁.heap = h0 := by rw [← hh, Bd.state]; rfl
  have N0 := Fr.nil n0
  show Rest p.tables e below s (QSEs Z a0 h0 n0) _ _ (s₁.setTop (entryFrame m #[(.ref a0), (.ref a0)] 3))
  refine Rest.via (fun t k => castTop (ef_SEs m a0) k) ?_
  show Rest p.tables e below s _ _ _ (s₁.setTop (mkF m 0 #[.val (.ref a0), .val (.ref a0), .unset] []))
  refine Rest.via (fun t k => XS.aloadN X0.here hx rfl (hb hby d9_0) rfl rfl k) ?_
  show Rest p.tables e below s _ _ _ (s₁.setTop (mkF m 1 #[.val (.ref a0), .val (.ref a0), .unset] [(.ref a0)]))
  refine Rest.via (fun t k => XS.aloadN X0.here hx rfl (hb hby d9_1) rfl rfl k) ?_
  show Rest p.tables e below s _ _ _ (s₁.setTop (mkF m 2 #[.val (.ref a0), .val (.ref a0), .unset] [(.ref a0), (.ref a0)]))
  refine Rest.via (fun t k => Jvm.RoadKit.acmp (g := (mkF m 2 #[.val (.ref a0), .val (.ref a0), .unset] [(.ref a0), (.ref a0)])) X0 hx rfl rfl rfl (pc0 := 2) (pc' := 5) (same := true) rfl (hb hby d9_2) rfl (decide_eq_true rfl) (by decide) (by decide) k) ?_
  show Rest p.tables e below s _ _ _ (s₁.setTop (mkF m 5 #[.val (.ref a0), .val (.ref a0), .unset] []))
  refine Rest.via (fun t k => XS.iconst X0.here hx rfl (hb hby d9_5) k) ?_
  show Rest p.tables e below s _ _ _ (s₁.setTop (mkF m 6 #[.val (.ref a0), .val (.ref a0), .unset] [(.int (1 : Int32))]))
  refine Rest.ret X0 (v := some (.int (nar .boolean (1 : Int32)))) (fun h => by rw [Bd.returns] at h; cases h) hlk (fun fs hr => retN X0 hx (t := .boolean) Bd.returns (by simp) (hb hby d9_6) hr) ?_ (by decide) (by decide)
  rw [eh0]
  exact ⟨rfl, N0, rfl⟩
def own_Lb (Z : State) (h : Heap) (e t : Addr) (C : String) (n : Int32) (vs : List Value) : Prop := ∃ (va : Addr) (k : ClassId), Exa Z h e C ∧ Fld Z h e "sluicegate/cli/QueueKind" "label" "Ljava/lang/String;" (.ref t) ∧ own_St Z h t va k n vs
theorem own_Lb_ext {Z : State} {h h' : Heap} {e t : Addr} {C : String} {n : Int32} {vs : List Value} (E : Ext h h') (F : own_Lb Z h e t C n vs) : own_Lb Z h' e t C n vs := by
  obtain ⟨va, k, a, b, d⟩ := F
  exact ⟨va, k, a.ext E, b.ext E, own_St_ext E d⟩
def own_QK (Z : State) (h : Heap) (en0 en1 en2 t0 t1 t2 vv : Addr) : Prop := Sta Z h "sluicegate/cli/QueueKind" "$VALUES" "[Lsluicegate/cli/QueueKind;" (.ref vv) ∧ (∃ kv, Arv Z h vv kv (.object "sluicegate/cli/QueueKind") (3 : Int32) [(.ref en0), (.ref en1), (.ref en2)] .null) ∧ Exa Z h vv "[Lsluicegate/cli/QueueKind;" ∧ Sta Z h "sluicegate/cli/QueueKind" "ARRAY" "Lsluicegate/cli/QueueKind;" (.ref en0) ∧ Sta Z h "sluicegate/cli/QueueKind" "LINKED" "Lsluicegate/cli/QueueKind;" (.ref en1) ∧ Sta Z h "sluicegate/cli/QueueKind" "HANDOFF" "Lsluicegate/cli/QueueKind;" (.ref en2) ∧
  own_Lb Z h en0 t0 "sluicegate/cli/QueueKind$1" (5 : Int32) [(.int (97 : Int32)), (.int (114 : Int32)), (.int (114 : Int32)), (.int (97 : Int32)), (.int (121 : Int32))] ∧ own_Lb Z h en1 t1 "sluicegate/cli/QueueKind$2" (6 : Int32) [(.int (108 : Int32)), (.int (105 : Int32)), (.int (110 : Int32)), (.int (107 : Int32)), (.int (101 : Int32)), (.int (100 : Int32))] ∧ own_Lb Z h en2 t2 "sluicegate/cli/QueueKind$3" (7 : Int32) [(.int (104 : Int32)), (.int (97 : Int32)), (.int (110 : Int32)), (.int (100 : Int32)), (.int (111 : Int32)), (.int (102 : Int32)), (.int (102 : Int32))] ∧ t0 ≠ t1 ∧ t0 ≠ t2 ∧ t1 ≠ t2
theorem own_QK_ext {Z : State} {h h' : Heap} {en0 en1 en2 t0 t1 t2 vv : Addr} (E : Ext h h') (F : own_QK Z h en0 en1 en2 t0 t1 t2 vv) : own_QK Z h' en0 en1 en2 t0 t1 t2 vv := by
  obtain ⟨a, ⟨kv, b⟩, b', d, e, f, g, i, j, r⟩ := F
  exact ⟨a.ext E, ⟨kv, b.ext E⟩, b'.ext E, d.ext E, e.ext E, f.ext E, own_Lb_ext E g, own_Lb_ext E i, own_Lb_ext E j, r⟩
theorem d8_0 : decode prog_18_method_1_code 0 = .ok (.getstatic 13, 3) := by decide +kernel
theorem d8_3 : decode prog_18_method_1_code 3 = .ok (.invokevirtual 17, 3) := by decide +kernel
theorem d8_6 : decode prog_18_method_1_code 6 = .ok (.checkcast 18, 3) := by decide +kernel
theorem d8_9 : decode prog_18_method_1_code 9 = .ok (.areturn, 1) := by decide +kernel
theorem pn_3 : plainName "sluicegate/cli/QueueKind" = true := by first | (simp [plainName, overriddenIn]; done) | decide +kernel
theorem ef_VA (m : MethodId)  : entryFrame m #[] 0 = mkF m 0 #[] [] := by first | (simp [entryFrame, mkF, argsToLocals, Value.category, maxLocals]; done) | rfl
def QVA (Z : State) (en0 : Addr) (en1 : Addr) (en2 : Addr) (t0 : Addr) (t1 : Addr) (t2 : Addr) (vv : Addr) (h0 : Heap) (n0 : Nat) (v : Option Value) (h : Heap) (L : List Loc) : Prop := ∃ w kv, v = some (.ref w) ∧ Fr n0 L ∧ Keep h0 h [] ∧ h0.size ≤ w ∧ Arv Z h w kv (.object "sluicegate/cli/QueueKind") (3 : Int32) [(.ref en0), (.ref en1), (.ref en2)] .null
set_option maxRecDepth 65536 in
set_option maxHeartbeats 40000000 in
theorem rmVA (l : Launch) (Z : State) (aw : Array Value) (hw : ∀ d ∈ tables_1, d.before aw Z = true) (ws : List Jvm.Cond) (en0 : Addr) (en1 : Addr) (en2 : Addr) (t0 : Addr) (t1 : Addr) (t2 : Addr) (vv : Addr) (h0 : Heap) (n0 : Nat) (Z0 : n0 ≤ h0.size) (O : Old Z n0 h0) (QK : own_QK Z Z.heap en0 en1 en2 t0 t1 t2 vv) :
    MetFree l (⟨"sluicegate/cli/QueueKind", "values", "()[Lsluicegate/cli/QueueKind;"⟩ : MethodName) (head1 (Jvm.Cond.code (⟨"sluicegate/cli/QueueKind", "values", "()[Lsluicegate/cli/QueueKind;"⟩ : MethodName) prog_18_method_1_code 0 (some (.array (.object "sluicegate/cli/QueueKind"))) :: ws) ({ frames := 1, cells := 1, slots := 3, locals := 14 } : Room)) (fun a U => a = #[] ∧ Z.Warmed39 U.vm ∧ U.heap = h0) (fun _ _ _ _ _ => True) (fun _ U o U' => ∃ v L, o = .returned v ∧ QVA Z en0 en1 en2 t0 t1 t2 vv h0 n0 v U'.heap L ∧ FrameEnd U o U' L ({ frames := 1, cells := 1, slots := 3, locals := 14 } : Room).cells ({ frames := 1, cells := 1, slots := 3, locals := 14 } : Room).slots) := by
  refine MetFree.of_bodySF (plainFor_of_name pn_3) hisR ?_
  intro p e s m args below meth c s₁ Bd hml0 hP hK
  obtain ⟨rfl, hZ, hh⟩ := hP
  have hx := Bd.exec
  have hby := Bd.bytes
  have hml : c.maxLocals = 0 := hml0
  have hown : s.vm.findClass "sluicegate/cli/QueueKind" = some m.cls := findClass_of_methodNamed Bd.named
  have hnm := (name_of_methodNamed Bd.named Bd.method).1
  have hlk : meth.locks = false := BodyLoose.notSynchronized Bd
  have X0 : Stand p l e ({ frames := 1, cells := 1, slots := 3, locals := 14 } : Room) s m #[] below meth c s₁ [] 0 0 := Stand.of_body Bd
  have eh0 : s₁.heap = h0 := by rw [← hh, Bd.state]; rfl
  have N0 := Fr.nil n0
  show Rest p.tables e below s (QVA Z en0 en1 en2 t0 t1 t2 vv h0 n0) _ _ (s₁.setTop (entryFrame m #[] 0))
  refine Rest.via (fun t k => castTop (ef_VA m ) k) ?_
  have QK1 := own_QK_ext (O.keep (Keep.refl h0 []) all0).2 QK
  obtain ⟨Sv1, ⟨kv1, Vv1⟩, Ev1, Sa1_, Sl1_, Sh1_, ⟨va1a, ka1, Ee1a, Fl1a, S1a⟩, ⟨va1b, kb1_, Ee1b, Fl1b, S1b⟩, ⟨va1c, kc1_, Ee1c, Fl1c, S1c⟩, nt01, nt02, nt12⟩ := id QK1
  show Rest p.tables e below s _ _ _ (s₁.setTop (mkF m 0 #[] []))
  obtain ⟨T2, X2, e2, st2⟩ := getS2 X0 hx hZ hown (host := "") (Or.inl (hw _ (List.mem_of_getElem? (i := 40) rfl))) Via.refl eh0 Sv1 (g := (mkF m 0 #[] [])) rfl (hb hby d8_0)
  refine Rest.via (fun t k => st2 t k) ?_
  show Rest p.tables e below s _ _ _ (T2.setTop (mkF m 3 #[] [(.ref vv)]))
  obtain ⟨T3, h3, X3, e3, E3, A3, Ex3, st3⟩ := cloneH X2 hx hZ hown (hw _ (List.mem_of_getElem? (i := 42) rfl)) (hw _ (List.mem_of_getElem? (i := 43) rfl)) (hw _ (List.mem_of_getElem? (i := 47) rfl)) (hw _ (List.mem_of_getElem? (i := 45) rfl)) (hw _ (List.mem_of_getElem? (i := 46) rfl)) (hw _ (List.mem_of_getElem? (i := 48) rfl)) e2 (Arv.arh Vv1) Ev1 (g := (mkF m 3 #[] [(.ref vv)])) rfl (by rw [hml]; rfl) (rest := []) rfl (hb hby d8_3) (by decide) (W := 0) (cap := 3) (by show 2 * 0 + _ ≤ _; exact Nat.le_of_eq rfl) (by decide) (by decide) (by decide) (by decide)
  obtain ⟨b3, gq3⟩ : ∃ z, z = h0.size := ⟨_, rfl⟩
  rw [← gq3] at A3 Ex3 st3
  have sz_b3 : h0.size ≤ b3 := Nat.le_trans (Keep.refl h0 []).1 (Nat.le_of_eq gq3.symm)
  have g_b3 : n0 ≤ b3 := Nat.le_trans Z0 sz_b3
  have ne_vv_b3 : vv ≠ b3 := Nat.ne_of_lt (Nat.lt_of_lt_of_le Vv1.lt (Nat.le_of_eq gq3.symm))
  have ne_en0_b3 : en0 ≠ b3 := Nat.ne_of_lt (Nat.lt_of_lt_of_le Ee1a.lt (Nat.le_of_eq gq3.symm))
  have ne_t0_b3 : t0 ≠ b3 := Nat.ne_of_lt (Nat.lt_of_lt_of_le S1a.1.lt (Nat.le_of_eq gq3.symm))
  have ne_en1_b3 : en1 ≠ b3 := Nat.ne_of_lt (Nat.lt_of_lt_of_le Ee1b.lt (Nat.le_of_eq gq3.symm))
  have ne_t1_b3 : t1 ≠ b3 := Nat.ne_of_lt (Nat.lt_of_lt_of_le S1b.1.lt (Nat.le_of_eq gq3.symm))
  have ne_en2_b3 : en2 ≠ b3 := Nat.ne_of_lt (Nat.lt_of_lt_of_le Ee1c.lt (Nat.le_of_eq gq3.symm))
  have ne_t2_b3 : t2 ≠ b3 := Nat.ne_of_lt (Nat.lt_of_lt_of_le S1c.1.lt (Nat.le_of_eq gq3.symm))
  have K3 : Keep h0 h3 [] := (Keep.refl h0 []).ext E3
  refine Rest.via (fun t k => st3 t k) ?_
  have V_b3 : Arv Z h3 b3 _ _ (3 : Int32) [(.ref en0), (.ref en1), (.ref en2)] .null := A3
  show Rest p.tables e below s _ _ _ (T3.setTop (mkF m 6 #[] [(.ref b3)]))
  obtain ⟨T4, X4, e4, st4⟩ := castY X3 hx hZ hown (hw _ (List.mem_of_getElem? (i := 50) rfl)) e3 (Ins.self Ex3) (g := (mkF m 6 #[] [(.ref b3)])) rfl rfl (hb hby d8_6)
  refine Rest.via (fun t k => st4 t k) ?_
  show Rest p.tables e below s _ _ _ (T4.setTop (mkF m 9 #[] [(.ref b3)]))
  refine Rest.ret X4 (v := some (.ref b3)) (fun h => by rw [Bd.returns] at h; cases h) hlk (fun fs hr => retOut X4 hx Bd.returns rfl (Or.inr (Or.inr (Or.inr (Or.inr ⟨rfl, rfl, rfl⟩)))) (hb hby d8_9) hr) ?_ (by decide) (by decide)
  rw [e4]
  exact ⟨b3, _, rfl, N0, K3, sz_b3, V_b3⟩
theorem pd_5 : parseMethodDescriptor "()[Lsluicegate/cli/QueueKind;" = some ⟨[], some (.array (.object "sluicegate/cli/QueueKind"))⟩ := by decide +kernel
theorem pd_6 : parseMethodDescriptor "(Ljava/lang/Object;)Z" = some ⟨[(.object "java/lang/Object")], some .boolean⟩ := by decide +kernel
theorem d7_0 : decode prog_18_method_6_code 0 = .ok (.invokestatic 57, 3) := by decide +kernel
theorem d7_3 : decode prog_18_method_6_code 3 = .ok (.astore_n 1, 1) := by decide +kernel
theorem d7_4 : decode prog_18_method_6_code 4 = .ok (.aload_n 1, 1) := by decide +kernel
theorem d7_5 : decode prog_18_method_6_code 5 = .ok (.arraylength, 1) := by decide +kernel
theorem d7_6 : decode prog_18_method_6_code 6 = .ok (.istore_n 2, 1) := by decide +kernel
theorem d7_7 : decode prog_18_method_6_code 7 = .ok (.iconst 0, 1) := by decide +kernel
theorem d7_8 : decode prog_18_method_6_code 8 = .ok (.istore_n 3, 1) := by decide +kernel
theorem d7_9 : decode prog_18_method_6_code 9 = .ok (.iload_n 3, 1) := by decide +kernel
theorem d7_10 : decode prog_18_method_6_code 10 = .ok (.iload_n 2, 1) := by decide +kernel
theorem d7_11 : decode prog_18_method_6_code 11 = .ok (.if_icmp .ge 29, 3) := by decide +kernel
theorem d7_14 : decode prog_18_method_6_code 14 = .ok (.aload_n 1, 1) := by decide +kernel
theorem d7_15 : decode prog_18_method_6_code 15 = .ok (.iload_n 3, 1) := by decide +kernel
theorem d7_16 : decode prog_18_method_6_code 16 = .ok (.aaload, 1) := by decide +kernel
theorem d7_17 : decode prog_18_method_6_code 17 = .ok (.astore 4, 2) := by decide +kernel
theorem d7_19 : decode prog_18_method_6_code 19 = .ok (.aload 4, 2) := by decide +kernel
theorem d7_21 : decode prog_18_method_6_code 21 = .ok (.getfield 32, 3) := by decide +kernel
theorem d7_24 : decode prog_18_method_6_code 24 = .ok (.aload_n 0, 1) := by decide +kernel
theorem d7_25 : decode prog_18_method_6_code 25 = .ok (.invokevirtual 61, 3) := by decide +kernel
theorem d7_28 : decode prog_18_method_6_code 28 = .ok (.ifCond .eq 6, 3) := by decide +kernel
theorem d7_31 : decode prog_18_method_6_code 31 = .ok (.aload 4, 2) := by decide +kernel
theorem d7_33 : decode prog_18_method_6_code 33 = .ok (.areturn, 1) := by decide +kernel
theorem ef_Nf0 (m : MethodId) (a0 : Addr) : entryFrame m #[(.ref a0)] 5 = mkF m 0 #[.val (.ref a0), .unset, .unset, .unset, .unset] [] := by first | (simp [entryFrame, mkF, argsToLocals, Value.category, maxLocals]; done) | rfl
def QNf0 (Z : State) (a0 : Addr) (en0 : Addr) (en1 : Addr) (en2 : Addr) (t0 : Addr) (t1 : Addr) (t2 : Addr) (vv : Addr) (ic : Int32) (va0 : Addr) (k0 : ClassId) (h0 : Heap) (n0 : Nat) (v : Option Value) (h : Heap) (L : List Loc) : Prop := v = some (.ref en0) ∧ Fr n0 L ∧ Keep h0 h []
set_option maxRecDepth 65536 in
set_option maxHeartbeats 40000000 in
theorem rmNf0 (l : Launch) (Z : State) (aw : Array Value) (hw : ∀ d ∈ tables_1, d.before aw Z = true) (ws : List Jvm.Cond) (a0 : Addr) (en0 : Addr) (en1 : Addr) (en2 : Addr) (t0 : Addr) (t1 : Addr) (t2 : Addr) (vv : Addr) (ic : Int32) (va0 : Addr) (k0 : ClassId) (h0 : Heap) (n0 : Nat) (Z0 : n0 ≤ h0.size) (O : Old Z n0 h0) (QK : own_QK Z Z.heap en0 en1 en2 t0 t1 t2 vv) (CS : own_CS Z ic) (S0 : own_St Z h0 a0 va0 k0 (5 : Int32) [(.int (own_by (97 : Int32))), (.int (own_by (114 : Int32))), (.int (own_by (114 : Int32))), (.int (own_by (97 : Int32))), (.int (own_by (121 : Int32)))]) (nt0a : t0 ≠ a0) (nt1a : t1 ≠ a0) (nt2a : t2 ≠ a0) :
    MetFree l (⟨"sluicegate/cli/QueueKind", "named", "(Ljava/lang/String;)Lsluicegate/cli/QueueKind;"⟩ : MethodName) (head1 (Jvm.Cond.code (⟨"sluicegate/cli/QueueKind", "named", "(Ljava/lang/String;)Lsluicegate/cli/QueueKind;"⟩ : MethodName) prog_18_method_6_code 5 (some (.object "sluicegate/cli/QueueKind")) :: ws) ({ frames := 2, cells := 1, slots := 3, locals := 28 } : Room)) (fun a U => a = #[(.ref a0)] ∧ Z.Warmed39 U.vm ∧ U.heap = h0) (fun _ _ _ _ _ => True) (fun _ U o U' => ∃ v L, o = .returned v ∧ QNf0 Z a0 en0 en1 en2 t0 t1 t2 vv ic va0 k0 h0 n0 v U'.heap L ∧ FrameEnd U o U' L ({ frames := 2, cells := 1, slots := 3, locals := 28 } : Room).cells ({ frames := 2, cells := 1, slots := 3, locals := 28 } : Room).slots) := by
  refine MetFree.of_bodySF (plainFor_of_name pn_3) hisR ?_
  intro p e s m args below meth c s₁ Bd hml0 hP hK
  obtain ⟨rfl, hZ, hh⟩ := hP
  have hx := Bd.exec
  have hby := Bd.bytes
  have hml : c.maxLocals = 5 := hml0
  have hown : s.vm.findClass "sluicegate/cli/QueueKind" = some m.cls := findClass_of_methodNamed Bd.named
  have hnm := (name_of_methodNamed Bd.named Bd.method).1
  have hlk : meth.locks = false := BodyLoose.notSynchronized Bd
  have X0 : Stand p l e ({ frames := 2, cells := 1, slots := 3, locals := 28 } : Room) s m #[(.ref a0)] below meth c s₁ [] 0 0 := Stand.of_body Bd
  have eh0 : s₁.heap = h0 := by rw [← hh, Bd.state]; rfl
  have N0 := Fr.nil n0
  show Rest p.tables e below s (QNf0 Z a0 en0 en1 en2 t0 t1 t2 vv ic va0 k0 h0 n0) _ _ (s₁.setTop (entryFrame m #[(.ref a0)] 5))
  refine Rest.via (fun t k => castTop (ef_Nf0 m a0) k) ?_
  have QK1 := own_QK_ext (O.keep (Keep.refl h0 []) all0).2 QK
  obtain ⟨Sv1, ⟨kv1, Vv1⟩, Ev1, Sa1_, Sl1_, Sh1_, ⟨va1a, ka1, Ee1a, Fl1a, S1a⟩, ⟨va1b, kb1_, Ee1b, Fl1b, S1b⟩, ⟨va1c, kc1_, Ee1c, Fl1c, S1c⟩, nt01, nt02, nt12⟩ := id QK1
  show Rest p.tables e below s _ _ _ (s₁.setTop (mkF m 0 #[.val (.ref a0), .unset, .unset, .unset, .unset] []))
  obtain ⟨_, _, ⟨T2, L2, k2, n2⟩, -, X2, ⟨Lc2, hQ2, l2, y2, z2⟩, st2⟩ := Jvm.LawKit.callS X0 hx (y := (⟨"sluicegate/cli/QueueKind", "values", "()[Lsluicegate/cli/QueueKind;"⟩ : MethodName)) hown (mvT hZ (hw _ (List.mem_of_getElem? (i := 37) rfl))) (mvT hZ (hw _ (List.mem_of_getElem? (i := 38) rfl))) (mvT hZ (hw _ (List.mem_of_getElem? (i := 3) rfl))) (mvT hZ (hw _ (List.mem_of_getElem? (i := 39) rfl))) (by decide) (backOf (W := 0) (rmVA l Z aw hw []  en0 en1 en2 t0 t1 t2 vv h0 n0 (Nat.le_trans Z0 (Keep.refl h0 []).1) (O.keep (Keep.refl h0 []) all0) QK) hZ (hw _ (List.mem_of_getElem? (i := 39) rfl)) (hw _ (List.mem_of_getElem? (i := 3) rfl)) (by decide) (by decide)) (g := (mkF m 0 #[.val (.ref a0), .unset, .unset, .unset, .unset] [])) rfl (by rw [hml]; rfl) (argsL := []) (rest := []) (lenOf pd_5 rfl) rfl (by show 2 * 0 + _ ≤ _; exact Nat.le_of_eq rfl) (hb hby d7_0) (fun _ _ => ⟨rfl, eh0, (by decide : 0 + 1 ≤ _), (by decide : 0 + 3 ≤ _)⟩)
  dsimp only [Pt.U, Pt.locs, Pt.cells, Pt.slots] at X2 l2 y2 z2 st2 hQ2
  subst l2 y2 z2
  obtain ⟨h2, e2⟩ : ∃ z, T2.heap = z := ⟨_, rfl⟩
  rw [e2] at hQ2
  obtain ⟨w2, kv2, rfl, Nq2, Kq2, sd2, Vq2⟩ := hQ2
  have N2 := Fr.app N0 Nq2
  have K2 : Keep h0 h2 [] := (Keep.refl h0 []).trans Kq2 all0
  have QK3 := own_QK_ext (O.keep K2 all0).2 QK
  obtain ⟨Sv3, ⟨kv3, Vv3⟩, Ev3, Sa3_, Sl3_, Sh3_, ⟨va3a, ka3, Ee3a, Fl3a, S3a⟩, ⟨va3b, kb3_, Ee3b, Fl3b, S3b⟩, ⟨va3c, kc3_, Ee3c, Fl3c, S3c⟩, nt01, nt02, nt12⟩ := id QK3
  refine Rest.via (fun t k => st2 t k) ?_
  show Rest p.tables e below s _ _ _ (T2.setTop (mkF m 3 #[.val (.ref a0), .unset, .unset, .unset, .unset] [(.ref w2)]))
  refine Rest.via (fun t k => XS.astoreN X2.here hx rfl (hb hby d7_3) rfl rfl (l' := #[.val (.ref a0), .val (.ref w2), .unset, .unset, .unset]) rfl k) ?_
  show Rest p.tables e below s _ _ _ (T2.setTop (mkF m 4 #[.val (.ref a0), .val (.ref w2), .unset, .unset, .unset] []))
  refine Rest.via (fun t k => XS.aloadN X2.here hx rfl (hb hby d7_4) rfl rfl k) ?_
  show Rest p.tables e below s _ _ _ (T2.setTop (mkF m 5 #[.val (.ref a0), .val (.ref w2), .unset, .unset, .unset] [(.ref w2)]))
  obtain ⟨cl4, Ar4, -, S4, P4, -, -⟩ := id Vq2
  refine Rest.via (fun t k => X2.arraylength hx (by rw [e2]; exact Ar4.1) (State.isArrayOf_alike hZ.alike Ar4.2.1) (g := (mkF m 5 #[.val (.ref a0), .val (.ref w2), .unset, .unset, .unset] [(.ref w2)])) rfl rfl (hb hby d7_5) t k) ?_
  rw [len_of S4 P4]
  show Rest p.tables e below s _ _ _ (T2.setTop (mkF m 6 #[.val (.ref a0), .val (.ref w2), .unset, .unset, .unset] [(.int (3 : Int32))]))
  refine Rest.via (fun t k => XS.istoreN X2.here hx rfl (hb hby d7_6) rfl (l' := #[.val (.ref a0), .val (.ref w2), .val (.int (3 : Int32)), .unset, .unset]) rfl k) ?_
  show Rest p.tables e below s _ _ _ (T2.setTop (mkF m 7 #[.val (.ref a0), .val (.ref w2), .val (.int (3 : Int32)), .unset, .unset] []))
  refine Rest.via (fun t k => XS.iconst X2.here hx rfl (hb hby d7_7) k) ?_
  show Rest p.tables e below s _ _ _ (T2.setTop (mkF m 8 #[.val (.ref a0), .val (.ref w2), .val (.int (3 : Int32)), .unset, .unset] [(.int (0 : Int32))]))
  refine Rest.via (fun t k => XS.istoreN X2.here hx rfl (hb hby d7_8) rfl (l' := #[.val (.ref a0), .val (.ref w2), .val (.int (3 : Int32)), .val (.int (0 : Int32)), .unset]) rfl k) ?_
  show Rest p.tables e below s _ _ _ (T2.setTop (mkF m 9 #[.val (.ref a0), .val (.ref w2), .val (.int (3 : Int32)), .val (.int (0 : Int32)), .unset] []))
  refine Rest.via (fun t k => XS.iloadN X2.here hx rfl (hb hby d7_9) rfl k) ?_
  show Rest p.tables e below s _ _ _ (T2.setTop (mkF m 10 #[.val (.ref a0), .val (.ref w2), .val (.int (3 : Int32)), .val (.int (0 : Int32)), .unset] [(.int (0 : Int32))]))
  refine Rest.via (fun t k => XS.iloadN X2.here hx rfl (hb hby d7_10) rfl k) ?_
  show Rest p.tables e below s _ _ _ (T2.setTop (mkF m 11 #[.val (.ref a0), .val (.ref w2), .val (.int (3 : Int32)), .val (.int (0 : Int32)), .unset] [(.int (3 : Int32)), (.int (0 : Int32))]))
  refine Rest.via (fun t k => XS.icmpNo X2.here hx rfl (hb hby d7_11) rfl (tlt (by decide : (0 : Int32) < (3 : Int32))).2.1 k) ?_
  show Rest p.tables e below s _ _ _ (T2.setTop (mkF m 14 #[.val (.ref a0), .val (.ref w2), .val (.int (3 : Int32)), .val (.int (0 : Int32)), .unset] []))
  refine Rest.via (fun t k => XS.aloadN X2.here hx rfl (hb hby d7_14) rfl rfl k) ?_
  show Rest p.tables e below s _ _ _ (T2.setTop (mkF m 15 #[.val (.ref a0), .val (.ref w2), .val (.int (3 : Int32)), .val (.int (0 : Int32)), .unset] [(.ref w2)]))
  refine Rest.via (fun t k => XS.iloadN X2.here hx rfl (hb hby d7_15) rfl k) ?_
  show Rest p.tables e below s _ _ _ (T2.setTop (mkF m 16 #[.val (.ref a0), .val (.ref w2), .val (.int (3 : Int32)), .val (.int (0 : Int32)), .unset] [(.int (0 : Int32)), (.ref w2)]))
  obtain ⟨cl5, Ar5, qa5, Sa5, Pa5, Ha5, Ga5⟩ := id Vq2
  have hin5 := inb_of (j := (0 : Int32)) Sa5 ⟨by decide, by decide⟩
  have hat5 : cl5.slots[((0 : Int32)).toNatClampNeg]? = some (.ref en0) := Has.at Ha5 hin5 rfl
  refine Rest.via (fun t k => X2.aaload hx (j := (0 : Int32)) (v := (.ref en0)) (by rw [e2]; exact Ar5.1) (State.isArrayOf_alike hZ.alike Ar5.2.1) rfl Ar5.2.2 hin5 hat5 (g := (mkF m 16 #[.val (.ref a0), .val (.ref w2), .val (.int (3 : Int32)), .val (.int (0 : Int32)), .unset] [(.int (0 : Int32)), (.ref w2)])) rfl rfl (hb hby d7_16) t k) ?_
  show Rest p.tables e below s _ _ _ (T2.setTop (mkF m 17 #[.val (.ref a0), .val (.ref w2), .val (.int (3 : Int32)), .val (.int (0 : Int32)), .unset] [(.ref en0)]))
  refine Rest.via (fun t k => XS.astore X2.here hx rfl (hb hby d7_17) rfl rfl (l' := #[.val (.ref a0), .val (.ref w2), .val (.int (3 : Int32)), .val (.int (0 : Int32)), .val (.ref en0)]) rfl k) ?_
  show Rest p.tables e below s _ _ _ (T2.setTop (mkF m 19 #[.val (.ref a0), .val (.ref w2), .val (.int (3 : Int32)), .val (.int (0 : Int32)), .val (.ref en0)] []))
  refine Rest.via (fun t k => XS.aload X2.here hx rfl (hb hby d7_19) rfl rfl k) ?_
  show Rest p.tables e below s _ _ _ (T2.setTop (mkF m 21 #[.val (.ref a0), .val (.ref w2), .val (.int (3 : Int32)), .val (.int (0 : Int32)), .val (.ref en0)] [(.ref en0)]))
  obtain ⟨T6, X6, e6, st6⟩ := getF X2 hx hZ hown (host := "") (Or.inl (hw _ (List.mem_of_getElem? (i := 52) rfl))) Via.refl e2 Fl3a (g := (mkF m 21 #[.val (.ref a0), .val (.ref w2), .val (.int (3 : Int32)), .val (.int (0 : Int32)), .val (.ref en0)] [(.ref en0)])) rfl rfl (hb hby d7_21)
  refine Rest.via (fun t k => st6 t k) ?_
  show Rest p.tables e below s _ _ _ (T6.setTop (mkF m 24 #[.val (.ref a0), .val (.ref w2), .val (.int (3 : Int32)), .val (.int (0 : Int32)), .val (.ref en0)] [(.ref t0)]))
  refine Rest.via (fun t k => XS.aloadN X6.here hx rfl (hb hby d7_24) rfl rfl k) ?_
  show Rest p.tables e below s _ _ _ (T6.setTop (mkF m 25 #[.val (.ref a0), .val (.ref w2), .val (.int (3 : Int32)), .val (.int (0 : Int32)), .val (.ref en0)] [(.ref a0), (.ref t0)]))
  obtain ⟨cq7, kq7, q7a, q7b, q7c⟩ := isOf hZ e6 S3a.1
  obtain ⟨_, _, ⟨T7, L7, k7, n7⟩, -, X7, ⟨Lc7, hQ7, l7, y7, z7⟩, st7⟩ := X6.virtualBack hx (y := (⟨"java/lang/String", "equals", "(Ljava/lang/Object;)Z"⟩ : MethodName)) (z := (⟨"java/lang/String", "equals", "(Ljava/lang/Object;)Z"⟩ : MethodName)) hown (mvT hZ (hw _ (List.mem_of_getElem? (i := 54) rfl))) (mvT hZ (hw _ (List.mem_of_getElem? (i := 55) rfl))) (notFace_of_selects (args := #[]) (mvT hZ (hw _ (List.mem_of_getElem? (i := 57) rfl)))) (mvT hZ (hw _ (List.mem_of_getElem? (i := 57) rfl))) (mvT hZ (hw _ (List.mem_of_getElem? (i := 56) rfl))) (by decide) (backOf (W := 0) (rmSE5_5 l Z aw hw [] t0 a0 va3a ka3 va0 k0 ic (97 : Int32) (114 : Int32) (114 : Int32) (97 : Int32) (121 : Int32) (own_by (97 : Int32)) (own_by (114 : Int32)) (own_by (114 : Int32)) (own_by (97 : Int32)) (own_by (121 : Int32)) h2 n0 (Nat.le_trans Z0 K2.1) S3a (own_St_keep S0 Kq2 nin0 nin0) nt0a (O.keep K2 all0) CS) hZ (hw _ (List.mem_of_getElem? (i := 58) rfl)) (hw _ (List.mem_of_getElem? (i := 7) rfl)) (by decide) (by decide)) q7a q7c (g := (mkF m 25 #[.val (.ref a0), .val (.ref w2), .val (.int (3 : Int32)), .val (.int (0 : Int32)), .val (.ref en0)] [(.ref a0), (.ref t0)])) rfl (by rw [hml]; rfl) (Steps.refl _) (argsL := [(.ref a0)]) (rest := []) (lenOf pd_6 rfl) rfl (by show 2 * 0 + _ ≤ _; exact Nat.le_of_eq rfl) (hb hby d7_25) (fun _ _ => ⟨rfl, e6, (by decide : 1 + 0 ≤ _), (by decide : 3 + 0 ≤ _)⟩)
  dsimp only [Pt.U, Pt.locs, Pt.cells, Pt.slots] at X7 l7 y7 z7 st7 hQ7
  subst l7 y7 z7
  obtain ⟨rfl, Nq7, e7⟩ := hQ7
  have N7 := Fr.app N2 Nq7
  refine Rest.via (fun t k => st7.trans k) ?_
  show Rest p.tables e below s _ _ _ (T7.setTop (mkF m 28 #[.val (.ref a0), .val (.ref w2), .val (.int (3 : Int32)), .val (.int (0 : Int32)), .val (.ref en0)] [(.int (if ([(97 : Int32), (114 : Int32), (114 : Int32), (97 : Int32), (121 : Int32)] : List Int32) = [(own_by (97 : Int32)), (own_by (114 : Int32)), (own_by (114 : Int32)), (own_by (97 : Int32)), (own_by (121 : Int32))] then (1 : Int32) else 0))]))
  rw [(by decide : (if ([(97 : Int32), (114 : Int32), (114 : Int32), (97 : Int32), (121 : Int32)] : List Int32) = [(own_by (97 : Int32)), (own_by (114 : Int32)), (own_by (114 : Int32)), (own_by (97 : Int32)), (own_by (121 : Int32))] then (1 : Int32) else 0) = (1 : Int32))]
  show Rest p.tables e below s _ _ _ (T7.setTop (mkF m 28 #[.val (.ref a0), .val (.ref w2), .val (.int (3 : Int32)), .val (.int (0 : Int32)), .val (.ref en0)] [(.int (1 : Int32))]))
  refine Rest.via (fun t k => XS.ifNo X7.here hx rfl (hb hby d7_28) rfl ((if0 _ _).trans (feq (by decide : ¬ ((1 : Int32) = (0 : Int32)))).1) k) ?_
  show Rest p.tables e below s _ _ _ (T7.setTop (mkF m 31 #[.val (.ref a0), .val (.ref w2), .val (.int (3 : Int32)), .val (.int (0 : Int32)), .val (.ref en0)] []))
  refine Rest.via (fun t k => XS.aload X7.here hx rfl (hb hby d7_31) rfl rfl k) ?_
  show Rest p.tables e below s _ _ _ (T7.setTop (mkF m 33 #[.val (.ref a0), .val (.ref w2), .val (.int (3 : Int32)), .val (.int (0 : Int32)), .val (.ref en0)] [(.ref en0)]))
  refine Rest.ret X7 (v := some (.ref en0)) (fun h => by rw [Bd.returns] at h; cases h) hlk (fun fs hr => retOut X7 hx Bd.returns rfl (Or.inr (Or.inr (Or.inr (Or.inr ⟨rfl, rfl, rfl⟩)))) (hb hby d7_33) hr) ?_ (by decide) (by decide)
  rw [e7]
  exact ⟨rfl, N7, K2⟩
theorem ef_Ns0 (m : MethodId)  : entryFrame m #[(.ref t0)] 5 = mkF m 0 #[.val (.ref t0), .unset, .unset, .unset, .unset] [] := by first | (simp [entryFrame, mkF, argsToLocals, Value.category, maxLocals]; done) | rfl
def QNs0 (Z : State) (en0 : Addr) (en1 : Addr) (en2 : Addr) (t0 : Addr) (t1 : Addr) (t2 : Addr) (vv : Addr) (ic : Int32) (h0 : Heap) (n0 : Nat) (v : Option Value) (h : Heap) (L : List Loc) : Prop := v = some (.ref en0) ∧ Fr n0 L ∧ Keep h0 h []
set_option maxRecDepth 65536 in
set_option maxHeartbeats 40000000 in
theorem rmNs0 (l : Launch) (Z : State) (aw : Array Value) (hw : ∀ d ∈ tables_1, d.before aw Z = true) (ws : List Jvm.Cond) (en0 : Addr) (en1 : Addr) (en2 : Addr) (t0 : Addr) (t1 : Addr) (t2 : Addr) (vv : Addr) (ic : Int32) (h0 : Heap) (n0 : Nat) (Z0 : n0 ≤ h0.size) (O : Old Z n0 h0) (QK : own_QK Z Z.heap en0 en1 en2 t0 t1 t2 vv) (CS : own_CS Z ic) :
    MetFree l (⟨"sluicegate/cli/QueueKind", "named", "(Ljava/lang/String;)Lsluicegate/cli/QueueKind;"⟩ : MethodName) (head1 (Jvm.Cond.code (⟨"sluicegate/cli/QueueKind", "named", "(Ljava/lang/String;)Lsluicegate/cli/QueueKind;"⟩ : MethodName) prog_18_method_6_code 5 (some (.object "sluicegate/cli/QueueKind")) :: ws) ({ frames := 2, cells := 1, slots := 3, locals := 25 } : Room)) (fun a U => a = #[(.ref t0)] ∧ Z.Warmed39 U.vm ∧ U.heap = h0) (fun _ _ _ _ _ => True) (fun _ U o U' => ∃ v L, o = .returned v ∧ QNs0 Z en0 en1 en2 t0 t1 t2 vv ic h0 n0 v U'.heap L ∧ FrameEnd U o U' L ({ frames := 2, cells := 1, slots := 3, locals := 25 } : Room).cells ({ frames := 2, cells := 1, slots := 3, locals := 25 } : Room).slots) := by
  refine MetFree.of_bodySF (plainFor_of_name pn_3) hisR ?_
  intro p e s m args below meth c s₁ Bd hml0 hP hK
  obtain ⟨rfl, hZ, hh⟩ := hP
  have hx := Bd.exec
  have hby := Bd.bytes
  have hml : c.maxLocals = 5 := hml0
  have hown : s.vm.findClass "sluicegate/cli/QueueKind" = some m.cls := findClass_of_methodNamed Bd.named
  have hnm := (name_of_methodNamed Bd.named Bd.method).1
  have hlk : meth.locks = false := BodyLoose.notSynchronized Bd
  have X0 : Stand p l e ({ frames := 2, cells := 1, slots := 3, locals := 25 } : Room) s m #[(.ref t0)] below meth c s₁ [] 0 0 := Stand.of_body Bd
  have eh0 : s₁.heap = h0 := by rw [← hh, Bd.state]; rfl
  have N0 := Fr.nil n0
  show Rest p.tables e below s (QNs0 Z en0 en1 en2 t0 t1 t2 vv ic h0 n0) _ _ (s₁.setTop (entryFrame m #[(.ref t0)] 5))
  refine Rest.via (fun t k => castTop (ef_Ns0 m ) k) ?_
  have QK1 := own_QK_ext (O.keep (Keep.refl h0 []) all0).2 QK
  obtain ⟨Sv1, ⟨kv1, Vv1⟩, Ev1, Sa1_, Sl1_, Sh1_, ⟨va1a, ka1, Ee1a, Fl1a, S1a⟩, ⟨va1b, kb1_, Ee1b, Fl1b, S1b⟩, ⟨va1c, kc1_, Ee1c, Fl1c, S1c⟩, nt01, nt02, nt12⟩ := id QK1
  show Rest p.tables e below s _ _ _ (s₁.setTop (mkF m 0 #[.val (.ref t0), .unset, .unset, .unset, .unset] []))
  obtain ⟨_, _, ⟨T2, L2, k2, n2⟩, -, X2, ⟨Lc2, hQ2, l2, y2, z2⟩, st2⟩ := Jvm.LawKit.callS X0 hx (y := (⟨"sluicegate/cli/QueueKind", "values", "()[Lsluicegate/cli/QueueKind;"⟩ : MethodName)) hown (mvT hZ (hw _ (List.mem_of_getElem? (i := 37) rfl))) (mvT hZ (hw _ (List.mem_of_getElem? (i := 38) rfl))) (mvT hZ (hw _ (List.mem_of_getElem? (i := 3) rfl))) (mvT hZ (hw _ (List.mem_of_getElem? (i := 39) rfl))) (by decide) (backOf (W := 0) (rmVA l Z aw hw []  en0 en1 en2 t0 t1 t2 vv h0 n0 (Nat.le_trans Z0 (Keep.refl h0 []).1) (O.keep (Keep.refl h0 []) all0) QK) hZ (hw _ (List.mem_of_getElem? (i := 39) rfl)) (hw _ (List.mem_of_getElem? (i := 3) rfl)) (by decide) (by decide)) (g := (mkF m 0 #[.val (.ref t0), .unset, .unset, .unset, .unset] [])) rfl (by rw [hml]; rfl) (argsL := []) (rest := []) (lenOf pd_5 rfl) rfl (by show 2 * 0 + _ ≤ _; exact Nat.le_of_eq rfl) (hb hby d7_0) (fun _ _ => ⟨rfl, eh0, (by decide : 0 + 1 ≤ _), (by decide : 0 + 3 ≤ _)⟩)
  dsimp only [Pt.U, Pt.locs, Pt.cells, Pt.slots] at X2 l2 y2 z2 st2 hQ2
  subst l2 y2 z2
  obtain ⟨h2, e2⟩ : ∃ z, T2.heap = z := ⟨_, rfl⟩
  rw [e2] at hQ2
  obtain ⟨w2, kv2, rfl, Nq2, Kq2, sd2, Vq2⟩ := hQ2
  have N2 := Fr.app N0 Nq2
  have K2 : Keep h0 h2 [] := (Keep.refl h0 []).trans Kq2 all0
  have QK3 := own_QK_ext (O.keep K2 all0).2 QK
  obtain ⟨Sv3, ⟨kv3, Vv3⟩, Ev3, Sa3_, Sl3_, Sh3_, ⟨va3a, ka3, Ee3a, Fl3a, S3a⟩, ⟨va3b, kb3_, Ee3b, Fl3b, S3b⟩, ⟨va3c, kc3_, Ee3c, Fl3c, S3c⟩, nt01, nt02, nt12⟩ := id QK3
  refine Rest.via (fun t k => st2 t k) ?_
  show Rest p.tables e below s _ _ _ (T2.setTop (mkF m 3 #[.val (.ref t0), .unset, .unset, .unset, .unset] [(.ref w2)]))
  refine Rest.via (fun t k => XS.astoreN X2.here hx rfl (hb hby d7_3) rfl rfl (l' := #[.val (.ref t0), .val (.ref w2), .unset, .unset, .unset]) rfl k) ?_
  show Rest p.tables e below s _ _ _ (T2.setTop (mkF m 4 #[.val (.ref t0), .val (.ref w2), .unset, .unset, .unset] []))
  refine Rest.via (fun t k => XS.aloadN X2.here hx rfl (hb hby d7_4) rfl rfl k) ?_
  show Rest p.tables e below s _ _ _ (T2.setTop (mkF m 5 #[.val (.ref t0), .val (.ref w2), .unset, .unset, .unset] [(.ref w2)]))
  obtain ⟨cl4, Ar4, -, S4, P4, -, -⟩ := id Vq2
  refine Rest.via (fun t k => X2.arraylength hx (by rw [e2]; exact Ar4.1) (State.isArrayOf_alike hZ.alike Ar4.2.1) (g := (mkF m 5 #[.val (.ref t0), .val (.ref w2), .unset, .unset, .unset] [(.ref w2)])) rfl rfl (hb hby d7_5) t k) ?_
  rw [len_of S4 P4]
  show Rest p.tables e below s _ _ _ (T2.setTop (mkF m 6 #[.val (.ref t0), .val (.ref w2), .unset, .unset, .unset] [(.int (3 : Int32))]))
  refine Rest.via (fun t k => XS.istoreN X2.here hx rfl (hb hby d7_6) rfl (l' := #[.val (.ref t0), .val (.ref w2), .val (.int (3 : Int32)), .unset, .unset]) rfl k) ?_
  show Rest p.tables e below s _ _ _ (T2.setTop (mkF m 7 #[.val (.ref t0), .val (.ref w2), .val (.int (3 : Int32)), .unset, .unset] []))
  refine Rest.via (fun t k => XS.iconst X2.here hx rfl (hb hby d7_7) k) ?_
  show Rest p.tables e below s _ _ _ (T2.setTop (mkF m 8 #[.val (.ref t0), .val (.ref w2), .val (.int (3 : Int32)), .unset, .unset] [(.int (0 : Int32))]))
  refine Rest.via (fun t k => XS.istoreN X2.here hx rfl (hb hby d7_8) rfl (l' := #[.val (.ref t0), .val (.ref w2), .val (.int (3 : Int32)), .val (.int (0 : Int32)), .unset]) rfl k) ?_
  show Rest p.tables e below s _ _ _ (T2.setTop (mkF m 9 #[.val (.ref t0), .val (.ref w2), .val (.int (3 : Int32)), .val (.int (0 : Int32)), .unset] []))
  refine Rest.via (fun t k => XS.iloadN X2.here hx rfl (hb hby d7_9) rfl k) ?_
  show Rest p.tables e below s _ _ _ (T2.setTop (mkF m 10 #[.val (.ref t0), .val (.ref w2), .val (.int (3 : Int32)), .val (.int (0 : Int32)), .unset] [(.int (0 : Int32))]))
  refine Rest.via (fun t k => XS.iloadN X2.here hx rfl (hb hby d7_10) rfl k) ?_
  show Rest p.tables e below s _ _ _ (T2.setTop (mkF m 11 #[.val (.ref t0), .val (.ref w2), .val (.int (3 : Int32)), .val (.int (0 : Int32)), .unset] [(.int (3 : Int32)), (.int (0 : Int32))]))
  refine Rest.via (fun t k => XS.icmpNo X2.here hx rfl (hb hby d7_11) rfl (tlt (by decide : (0 : Int32) < (3 : Int32))).2.1 k) ?_
  show Rest p.tables e below s _ _ _ (T2.setTop (mkF m 14 #[.val (.ref t0), .val (.ref w2), .val (.int (3 : Int32)), .val (.int (0 : Int32)), .unset] []))
  refine Rest.via (fun t k => XS.aloadN X2.here hx rfl (hb hby d7_14) rfl rfl k) ?_
  show Rest p.tables e below s _ _ _ (T2.setTop (mkF m 15 #[.val (.ref t0), .val (.ref w2), .val (.int (3 : Int32)), .val (.int (0 : Int32)), .unset] [(.ref w2)]))
  refine Rest.via (fun t k => XS.iloadN X2.here hx rfl (hb hby d7_15) rfl k) ?_
  show Rest p.tables e below s _ _ _ (T2.setTop (mkF m 16 #[.val (.ref t0), .val (.ref w2), .val (.int (3 : Int32)), .val (.int (0 : Int32)), .unset] [(.int (0 : Int32)), (.ref w2)]))
  obtain ⟨cl5, Ar5, qa5, Sa5, Pa5, Ha5, Ga5⟩ := id Vq2
  have hin5 := inb_of (j := (0 : Int32)) Sa5 ⟨by decide, by decide⟩
  have hat5 : cl5.slots[((0 : Int32)).toNatClampNeg]? = some (.ref en0) := Has.at Ha5 hin5 rfl
  refine Rest.via (fun t k => X2.aaload hx (j := (0 : Int32)) (v := (.ref en0)) (by rw [e2]; exact Ar5.1) (State.isArrayOf_alike hZ.alike Ar5.2.1) rfl Ar5.2.2 hin5 hat5 (g := (mkF m 16 #[.val (.ref t0), .val (.ref w2), .val (.int (3 : Int32)), .val (.int (0 : Int32)), .unset] [(.int (0 : Int32)), (.ref w2)])) rfl rfl (hb hby d7_16) t k) ?_
  show Rest p.tables e below s _ _ _ (T2.setTop (mkF m 17 #[.val (.ref t0), .val (.ref w2), .val (.int (3 : Int32)), .val (.int (0 : Int32)), .unset] [(.ref en0)]))
  refine Rest.via (fun t k => XS.astore X2.here hx rfl (hb hby d7_17) rfl rfl (l' := #[.val (.ref t0), .val (.ref w2), .val (.int (3 : Int32)), .val (.int (0 : Int32)), .val (.ref en0)]) rfl k) ?_
  show Rest p.tables e below s _ _ _ (T2.setTop (mkF m 19 #[.val (.ref t0), .val (.ref w2), .val (.int (3 : Int32)), .val (.int (0 : Int32)), .val (.ref en0)] []))
  refine Rest.via (fun t k => XS.aload X2.here hx rfl (hb hby d7_19) rfl rfl k) ?_
  show Rest p.tables e below s _ _ _ (T2.setTop (mkF m 21 #[.val (.ref t0), .val (.ref w2), .val (.int (3 : Int32)), .val (.int (0 : Int32)), .val (.ref en0)] [(.ref en0)]))
  obtain ⟨T6, X6, e6, st6⟩ := getF X2 hx hZ hown (host := "") (Or.inl (hw _ (List.mem_of_getElem? (i := 52) rfl))) Via.refl e2 Fl3a (g := (mkF m 21 #[.val (.ref t0), .val (.ref w2), .val (.int (3 : Int32)), .val (.int (0 : Int32)), .val (.ref en0)] [(.ref en0)])) rfl rfl (hb hby d7_21)
  refine Rest.via (fun t k => st6 t k) ?_
  show Rest p.tables e below s _ _ _ (T6.setTop (mkF m 24 #[.val (.ref t0), .val (.ref w2), .val (.int (3 : Int32)), .val (.int (0 : Int32)), .val (.ref en0)] [(.ref t0)]))
  refine Rest.via (fun t k => XS.aloadN X6.here hx rfl (hb hby d7_24) rfl rfl k) ?_
  show Rest p.tables e below s _ _ _ (T6.setTop (mkF m 25 #[.val (.ref t0), .val (.ref w2), .val (.int (3 : Int32)), .val (.int (0 : Int32)), .val (.ref en0)] [(.ref t0), (.ref t0)]))
  obtain ⟨cq7, kq7, q7a, q7b, q7c⟩ := isOf hZ e6 S3a.1
  obtain ⟨_, _, ⟨T7, L7, k7, n7⟩, -, X7, ⟨Lc7, hQ7, l7, y7, z7⟩, st7⟩ := X6.virtualBack hx (y := (⟨"java/lang/String", "equals", "(Ljava/lang/Object;)Z"⟩ : MethodName)) (z := (⟨"java/lang/String", "equals", "(Ljava/lang/Object;)Z"⟩ : MethodName)) hown (mvT hZ (hw _ (List.mem_of_getElem? (i := 54) rfl))) (mvT hZ (hw _ (List.mem_of_getElem? (i := 55) rfl))) (notFace_of_selects (args := #[]) (mvT hZ (hw _ (List.mem_of_getElem? (i := 57) rfl)))) (mvT hZ (hw _ (List.mem_of_getElem? (i := 57) rfl))) (mvT hZ (hw _ (List.mem_of_getElem? (i := 56) rfl))) (by decide) (backOf (W := 0) (rmSEs l Z aw hw [] t0  h2 n0 (Nat.le_trans Z0 K2.1) ) hZ (hw _ (List.mem_of_getElem? (i := 58) rfl)) (hw _ (List.mem_of_getElem? (i := 7) rfl)) (by decide) (by decide)) q7a q7c (g := (mkF m 25 #[.val (.ref t0), .val (.ref w2), .val (.int (3 : Int32)), .val (.int (0 : Int32)), .val (.ref en0)] [(.ref t0), (.ref t0)])) rfl (by rw [hml]; rfl) (Steps.refl _) (argsL := [(.ref t0)]) (rest := []) (lenOf pd_6 rfl) rfl (by show 2 * 0 + _ ≤ _; exact Nat.le_of_eq rfl) (hb hby d7_25) (fun _ _ => ⟨rfl, e6, (by decide : 1 + 0 ≤ _), (by decide : 3 + 0 ≤ _)⟩)
  dsimp only [Pt.U, Pt.locs, Pt.cells, Pt.slots] at X7 l7 y7 z7 st7 hQ7
  subst l7 y7 z7
  obtain ⟨rfl, Nq7, e7⟩ := hQ7
  have N7 := Fr.app N2 Nq7
  refine Rest.via (fun t k => st7.trans k) ?_
  show Rest p.tables e below s _ _ _ (T7.setTop (mkF m 28 #[.val (.ref t0), .val (.ref w2), .val (.int (3 : Int32)), .val (.int (0 : Int32)), .val (.ref en0)] [(.int (1 : Int32))]))
  refine Rest.via (fun t k => XS.ifNo X7.here hx rfl (hb hby d7_28) rfl ((if0 _ _).trans (feq (by decide : ¬ ((1 : Int32) = (0 : Int32)))).1) k) ?_
  show Rest p.tables e below s _ _ _ (T7.setTop (mkF m 31 #[.val (.ref t0), .val (.ref w2), .val (.int (3 : Int32)), .val (.int (0 : Int32)), .val (.ref en0)] []))
  refine Rest.via (fun t k => XS.aload X7.here hx rfl (hb hby d7_31) rfl rfl k) ?_
  show Rest p.tables e below s _ _ _ (T7.setTop (mkF m 33 #[.val (.ref t0), .val (.ref w2), .val (.int (3 : Int32)), .val (.int (0 : Int32)), .val (.ref en0)] [(.ref en0)]))
  refine Rest.ret X7 (v := some (.ref en0)) (fun h => by rw [Bd.returns] at h; cases h) hlk (fun fs hr => retOut X7 hx Bd.returns rfl (Or.inr (Or.inr (Or.inr (Or.inr ⟨rfl, rfl, rfl⟩)))) (hb hby d7_33) hr) ?_ (by decide) (by decide)
  rw [e7]
  exact ⟨rfl, N7, K2⟩
theorem d7_34 : decode prog_18_method_6_code 34 = .ok (.iinc 3 1, 3) := by decide +kernel
theorem d7_37 : decode prog_18_method_6_code 37 = .ok (.goto (-28), 3) := by decide +kernel
theorem ef_Nf1 (m : MethodId) (a0 : Addr) : entryFrame m #[(.ref a0)] 5 = mkF m 0 #[.val (.ref a0), .unset, .unset, .unset, .unset] [] := by first | (simp [entryFrame, mkF, argsToLocals, Value.category, maxLocals]; done) | rfl
def QNf1 (Z : State) (a0 : Addr) (en0 : Addr) (en1 : Addr) (en2 : Addr) (t0 : Addr) (t1 : Addr) (t2 : Addr) (vv : Addr) (ic : Int32) (va0 : Addr) (k0 : ClassId) (h0 : Heap) (n0 : Nat) (v : Option Value) (h : Heap) (L : List Loc) : Prop := v = some (.ref en1) ∧ Fr n0 L ∧ Keep h0 h []
set_option maxRecDepth 65536 in
set_option maxHeartbeats 40000000 in
theorem rmNf1 (l : Launch) (Z : State) (aw : Array Value) (hw : ∀ d ∈ tables_1, d.before aw Z = true) (ws : List Jvm.Cond) (a0 : Addr) (en0 : Addr) (en1 : Addr) (en2 : Addr) (t0 : Addr) (t1 : Addr) (t2 : Addr) (vv : Addr) (ic : Int32) (va0 : Addr) (k0 : ClassId) (h0 : Heap) (n0 : Nat) (Z0 : n0 ≤ h0.size) (O : Old Z n0 h0) (QK : own_QK Z Z.heap en0 en1 en2 t0 t1 t2 vv) (CS : own_CS Z ic) (S0 : own_St Z h0 a0 va0 k0 (6 : Int32) [(.int (own_by (108 : Int32))), (.int (own_by (105 : Int32))), (.int (own_by (110 : Int32))), (.int (own_by (107 : Int32))), (.int (own_by (101 : Int32))), (.int (own_by (100 : Int32)))]) (nt0a : t0 ≠ a0) (nt1a : t1 ≠ a0) (nt2a : t2 ≠ a0) :
    MetFree l (⟨"sluicegate/cli/QueueKind", "named", "(Ljava/lang/String;)Lsluicegate/cli/QueueKind;"⟩ : MethodName) (head1 (Jvm.Cond.code (⟨"sluicegate/cli/QueueKind", "named", "(Ljava/lang/String;)Lsluicegate/cli/QueueKind;"⟩ : MethodName) prog_18_method_6_code 5 (some (.object "sluicegate/cli/QueueKind")) :: ws) ({ frames := 2, cells := 1, slots := 3, locals := 28 } : Room)) (fun a U => a = #[(.ref a0)] ∧ Z.Warmed39 U.vm ∧ U.heap = h0) (fun _ _ _ _ _ => True) (fun _ U o U' => ∃ v L, o = .returned v ∧ QNf1 Z a0 en0 en1 en2 t0 t1 t2 vv ic va0 k0 h0 n0 v U'.heap L ∧ FrameEnd U o U' L ({ frames := 2, cells := 1, slots := 3, locals := 28 } : Room).cells ({ frames := 2, cells := 1, slots := 3, locals := 28 } : Room).slots) := by
  refine MetFree.of_bodySF (plainFor_of_name pn_3) hisR ?_
  intro p e s m args below meth c s₁ Bd hml0 hP hK
  obtain ⟨rfl, hZ, hh⟩ := hP
  have hx := Bd.exec
  have hby := Bd.bytes
  have hml : c.maxLocals = 5 := hml0
  have hown : s.vm.findClass "sluicegate/cli/QueueKind" = some m.cls := findClass_of_methodNamed Bd.named
  have hnm := (name_of_methodNamed Bd.named Bd.method).1
  have hlk : meth.locks = false := BodyLoose.notSynchronized Bd
  have X0 : Stand p l e ({ frames := 2, cells := 1, slots := 3, locals := 28 } : Room) s m #[(.ref a0)] below meth c s₁ [] 0 0 := Stand.of_body Bd
  have eh0 : s₁.heap = h0 := by rw [← hh, Bd.state]; rfl
  have N0 := Fr.nil n0
  show Rest p.tables e below s (QNf1 Z a0 en0 en1 en2 t0 t1 t2 vv ic va0 k0 h0 n0) _ _ (s₁.setTop (entryFrame m #[(.ref a0)] 5))
  refine Rest.via (fun t k => castTop (ef_Nf1 m a0) k) ?_
  have QK1 := own_QK_ext (O.keep (Keep.refl h0 []) all0).2 QK
  obtain ⟨Sv1, ⟨kv1, Vv1⟩, Ev1, Sa1_, Sl1_, Sh1_, ⟨va1a, ka1, Ee1a, Fl1a, S1a⟩, ⟨va1b, kb1_, Ee1b, Fl1b, S1b⟩, ⟨va1c, kc1_, Ee1c, Fl1c, S1c⟩, nt01, nt02, nt12⟩ := id QK1
  show Rest p.tables e below s _ _ _ (s₁.setTop (mkF m 0 #[.val (.ref a0), .unset, .unset, .unset, .unset] []))
  obtain ⟨_, _, ⟨T2, L2, k2, n2⟩, -, X2, ⟨Lc2, hQ2, l2, y2, z2⟩, st2⟩ := Jvm.LawKit.callS X0 hx (y := (⟨"sluicegate/cli/QueueKind", "values", "()[Lsluicegate/cli/QueueKind;"⟩ : MethodName)) hown (mvT hZ (hw _ (List.mem_of_getElem? (i := 37) rfl))) (mvT hZ (hw _ (List.mem_of_getElem? (i := 38) rfl))) (mvT hZ (hw _ (List.mem_of_getElem? (i := 3) rfl))) (mvT hZ (hw _ (List.mem_of_getElem? (i := 39) rfl))) (by decide) (backOf (W := 0) (rmVA l Z aw hw []  en0 en1 en2 t0 t1 t2 vv h0 n0 (Nat.le_trans Z0 (Keep.refl h0 []).1) (O.keep (Keep.refl h0 []) all0) QK) hZ (hw _ (List.mem_of_getElem? (i := 39) rfl)) (hw _ (List.mem_of_getElem? (i := 3) rfl)) (by decide) (by decide)) (g := (mkF m 0 #[.val (.ref a0), .unset, .unset, .unset, .unset] [])) rfl (by rw [hml]; rfl) (argsL := []) (rest := []) (lenOf pd_5 rfl) rfl (by show 2 * 0 + _ ≤ _; exact Nat.le_of_eq rfl) (hb hby d7_0) (fun _ _ => ⟨rfl, eh0, (by decide : 0 + 1 ≤ _), (by decide : 0 + 3 ≤ _)⟩)
  dsimp only [Pt.U, Pt.locs, Pt.cells, Pt.slots] at X2 l2 y2 z2 st2 hQ2
  subst l2 y2 z2
  obtain ⟨h2, e2⟩ : ∃ z, T2.heap = z := ⟨_, rfl⟩
  rw [e2] at hQ2
  obtain ⟨w2, kv2, rfl, Nq2, Kq2, sd2, Vq2⟩ := hQ2
  have N2 := Fr.app N0 Nq2
  have K2 : Keep h0 h2 [] := (Keep.refl h0 []).trans Kq2 all0
  have QK3 := own_QK_ext (O.keep K2 all0).2 QK
  obtain ⟨Sv3, ⟨kv3, Vv3⟩, Ev3, Sa3_, Sl3_, Sh3_, ⟨va3a, ka3, Ee3a, Fl3a, S3a⟩, ⟨va3b, kb3_, Ee3b, Fl3b, S3b⟩, ⟨va3c, kc3_, Ee3c, Fl3c, S3c⟩, nt01, nt02, nt12⟩ := id QK3
  refine Rest.via (fun t k => st2 t k) ?_
  show Rest p.tables e below s _ _ _ (T2.setTop (mkF m 3 #[.val (.ref a0), .unset, .unset, .unset, .unset] [(.ref w2)]))
  refine Rest.via (fun t k => XS.astoreN X2.here hx rfl (hb hby d7_3) rfl rfl (l' := #[.val (.ref a0), .val (.ref w2), .unset, .unset, .unset]) rfl k) ?_
  show Rest p.tables e below s _ _ _ (T2.setTop (mkF m 4 #[.val (.ref a0), .val (.ref w2), .unset, .unset, .unset] []))
  refine Rest.via (fun t k => XS.aloadN X2.here hx rfl (hb hby d7_4) rfl rfl k) ?_
  show Rest p.tables e below s _ _ _ (T2.setTop (mkF m 5 #[.val (.ref a0), .val (.ref w2), .unset, .unset, .unset] [(.ref w2)]))
  obtain ⟨cl4, Ar4, -, S4, P4, -, -⟩ := id Vq2
  refine Rest.via (fun t k => X2.arraylength hx (by rw [e2]; exact Ar4.1) (State.isArrayOf_alike hZ.alike Ar4.2.1) (g := (mkF m 5 #[.val (.ref a0), .val (.ref w2), .unset, .unset, .unset] [(.ref w2)])) rfl rfl (hb hby d7_5) t k) ?_
  rw [len_of S4 P4]
  show Rest p.tables e below s _ _ _ (T2.setTop (mkF m 6 #[.val (.ref a0), .val (.ref w2), .unset, .unset, .unset] [(.int (3 : Int32))]))
  refine Rest.via (fun t k => XS.istoreN X2.here hx rfl (hb hby d7_6) rfl (l' := #[.val (.ref a0), .val (.ref w2), .val (.int (3 : Int32)), .unset, .unset]) rfl k) ?_
  show Rest p.tables e below s _ _ _ (T2.setTop (mkF m 7 #[.val (.ref a0), .val (.ref w2), .val (.int (3 : Int32)), .unset, .unset] []))
  refine Rest.via (fun t k => XS.iconst X2.here hx rfl (hb hby d7_7) k) ?_
  show Rest p.tables e below s _ _ _ (T2.setTop (mkF m 8 #[.val (.ref a0), .val (.ref w2), .val (.int (3 : Int32)), .unset, .unset] [(.int (0 : Int32))]))
  refine Rest.via (fun t k => XS.istoreN X2.here hx rfl (hb hby d7_8) rfl (l' := #[.val (.ref a0), .val (.ref w2), .val (.int (3 : Int32)), .val (.int (0 : Int32)), .unset]) rfl k) ?_
  show Rest p.tables e below s _ _ _ (T2.setTop (mkF m 9 #[.val (.ref a0), .val (.ref w2), .val (.int (3 : Int32)), .val (.int (0 : Int32)), .unset] []))
  refine Rest.via (fun t k => XS.iloadN X2.here hx rfl (hb hby d7_9) rfl k) ?_
  show Rest p.tables e below s _ _ _ (T2.setTop (mkF m 10 #[.val (.ref a0), .val (.ref w2), .val (.int (3 : Int32)), .val (.int (0 : Int32)), .unset] [(.int (0 : Int32))]))
  refine Rest.via (fun t k => XS.iloadN X2.here hx rfl (hb hby d7_10) rfl k) ?_
  show Rest p.tables e below s _ _ _ (T2.setTop (mkF m 11 #[.val (.ref a0), .val (.ref w2), .val (.int (3 : Int32)), .val (.int (0 : Int32)), .unset] [(.int (3 : Int32)), (.int (0 : Int32))]))
  refine Rest.via (fun t k => XS.icmpNo X2.here hx rfl (hb hby d7_11) rfl (tlt (by decide : (0 : Int32) < (3 : Int32))).2.1 k) ?_
  show Rest p.tables e below s _ _ _ (T2.setTop (mkF m 14 #[.val (.ref a0), .val (.ref w2), .val (.int (3 : Int32)), .val (.int (0 : Int32)), .unset] []))
  refine Rest.via (fun t k => XS.aloadN X2.here hx rfl (hb hby d7_14) rfl rfl k) ?_
  show Rest p.tables e below s _ _ _ (T2.setTop (mkF m 15 #[.val (.ref a0), .val (.ref w2), .val (.int (3 : Int32)), .val (.int (0 : Int32)), .unset] [(.ref w2)]))
  refine Rest.via (fun t k => XS.iloadN X2.here hx rfl (hb hby d7_15) rfl k) ?_
  show Rest p.tables e below s _ _ _ (T2.setTop (mkF m 16 #[.val (.ref a0), .val (.ref w2), .val (.int (3 : Int32)), .val (.int (0 : Int32)), .unset] [(.int (0 : Int32)), (.ref w2)]))
  obtain ⟨cl5, Ar5, qa5, Sa5, Pa5, Ha5, Ga5⟩ := id Vq2
  have hin5 := inb_of (j := (0 : Int32)) Sa5 ⟨by decide, by decide⟩
  have hat5 : cl5.slots[((0 : Int32)).toNatClampNeg]? = some (.ref en0) := Has.at Ha5 hin5 rfl
  refine Rest.via (fun t k => X2.aaload hx (j := (0 : Int32)) (v := (.ref en0)) (by rw [e2]; exact Ar5.1) (State.isArrayOf_alike hZ.alike Ar5.2.1) rfl Ar5.2.2 hin5 hat5 (g := (mkF m 16 #[.val (.ref a0), .val (.ref w2), .val (.int (3 : Int32)), .val (.int (0 : Int32)), .unset] [(.int (0 : Int32)), (.ref w2)])) rfl rfl (hb hby d7_16) t k) ?_
  show Rest p.tables e below s _ _ _ (T2.setTop (mkF m 17 #[.val (.ref a0), .val (.ref w2), .val (.int (3 : Int32)), .val (.int (0 : Int32)), .unset] [(.ref en0)]))
  refine Rest.via (fun t k => XS.astore X2.here hx rfl (hb hby d7_17) rfl rfl (l' := #[.val (.ref a0), .val (.ref w2), .val (.int (3 : Int32)), .val (.int (0 : Int32)), .val (.ref en0)]) rfl k) ?_
  show Rest p.tables e below s _ _ _ (T2.setTop (mkF m 19 #[.val (.ref a0), .val (.ref w2), .val (.int (3 : Int32)), .val (.int (0 : Int32)), .val (.ref en0)] []))
  refine Rest.via (fun t k => XS.aload X2.here hx rfl (hb hby d7_19) rfl rfl k) ?_
  show Rest p.tables e below s _ _ _ (T2.setTop (mkF m 21 #[.val (.ref a0), .val (.ref w2), .val (.int (3 : Int32)), .val (.int (0 : Int32)), .val (.ref en0)] [(.ref en0)]))
  obtain ⟨T6, X6, e6, st6⟩ := getF X2 hx hZ hown (host := "") (Or.inl (hw _ (List.mem_of_getElem? (i := 52) rfl))) Via.refl e2 Fl3a (g := (mkF m 21 #[.val (.ref a0), .val (.ref w2), .val (.int (3 : Int32)), .val (.int (0 : Int32)), .val (.ref en0)] [(.ref en0)])) rfl rfl (hb hby d7_21)
  refine Rest.via (fun t k => st6 t k) ?_
  show Rest p.tables e below s _ _ _ (T6.setTop (mkF m 24 #[.val (.ref a0), .val (.ref w2), .val (.int (3 : Int32)), .val (.int (0 : Int32)), .val (.ref en0)] [(.ref t0)]))
  refine Rest.via (fun t k => XS.aloadN X6.here hx rfl (hb hby d7_24) rfl rfl k) ?_
  show Rest p.tables e below s _ _ _ (T6.setTop (mkF m 25 #[.val (.ref a0), .val (.ref w2), .val (.int (3 : Int32)), .val (.int (0 : Int32)), .val (.ref en0)] [(.ref a0), (.ref t0)]))
  obtain ⟨cq7, kq7, q7a, q7b, q7c⟩ := isOf hZ e6 S3a.1
  obtain ⟨_, _, ⟨T7, L7, k7, n7⟩, -, X7, ⟨Lc7, hQ7, l7, y7, z7⟩, st7⟩ := X6.virtualBack hx (y := (⟨"java/lang/String", "equals", "(Ljava/lang/Object;)Z"⟩ : MethodName)) (z := (⟨"java/lang/String", "equals", "(Ljava/lang/Object;)Z"⟩ : MethodName)) hown (mvT hZ (hw _ (List.mem_of_getElem? (i := 54) rfl))) (mvT hZ (hw _ (List.mem_of_getElem? (i := 55) rfl))) (notFace_of_selects (args := #[]) (mvT hZ (hw _ (List.mem_of_getElem? (i := 57) rfl)))) (mvT hZ (hw _ (List.mem_of_getElem? (i := 57) rfl))) (mvT hZ (hw _ (List.mem_of_getElem? (i := 56) rfl))) (by decide) (backOf (W := 0) (rmSE5_6 l Z aw hw [] t0 a0 va3a ka3 va0 k0 ic (97 : Int32) (114 : Int32) (114 : Int32) (97 : Int32) (121 : Int32) (own_by (108 : Int32)) (own_by (105 : Int32)) (own_by (110 : Int32)) (own_by (107 : Int32)) (own_by (101 : Int32)) (own_by (100 : Int32)) h2 n0 (Nat.le_trans Z0 K2.1) S3a (own_St_keep S0 Kq2 nin0 nin0) nt0a (O.keep K2 all0) CS) hZ (hw _ (List.mem_of_getElem? (i := 58) rfl)) (hw _ (List.mem_of_getElem? (i := 7) rfl)) (by decide) (by decide)) q7a q7c (g := (mkF m 25 #[.val (.ref a0), .val (.ref w2), .val (.int (3 : Int32)), .val (.int (0 : Int32)), .val (.ref en0)] [(.ref a0), (.ref t0)])) rfl (by rw [hml]; rfl) (Steps.refl _) (argsL := [(.ref a0)]) (rest := []) (lenOf pd_6 rfl) rfl (by show 2 * 0 + _ ≤ _; exact Nat.le_of_eq rfl) (hb hby d7_25) (fun _ _ => ⟨rfl, e6, (by decide : 1 + 0 ≤ _), (by decide : 3 + 0 ≤ _)⟩)
  dsimp only [Pt.U, Pt.locs, Pt.cells, Pt.slots] at X7 l7 y7 z7 st7 hQ7
  subst l7 y7 z7
  obtain ⟨rfl, Nq7, e7⟩ := hQ7
  have N7 := Fr.app N2 Nq7
  refine Rest.via (fun t k => st7.trans k) ?_
  show Rest p.tables e below s _ _ _ (T7.setTop (mkF m 28 #[.val (.ref a0), .val (.ref w2), .val (.int (3 : Int32)), .val (.int (0 : Int32)), .val (.ref en0)] [(.int (if ([(97 : Int32), (114 : Int32), (114 : Int32), (97 : Int32), (121 : Int32)] : List Int32) = [(own_by (108 : Int32)), (own_by (105 : Int32)), (own_by (110 : Int32)), (own_by (107 : Int32)), (own_by (101 : Int32)), (own_by (100 : Int32))] then (1 : Int32) else 0))]))
  rw [(by decide : (if ([(97 : Int32), (114 : Int32), (114 : Int32), (97 : Int32), (121 : Int32)] : List Int32) = [(own_by (108 : Int32)), (own_by (105 : Int32)), (own_by (110 : Int32)), (own_by (107 : Int32)), (own_by (101 : Int32)), (own_by (100 : Int32))] then (1 : Int32) else 0) = (0 : Int32))]
  show Rest p.tables e below s _ _ _ (T7.setTop (mkF m 28 #[.val (.ref a0), .val (.ref w2), .val (.int (3 : Int32)), .val (.int (0 : Int32)), .val (.ref en0)] [(.int (0 : Int32))]))
  refine Rest.via (fun t k => XS.ifYes X7.here hx rfl (pc0 := 28) (pc' := 34) rfl (hb hby d7_28) rfl ((if0 _ _).trans (teq (by decide : (0 : Int32) = (0 : Int32))).1) (by decide) (by decide) k) ?_
  show Rest p.tables e below s _ _ _ (T7.setTop (mkF m 34 #[.val (.ref a0), .val (.ref w2), .val (.int (3 : Int32)), .val (.int (0 : Int32)), .val (.ref en0)] []))
  refine Rest.via (fun t k => XS.iinc X7.here hx rfl (hb hby d7_34) rfl (l' := #[.val (.ref a0), .val (.ref w2), .val (.int (3 : Int32)), .val (.int ((0 : Int32) + (1 : Int32))), .val (.ref en0)]) rfl k) ?_
  show Rest p.tables e below s _ _ _ (T7.setTop (mkF m 37 #[.val (.ref a0), .val (.ref w2), .val (.int (3 : Int32)), .val (.int ((0 : Int32) + (1 : Int32))), .val (.ref en0)] []))
  rw [(by decide : ((0 : Int32) + (1 : Int32)) = (1 : Int32))]
  show Rest p.tables e below s _ _ _ (T7.setTop (mkF m 37 #[.val (.ref a0), .val (.ref w2), .val (.int (3 : Int32)), .val (.int (1 : Int32)), .val (.ref en0)] []))
  refine Rest.via (fun t k => XS.goto X7.here hx rfl (pc0 := 37) (pc' := 9) rfl (hb hby d7_37) (by decide) (by decide) k) ?_
  show Rest p.tables e below s _ _ _ (T7.setTop (mkF m 9 #[.val (.ref a0), .val (.ref w2), .val (.int (3 : Int32)), .val (.int (1 : Int32)), .val (.ref en0)] []))
  refine Rest.via (fun t k => XS.iloadN X7.here hx rfl (hb hby d7_9) rfl k) ?_
  show Rest p.tables e below s _ _ _ (T7.setTop (mkF m 10 #[.val (.ref a0), .val (.ref w2), .val (.int (3 : Int32)), .val (.int (1 : Int32)), .val (.ref en0)] [(.int (1 : Int32))]))
  refine Rest.via (fun t k => XS.iloadN X7.here hx rfl (hb hby d7_10) rfl k) ?_
  show Rest p.tables e below s _ _ _ (T7.setTop (mkF m 11 #[.val (.ref a0), .val (.ref w2), .val (.int (3 : Int32)), .val (.int (1 : Int32)), .val (.ref en0)] [(.int (3 : Int32)), (.int (1 : Int32))]))
  refine Rest.via (fun t k => XS.icmpNo X7.here hx rfl (hb hby d7_11) rfl (tlt (by decide : (1 : Int32) < (3 : Int32))).2.1 k) ?_
  show Rest p.tables e below s _ _ _ (T7.setTop (mkF m 14 #[.val (.ref a0), .val (.ref w2), .val (.int (3 : Int32)), .val (.int (1 : Int32)), .val (.ref en0)] []))
  refine Rest.via (fun t k => XS.aloadN X7.here hx rfl (hb hby d7_14) rfl rfl k) ?_
  show Rest p.tables e below s _ _ _ (T7.setTop (mkF m 15 #[.val (.ref a0), .val (.ref w2), .val (.int (3 : Int32)), .val (.int (1 : Int32)), .val (.ref en0)] [(.ref w2)]))
  refine Rest.via (fun t k => XS.iloadN X7.here hx rfl (hb hby d7_15) rfl k) ?_
  show Rest p.tables e below s _ _ _ (T7.setTop (mkF m 16 #[.val (.ref a0), .val (.ref w2), .val (.int (3 : Int32)), .val (.int (1 : Int32)), .val (.ref en0)] [(.int (1 : Int32)), (.ref w2)]))
  obtain ⟨cl8, Ar8, qa8, Sa8, Pa8, Ha8, Ga8⟩ := id Vq2
  have hin8 := inb_of (j := (1 : Int32)) Sa8 ⟨by decide, by decide⟩
  have hat8 : cl8.slots[((1 : Int32)).toNatClampNeg]? = some (.ref en1) := Has.at Ha8 hin8 rfl
  refine Rest.via (fun t k => X7.aaload hx (j := (1 : Int32)) (v := (.ref en1)) (by rw [e7]; exact Ar8.1) (State.isArrayOf_alike hZ.alike Ar8.2.1) rfl Ar8.2.2 hin8 hat8 (g := (mkF m 16 #[.val (.ref a0), .val (.ref w2), .val (.int (3 : Int32)), .val (.int (1 : Int32)), .val (.ref en0)] [(.int (1 : Int32)), (.ref w2)])) rfl rfl (hb hby d7_16) t k) ?_
  show Rest p.tables e below s _ _ _ (T7.setTop (mkF m 17 #[.val (.ref a0), .val (.ref w2), .val (.int (3 : Int32)), .val (.int (1 : Int32)), .val (.ref en0)] [(.ref en1)]))
  refine Rest.via (fun t k => XS.astore X7.here hx rfl (hb hby d7_17) rfl rfl (l' := #[.val (.ref a0), .val (.ref w2), .val (.int (3 : Int32)), .val (.int (1 : Int32)), .val (.ref en1)]) rfl k) ?_
  show Rest p.tables e below s _ _ _ (T7.setTop (mkF m 19 #[.val (.ref a0), .val (.ref w2), .val (.int (3 : Int32)), .val (.int (1 : Int32)), .val (.ref en1)] []))
  refine Rest.via (fun t k => XS.aload X7.here hx rfl (hb hby d7_19) rfl rfl k) ?_
  show Rest p.tables e below s _ _ _ (T7.setTop (mkF m 21 #[.val (.ref a0), .val (.ref w2), .val (.int (3 : Int32)), .val (.int (1 : Int32)), .val (.ref en1)] [(.ref en1)]))
  obtain ⟨T9, X9, e9, st9⟩ := getF X7 hx hZ hown (host := "") (Or.inl (hw _ (List.mem_of_getElem? (i := 52) rfl))) Via.refl e7 Fl3b (g := (mkF m 21 #[.val (.ref a0), .val (.ref w2), .val (.int (3 : Int32)), .val (.int (1 : Int32)), .val (.ref en1)] [(.ref en1)])) rfl rfl (hb hby d7_21)
  refine Rest.via (fun t k => st9 t k) ?_
  show Rest p.tables e below s _ _ _ (T9.setTop (mkF m 24 #[.val (.ref a0), .val (.ref w2), .val (.int (3 : Int32)), .val (.int (1 : Int32)), .val (.ref en1)] [(.ref t1)]))
  refine Rest.via (fun t k => XS.aloadN X9.here hx rfl (hb hby d7_24) rfl rfl k) ?_
  show Rest p.tables e below s _ _ _ (T9.setTop (mkF m 25 #[.val (.ref a0), .val (.ref w2), .val (.int (3 : Int32)), .val (.int (1 : Int32)), .val (.ref en1)] [(.ref a0), (.ref t1)]))
  obtain ⟨cq10, kq10, q10a, q10b, q10c⟩ := isOf hZ e9 S3b.1
  obtain ⟨_, _, ⟨T10, L10, k10, n10⟩, -, X10, ⟨Lc10, hQ10, l10, y10, z10⟩, st10⟩ := X9.virtualBack hx (y := (⟨"java/lang/String", "equals", "(Ljava/lang/Object;)Z"⟩ : MethodName)) (z := (⟨"java/lang/String", "equals", "(Ljava/lang/Object;)Z"⟩ : MethodName)) hown (mvT hZ (hw _ (List.mem_of_getElem? (i := 54) rfl))) (mvT hZ (hw _ (List.mem_of_getElem? (i := 55) rfl))) (notFace_of_selects (args := #[]) (mvT hZ (hw _ (List.mem_of_getElem? (i := 57) rfl)))) (mvT hZ (hw _ (List.mem_of_getElem? (i := 57) rfl))) (mvT hZ (hw _ (List.mem_of_getElem? (i := 56) rfl))) (by decide) (backOf (W := 0) (rmSE6_6 l Z aw hw [] t1 a0 va3b kb3_ va0 k0 ic (108 : Int32) (105 : Int32) (110 : Int32) (107 : Int32) (101 : Int32) (100 : Int32) (own_by (108 : Int32)) (own_by (105 : Int32)) (own_by (110 : Int32)) (own_by (107 : Int32)) (own_by (101 : Int32)) (own_by (100 : Int32)) h2 n0 (Nat.le_trans Z0 K2.1) S3b (own_St_keep S0 Kq2 nin0 nin0) nt1a (O.keep K2 all0) CS) hZ (hw _ (List.mem_of_getElem? (i := 58) rfl)) (hw _ (List.mem_of_getElem? (i := 7) rfl)) (by decide) (by decide)) q10a q10c (g := (mkF m 25 #[.val (.ref a0), .val (.ref w2), .val (.int (3 : Int32)), .val (.int (1 : Int32)), .val (.ref en1)] [(.ref a0), (.ref t1)])) rfl (by rw [hml]; rfl) (Steps.refl _) (argsL := [(.ref a0)]) (rest := []) (lenOf pd_6 rfl) rfl (by show 2 * 0 + _ ≤ _; exact Nat.le_of_eq rfl) (hb hby d7_25) (fun _ _ => ⟨rfl, e9, (by decide : 1 + 0 ≤ _), (by decide : 3 + 0 ≤ _)⟩)
  dsimp only [Pt.U, Pt.locs, Pt.cells, Pt.slots] at X10 l10 y10 z10 st10 hQ10
  subst l10 y10 z10
  obtain ⟨rfl, Nq10, e10⟩ := hQ10
  have N10 := Fr.app N7 Nq10
  refine Rest.via (fun t k => st10.trans k) ?_
  show Rest p.tables e below s _ _ _ (T10.setTop (mkF m 28 #[.val (.ref a0), .val (.ref w2), .val (.int (3 : Int32)), .val (.int (1 : Int32)), .val (.ref en1)] [(.int (if ([(108 : Int32), (105 : Int32), (110 : Int32), (107 : Int32), (101 : Int32), (100 : Int32)] : List Int32) = [(own_by (108 : Int32)), (own_by (105 : Int32)), (own_by (110 : Int32)), (own_by (107 : Int32)), (own_by (101 : Int32)), (own_by (100 : Int32))] then (1 : Int32) else 0))]))
  rw [(by decide : (if ([(108 : Int32), (105 : Int32), (110 : Int32), (107 : Int32), (101 : Int32), (100 : Int32)] : List Int32) = [(own_by (108 : Int32)), (own_by (105 : Int32)), (own_by (110 : Int32)), (own_by (107 : Int32)), (own_by (101 : Int32)), (own_by (100 : Int32))] then (1 : Int32) else 0) = (1 : Int32))]
  show Rest p.tables e below s _ _ _ (T10.setTop (mkF m 28 #[.val (.ref a0), .val (.ref w2), .val (.int (3 : Int32)), .val (.int (1 : Int32)), .val (.ref en1)] [(.int (1 : Int32))]))
  refine Rest.via (fun t k => XS.ifNo X10.here hx rfl (hb hby d7_28) rfl ((if0 _ _).trans (feq (by decide : ¬ ((1 : Int32) = (0 : Int32)))).1) k) ?_
  show Rest p.tables e below s _ _ _ (T10.setTop (mkF m 31 #[.val (.ref a0), .val (.ref w2), .val (.int (3 : Int32)), .val (.int (1 : Int32)), .val (.ref en1)] []))
  refine Rest.via (fun t k => XS.aload X10.here hx rfl (hb hby d7_31) rfl rfl k) ?_
  show Rest p.tables e below s _ _ _ (T10.setTop (mkF m 33 #[.val (.ref a0), .val (.ref w2), .val (.int (3 : Int32)), .val (.int (1 : Int32)), .val (.ref en1)] [(.ref en1)]))
  refine Rest.ret X10 (v := some (.ref en1)) (fun h => by rw [Bd.returns] at h; cases h) hlk (fun fs hr => retOut X10 hx Bd.returns rfl (Or.inr (Or.inr (Or.inr (Or.inr ⟨rfl, rfl, rfl⟩)))) (hb hby d7_33) hr) ?_ (by decide) (by decide)
  rw [e10]
  exact ⟨rfl, N10, K2⟩
theorem ef_Ns1 (m : MethodId)  : entryFrame m #[(.ref t1)] 5 = mkF m 0 #[.val (.ref t1), .unset, .unset, .unset, .unset] [] := by first | (simp [entryFrame, mkF, argsToLocals, Value.category, maxLocals]; done) | rfl
def QNs1 (Z : State) (en0 : Addr) (en1 : Addr) (en2 : Addr) (t0 : Addr) (t1 : Addr) (t2 : Addr) (vv : Addr) (ic : Int32) (h0 : Heap) (n0 : Nat) (v : Option Value) (h : Heap) (L : List Loc) : Prop := v = some (.ref en1) ∧ Fr n0 L ∧ Keep h0 h []
set_option maxRecDepth 65536 in
set_option maxHeartbeats 40000000 in
theorem rmNs1 (l : Launch) (Z : State) (aw : Array Value) (hw : ∀ d ∈ tables_1, d.before aw Z = true) (ws : List Jvm.Cond) (en0 : Addr) (en1 : Addr) (en2 : Addr) (t0 : Addr) (t1 : Addr) (t2 : Addr) (vv : Addr) (ic : Int32) (h0 : Heap) (n0 : Nat) (Z0 : n0 ≤ h0.size) (O : Old Z n0 h0) (QK : own_QK Z Z.heap en0 en1 en2 t0 t1 t2 vv) (CS : own_CS Z ic) :
    MetFree l (⟨"sluicegate/cli/QueueKind", "named", "(Ljava/lang/String;)Lsluicegate/cli/QueueKind;"⟩ : MethodName) (head1 (Jvm.Cond.code (⟨"sluicegate/cli/QueueKind", "named", "(Ljava/lang/String;)Lsluicegate/cli/QueueKind;"⟩ : MethodName) prog_18_method_6_code 5 (some (.object "sluicegate/cli/QueueKind")) :: ws) ({ frames := 2, cells := 1, slots := 3, locals := 28 } : Room)) (fun a U => a = #[(.ref t1)] ∧ Z.Warmed39 U.vm ∧ U.heap = h0) (fun _ _ _ _ _ => True) (fun _ U o U' => ∃ v L, o = .returned v ∧ QNs1 Z en0 en1 en2 t0 t1 t2 vv ic h0 n0 v U'.heap L ∧ FrameEnd U o U' L ({ frames := 2, cells := 1, slots := 3, locals := 28 } : Room).cells ({ frames := 2, cells := 1, slots := 3, locals := 28 } : Room).slots) := by
  refine MetFree.of_bodySF (plainFor_of_name pn_3) hisR ?_
  intro p e s m args below meth c s₁ Bd hml0 hP hK
  obtain ⟨rfl, hZ, hh⟩ := hP
  have hx := Bd.exec
  have hby := Bd.bytes
  have hml : c.maxLocals = 5 := hml0
  have hown : s.vm.findClass "sluicegate/cli/QueueKind" = some m.cls := findClass_of_methodNamed Bd.named
  have hnm := (name_of_methodNamed Bd.named Bd.method).1
  have hlk : meth.locks = false := BodyLoose.notSynchronized Bd
  have X0 : Stand p l e ({ frames := 2, cells := 1, slots := 3, locals := 28 } : Room) s m #[(.ref t1)] below meth c s₁ [] 0 0 := Stand.of_body Bd
  have eh0 : s₁.heap = h0 := by rw [← hh, Bd.state]; rfl
  have N0 := Fr.nil n0
  show Rest p.tables e below s (QNs1 Z en0 en1 en2 t0 t1 t2 vv ic h0 n0) _ _ (s₁.setTop (entryFrame m #[(.ref t1)] 5))
  refine Rest.via (fun t k => castTop (ef_Ns1 m ) k) ?_
  have QK1 := own_QK_ext (O.keep (Keep.refl h0 []) all0).2 QK
  obtain ⟨Sv1, ⟨kv1, Vv1⟩, Ev1, Sa1_, Sl1_, Sh1_, ⟨va1a, ka1, Ee1a, Fl1a, S1a⟩, ⟨va1b, kb1_, Ee1b, Fl1b, S1b⟩, ⟨va1c, kc1_, Ee1c, Fl1c, S1c⟩, nt01, nt02, nt12⟩ := id QK1
  show Rest p.tables e below s _ _ _ (s₁.setTop (mkF m 0 #[.val (.ref t1), .unset, .unset, .unset, .unset] []))
  obtain ⟨_, _, ⟨T2, L2, k2, n2⟩, -, X2, ⟨Lc2, hQ2, l2, y2, z2⟩, st2⟩ := Jvm.LawKit.callS X0 hx (y := (⟨"sluicegate/cli/QueueKind", "values", "()[Lsluicegate/cli/QueueKind;"⟩ : MethodName)) hown (mvT hZ (hw _ (List.mem_of_getElem? (i := 37) rfl))) (mvT hZ (hw _ (List.mem_of_getElem? (i := 38) rfl))) (mvT hZ (hw _ (List.mem_of_getElem? (i := 3) rfl))) (mvT hZ (hw _ (List.mem_of_getElem? (i := 39) rfl))) (by decide) (backOf (W := 0) (rmVA l Z aw hw []  en0 en1 en2 t0 t1 t2 vv h0 n0 (Nat.le_trans Z0 (Keep.refl h0 []).1) (O.keep (Keep.refl h0 []) all0) QK) hZ (hw _ (List.mem_of_getElem? (i := 39) rfl)) (hw _ (List.mem_of_getElem? (i := 3) rfl)) (by decide) (by decide)) (g := (mkF m 0 #[.val (.ref t1), .unset, .unset, .unset, .unset] [])) rfl (by rw [hml]; rfl) (argsL := []) (rest := []) (lenOf pd_5 rfl) rfl (by show 2 * 0 + _ ≤ _; exact Nat.le_of_eq rfl) (hb hby d7_0) (fun _ _ => ⟨rfl, eh0, (by decide : 0 + 1 ≤ _), (by decide : 0 + 3 ≤ _)⟩)
  dsimp only [Pt.U, Pt.locs, Pt.cells, Pt.slots] at X2 l2 y2 z2 st2 hQ2
  subst l2 y2 z2
  obtain ⟨h2, e2⟩ : ∃ z, T2.heap = z := ⟨_, rfl⟩
  rw [e2] at hQ2
  obtain ⟨w2, kv2, rfl, Nq2, Kq2, sd2, Vq2⟩ := hQ2
  have N2 := Fr.app N0 Nq2
  have K2 : Keep h0 h2 [] := (Keep.refl h0 []).trans Kq2 all0
  have QK3 := own_QK_ext (O.keep K2 all0).2 QK
  obtain ⟨Sv3, ⟨kv3, Vv3⟩, Ev3, Sa3_, Sl3_, Sh3_, ⟨va3a, ka3, Ee3a, Fl3a, S3a⟩, ⟨va3b, kb3_, Ee3b, Fl3b, S3b⟩, ⟨va3c, kc3_, Ee3c, Fl3c, S3c⟩, nt01, nt02, nt12⟩ := id QK3
  refine Rest.via (fun t k => st2 t k) ?_
  show Rest p.tables e below s _ _ _ (T2.setTop (mkF m 3 #[.val (.ref t1), .unset, .unset, .unset, .unset] [(.ref w2)]))
  refine Rest.via (fun t k => XS.astoreN X2.here hx rfl (hb hby d7_3) rfl rfl (l' := #[.val (.ref t1), .val (.ref w2), .unset, .unset, .unset]) rfl k) ?_
  show Rest p.tables e below s _ _ _ (T2.setTop (mkF m 4 #[.val (.ref t1), .val (.ref w2), .unset, .unset, .unset] []))
  refine Rest.via (fun t k => XS.aloadN X2.here hx rfl (hb hby d7_4) rfl rfl k) ?_
  show Rest p.tables e below s _ _ _ (T2.setTop (mkF m 5 #[.val (.ref t1), .val (.ref w2), .unset, .unset, .unset] [(.ref w2)]))
  obtain ⟨cl4, Ar4, -, S4, P4, -, -⟩ := id Vq2
  refine Rest.via (fun t k => X2.arraylength hx (by rw [e2]; exact Ar4.1) (State.isArrayOf_alike hZ.alike Ar4.2.1) (g := (mkF m 5 #[.val (.ref t1), .val (.ref w2), .unset, .unset, .unset] [(.ref w2)])) rfl rfl (hb hby d7_5) t k) ?_
  rw [len_of S4 P4]
  show Rest p.tables e below s _ _ _ (T2.setTop (mkF m 6 #[.val (.ref t1), .val (.ref w2), .unset, .unset, .unset] [(.int (3 : Int32))]))
  refine Rest.via (fun t k => XS.istoreN X2.here hx rfl (hb hby d7_6) rfl (l' := #[.val (.ref t1), .val (.ref w2), .val (.int (3 : Int32)), .unset, .unset]) rfl k) ?_
  show Rest p.tables e below s _ _ _ (T2.setTop (mkF m 7 #[.val (.ref t1), .val (.ref w2), .val (.int (3 : Int32)), .unset, .unset] []))
  refine Rest.via (fun t k => XS.iconst X2.here hx rfl (hb hby d7_7) k) ?_
  show Rest p.tables e below s _ _ _ (T2.setTop (mkF m 8 #[.val (.ref t1), .val (.ref w2), .val (.int (3 : Int32)), .unset, .unset] [(.int (0 : Int32))]))
  refine Rest.via (fun t k => XS.istoreN X2.here hx rfl (hb hby d7_8) rfl (l' := #[.val (.ref t1), .val (.ref w2), .val (.int (3 : Int32)), .val (.int (0 : Int32)), .unset]) rfl k) ?_
  show Rest p.tables e below s _ _ _ (T2.setTop (mkF m 9 #[.val (.ref t1), .val (.ref w2), .val (.int (3 : Int32)), .val (.int (0 : Int32)), .unset] []))
  refine Rest.via (fun t k => XS.iloadN X2.here hx rfl (hb hby d7_9) rfl k) ?_
  show Rest p.tables e below s _ _ _ (T2.setTop (mkF m 10 #[.val (.ref t1), .val (.ref w2), .val (.int (3 : Int32)), .val (.int (0 : Int32)), .unset] [(.int (0 : Int32))]))
  refine Rest.via (fun t k => XS.iloadN X2.here hx rfl (hb hby d7_10) rfl k) ?_
  show Rest p.tables e below s _ _ _ (T2.setTop (mkF m 11 #[.val (.ref t1), .val (.ref w2), .val (.int (3 : Int32)), .val (.int (0 : Int32)), .unset] [(.int (3 : Int32)), (.int (0 : Int32))]))
  refine Rest.via (fun t k => XS.icmpNo X2.here hx rfl (hb hby d7_11) rfl (tlt (by decide : (0 : Int32) < (3 : Int32))).2.1 k) ?_
  show Rest p.tables e below s _ _ _ (T2.setTop (mkF m 14 #[.val (.ref t1), .val (.ref w2), .val (.int (3 : Int32)), .val (.int (0 : Int32)), .unset] []))
  refine Rest.via (fun t k => XS.aloadN X2.here hx rfl (hb hby d7_14) rfl rfl k) ?_
  show Rest p.tables e below s _ _ _ (T2.setTop (mkF m 15 #[.val (.ref t1), .val (.ref w2), .val (.int (3 : Int32)), .val (.int (0 : Int32)), .unset] [(.ref w2)]))
  refine Rest.via (fun t k => XS.iloadN X2.here hx rfl (hb hby d7_15) rfl k) ?_
  show Rest p.tables e below s _ _ _ (T2.setTop (mkF m 16 #[.val (.ref t1), .val (.ref w2), .val (.int (3 : Int32)), .val (.int (0 : Int32)), .unset] [(.int (0 : Int32)), (.ref w2)]))
  obtain ⟨cl5, Ar5, qa5, Sa5, Pa5, Ha5, Ga5⟩ := id Vq2
  have hin5 := inb_of (j := (0 : Int32)) Sa5 ⟨by decide, by decide⟩
  have hat5 : cl5.slots[((0 : Int32)).toNatClampNeg]? = some (.ref en0) := Has.at Ha5 hin5 rfl
  refine Rest.via (fun t k => X2.aaload hx (j := (0 : Int32)) (v := (.ref en0)) (by rw [e2]; exact Ar5.1) (State.isArrayOf_alike hZ.alike Ar5.2.1) rfl Ar5.2.2 hin5 hat5 (g := (mkF m 16 #[.val (.ref t1), .val (.ref w2), .val (.int (3 : Int32)), .val (.int (0 : Int32)), .unset] [(.int (0 : Int32)), (.ref w2)])) rfl rfl (hb hby d7_16) t k) ?_
  show Rest p.tables e below s _ _ _ (T2.setTop (mkF m 17 #[.val (.ref t1), .val (.ref w2), .val (.int (3 : Int32)), .val (.int (0 : Int32)), .unset] [(.ref en0)]))
  refine Rest.via (fun t k => XS.astore X2.here hx rfl (hb hby d7_17) rfl rfl (l' := #[.val (.ref t1), .val (.ref w2), .val (.int (3 : Int32)), .val (.int (0 : Int32)), .val (.ref en0)]) rfl k) ?_
  show Rest p.tables e below s _ _ _ (T2.setTop (mkF m 19 #[.val (.ref t1), .val (.ref w2), .val (.int (3 : Int32)), .val (.int (0 : Int32)), .val (.ref en0)] []))
  refine Rest.via (fun t k => XS.aload X2.here hx rfl (hb hby d7_19) rfl rfl k) ?_
  show Rest p.tables e below s _ _ _ (T2.setTop (mkF m 21 #[.val (.ref t1), .val (.ref w2), .val (.int (3 : Int32)), .val (.int (0 : Int32)), .val (.ref en0)] [(.ref en0)]))
  obtain ⟨T6, X6, e6, st6⟩ := getF X2 hx hZ hown (host := "") (Or.inl (hw _ (List.mem_of_getElem? (i := 52) rfl))) Via.refl e2 Fl3a (g := (mkF m 21 #[.val (.ref t1), .val (.ref w2), .val (.int (3 : Int32)), .val (.int (0 : Int32)), .val (.ref en0)] [(.ref en0)])) rfl rfl (hb hby d7_21)
  refine Rest.via (fun t k => st6 t k) ?_
  show Rest p.tables e below s _ _ _ (T6.setTop (mkF m 24 #[.val (.ref t1), .val (.ref w2), .val (.int (3 : Int32)), .val (.int (0 : Int32)), .val (.ref en0)] [(.ref t0)]))
  refine Rest.via (fun t k => XS.aloadN X6.here hx rfl (hb hby d7_24) rfl rfl k) ?_
  show Rest p.tables e below s _ _ _ (T6.setTop (mkF m 25 #[.val (.ref t1), .val (.ref w2), .val (.int (3 : Int32)), .val (.int (0 : Int32)), .val (.ref en0)] [(.ref t1), (.ref t0)]))
  obtain ⟨cq7, kq7, q7a, q7b, q7c⟩ := isOf hZ e6 S3a.1
  obtain ⟨_, _, ⟨T7, L7, k7, n7⟩, -, X7, ⟨Lc7, hQ7, l7, y7, z7⟩, st7⟩ := X6.virtualBack hx (y := (⟨"java/lang/String", "equals", "(Ljava/lang/Object;)Z"⟩ : MethodName)) (z := (⟨"java/lang/String", "equals", "(Ljava/lang/Object;)Z"⟩ : MethodName)) hown (mvT hZ (hw _ (List.mem_of_getElem? (i := 54) rfl))) (mvT hZ (hw _ (List.mem_of_getElem? (i := 55) rfl))) (notFace_of_selects (args := #[]) (mvT hZ (hw _ (List.mem_of_getElem? (i := 57) rfl)))) (mvT hZ (hw _ (List.mem_of_getElem? (i := 57) rfl))) (mvT hZ (hw _ (List.mem_of_getElem? (i := 56) rfl))) (by decide) (backOf (W := 0) (rmSE5_6 l Z aw hw [] t0 t1 va3a ka3 va3b kb3_ ic (97 : Int32) (114 : Int32) (114 : Int32) (97 : Int32) (121 : Int32) (108 : Int32) (105 : Int32) (110 : Int32) (107 : Int32) (101 : Int32) (100 : Int32) h2 n0 (Nat.le_trans Z0 K2.1) S3a S3b nt01 (O.keep K2 all0) CS) hZ (hw _ (List.mem_of_getElem? (i := 58) rfl)) (hw _ (List.mem_of_getElem? (i := 7) rfl)) (by decide) (by decide)) q7a q7c (g := (mkF m 25 #[.val (.ref t1), .val (.ref w2), .val (.int (3 : Int32)), .val (.int (0 : Int32)), .val (.ref en0)] [(.ref t1), (.ref t0)])) rfl (by rw [hml]; rfl) (Steps.refl _) (argsL := [(.ref t1)]) (rest := []) (lenOf pd_6 rfl) rfl (by show 2 * 0 + _ ≤ _; exact Nat.le_of_eq rfl) (hb hby d7_25) (fun _ _ => ⟨rfl, e6, (by decide : 1 + 0 ≤ _), (by decide : 3 + 0 ≤ _)⟩)
  dsimp only [Pt.U, Pt.locs, Pt.cells, Pt.slots] at X7 l7 y7 z7 st7 hQ7
  subst l7 y7 z7
  obtain ⟨rfl, Nq7, e7⟩ := hQ7
  have N7 := Fr.app N2 Nq7
  refine Rest.via (fun t k => st7.trans k) ?_
  show Rest p.tables e below s _ _ _ (T7.setTop (mkF m 28 #[.val (.ref t1), .val (.ref w2), .val (.int (3 : Int32)), .val (.int (0 : Int32)), .val (.ref en0)] [(.int (if ([(97 : Int32), (114 : Int32), (114 : Int32), (97 : Int32), (121 : Int32)] : List Int32) = [(108 : Int32), (105 : Int32), (110 : Int32), (107 : Int32), (101 : Int32), (100 : Int32)] then (1 : Int32) else 0))]))
  rw [(by decide : (if ([(97 : Int32), (114 : Int32), (114 : Int32), (97 : Int32), (121 : Int32)] : List Int32) = [(108 : Int32), (105 : Int32), (110 : Int32), (107 : Int32), (101 : Int32), (100 : Int32)] then (1 : Int32) else 0) = (0 : Int32))]
  show Rest p.tables e below s _ _ _ (T7.setTop (mkF m 28 #[.val (.ref t1), .val (.ref w2), .val (.int (3 : Int32)), .val (.int (0 : Int32)), .val (.ref en0)] [(.int (0 : Int32))]))
  refine Rest.via (fun t k => XS.ifYes X7.here hx rfl (pc0 := 28) (pc' := 34) rfl (hb hby d7_28) rfl ((if0 _ _).trans (teq (by decide : (0 : Int32) = (0 : Int32))).1) (by decide) (by decide) k) ?_
  show Rest p.tables e below s _ _ _ (T7.setTop (mkF m 34 #[.val (.ref t1), .val (.ref w2), .val (.int (3 : Int32)), .val (.int (0 : Int32)), .val (.ref en0)] []))
  refine Rest.via (fun t k => XS.iinc X7.here hx rfl (hb hby d7_34) rfl (l' := #[.val (.ref t1), .val (.ref w2), .val (.int (3 : Int32)), .val (.int ((0 : Int32) + (1 : Int32))), .val (.ref en0)]) rfl k) ?_
  show Rest p.tables e below s _ _ _ (T7.setTop (mkF m 37 #[.val (.ref t1), .val (.ref w2), .val (.int (3 : Int32)), .val (.int ((0 : Int32) + (1 : Int32))), .val (.ref en0)] []))
  rw [(by decide : ((0 : Int32) + (1 : Int32)) = (1 : Int32))]
  show Rest p.tables e below s _ _ _ (T7.setTop (mkF m 37 #[.val (.ref t1), .val (.ref w2), .val (.int (3 : Int32)), .val (.int (1 : Int32)), .val (.ref en0)] []))
  refine Rest.via (fun t k => XS.goto X7.here hx rfl (pc0 := 37) (pc' := 9) rfl (hb hby d7_37) (by decide) (by decide) k) ?_
  show Rest p.tables e below s _ _ _ (T7.setTop (mkF m 9 #[.val (.ref t1), .val (.ref w2), .val (.int (3 : Int32)), .val (.int (1 : Int32)), .val (.ref en0)] []))
  refine Rest.via (fun t k => XS.iloadN X7.here hx rfl (hb hby d7_9) rfl k) ?_
  show Rest p.tables e below s _ _ _ (T7.setTop (mkF m 10 #[.val (.ref t1), .val (.ref w2), .val (.int (3 : Int32)), .val (.int (1 : Int32)), .val (.ref en0)] [(.int (1 : Int32))]))
  refine Rest.via (fun t k => XS.iloadN X7.here hx rfl (hb hby d7_10) rfl k) ?_
  show Rest p.tables e below s _ _ _ (T7.setTop (mkF m 11 #[.val (.ref t1), .val (.ref w2), .val (.int (3 : Int32)), .val (.int (1 : Int32)), .val (.ref en0)] [(.int (3 : Int32)), (.int (1 : Int32))]))
  refine Rest.via (fun t k => XS.icmpNo X7.here hx rfl (hb hby d7_11) rfl (tlt (by decide : (1 : Int32) < (3 : Int32))).2.1 k) ?_
  show Rest p.tables e below s _ _ _ (T7.setTop (mkF m 14 #[.val (.ref t1), .val (.ref w2), .val (.int (3 : Int32)), .val (.int (1 : Int32)), .val (.ref en0)] []))
  refine Rest.via (fun t k => XS.aloadN X7.here hx rfl (hb hby d7_14) rfl rfl k) ?_
  show Rest p.tables e below s _ _ _ (T7.setTop (mkF m 15 #[.val (.ref t1), .val (.ref w2), .val (.int (3 : Int32)), .val (.int (1 : Int32)), .val (.ref en0)] [(.ref w2)]))
  refine Rest.via (fun t k => XS.iloadN X7.here hx rfl (hb hby d7_15) rfl k) ?_
  show Rest p.tables e below s _ _ _ (T7.setTop (mkF m 16 #[.val (.ref t1), .val (.ref w2), .val (.int (3 : Int32)), .val (.int (1 : Int32)), .val (.ref en0)] [(.int (1 : Int32)), (.ref w2)]))
  obtain ⟨cl8, Ar8, qa8, Sa8, Pa8, Ha8, Ga8⟩ := id Vq2
  have hin8 := inb_of (j := (1 : Int32)) Sa8 ⟨by decide, by decide⟩
  have hat8 : cl8.slots[((1 : Int32)).toNatClampNeg]? = some (.ref en1) := Has.at Ha8 hin8 rfl
  refine Rest.via (fun t k => X7.aaload hx (j := (1 : Int32)) (v := (.ref en1)) (by rw [e7]; exact Ar8.1) (State.isArrayOf_alike hZ.alike Ar8.2.1) rfl Ar8.2.2 hin8 hat8 (g := (mkF m 16 #[.val (.ref t1), .val (.ref w2), .val (.int (3 : Int32)), .val (.int (1 : Int32)), .val (.ref en0)] [(.int (1 : Int32)), (.ref w2)])) rfl rfl (hb hby d7_16) t k) ?_
  show Rest p.tables e below s _ _ _ (T7.setTop (mkF m 17 #[.val (.ref t1), .val (.ref w2), .val (.int (3 : Int32)), .val (.int (1 : Int32)), .val (.ref en0)] [(.ref en1)]))
  refine Rest.via (fun t k => XS.astore X7.here hx rfl (hb hby d7_17) rfl rfl (l' := #[.val (.ref t1), .val (.ref w2), .val (.int (3 : Int32)), .val (.int (1 : Int32)), .val (.ref en1)]) rfl k) ?_
  show Rest p.tables e below s _ _ _ (T7.setTop (mkF m 19 #[.val (.ref t1), .val (.ref w2), .val (.int (3 : Int32)), .val (.int (1 : Int32)), .val (.ref en1)] []))
  refine Rest.via (fun t k => XS.aload X7.here hx rfl (hb hby d7_19) rfl rfl k) ?_
  show Rest p.tables e below s _ _ _ (T7.setTop (mkF m 21 #[.val (.ref t1), .val (.ref w2), .val (.int (3 : Int32)), .val (.int (1 : Int32)), .val (.ref en1)] [(.ref en1)]))
  obtain ⟨T9, X9, e9, st9⟩ := getF X7 hx hZ hown (host := "") (Or.inl (hw _ (List.mem_of_getElem? (i := 52) rfl))) Via.refl e7 Fl3b (g := (mkF m 21 #[.val (.ref t1), .val (.ref w2), .val (.int (3 : Int32)), .val (.int (1 : Int32)), .val (.ref en1)] [(.ref en1)])) rfl rfl (hb hby d7_21)
  refine Rest.via (fun t k => st9 t k) ?_
  show Rest p.tables e below s _ _ _ (T9.setTop (mkF m 24 #[.val (.ref t1), .val (.ref w2), .val (.int (3 : Int32)), .val (.int (1 : Int32)), .val (.ref en1)] [(.ref t1)]))
  refine Rest.via (fun t k => XS.aloadN X9.here hx rfl (hb hby d7_24) rfl rfl k) ?_
  show Rest p.tables e below s _ _ _ (T9.setTop (mkF m 25 #[.val (.ref t1), .val (.ref w2), .val (.int (3 : Int32)), .val (.int (1 : Int32)), .val (.ref en1)] [(.ref t1), (.ref t1)]))
  obtain ⟨cq10, kq10, q10a, q10b, q10c⟩ := isOf hZ e9 S3b.1
  obtain ⟨_, _, ⟨T10, L10, k10, n10⟩, -, X10, ⟨Lc10, hQ10, l10, y10, z10⟩, st10⟩ := X9.virtualBack hx (y := (⟨"java/lang/String", "equals", "(Ljava/lang/Object;)Z"⟩ : MethodName)) (z := (⟨"java/lang/String", "equals", "(Ljava/lang/Object;)Z"⟩ : MethodName)) hown (mvT hZ (hw _ (List.mem_of_getElem? (i := 54) rfl))) (mvT hZ (hw _ (List.mem_of_getElem? (i := 55) rfl))) (notFace_of_selects (args := #[]) (mvT hZ (hw _ (List.mem_of_getElem? (i := 57) rfl)))) (mvT hZ (hw _ (List.mem_of_getElem? (i := 57) rfl))) (mvT hZ (hw _ (List.mem_of_getElem? (i := 56) rfl))) (by decide) (backOf (W := 0) (rmSEs l Z aw hw [] t1  h2 n0 (Nat.le_trans Z0 K2.1) ) hZ (hw _ (List.mem_of_getElem? (i := 58) rfl)) (hw _ (List.mem_of_getElem? (i := 7) rfl)) (by decide) (by decide)) q10a q10c (g := (mkF m 25 #[.val (.ref t1), .val (.ref w2), .val (.int (3 : Int32)), .val (.int (1 : Int32)), .val (.ref en1)] [(.ref t1), (.ref t1)])) rfl (by rw [hml]; rfl) (Steps.refl _) (argsL := [(.ref t1)]) (rest := []) (lenOf pd_6 rfl) rfl (by show 2 * 0 + _ ≤ _; exact Nat.le_of_eq rfl) (hb hby d7_25) (fun _ _ => ⟨rfl, e9, (by decide : 1 + 0 ≤ _), (by decide : 3 + 0 ≤ _)⟩)
  dsimp only [Pt.U, Pt.locs, Pt.cells, Pt.slots] at X10 l10 y10 z10 st10 hQ10
  subst l10 y10 z10
  obtain ⟨rfl, Nq10, e10⟩ := hQ10
  have N10 := Fr.app N7 Nq10
  refine Rest.via (fun t k => st10.trans k) ?_
  show Rest p.tables e below s _ _ _ (T10.setTop (mkF m 28 #[.val (.ref t1), .val (.ref w2), .val (.int (3 : Int32)), .val (.int (1 : Int32)), .val (.ref en1)] [(.int (1 : Int32))]))
  refine Rest.via (fun t k => XS.ifNo X10.here hx rfl (hb hby d7_28) rfl ((if0 _ _).trans (feq (by decide : ¬ ((1 : Int32) = (0 : Int32)))).1) k) ?_
  show Rest p.tables e below s _ _ _ (T10.setTop (mkF m 31 #[.val (.ref t1), .val (.ref w2), .val (.int (3 : Int32)), .val (.int (1 : Int32)), .val (.ref en1)] []))
  refine Rest.via (fun t k => XS.aload X10.here hx rfl (hb hby d7_31) rfl rfl k) ?_
  show Rest p.tables e below s _ _ _ (T10.setTop (mkF m 33 #[.val (.ref t1), .val (.ref w2), .val (.int (3 : Int32)), .val (.int (1 : Int32)), .val (.ref en1)] [(.ref en1)]))
  refine Rest.ret X10 (v := some (.ref en1)) (fun h => by rw [Bd.returns] at h; cases h) hlk (fun fs hr => retOut X10 hx Bd.returns rfl (Or.inr (Or.inr (Or.inr (Or.inr ⟨rfl, rfl, rfl⟩)))) (hb hby d7_33) hr) ?_ (by decide) (by decide)
  rw [e10]
  exact ⟨rfl, N10, K2⟩
theorem ef_Nf2 (m : MethodId) (a0 : Addr) : entryFrame m #[(.ref a0)] 5 = mkF m 0 #[.val (.ref a0), .unset, .unset, .unset, .unset] [] := by first | (simp [entryFrame, mkF, argsToLocals, Value.category, maxLocals]; done) | rfl
def QNf2 (Z : State) (a0 : Addr) (en0 : Addr) (en1 : Addr) (en2 : Addr) (t0 : Addr) (t1 : Addr) (t2 : Addr) (vv : Addr) (ic : Int32) (va0 : Addr) (k0 : ClassId) (h0 : Heap) (n0 : Nat) (v : Option Value) (h : Heap) (L : List Loc) : Prop := v = some (.ref en2) ∧ Fr n0 L ∧ Keep h0 h []
set_option maxRecDepth 65536 in
set_option maxHeartbeats 40000000 in
theorem rmNf2 (l : Launch) (Z : State) (aw : Array Value) (hw : ∀ d ∈ tables_1, d.before aw Z = true) (ws : List Jvm.Cond) (a0 : Addr) (en0 : Addr) (en1 : Addr) (en2 : Addr) (t0 : Addr) (t1 : Addr) (t2 : Addr) (vv : Addr) (ic : Int32) (va0 : Addr) (k0 : ClassId) (h0 : Heap) (n0 : Nat) (Z0 : n0 ≤ h0.size) (O : Old Z n0 h0) (QK : own_QK Z Z.heap en0 en1 en2 t0 t1 t2 vv) (CS : own_CS Z ic) (S0 : own_St Z h0 a0 va0 k0 (7 : Int32) [(.int (own_by (104 : Int32))), (.int (own_by (97 : Int32))), (.int (own_by (110 : Int32))), (.int (own_by (100 : Int32))), (.int (own_by (111 : Int32))), (.int (own_by (102 : Int32))), (.int (own_by (102 : Int32)))]) (nt0a : t0 ≠ a0) (nt1a : t1 ≠ a0) (nt2a : t2 ≠ a0) :
    MetFree l (⟨"sluicegate/cli/QueueKind", "named", "(Ljava/lang/String;)Lsluicegate/cli/QueueKind;"⟩ : MethodName) (head1 (Jvm.Cond.code (⟨"sluicegate/cli/QueueKind", "named", "(Ljava/lang/String;)Lsluicegate/cli/QueueKind;"⟩ : MethodName) prog_18_method_6_code 5 (some (.object "sluicegate/cli/QueueKind")) :: ws) ({ frames := 2, cells := 1, slots := 3, locals := 28 } : Room)) (fun a U => a = #[(.ref a0)] ∧ Z.Warmed39 U.vm ∧ U.heap = h0) (fun _ _ _ _ _ => True) (fun _ U o U' => ∃ v L, o = .returned v ∧ QNf2 Z a0 en0 en1 en2 t0 t1 t2 vv ic va0 k0 h0 n0 v U'.heap L ∧ FrameEnd U o U' L ({ frames := 2, cells := 1, slots := 3, locals := 28 } : Room).cells ({ frames := 2, cells := 1, slots := 3, locals := 28 } : Room).slots) := by
  refine MetFree.of_bodySF (plainFor_of_name pn_3) hisR ?_
  intro p e s m args below meth c s₁ Bd hml0 hP hK
  obtain ⟨rfl, hZ, hh⟩ := hP
  have hx := Bd.exec
  have hby := Bd.bytes
  have hml : c.maxLocals = 5 := hml0
  have hown : s.vm.findClass "sluicegate/cli/QueueKind" = some m.cls := findClass_of_methodNamed Bd.named
  have hnm := (name_of_methodNamed Bd.named Bd.method).1
  have hlk : meth.locks = false := BodyLoose.notSynchronized Bd
  have X0 : Stand p l e ({ frames := 2, cells := 1, slots := 3, locals := 28 } : Room) s m #[(.ref a0)] below meth c s₁ [] 0 0 := Stand.of_body Bd
  have eh0 : s₁.heap = h0 := by rw [← hh, Bd.state]; rfl
  have N0 := Fr.nil n0
  show Rest p.tables e below s (QNf2 Z a0 en0 en1 en2 t0 t1 t2 vv ic va0 k0 h0 n0) _ _ (s₁.setTop (entryFrame m #[(.ref a0)] 5))
  refine Rest.via (fun t k => castTop (ef_Nf2 m a0) k) ?_
  have QK1 := own_QK_ext (O.keep (Keep.refl h0 []) all0).2 QK
  obtain ⟨Sv1, ⟨kv1, Vv1⟩, Ev1, Sa1_, Sl1_, Sh1_, ⟨va1a, ka1, Ee1a, Fl1a, S1a⟩, ⟨va1b, kb1_, Ee1b, Fl1b, S1b⟩, ⟨va1c, kc1_, Ee1c, Fl1c, S1c⟩, nt01, nt02, nt12⟩ := id QK1
  show Rest p.tables e below s _ _ _ (s₁.setTop (mkF m 0 #[.val (.ref a0), .unset, .unset, .unset, .unset] []))
  obtain ⟨_, _, ⟨T2, L2, k2, n2⟩, -, X2, ⟨Lc2, hQ2, l2, y2, z2⟩, st2⟩ := Jvm.LawKit.callS X0 hx (y := (⟨"sluicegate/cli/QueueKind", "values", "()[Lsluicegate/cli/QueueKind;"⟩ : MethodName)) hown (mvT hZ (hw _ (List.mem_of_getElem? (i := 37) rfl))) (mvT hZ (hw _ (List.mem_of_getElem? (i := 38) rfl))) (mvT hZ (hw _ (List.mem_of_getElem? (i := 3) rfl))) (mvT hZ (hw _ (List.mem_of_getElem? (i := 39) rfl))) (by decide) (backOf (W := 0) (rmVA l Z aw hw []  en0 en1 en2 t0 t1 t2 vv h0 n0 (Nat.le_trans Z0 (Keep.refl h0 []).1) (O.keep (Keep.refl h0 []) all0) QK) hZ (hw _ (List.mem_of_getElem? (i := 39) rfl)) (hw _ (List.mem_of_getElem? (i := 3) rfl)) (by decide) (by decide)) (g := (mkF m 0 #[.val (.ref a0), .unset, .unset, .unset, .unset] [])) rfl (by rw [hml]; rfl) (argsL := []) (rest := []) (lenOf pd_5 rfl) rfl (by show 2 * 0 + _ ≤ _; exact Nat.le_of_eq rfl) (hb hby d7_0) (fun _ _ => ⟨rfl, eh0, (by decide : 0 + 1 ≤ _), (by decide : 0 + 3 ≤ _)⟩)
  dsimp only [Pt.U, Pt.locs, Pt.cells, Pt.slots] at X2 l2 y2 z2 st2 hQ2
  subst l2 y2 z2
  obtain ⟨h2, e2⟩ : ∃ z, T2.heap = z := ⟨_, rfl⟩
  rw [e2] at hQ2
  obtain ⟨w2, kv2, rfl, Nq2, Kq2, sd2, Vq2⟩ := hQ2
  have N2 := Fr.app N0 Nq2
  have K2 : Keep h0 h2 [] := (Keep.refl h0 []).trans Kq2 all0
  have QK3 := own_QK_ext (O.keep K2 all0).2 QK
  obtain ⟨Sv3, ⟨kv3, Vv3⟩, Ev3, Sa3_, Sl3_, Sh3_, ⟨va3a, ka3, Ee3a, Fl3a, S3a⟩, ⟨va3b, kb3_, Ee3b, Fl3b, S3b⟩, ⟨va3c, kc3_, Ee3c, Fl3c, S3c⟩, nt01, nt02, nt12⟩ := id QK3
  refine Rest.via (fun t k => st2 t k) ?_
  show Rest p.tables e below s _ _ _ (T2.setTop (mkF m 3 #[.val (.ref a0), .unset, .unset, .unset, .unset] [(.ref w2)]))
  refine Rest.via (fun t k => XS.astoreN X2.here hx rfl (hb hby d7_3) rfl rfl (l' := #[.val (.ref a0), .val (.ref w2), .unset, .unset, .unset]) rfl k) ?_
  show Rest p.tables e below s _ _ _ (T2.setTop (mkF m 4 #[.val (.ref a0), .val (.ref w2), .unset, .unset, .unset] []))
  refine Rest.via (fun t k => XS.aloadN X2.here hx rfl (hb hby d7_4) rfl rfl k) ?_
  show Rest p.tables e below s _ _ _ (T2.setTop (mkF m 5 #[.val (.ref a0), .val (.ref w2), .unset, .unset, .unset] [(.ref w2)]))
  obtain ⟨cl4, Ar4, -, S4, P4, -, -⟩ := id Vq2
  refine Rest.via (fun t k => X2.arraylength hx (by rw [e2]; exact Ar4.1) (State.isArrayOf_alike hZ.alike Ar4.2.1) (g := (mkF m 5 #[.val (.ref a0), .val (.ref w2), .unset, .unset, .unset] [(.ref w2)])) rfl rfl (hb hby d7_5) t k) ?_
  rw [len_of S4 P4]
  show Rest p.tables e below s _ _ _ (T2.setTop (mkF m 6 #[.val (.ref a0), .val (.ref w2), .unset, .unset, .unset] [(.int (3 : Int32))]))
  refine Rest.via (fun t k => XS.istoreN X2.here hx rfl (hb hby d7_6) rfl (l' := #[.val (.ref a0), .val (.ref w2), .val (.int (3 : Int32)), .unset, .unset]) rfl k) ?_
  show Rest p.tables e below s _ _ _ (T2.setTop (mkF m 7 #[.val (.ref a0), .val (.ref w2), .val (.int (3 : Int32)), .unset, .unset] []))
  refine Rest.via (fun t k => XS.iconst X2.here hx rfl (hb hby d7_7) k) ?_
  show Rest p.tables e below s _ _ _ (T2.setTop (mkF m 8 #[.val (.ref a0), .val (.ref w2), .val (.int (3 : Int32)), .unset, .unset] [(.int (0 : Int32))]))
  refine Rest.via (fun t k => XS.istoreN X2.here hx rfl (hb hby d7_8) rfl (l' := #[.val (.ref a0), .val (.ref w2), .val (.int (3 : Int32)), .val (.int (0 : Int32)), .unset]) rfl k) ?_
  show Rest p.tables e below s _ _ _ (T2.setTop (mkF m 9 #[.val (.ref a0), .val (.ref w2), .val (.int (3 : Int32)), .val (.int (0 : Int32)), .unset] []))
  refine Rest.via (fun t k => XS.iloadN X2.here hx rfl (hb hby d7_9) rfl k) ?_
  show Rest p.tables e below s _ _ _ (T2.setTop (mkF m 10 #[.val (.ref a0), .val (.ref w2), .val (.int (3 : Int32)), .val (.int (0 : Int32)), .unset] [(.int (0 : Int32))]))
  refine Rest.via (fun t k => XS.iloadN X2.here hx rfl (hb hby d7_10) rfl k) ?_
  show Rest p.tables e below s _ _ _ (T2.setTop (mkF m 11 #[.val (.ref a0), .val (.ref w2), .val (.int (3 : Int32)), .val (.int (0 : Int32)), .unset] [(.int (3 : Int32)), (.int (0 : Int32))]))
  refine Rest.via (fun t k => XS.icmpNo X2.here hx rfl (hb hby d7_11) rfl (tlt (by decide : (0 : Int32) < (3 : Int32))).2.1 k) ?_
  show Rest p.tables e below s _ _ _ (T2.setTop (mkF m 14 #[.val (.ref a0), .val (.ref w2), .val (.int (3 : Int32)), .val (.int (0 : Int32)), .unset] []))
  refine Rest.via (fun t k => XS.aloadN X2.here hx rfl (hb hby d7_14) rfl rfl k) ?_
  show Rest p.tables e below s _ _ _ (T2.setTop (mkF m 15 #[.val (.ref a0), .val (.ref w2), .val (.int (3 : Int32)), .val (.int (0 : Int32)), .unset] [(.ref w2)]))
  refine Rest.via (fun t k => XS.iloadN X2.here hx rfl (hb hby d7_15) rfl k) ?_
  show Rest p.tables e below s _ _ _ (T2.setTop (mkF m 16 #[.val (.ref a0), .val (.ref w2), .val (.int (3 : Int32)), .val (.int (0 : Int32)), .unset] [(.int (0 : Int32)), (.ref w2)]))
  obtain ⟨cl5, Ar5, qa5, Sa5, Pa5, Ha5, Ga5⟩ := id Vq2
  have hin5 := inb_of (j := (0 : Int32)) Sa5 ⟨by decide, by decide⟩
  have hat5 : cl5.slots[((0 : Int32)).toNatClampNeg]? = some (.ref en0) := Has.at Ha5 hin5 rfl
  refine Rest.via (fun t k => X2.aaload hx (j := (0 : Int32)) (v := (.ref en0)) (by rw [e2]; exact Ar5.1) (State.isArrayOf_alike hZ.alike Ar5.2.1) rfl Ar5.2.2 hin5 hat5 (g := (mkF m 16 #[.val (.ref a0), .val (.ref w2), .val (.int (3 : Int32)), .val (.int (0 : Int32)), .unset] [(.int (0 : Int32)), (.ref w2)])) rfl rfl (hb hby d7_16) t k) ?_
  show Rest p.tables e below s _ _ _ (T2.setTop (mkF m 17 #[.val (.ref a0), .val (.ref w2), .val (.int (3 : Int32)), .val (.int (0 : Int32)), .unset] [(.ref en0)]))
  refine Rest.via (fun t k => XS.astore X2.here hx rfl (hb hby d7_17) rfl rfl (l' := #[.val (.ref a0), .val (.ref w2), .val (.int (3 : Int32)), .val (.int (0 : Int32)), .val (.ref en0)]) rfl k) ?_
  show Rest p.tables e below s _ _ _ (T2.setTop (mkF m 19 #[.val (.ref a0), .val (.ref w2), .val (.int (3 : Int32)), .val (.int (0 : Int32)), .val (.ref en0)] []))
  refine Rest.via (fun t k => XS.aload X2.here hx rfl (hb hby d7_19) rfl rfl k) ?_
  show Rest p.tables e below s _ _ _ (T2.setTop (mkF m 21 #[.val (.ref a0), .val (.ref w2), .val (.int (3 : Int32)), .val (.int (0 : Int32)), .val (.ref en0)] [(.ref en0)]))
  obtain ⟨T6, X6, e6, st6⟩ := getF X2 hx hZ hown (host := "") (Or.inl (hw _ (List.mem_of_getElem? (i := 52) rfl))) Via.refl e2 Fl3a (g := (mkF m 21 #[.val (.ref a0), .val (.ref w2), .val (.int (3 : Int32)), .val (.int (0 : Int32)), .val (.ref en0)] [(.ref en0)])) rfl rfl (hb hby d7_21)
  refine Rest.via (fun t k => st6 t k) ?_
  show Rest p.tables e below s _ _ _ (T6.setTop (mkF m 24 #[.val (.ref a0), .val (.ref w2), .val (.int (3 : Int32)), .val (.int (0 : Int32)), .val (.ref en0)] [(.ref t0)]))
  refine Rest.via (fun t k => XS.aloadN X6.here hx rfl (hb hby d7_24) rfl rfl k) ?_
  show Rest p.tables e below s _ _ _ (T6.setTop (mkF m 25 #[.val (.ref a0), .val (.ref w2), .val (.int (3 : Int32)), .val (.int (0 : Int32)), .val (.ref en0)] [(.ref a0), (.ref t0)]))
  obtain ⟨cq7, kq7, q7a, q7b, q7c⟩ := isOf hZ e6 S3a.1
  obtain ⟨_, _, ⟨T7, L7, k7, n7⟩, -, X7, ⟨Lc7, hQ7, l7, y7, z7⟩, st7⟩ := X6.virtualBack hx (y := (⟨"java/lang/String", "equals", "(Ljava/lang/Object;)Z"⟩ : MethodName)) (z := (⟨"java/lang/String", "equals", "(Ljava/lang/Object;)Z"⟩ : MethodName)) hown (mvT hZ (hw _ (List.mem_of_getElem? (i := 54) rfl))) (mvT hZ (hw _ (List.mem_of_getElem? (i := 55) rfl))) (notFace_of_selects (args := #[]) (mvT hZ (hw _ (List.mem_of_getElem? (i := 57) rfl)))) (mvT hZ (hw _ (List.mem_of_getElem? (i := 57) rfl))) (mvT hZ (hw _ (List.mem_of_getElem? (i := 56) rfl))) (by decide) (backOf (W := 0) (rmSE5_7 l Z aw hw [] t0 a0 va3a ka3 va0 k0 ic (97 : Int32) (114 : Int32) (114 : Int32) (97 : Int32) (121 : Int32) (own_by (104 : Int32)) (own_by (97 : Int32)) (own_by (110 : Int32)) (own_by (100 : Int32)) (own_by (111 : Int32)) (own_by (102 : Int32)) (own_by (102 : Int32)) h2 n0 (Nat.le_trans Z0 K2.1) S3a (own_St_keep S0 Kq2 nin0 nin0) nt0a (O.keep K2 all0) CS) hZ (hw _ (List.mem_of_getElem? (i := 58) rfl)) (hw _ (List.mem_of_getElem? (i := 7) rfl)) (by decide) (by decide)) q7a q7c (g := (mkF m 25 #[.val (.ref a0), .val (.ref w2), .val (.int (3 : Int32)), .val (.int (0 : Int32)), .val (.ref en0)] [(.ref a0), (.ref t0)])) rfl (by rw [hml]; rfl) (Steps.refl _) (argsL := [(.ref a0)]) (rest := []) (lenOf pd_6 rfl) rfl (by show 2 * 0 + _ ≤ _; exact Nat.le_of_eq rfl) (hb hby d7_25) (fun _ _ => ⟨rfl, e6, (by decide : 1 + 0 ≤ _), (by decide : 3 + 0 ≤ _)⟩)
  dsimp only [Pt.U, Pt.locs, Pt.cells, Pt.slots] at X7 l7 y7 z7 st7 hQ7
  subst l7 y7 z7
  obtain ⟨rfl, Nq7, e7⟩ := hQ7
  have N7 := Fr.app N2 Nq7
  refine Rest.via (fun t k => st7.trans k) ?_
  show Rest p.tables e below s _ _ _ (T7.setTop (mkF m 28 #[.val (.ref a0), .val (.ref w2), .val (.int (3 : Int32)), .val (.int (0 : Int32)), .val (.ref en0)] [(.int (if ([(97 : Int32), (114 : Int32), (114 : Int32), (97 : Int32), (121 : Int32)] : List Int32) = [(own_by (104 : Int32)), (own_by (97 : Int32)), (own_by (110 : Int32)), (own_by (100 : Int32)), (own_by (111 : Int32)), (own_by (102 : Int32)), (own_by (102 : Int32))] then (1 : Int32) else 0))]))
  rw [(by decide : (if ([(97 : Int32), (114 : Int32), (114 : Int32), (97 : Int32), (121 : Int32)] : List Int32) = [(own_by (104 : Int32)), (own_by (97 : Int32)), (own_by (110 : Int32)), (own_by (100 : Int32)), (own_by (111 : Int32)), (own_by (102 : Int32)), (own_by (102 : Int32))] then (1 : Int32) else 0) = (0 : Int32))]
  show Rest p.tables e below s _ _ _ (T7.setTop (mkF m 28 #[.val (.ref a0), .val (.ref w2), .val (.int (3 : Int32)), .val (.int (0 : Int32)), .val (.ref en0)] [(.int (0 : Int32))]))
  refine Rest.via (fun t k => XS.ifYes X7.here hx rfl (pc0 := 28) (pc' := 34) rfl (hb hby d7_28) rfl ((if0 _ _).trans (teq (by decide : (0 : Int32) = (0 : Int32))).1) (by decide) (by decide) k) ?_
  show Rest p.tables e below s _ _ _ (T7.setTop (mkF m 34 #[.val (.ref a0), .val (.ref w2), .val (.int (3 : Int32)), .val (.int (0 : Int32)), .val (.ref en0)] []))
  refine Rest.via (fun t k => XS.iinc X7.here hx rfl (hb hby d7_34) rfl (l' := #[.val (.ref a0), .val (.ref w2), .val (.int (3 : Int32)), .val (.int ((0 : Int32) + (1 : Int32))), .val (.ref en0)]) rfl k) ?_
  show Rest p.tables e below s _ _ _ (T7.setTop (mkF m 37 #[.val (.ref a0), .val (.ref w2), .val (.int (3 : Int32)), .val (.int ((0 : Int32) + (1 : Int32))), .val (.ref en0)] []))
  rw [(by decide : ((0 : Int32) + (1 : Int32)) = (1 : Int32))]
  show Rest p.tables e below s _ _ _ (T7.setTop (mkF m 37 #[.val (.ref a0), .val (.ref w2), .val (.int (3 : Int32)), .val (.int (1 : Int32)), .val (.ref en0)] []))
  refine Rest.via (fun t k => XS.goto X7.here hx rfl (pc0 := 37) (pc' := 9) rfl (hb hby d7_37) (by decide) (by decide) k) ?_
  show Rest p.tables e below s _ _ _ (T7.setTop (mkF m 9 #[.val (.ref a0), .val (.ref w2), .val (.int (3 : Int32)), .val (.int (1 : Int32)), .val (.ref en0)] []))
  refine Rest.via (fun t k => XS.iloadN X7.here hx rfl (hb hby d7_9) rfl k) ?_
  show Rest p.tables e below s _ _ _ (T7.setTop (mkF m 10 #[.val (.ref a0), .val (.ref w2), .val (.int (3 : Int32)), .val (.int (1 : Int32)), .val (.ref en0)] [(.int (1 : Int32))]))
  refine Rest.via (fun t k => XS.iloadN X7.here hx rfl (hb hby d7_10) rfl k) ?_
  show Rest p.tables e below s _ _ _ (T7.setTop (mkF m 11 #[.val (.ref a0), .val (.ref w2), .val (.int (3 : Int32)), .val (.int (1 : Int32)), .val (.ref en0)] [(.int (3 : Int32)), (.int (1 : Int32))]))
  refine Rest.via (fun t k => XS.icmpNo X7.here hx rfl (hb hby d7_11) rfl (tlt (by decide : (1 : Int32) < (3 : Int32))).2.1 k) ?_
  show Rest p.tables e below s _ _ _ (T7.setTop (mkF m 14 #[.val (.ref a0), .val (.ref w2), .val (.int (3 : Int32)), .val (.int (1 : Int32)), .val (.ref en0)] []))
  refine Rest.via (fun t k => XS.aloadN X7.here hx rfl (hb hby d7_14) rfl rfl k) ?_
  show Rest p.tables e below s _ _ _ (T7.setTop (mkF m 15 #[.val (.ref a0), .val (.ref w2), .val (.int (3 : Int32)), .val (.int (1 : Int32)), .val (.ref en0)] [(.ref w2)]))
  refine Rest.via (fun t k => XS.iloadN X7.here hx rfl (hb hby d7_15) rfl k) ?_
  show Rest p.tables e below s _ _ _ (T7.setTop (mkF m 16 #[.val (.ref a0), .val (.ref w2), .val (.int (3 : Int32)), .val (.int (1 : Int32)), .val (.ref en0)] [(.int (1 : Int32)), (.ref w2)]))
  obtain ⟨cl8, Ar8, qa8, Sa8, Pa8, Ha8, Ga8⟩ := id Vq2
  have hin8 := inb_of (j := (1 : Int32)) Sa8 ⟨by decide, by decide⟩
  have hat8 : cl8.slots[((1 : Int32)).toNatClampNeg]? = some (.ref en1) := Has.at Ha8 hin8 rfl
  refine Rest.via (fun t k => X7.aaload hx (j := (1 : Int32)) (v := (.ref en1)) (by rw [e7]; exact Ar8.1) (State.isArrayOf_alike hZ.alike Ar8.2.1) rfl Ar8.2.2 hin8 hat8 (g := (mkF m 16 #[.val (.ref a0), .val (.ref w2), .val (.int (3 : Int32)), .val (.int (1 : Int32)), .val (.ref en0)] [(.int (1 : Int32)), (.ref w2)])) rfl rfl (hb hby d7_16) t k) ?_
  show Rest p.tables e below s _ _ _ (T7.setTop (mkF m 17 #[.val (.ref a0), .val (.ref w2), .val (.int (3 : Int32)), .val (.int (1 : Int32)), .val (.ref en0)] [(.ref en1)]))
  refine Rest.via (fun t k => XS.astore X7.here hx rfl (hb hby d7_17) rfl rfl (l' := #[.val (.ref a0), .val (.ref w2), .val (.int (3 : Int32)), .val (.int (1 : Int32)), .val (.ref en1)]) rfl k) ?_
  show Rest p.tables e below s _ _ _ (T7.setTop (mkF m 19 #[.val (.ref a0), .val (.ref w2), .val (.int (3 : Int32)), .val (.int (1 : Int32)), .val (.ref en1)] []))
  refine Rest.via (fun t k => XS.aload X7.here hx rfl (hb hby d7_19) rfl rfl k) ?_
  show Rest p.tables e below s _ _ _ (T7.setTop (mkF m 21 #[.val (.ref a0), .val (.ref w2), .val (.int (3 : Int32)), .val (.int (1 : Int32)), .val (.ref en1)] [(.ref en1)]))
  obtain ⟨T9, X9, e9, st9⟩ := getF X7 hx hZ hown (host := "") (Or.inl (hw _ (List.mem_of_getElem? (i := 52) rfl))) Via.refl e7 Fl3b (g := (mkF m 21 #[.val (.ref a0), .val (.ref w2), .val (.int (3 : Int32)), .val (.int (1 : Int32)), .val (.ref en1)] [(.ref en1)])) rfl rfl (hb hby d7_21)
  refine Rest.via (fun t k => st9 t k) ?_
  show Rest p.tables e below s _ _ _ (T9.setTop (mkF m 24 #[.val (.ref a0), .val (.ref w2), .val (.int (3 : Int32)), .val (.int (1 : Int32)), .val (.ref en1)] [(.ref t1)]))
  refine Rest.via (fun t k => XS.aloadN X9.here hx rfl (hb hby d7_24) rfl rfl k) ?_
  show Rest p.tables e below s _ _ _ (T9.setTop (mkF m 25 #[.val (.ref a0), .val (.ref w2), .val (.int (3 : Int32)), .val (.int (1 : Int32)), .val (.ref en1)] [(.ref a0), (.ref t1)]))
  obtain ⟨cq10, kq10, q10a, q10b, q10c⟩ := isOf hZ e9 S3b.1
  obtain ⟨_, _, ⟨T10, L10, k10, n10⟩, -, X10, ⟨Lc10, hQ10, l10, y10, z10⟩, st10⟩ := X9.virtualBack hx (y := (⟨"java/lang/String", "equals", "(Ljava/lang/Object;)Z"⟩ : MethodName)) (z := (⟨"java/lang/String", "equals", "(Ljava/lang/Object;)Z"⟩ : MethodName)) hown (mvT hZ (hw _ (List.mem_of_getElem? (i := 54) rfl))) (mvT hZ (hw _ (List.mem_of_getElem? (i := 55) rfl))) (notFace_of_selects (args := #[]) (mvT hZ (hw _ (List.mem_of_getElem? (i := 57) rfl)))) (mvT hZ (hw _ (List.mem_of_getElem? (i := 57) rfl))) (mvT hZ (hw _ (List.mem_of_getElem? (i := 56) rfl))) (by decide) (backOf (W := 0) (rmSE6_7 l Z aw hw [] t1 a0 va3b kb3_ va0 k0 ic (108 : Int32) (105 : Int32) (110 : Int32) (107 : Int32) (101 : Int32) (100 : Int32) (own_by (104 : Int32)) (own_by (97 : Int32)) (own_by (110 : Int32)) (own_by (100 : Int32)) (own_by (111 : Int32)) (own_by (102 : Int32)) (own_by (102 : Int32)) h2 n0 (Nat.le_trans Z0 K2.1) S3b (own_St_keep S0 Kq2 nin0 nin0) nt1a (O.keep K2 all0) CS) hZ (hw _ (List.mem_of_getElem? (i := 58) rfl)) (hw _ (List.mem_of_getElem? (i := 7) rfl)) (by decide) (by decide)) q10a q10c (g := (mkF m 25 #[.val (.ref a0), .val (.ref w2), .val (.int (3 : Int32)), .val (.int (1 : Int32)), .val (.ref en1)] [(.ref a0), (.ref t1)])) rfl (by rw [hml]; rfl) (Steps.refl _) (argsL := [(.ref a0)]) (rest := []) (lenOf pd_6 rfl) rfl (by show 2 * 0 + _ ≤ _; exact Nat.le_of_eq rfl) (hb hby d7_25) (fun _ _ => ⟨rfl, e9, (by decide : 1 + 0 ≤ _), (by decide : 3 + 0 ≤ _)⟩)
  dsimp only [Pt.U, Pt.locs, Pt.cells, Pt.slots] at X10 l10 y10 z10 st10 hQ10
  subst l10 y10 z10
  obtain ⟨rfl, Nq10, e10⟩ := hQ10
  have N10 := Fr.app N7 Nq10
  refine Rest.via (fun t k => st10.trans k) ?_
  show Rest p.tables e below s _ _ _ (T10.setTop (mkF m 28 #[.val (.ref a0), .val (.ref w2), .val (.int (3 : Int32)), .val (.int (1 : Int32)), .val (.ref en1)] [(.int (if ([(108 : Int32), (105 : Int32), (110 : Int32), (107 : Int32), (101 : Int32), (100 : Int32)] : List Int32) = [(own_by (104 : Int32)), (own_by (97 : Int32)), (own_by (110 : Int32)), (own_by (100 : Int32)), (own_by (111 : Int32)), (own_by (102 : Int32)), (own_by (102 : Int32))] then (1 : Int32) else 0))]))
  rw [(by decide : (if ([(108 : Int32), (105 : Int32), (110 : Int32), (107 : Int32), (101 : Int32), (100 : Int32)] : List Int32) = [(own_by (104 : Int32)), (own_by (97 : Int32)), (own_by (110 : Int32)), (own_by (100 : Int32)), (own_by (111 : Int32)), (own_by (102 : Int32)), (own_by (102 : Int32))] then (1 : Int32) else 0) = (0 : Int32))]
  show Rest p.tables e below s _ _ _ (T10.setTop (mkF m 28 #[.val (.ref a0), .val (.ref w2), .val (.int (3 : Int32)), .val (.int (1 : Int32)), .val (.ref en1)] [(.int (0 : Int32))]))
  refine Rest.via (fun t k => XS.ifYes X10.here hx rfl (pc0 := 28) (pc' := 34) rfl (hb hby d7_28) rfl ((if0 _ _).trans (teq (by decide : (0 : Int32) = (0 : Int32))).1) (by decide) (by decide) k) ?_
  show Rest p.tables e below s _ _ _ (T10.setTop (mkF m 34 #[.val (.ref a0), .val (.ref w2), .val (.int (3 : Int32)), .val (.int (1 : Int32)), .val (.ref en1)] []))
  refine Rest.via (fun t k => XS.iinc X10.here hx rfl (hb hby d7_34) rfl (l' := #[.val (.ref a0), .val (.ref w2), .val (.int (3 : Int32)), .val (.int ((1 : Int32) + (1 : Int32))), .val (.ref en1)]) rfl k) ?_
  show Rest p.tables e below s _ _ _ (T10.setTop (mkF m 37 #[.val (.ref a0), .val (.ref w2), .val (.int (3 : Int32)), .val (.int ((1 : Int32) + (1 : Int32))), .val (.ref en1)] []))
  rw [(by decide : ((1 : Int32) + (1 : Int32)) = (2 : Int32))]
  show Rest p.tables e below s _ _ _ (T10.setTop (mkF m 37 #[.val (.ref a0), .val (.ref w2), .val (.int (3 : Int32)), .val (.int (2 : Int32)), .val (.ref en1)] []))
  refine Rest.via (fun t k => XS.goto X10.here hx rfl (pc0 := 37) (pc' := 9) rfl (hb hby d7_37) (by decide) (by decide) k) ?_
  show Rest p.tables e below s _ _ _ (T10.setTop (mkF m 9 #[.val (.ref a0), .val (.ref w2), .val (.int (3 : Int32)), .val (.int (2 : Int32)), .val (.ref en1)] []))
  refine Rest.via (fun t k => XS.iloadN X10.here hx rfl (hb hby d7_9) rfl k) ?_
  show Rest p.tables e below s _ _ _ (T10.setTop (mkF m 10 #[.val (.ref a0), .val (.ref w2), .val (.int (3 : Int32)), .val (.int (2 : Int32)), .val (.ref en1)] [(.int (2 : Int32))]))
  refine Rest.via (fun t k => XS.iloadN X10.here hx rfl (hb hby d7_10) rfl k) ?_
  show Rest p.tables e below s _ _ _ (T10.setTop (mkF m 11 #[.val (.ref a0), .val (.ref w2), .val (.int (3 : Int32)), .val (.int (2 : Int32)), .val (.ref en1)] [(.int (3 : Int32)), (.int (2 : Int32))]))
  refine Rest.via (fun t k => XS.icmpNo X10.here hx rfl (hb hby d7_11) rfl (tlt (by decide : (2 : Int32) < (3 : Int32))).2.1 k) ?_
  show Rest p.tables e below s _ _ _ (T10.setTop (mkF m 14 #[.val (.ref a0), .val (.ref w2), .val (.int (3 : Int32)), .val (.int (2 : Int32)), .val (.ref en1)] []))
  refine Rest.via (fun t k => XS.aloadN X10.here hx rfl (hb hby d7_14) rfl rfl k) ?_
  show Rest p.tables e below s _ _ _ (T10.setTop (mkF m 15 #[.val (.ref a0), .val (.ref w2), .val (.int (3 : Int32)), .val (.int (2 : Int32)), .val (.ref en1)] [(.ref w2)]))
  refine Rest.via (fun t k => XS.iloadN X10.here hx rfl (hb hby d7_15) rfl k) ?_
  show Rest p.tables e below s _ _ _ (T10.setTop (mkF m 16 #[.val (.ref a0), .val (.ref w2), .val (.int (3 : Int32)), .val (.int (2 : Int32)), .val (.ref en1)] [(.int (2 : Int32)), (.ref w2)]))
  obtain ⟨cl11, Ar11, qa11, Sa11, Pa11, Ha11, Ga11⟩ := id Vq2
  have hin11 := inb_of (j := (2 : Int32)) Sa11 ⟨by decide, by decide⟩
  have hat11 : cl11.slots[((2 : Int32)).toNatClampNeg]? = some (.ref en2) := Has.at Ha11 hin11 rfl
  refine Rest.via (fun t k => X10.aaload hx (j := (2 : Int32)) (v := (.ref en2)) (by rw [e10]; exact Ar11.1) (State.isArrayOf_alike hZ.alike Ar11.2.1) rfl Ar11.2.2 hin11 hat11 (g := (mkF m 16 #[.val (.ref a0), .val (.ref w2), .val (.int (3 : Int32)), .val (.int (2 : Int32)), .val (.ref en1)] [(.int (2 : Int32)), (.ref w2)])) rfl rfl (hb hby d7_16) t k) ?_
  show Rest p.tables e below s _ _ _ (T10.setTop (mkF m 17 #[.val (.ref a0), .val (.ref w2), .val (.int (3 : Int32)), .val (.int (2 : Int32)), .val (.ref en1)] [(.ref en2)]))
  refine Rest.via (fun t k => XS.astore X10.here hx rfl (hb hby d7_17) rfl rfl (l' := #[.val (.ref a0), .val (.ref w2), .val (.int (3 : Int32)), .val (.int (2 : Int32)), .val (.ref en2)]) rfl k) ?_
  show Rest p.tables e below s _ _ _ (T10.setTop (mkF m 19 #[.val (.ref a0), .val (.ref w2), .val (.int (3 : Int32)), .val (.int (2 : Int32)), .val (.ref en2)] []))
  refine Rest.via (fun t k => XS.aload X10.here hx rfl (hb hby d7_19) rfl rfl k) ?_
  show Rest p.tables e below s _ _ _ (T10.setTop (mkF m 21 #[.val (.ref a0), .val (.ref w2), .val (.int (3 : Int32)), .val (.int (2 : Int32)), .val (.ref en2)] [(.ref en2)]))
  obtain ⟨T12, X12, e12, st12⟩ := getF X10 hx hZ hown (host := "") (Or.inl (hw _ (List.mem_of_getElem? (i := 52) rfl))) Via.refl e10 Fl3c (g := (mkF m 21 #[.val (.ref a0), .val (.ref w2), .val (.int (3 : Int32)), .val (.int (2 : Int32)), .val (.ref en2)] [(.ref en2)])) rfl rfl (hb hby d7_21)
  refine Rest.via (fun t k => st12 t k) ?_
  show Rest p.tables e below s _ _ _ (T12.setTop (mkF m 24 #[.val (.ref a0), .val (.ref w2), .val (.int (3 : Int32)), .val (.int (2 : Int32)), .val (.ref en2)] [(.ref t2)]))
  refine Rest.via (fun t k => XS.aloadN X12.here hx rfl (hb hby d7_24) rfl rfl k) ?_
  show Rest p.tables e below s _ _ _ (T12.setTop (mkF m 25 #[.val (.ref a0), .val (.ref w2), .val (.int (3 : Int32)), .val (.int (2 : Int32)), .val (.ref en2)] [(.ref a0), (.ref t2)]))
  obtain ⟨cq13, kq13, q13a, q13b, q13c⟩ := isOf hZ e12 S3c.1
  obtain ⟨_, _, ⟨T13, L13, k13, n13⟩, -, X13, ⟨Lc13, hQ13, l13, y13, z13⟩, st13⟩ := X12.virtualBack hx (y := (⟨"java/lang/String", "equals", "(Ljava/lang/Object;)Z"⟩ : MethodName)) (z := (⟨"java/lang/String", "equals", "(Ljava/lang/Object;)Z"⟩ : MethodName)) hown (mvT hZ (hw _ (List.mem_of_getElem? (i := 54) rfl))) (mvT hZ (hw _ (List.mem_of_getElem? (i := 55) rfl))) (notFace_of_selects (args := #[]) (mvT hZ (hw _ (List.mem_of_getElem? (i := 57) rfl)))) (mvT hZ (hw _ (List.mem_of_getElem? (i := 57) rfl))) (mvT hZ (hw _ (List.mem_of_getElem? (i := 56) rfl))) (by decide) (backOf (W := 0) (rmSE7_7 l Z aw hw [] t2 a0 va3c kc3_ va0 k0 ic (104 : Int32) (97 : Int32) (110 : Int32) (100 : Int32) (111 : Int32) (102 : Int32) (102 : Int32) (own_by (104 : Int32)) (own_by (97 : Int32)) (own_by (110 : Int32)) (own_by (100 : Int32)) (own_by (111 : Int32)) (own_by (102 : Int32)) (own_by (102 : Int32)) h2 n0 (Nat.le_trans Z0 K2.1) S3c (own_St_keep S0 Kq2 nin0 nin0) nt2a (O.keep K2 all0) CS) hZ (hw _ (List.mem_of_getElem? (i := 58) rfl)) (hw _ (List.mem_of_getElem? (i := 7) rfl)) (by decide) (by decide)) q13a q13c (g := (mkF m 25 #[.val (.ref a0), .val (.ref w2), .val (.int (3 : Int32)), .val (.int (2 : Int32)), .val (.ref en2)] [(.ref a0), (.ref t2)])) rfl (by rw [hml]; rfl) (Steps.refl _) (argsL := [(.ref a0)]) (rest := []) (lenOf pd_6 rfl) rfl (by show 2 * 0 + _ ≤ _; exact Nat.le_of_eq rfl) (hb hby d7_25) (fun _ _ => ⟨rfl, e12, (by decide : 1 + 0 ≤ _), (by decide : 3 + 0 ≤ _)⟩)
  dsimp only [Pt.U, Pt.locs, Pt.cells, Pt.slots] at X13 l13 y13 z13 st13 hQ13
  subst l13 y13 z13
  obtain ⟨rfl, Nq13, e13⟩ := hQ13
  have N13 := Fr.app N10 Nq13
  refine Rest.via (fun t k => st13.trans k) ?_
  show Rest p.tables e below s _ _ _ (T13.setTop (mkF m 28 #[.val (.ref a0), .val (.ref w2), .val (.int (3 : Int32)), .val (.int (2 : Int32)), .val (.ref en2)] [(.int (if ([(104 : Int32), (97 : Int32), (110 : Int32), (100 : Int32), (111 : Int32), (102 : Int32), (102 : Int32)] : List Int32) = [(own_by (104 : Int32)), (own_by (97 : Int32)), (own_by (110 : Int32)), (own_by (100 : Int32)), (own_by (111 : Int32)), (own_by (102 : Int32)), (own_by (102 : Int32))] then (1 : Int32) else 0))]))
  rw [(by decide : (if ([(104 : Int32), (97 : Int32), (110 : Int32), (100 : Int32), (111 : Int32), (102 : Int32), (102 : Int32)] : List Int32) = [(own_by (104 : Int32)), (own_by (97 : Int32)), (own_by (110 : Int32)), (own_by (100 : Int32)), (own_by (111 : Int32)), (own_by (102 : Int32)), (own_by (102 : Int32))] then (1 : Int32) else 0) = (1 : Int32))]
  show Rest p.tables e below s _ _ _ (T13.setTop (mkF m 28 #[.val (.ref a0), .val (.ref w2), .val (.int (3 : Int32)), .val (.int (2 : Int32)), .val (.ref en2)] [(.int (1 : Int32))]))
  refine Rest.via (fun t k => XS.ifNo X13.here hx rfl (hb hby d7_28) rfl ((if0 _ _).trans (feq (by decide : ¬ ((1 : Int32) = (0 : Int32)))).1) k) ?_
  show Rest p.tables e below s _ _ _ (T13.setTop (mkF m 31 #[.val (.ref a0), .val (.ref w2), .val (.int (3 : Int32)), .val (.int (2 : Int32)), .val (.ref en2)] []))
  refine Rest.via (fun t k => XS.aload X13.here hx rfl (hb hby d7_31) rfl rfl k) ?_
  show Rest p.tables e below s _ _ _ (T13.setTop (mkF m 33 #[.val (.ref a0), .val (.ref w2), .val (.int (3 : Int32)), .val (.int (2 : Int32)), .val (.ref en2)] [(.ref en2)]))
  refine Rest.ret X13 (v := some (.ref en2)) (fun h => by rw [Bd.returns] at h; cases h) hlk (fun fs hr => retOut X13 hx Bd.returns rfl (Or.inr (Or.inr (Or.inr (Or.inr ⟨rfl, rfl, rfl⟩)))) (hb hby d7_33) hr) ?_ (by decide) (by decide)
  rw [e13]
  exact ⟨rfl, N13, K2⟩
theorem ef_Ns2 (m : MethodId)  : entryFrame m #[(.ref t2)] 5 = mkF m 0 #[.val (.ref t2), .unset, .unset, .unset, .unset] [] := by first | (simp [entryFrame, mkF, argsToLocals, Value.category, maxLocals]; done) | rfl
def QNs2 (Z : State) (en0 : Addr) (en1 : Addr) (en2 : Addr) (t0 : Addr) (t1 : Addr) (t2 : Addr) (vv : Addr) (ic : Int32) (h0 : Heap) (n0 : Nat) (v : Option Value) (h : Heap) (L : List Loc) : Prop := v = some (.ref en2) ∧ Fr n0 L ∧ Keep h0 h []
set_option maxRecDepth 65536 in
set_option maxHeartbeats 40000000 in
theorem rmNs2 (l : Launch) (Z : State) (aw : Array Value) (hw : ∀ d ∈ tables_1, d.before aw Z = true) (ws : List Jvm.Cond) (en0 : Addr) (en1 : Addr) (en2 : Addr) (t0 : Addr) (t1 : Addr) (t2 : Addr) (vv : Addr) (ic : Int32) (h0 : Heap) (n0 : Nat) (Z0 : n0 ≤ h0.size) (O : Old Z n0 h0) (QK : own_QK Z Z.heap en0 en1 en2 t0 t1 t2 vv) (CS : own_CS Z ic) :
    MetFree l (⟨"sluicegate/cli/QueueKind", "named", "(Ljava/lang/String;)Lsluicegate/cli/QueueKind;"⟩ : MethodName) (head1 (Jvm.Cond.code (⟨"sluicegate/cli/QueueKind", "named", "(Ljava/lang/String;)Lsluicegate/cli/QueueKind;"⟩ : MethodName) prog_18_method_6_code 5 (some (.object "sluicegate/cli/QueueKind")) :: ws) ({ frames := 2, cells := 1, slots := 3, locals := 28 } : Room)) (fun a U => a = #[(.ref t2)] ∧ Z.Warmed39 U.vm ∧ U.heap = h0) (fun _ _ _ _ _ => True) (fun _ U o U' => ∃ v L, o = .returned v ∧ QNs2 Z en0 en1 en2 t0 t1 t2 vv ic h0 n0 v U'.heap L ∧ FrameEnd U o U' L ({ frames := 2, cells := 1, slots := 3, locals := 28 } : Room).cells ({ frames := 2, cells := 1, slots := 3, locals := 28 } : Room).slots) := by
  refine MetFree.of_bodySF (plainFor_of_name pn_3) hisR ?_
  intro p e s m args below meth c s₁ Bd hml0 hP hK
  obtain ⟨rfl, hZ, hh⟩ := hP
  have hx := Bd.exec
  have hby := Bd.bytes
  have hml : c.maxLocals = 5 := hml0
  have hown : s.vm.findClass "sluicegate/cli/QueueKind" = some m.cls := findClass_of_methodNamed Bd.named
  have hnm := (name_of_methodNamed Bd.named Bd.method).1
  have hlk : meth.locks = false := BodyLoose.notSynchronized Bd
  have X0 : Stand p l e ({ frames := 2, cells := 1, slots := 3, locals := 28 } : Room) s m #[(.ref t2)] below meth c s₁ [] 0 0 := Stand.of_body Bd
  have eh0 : s₁.heap = h0 := by rw [← hh, Bd.state]; rfl
  have N0 := Fr.nil n0
  show Rest p.tables e below s (QNs2 Z en0 en1 en2 t0 t1 t2 vv ic h0 n0) _ _ (s₁.setTop (entryFrame m #[(.ref t2)] 5))
  refine Rest.via (fun t k => castTop (ef_Ns2 m ) k) ?_
  have QK1 := own_QK_ext (O.keep (Keep.refl h0 []) all0).2 QK
  obtain ⟨Sv1, ⟨kv1, Vv1⟩, Ev1, Sa1_, Sl1_, Sh1_, ⟨va1a, ka1, Ee1a, Fl1a, S1a⟩, ⟨va1b, kb1_, Ee1b, Fl1b, S1b⟩, ⟨va1c, kc1_, Ee1c, Fl1c, S1c⟩, nt01, nt02, nt12⟩ := id QK1
  show Rest p.tables e below s _ _ _ (s₁.setTop (mkF m 0 #[.val (.ref t2), .unset, .unset, .unset, .unset] []))
  obtain ⟨_, _, ⟨T2, L2, k2, n2⟩, -, X2, ⟨Lc2, hQ2, l2, y2, z2⟩, st2⟩ := Jvm.LawKit.callS X0 hx (y := (⟨"sluicegate/cli/QueueKind", "values", "()[Lsluicegate/cli/QueueKind;"⟩ : MethodName)) hown (mvT hZ (hw _ (List.mem_of_getElem? (i := 37) rfl))) (mvT hZ (hw _ (List.mem_of_getElem? (i := 38) rfl))) (mvT hZ (hw _ (List.mem_of_getElem? (i := 3) rfl))) (mvT hZ (hw _ (List.mem_of_getElem? (i := 39) rfl))) (by decide) (backOf (W := 0) (rmVA l Z aw hw []  en0 en1 en2 t0 t1 t2 vv h0 n0 (Nat.le_trans Z0 (Keep.refl h0 []).1) (O.keep (Keep.refl h0 []) all0) QK) hZ (hw _ (List.mem_of_getElem? (i := 39) rfl)) (hw _ (List.mem_of_getElem? (i := 3) rfl)) (by decide) (by decide)) (g := (mkF m 0 #[.val (.ref t2), .unset, .unset, .unset, .unset] [])) rfl (by rw [hml]; rfl) (argsL := []) (rest := []) (lenOf pd_5 rfl) rfl (by show 2 * 0 + _ ≤ _; exact Nat.le_of_eq rfl) (hb hby d7_0) (fun _ _ => ⟨rfl, eh0, (by decide : 0 + 1 ≤ _), (by decide : 0 + 3 ≤ _)⟩)
  dsimp only [Pt.U, Pt.locs, Pt.cells, Pt.slots] at X2 l2 y2 z2 st2 hQ2
  subst l2 y2 z2
  obtain ⟨h2, e2⟩ : ∃ z, T2.heap = z := ⟨_, rfl⟩
  rw [e2] at hQ2
  obtain ⟨w2, kv2, rfl, Nq2, Kq2, sd2, Vq2⟩ := hQ2
  have N2 := Fr.app N0 Nq2
  have K2 : Keep h0 h2 [] := (Keep.refl h0 []).trans Kq2 all0
  have QK3 := own_QK_ext (O.keep K2 all0).2 QK
  obtain ⟨Sv3, ⟨kv3, Vv3⟩, Ev3, Sa3_, Sl3_, Sh3_, ⟨va3a, ka3, Ee3a, Fl3a, S3a⟩, ⟨va3b, kb3_, Ee3b, Fl3b, S3b⟩, ⟨va3c, kc3_, Ee3c, Fl3c, S3c⟩, nt01, nt02, nt12⟩ := id QK3
  refine Rest.via (fun t k => st2 t k) ?_
  show Rest p.tables e below s _ _ _ (T2.setTop (mkF m 3 #[.val (.ref t2), .unset, .unset, .unset, .unset] [(.ref w2)]))
  refine Rest.via (fun t k => XS.astoreN X2.here hx rfl (hb hby d7_3) rfl rfl (l' := #[.val (.ref t2), .val (.ref w2), .unset, .unset, .unset]) rfl k) ?_
  show Rest p.tables e below s _ _ _ (T2.setTop (mkF m 4 #[.val (.ref t2), .val (.ref w2), .unset, .unset, .unset] []))
  refine Rest.via (fun t k => XS.aloadN X2.here hx rfl (hb hby d7_4) rfl rfl k) ?_
  show Rest p.tables e below s _ _ _ (T2.setTop (mkF m 5 #[.val (.ref t2), .val (.ref w2), .unset, .unset, .unset] [(.ref w2)]))
  obtain ⟨cl4, Ar4, -, S4, P4, -, -⟩ := id Vq2
  refine Rest.via (fun t k => X2.arraylength hx (by rw [e2]; exact Ar4.1) (State.isArrayOf_alike hZ.alike Ar4.2.1) (g := (mkF m 5 #[.val (.ref t2), .val (.ref w2), .unset, .unset, .unset] [(.ref w2)])) rfl rfl (hb hby d7_5) t k) ?_
  rw [len_of S4 P4]
  show Rest p.tables e below s _ _ _ (T2.setTop (mkF m 6 #[.val (.ref t2), .val (.ref w2), .unset, .unset, .unset] [(.int (3 : Int32))]))
  refine Rest.via (fun t k => XS.istoreN X2.here hx rfl (hb hby d7_6) rfl (l' := #[.val (.ref t2), .val (.ref w2), .val (.int (3 : Int32)), .unset, .unset]) rfl k) ?_
  show Rest p.tables e below s _ _ _ (T2.setTop (mkF m 7 #[.val (.ref t2), .val (.ref w2), .val (.int (3 : Int32)), .unset, .unset] []))
  refine Rest.via (fun t k => XS.iconst X2.here hx rfl (hb hby d7_7) k) ?_
  show Rest p.tables e below s _ _ _ (T2.setTop (mkF m 8 #[.val (.ref t2), .val (.ref w2), .val (.int (3 : Int32)), .unset, .unset] [(.int (0 : Int32))]))
  refine Rest.via (fun t k => XS.istoreN X2.here hx rfl (hb hby d7_8) rfl (l' := #[.val (.ref t2), .val (.ref w2), .val (.int (3 : Int32)), .val (.int (0 : Int32)), .unset]) rfl k) ?_
  show Rest p.tables e below s _ _ _ (T2.setTop (mkF m 9 #[.val (.ref t2), .val (.ref w2), .val (.int (3 : Int32)), .val (.int (0 : Int32)), .unset] []))
  refine Rest.via (fun t k => XS.iloadN X2.here hx rfl (hb hby d7_9) rfl k) ?_
  show Rest p.tables e below s _ _ _ (T2.setTop (mkF m 10 #[.val (.ref t2), .val (.ref w2), .val (.int (3 : Int32)), .val (.int (0 : Int32)), .unset] [(.int (0 : Int32))]))
  refine Rest.via (fun t k => XS.iloadN X2.here hx rfl (hb hby d7_10) rfl k) ?_
  show Rest p.tables e below s _ _ _ (T2.setTop (mkF m 11 #[.val (.ref t2), .val (.ref w2), .val (.int (3 : Int32)), .val (.int (0 : Int32)), .unset] [(.int (3 : Int32)), (.int (0 : Int32))]))
  refine Rest.via (fun t k => XS.icmpNo X2.here hx rfl (hb hby d7_11) rfl (tlt (by decide : (0 : Int32) < (3 : Int32))).2.1 k) ?_
  show Rest p.tables e below s _ _ _ (T2.setTop (mkF m 14 #[.val (.ref t2), .val (.ref w2), .val (.int (3 : Int32)), .val (.int (0 : Int32)), .unset] []))
  refine Rest.via (fun t k => XS.aloadN X2.here hx rfl (hb hby d7_14) rfl rfl k) ?_
  show Rest p.tables e below s _ _ _ (T2.setTop (mkF m 15 #[.val (.ref t2), .val (.ref w2), .val (.int (3 : Int32)), .val (.int (0 : Int32)), .unset] [(.ref w2)]))
  refine Rest.via (fun t k => XS.iloadN X2.here hx rfl (hb hby d7_15) rfl k) ?_
  show Rest p.tables e below s _ _ _ (T2.setTop (mkF m 16 #[.val (.ref t2), .val (.ref w2), .val (.int (3 : Int32)), .val (.int (0 : Int32)), .unset] [(.int (0 : Int32)), (.ref w2)]))
  obtain ⟨cl5, Ar5, qa5, Sa5, Pa5, Ha5, Ga5⟩ := id Vq2
  have hin5 := inb_of (j := (0 : Int32)) Sa5 ⟨by decide, by decide⟩
  have hat5 : cl5.slots[((0 : Int32)).toNatClampNeg]? = some (.ref en0) := Has.at Ha5 hin5 rfl
  refine Rest.via (fun t k => X2.aaload hx (j := (0 : Int32)) (v := (.ref en0)) (by rw [e2]; exact Ar5.1) (State.isArrayOf_alike hZ.alike Ar5.2.1) rfl Ar5.2.2 hin5 hat5 (g := (mkF m 16 #[.val (.ref t2), .val (.ref w2), .val (.int (3 : Int32)), .val (.int (0 : Int32)), .unset] [(.int (0 : Int32)), (.ref w2)])) rfl rfl (hb hby d7_16) t k) ?_
  show Rest p.tables e below s _ _ _ (T2.setTop (mkF m 17 #[.val (.ref t2), .val (.ref w2), .val (.int (3 : Int32)), .val (.int (0 : Int32)), .unset] [(.ref en0)]))
  refine Rest.via (fun t k => XS.astore X2.here hx rfl (hb hby d7_17) rfl rfl (l' := #[.val (.ref t2), .val (.ref w2), .val (.int (3 : Int32)), .val (.int (0 : Int32)), .val (.ref en0)]) rfl k) ?_
  show Rest p.tables e below s _ _ _ (T2.setTop (mkF m 19 #[.val (.ref t2), .val (.ref w2), .val (.int (3 : Int32)), .val (.int (0 : Int32)), .val (.ref en0)] []))
  refine Rest.via (fun t k => XS.aload X2.here hx rfl (hb hby d7_19) rfl rfl k) ?_
  show Rest p.tables e below s _ _ _ (T2.setTop (mkF m 21 #[.val (.ref t2), .val (.ref w2), .val (.int (3 : Int32)), .val (.int (0 : Int32)), .val (.ref en0)] [(.ref en0)]))
  obtain ⟨T6, X6, e6, st6⟩ := getF X2 hx hZ hown (host := "") (Or.inl (hw _ (List.mem_of_getElem? (i := 52) rfl))) Via.refl e2 Fl3a (g := (mkF m 21 #[.val (.ref t2), .val (.ref w2), .val (.int (3 : Int32)), .val (.int (0 : Int32)), .val (.ref en0)] [(.ref en0)])) rfl rfl (hb hby d7_21)
  refine Rest.via (fun t k => st6 t k) ?_
  show Rest p.tables e below s _ _ _ (T6.setTop (mkF m 24 #[.val (.ref t2), .val (.ref w2), .val (.int (3 : Int32)), .val (.int (0 : Int32)), .val (.ref en0)] [(.ref t0)]))
  refine Rest.via (fun t k => XS.aloadN X6.here hx rfl (hb hby d7_24) rfl rfl k) ?_
  show Rest p.tables e below s _ _ _ (T6.setTop (mkF m 25 #[.val (.ref t2), .val (.ref w2), .val (.int (3 : Int32)), .val (.int (0 : Int32)), .val (.ref en0)] [(.ref t2), (.ref t0)]))
  obtain ⟨cq7, kq7, q7a, q7b, q7c⟩ := isOf hZ e6 S3a.1
  obtain ⟨_, _, ⟨T7, L7, k7, n7⟩, -, X7, ⟨Lc7, hQ7, l7, y7, z7⟩, st7⟩ := X6.virtualBack hx (y := (⟨"java/lang/String", "equals", "(Ljava/lang/Object;)Z"⟩ : MethodName)) (z := (⟨"java/lang/String", "equals", "(Ljava/lang/Object;)Z"⟩ : MethodName)) hown (mvT hZ (hw _ (List.mem_of_getElem? (i := 54) rfl))) (mvT hZ (hw _ (List.mem_of_getElem? (i := 55) rfl))) (notFace_of_selects (args := #[]) (mvT hZ (hw _ (List.mem_of_getElem? (i := 57) rfl)))) (mvT hZ (hw _ (List.mem_of_getElem? (i := 57) rfl))) (mvT hZ (hw _ (List.mem_of_getElem? (i := 56) rfl))) (by decide) (backOf (W := 0) (rmSE5_7 l Z aw hw [] t0 t2 va3a ka3 va3c kc3_ ic (97 : Int32) (114 : Int32) (114 : Int32) (97 : Int32) (121 : Int32) (104 : Int32) (97 : Int32) (110 : Int32) (100 : Int32) (111 : Int32) (102 : Int32) (102 : Int32) h2 n0 (Nat.le_trans Z0 K2.1) S3a S3c nt02 (O.keep K2 all0) CS) hZ (hw _ (List.mem_of_getElem? (i := 58) rfl)) (hw _ (List.mem_of_getElem? (i := 7) rfl)) (by decide) (by decide)) q7a q7c (g := (mkF m 25 #[.val (.ref t2), .val (.ref w2), .val (.int (3 : Int32)), .val (.int (0 : Int32)), .val (.ref en0)] [(.ref t2), (.ref t0)])) rfl (by rw [hml]; rfl) (Steps.refl _) (argsL := [(.ref t2)]) (rest := []) (lenOf pd_6 rfl) rfl (by show 2 * 0 + _ ≤ _; exact Nat.le_of_eq rfl) (hb hby d7_25) (fun _ _ => ⟨rfl, e6, (by decide : 1 + 0 ≤ _), (by decide : 3 + 0 ≤ _)⟩)
  dsimp only [Pt.U, Pt.locs, Pt.cells, Pt.slots] at X7 l7 y7 z7 st7 hQ7
  subst l7 y7 z7
  obtain ⟨rfl, Nq7, e7⟩ := hQ7
  have N7 := Fr.app N2 Nq7
  refine Rest.via (fun t k => st7.trans k) ?_
  show Rest p.tables e below s _ _ _ (T7.setTop (mkF m 28 #[.val (.ref t2), .val (.ref w2), .val (.int (3 : Int32)), .val (.int (0 : Int32)), .val (.ref en0)] [(.int (if ([(97 : Int32), (114 : Int32), (114 : Int32), (97 : Int32), (121 : Int32)] : List Int32) = [(104 : Int32), (97 : Int32), (110 : Int32), (100 : Int32), (111 : Int32), (102 : Int32), (102 : Int32)] then (1 : Int32) else 0))]))
  rw [(by decide : (if ([(97 : Int32), (114 : Int32), (114 : Int32), (97 : Int32), (121 : Int32)] : List Int32) = [(104 : Int32), (97 : Int32), (110 : Int32), (100 : Int32), (111 : Int32), (102 : Int32), (102 : Int32)] then (1 : Int32) else 0) = (0 : Int32))]
  show Rest p.tables e below s _ _ _ (T7.setTop (mkF m 28 #[.val (.ref t2), .val (.ref w2), .val (.int (3 : Int32)), .val (.int (0 : Int32)), .val (.ref en0)] [(.int (0 : Int32))]))
  refine Rest.via (fun t k => XS.ifYes X7.here hx rfl (pc0 := 28) (pc' := 34) rfl (hb hby d7_28) rfl ((if0 _ _).trans (teq (by decide : (0 : Int32) = (0 : Int32))).1) (by decide) (by decide) k) ?_
  show Rest p.tables e below s _ _ _ (T7.setTop (mkF m 34 #[.val (.ref t2), .val (.ref w2), .val (.int (3 : Int32)), .val (.int (0 : Int32)), .val (.ref en0)] []))
  refine Rest.via (fun t k => XS.iinc X7.here hx rfl (hb hby d7_34) rfl (l' := #[.val (.ref t2), .val (.ref w2), .val (.int (3 : Int32)), .val (.int ((0 : Int32) + (1 : Int32))), .val (.ref en0)]) rfl k) ?_
  show Rest p.tables e below s _ _ _ (T7.setTop (mkF m 37 #[.val (.ref t2), .val (.ref w2), .val (.int (3 : Int32)), .val (.int ((0 : Int32) + (1 : Int32))), .val (.ref en0)] []))
  rw [(by decide : ((0 : Int32) + (1 : Int32)) = (1 : Int32))]
  show Rest p.tables e below s _ _ _ (T7.setTop (mkF m 37 #[.val (.ref t2), .val (.ref w2), .val (.int (3 : Int32)), .val (.int (1 : Int32)), .val (.ref en0)] []))
  refine Rest.via (fun t k => XS.goto X7.here hx rfl (pc0 := 37) (pc' := 9) rfl (hb hby d7_37) (by decide) (by decide) k) ?_
  show Rest p.tables e below s _ _ _ (T7.setTop (mkF m 9 #[.val (.ref t2), .val (.ref w2), .val (.int (3 : Int32)), .val (.int (1 : Int32)), .val (.ref en0)] []))
  refine Rest.via (fun t k => XS.iloadN X7.here hx rfl (hb hby d7_9) rfl k) ?_
  show Rest p.tables e below s _ _ _ (T7.setTop (mkF m 10 #[.val (.ref t2), .val (.ref w2), .val (.int (3 : Int32)), .val (.int (1 : Int32)), .val (.ref en0)] [(.int (1 : Int32))]))
  refine Rest.via (fun t k => XS.iloadN X7.here hx rfl (hb hby d7_10) rfl k) ?_
  show Rest p.tables e below s _ _ _ (T7.setTop (mkF m 11 #[.val (.ref t2), .val (.ref w2), .val (.int (3 : Int32)), .val (.int (1 : Int32)), .val (.ref en0)] [(.int (3 : Int32)), (.int (1 : Int32))]))
  refine Rest.via (fun t k => XS.icmpNo X7.here hx rfl (hb hby d7_11) rfl (tlt (by decide : (1 : Int32) < (3 : Int32))).2.1 k) ?_
  show Rest p.tables e below s _ _ _ (T7.setTop (mkF m 14 #[.val (.ref t2), .val (.ref w2), .val (.int (3 : Int32)), .val (.int (1 : Int32)), .val (.ref en0)] []))
  refine Rest.via (fun t k => XS.aloadN X7.here hx rfl (hb hby d7_14) rfl rfl k) ?_
  show Rest p.tables e below s _ _ _ (T7.setTop (mkF m 15 #[.val (.ref t2), .val (.ref w2), .val (.int (3 : Int32)), .val (.int (1 : Int32)), .val (.ref en0)] [(.ref w2)]))
  refine Rest.via (fun t k => XS.iloadN X7.here hx rfl (hb hby d7_15) rfl k) ?_
  show Rest p.tables e below s _ _ _ (T7.setTop (mkF m 16 #[.val (.ref t2), .val (.ref w2), .val (.int (3 : Int32)), .val (.int (1 : Int32)), .val (.ref en0)] [(.int (1 : Int32)), (.ref w2)]))
  obtain ⟨cl8, Ar8, qa8, Sa8, Pa8, Ha8, Ga8⟩ := id Vq2
  have hin8 := inb_of (j := (1 : Int32)) Sa8 ⟨by decide, by decide⟩
  have hat8 : cl8.slots[((1 : Int32)).toNatClampNeg]? = some (.ref en1) := Has.at Ha8 hin8 rfl
  refine Rest.via (fun t k => X7.aaload hx (j := (1 : Int32)) (v := (.ref en1)) (by rw [e7]; exact Ar8.1) (State.isArrayOf_alike hZ.alike Ar8.2.1) rfl Ar8.2.2 hin8 hat8 (g := (mkF m 16 #[.val (.ref t2), .val (.ref w2), .val (.int (3 : Int32)), .val (.int (1 : Int32)), .val (.ref en0)] [(.int (1 : Int32)), (.ref w2)])) rfl rfl (hb hby d7_16) t k) ?_
  show Rest p.tables e below s _ _ _ (T7.setTop (mkF m 17 #[.val (.ref t2), .val (.ref w2), .val (.int (3 : Int32)), .val (.int (1 : Int32)), .val (.ref en0)] [(.ref en1)]))
  refine Rest.via (fun t k => XS.astore X7.here hx rfl (hb hby d7_17) rfl rfl (l' := #[.val (.ref t2), .val (.ref w2), .val (.int (3 : Int32)), .val (.int (1 : Int32)), .val (.ref en1)]) rfl k) ?_
  show Rest p.tables e below s _ _ _ (T7.setTop (mkF m 19 #[.val (.ref t2), .val (.ref w2), .val (.int (3 : Int32)), .val (.int (1 : Int32)), .val (.ref en1)] []))
  refine Rest.via (fun t k => XS.aload X7.here hx rfl (hb hby d7_19) rfl rfl k) ?_
  show Rest p.tables e below s _ _ _ (T7.setTop (mkF m 21 #[.val (.ref t2), .val (.ref w2), .val (.int (3 : Int32)), .val (.int (1 : Int32)), .val (.ref en1)] [(.ref en1)]))
  obtain ⟨T9, X9, e9, st9⟩ := getF X7 hx hZ hown (host := "") (Or.inl (hw _ (List.mem_of_getElem? (i := 52) rfl))) Via.refl e7 Fl3b (g := (mkF m 21 #[.val (.ref t2), .val (.ref w2), .val (.int (3 : Int32)), .val (.int (1 : Int32)), .val (.ref en1)] [(.ref en1)])) rfl rfl (hb hby d7_21)
  refine Rest.via (fun t k => st9 t k) ?_
  show Rest p.tables e below s _ _ _ (T9.setTop (mkF m 24 #[.val (.ref t2), .val (.ref w2), .val (.int (3 : Int32)), .val (.int (1 : Int32)), .val (.ref en1)] [(.ref t1)]))
  refine Rest.via (fun t k => XS.aloadN X9.here hx rfl (hb hby d7_24) rfl rfl k) ?_
  show Rest p.tables e below s _ _ _ (T9.setTop (mkF m 25 #[.val (.ref t2), .val (.ref w2), .val (.int (3 : Int32)), .val (.int (1 : Int32)), .val (.ref en1)] [(.ref t2), (.ref t1)]))
  obtain ⟨cq10, kq10, q10a, q10b, q10c⟩ := isOf hZ e9 S3b.1
  obtain ⟨_, _, ⟨T10, L10, k10, n10⟩, -, X10, ⟨Lc10, hQ10, l10, y10, z10⟩, st10⟩ := X9.virtualBack hx (y := (⟨"java/lang/String", "equals", "(Ljava/lang/Object;)Z"⟩ : MethodName)) (z := (⟨"java/lang/String", "equals", "(Ljava/lang/Object;)Z"⟩ : MethodName)) hown (mvT hZ (hw _ (List.mem_of_getElem? (i := 54) rfl))) (mvT hZ (hw _ (List.mem_of_getElem? (i := 55) rfl))) (notFace_of_selects (args := #[]) (mvT hZ (hw _ (List.mem_of_getElem? (i := 57) rfl)))) (mvT hZ (hw _ (List.mem_of_getElem? (i := 57) rfl))) (mvT hZ (hw _ (List.mem_of_getElem? (i := 56) rfl))) (by decide) (backOf (W := 0) (rmSE6_7 l Z aw hw [] t1 t2 va3b kb3_ va3c kc3_ ic (108 : Int32) (105 : Int32) (110 : Int32) (107 : Int32) (101 : Int32) (100 : Int32) (104 : Int32) (97 : Int32) (110 : Int32) (100 : Int32) (111 : Int32) (102 : Int32) (102 : Int32) h2 n0 (Nat.le_trans Z0 K2.1) S3b S3c nt12 (O.keep K2 all0) CS) hZ (hw _ (List.mem_of_getElem? (i := 58) rfl)) (hw _ (List.mem_of_getElem? (i := 7) rfl)) (by decide) (by decide)) q10a q10c (g := (mkF m 25 #[.val (.ref t2), .val (.ref w2), .val (.int (3 : Int32)), .val (.int (1 : Int32)), .val (.ref en1)] [(.ref t2), (.ref t1)])) rfl (by rw [hml]; rfl) (Steps.refl _) (argsL := [(.ref t2)]) (rest := []) (lenOf pd_6 rfl) rfl (by show 2 * 0 + _ ≤ _; exact Nat.le_of_eq rfl) (hb hby d7_25) (fun _ _ => ⟨rfl, e9, (by decide : 1 + 0 ≤ _), (by decide : 3 + 0 ≤ _)⟩)
  dsimp only [Pt.U, Pt.locs, Pt.cells, Pt.slots] at X10 l10 y10 z10 st10 hQ10
  subst l10 y10 z10
  obtain ⟨rfl, Nq10, e10⟩ := hQ10
  have N10 := Fr.app N7 Nq10
  refine Rest.via (fun t k => st10.trans k) ?_
  show Rest p.tables e below s _ _ _ (T10.setTop (mkF m 28 #[.val (.ref t2), .val (.ref w2), .val (.int (3 : Int32)), .val (.int (1 : Int32)), .val (.ref en1)] [(.int (if ([(108 : Int32), (105 : Int32), (110 : Int32), (107 : Int32), (101 : Int32), (100 : Int32)] : List Int32) = [(104 : Int32), (97 : Int32), (110 : Int32), (100 : Int32), (111 : Int32), (102 : Int32), (102 : Int32)] then (1 : Int32) else 0))]))
  rw [(by decide : (if ([(108 : Int32), (105 : Int32), (110 : Int32), (107 : Int32), (101 : Int32), (100 : Int32)] : List Int32) = [(104 : Int32), (97 : Int32), (110 : Int32), (100 : Int32), (111 : Int32), (102 : Int32), (102 : Int32)] then (1 : Int32) else 0) = (0 : Int32))]
  show Rest p.tables e below s _ _ _ (T10.setTop (mkF m 28 #[.val (.ref t2), .val (.ref w2), .val (.int (3 : Int32)), .val (.int (1 : Int32)), .val (.ref en1)] [(.int (0 : Int32))]))
  refine Rest.via (fun t k => XS.ifYes X10.here hx rfl (pc0 := 28) (pc' := 34) rfl (hb hby d7_28) rfl ((if0 _ _).trans (teq (by decide : (0 : Int32) = (0 : Int32))).1) (by decide) (by decide) k) ?_
  show Rest p.tables e below s _ _ _ (T10.setTop (mkF m 34 #[.val (.ref t2), .val (.ref w2), .val (.int (3 : Int32)), .val (.int (1 : Int32)), .val (.ref en1)] []))
  refine Rest.via (fun t k => XS.iinc X10.here hx rfl (hb hby d7_34) rfl (l' := #[.val (.ref t2), .val (.ref w2), .val (.int (3 : Int32)), .val (.int ((1 : Int32) + (1 : Int32))), .val (.ref en1)]) rfl k) ?_
  show Rest p.tables e below s _ _ _ (T10.setTop (mkF m 37 #[.val (.ref t2), .val (.ref w2), .val (.int (3 : Int32)), .val (.int ((1 : Int32) + (1 : Int32))), .val (.ref en1)] []))
  rw [(by decide : ((1 : Int32) + (1 : Int32)) = (2 : Int32))]
  show Rest p.tables e below s _ _ _ (T10.setTop (mkF m 37 #[.val (.ref t2), .val (.ref w2), .val (.int (3 : Int32)), .val (.int (2 : Int32)), .val (.ref en1)] []))
  refine Rest.via (fun t k => XS.goto X10.here hx rfl (pc0 := 37) (pc' := 9) rfl (hb hby d7_37) (by decide) (by decide) k) ?_
  show Rest p.tables e below s _ _ _ (T10.setTop (mkF m 9 #[.val (.ref t2), .val (.ref w2), .val (.int (3 : Int32)), .val (.int (2 : Int32)), .val (.ref en1)] []))
  refine Rest.via (fun t k => XS.iloadN X10.here hx rfl (hb hby d7_9) rfl k) ?_
  show Rest p.tables e below s _ _ _ (T10.setTop (mkF m 10 #[.val (.ref t2), .val (.ref w2), .val (.int (3 : Int32)), .val (.int (2 : Int32)), .val (.ref en1)] [(.int (2 : Int32))]))
  refine Rest.via (fun t k => XS.iloadN X10.here hx rfl (hb hby d7_10) rfl k) ?_
  show Rest p.tables e below s _ _ _ (T10.setTop (mkF m 11 #[.val (.ref t2), .val (.ref w2), .val (.int (3 : Int32)), .val (.int (2 : Int32)), .val (.ref en1)] [(.int (3 : Int32)), (.int (2 : Int32))]))
  refine Rest.via (fun t k => XS.icmpNo X10.here hx rfl (hb hby d7_11) rfl (tlt (by decide : (2 : Int32) < (3 : Int32))).2.1 k) ?_
  show Rest p.tables e below s _ _ _ (T10.setTop (mkF m 14 #[.val (.ref t2), .val (.ref w2), .val (.int (3 : Int32)), .val (.int (2 : Int32)), .val (.ref en1)] []))
  refine Rest.via (fun t k => XS.aloadN X10.here hx rfl (hb hby d7_14) rfl rfl k) ?_
  show Rest p.tables e below s _ _ _ (T10.setTop (mkF m 15 #[.val (.ref t2), .val (.ref w2), .val (.int (3 : Int32)), .val (.int (2 : Int32)), .val (.ref en1)] [(.ref w2)]))
  refine Rest.via (fun t k => XS.iloadN X10.here hx rfl (hb hby d7_15) rfl k) ?_
  show Rest p.tables e below s _ _ _ (T10.setTop (mkF m 16 #[.val (.ref t2), .val (.ref w2), .val (.int (3 : Int32)), .val (.int (2 : Int32)), .val (.ref en1)] [(.int (2 : Int32)), (.ref w2)]))
  obtain ⟨cl11, Ar11, qa11, Sa11, Pa11, Ha11, Ga11⟩ := id Vq2
  have hin11 := inb_of (j := (2 : Int32)) Sa11 ⟨by decide, by decide⟩
  have hat11 : cl11.slots[((2 : Int32)).toNatClampNeg]? = some (.ref en2) := Has.at Ha11 hin11 rfl
  refine Rest.via (fun t k => X10.aaload hx (j := (2 : Int32)) (v := (.ref en2)) (by rw [e10]; exact Ar11.1) (State.isArrayOf_alike hZ.alike Ar11.2.1) rfl Ar11.2.2 hin11 hat11 (g := (mkF m 16 #[.val (.ref t2), .val (.ref w2), .val (.int (3 : Int32)), .val (.int (2 : Int32)), .val (.ref en1)] [(.int (2 : Int32)), (.ref w2)])) rfl rfl (hb hby d7_16) t k) ?_
  show Rest p.tables e below s _ _ _ (T10.setTop (mkF m 17 #[.val (.ref t2), .val (.ref w2), .val (.int (3 : Int32)), .val (.int (2 : Int32)), .val (.ref en1)] [(.ref en2)]))
  refine Rest.via (fun t k => XS.astore X10.here hx rfl (hb hby d7_17) rfl rfl (l' := #[.val (.ref t2), .val (.ref w2), .val (.int (3 : Int32)), .val (.int (2 : Int32)), .val (.ref en2)]) rfl k) ?_
  show Rest p.tables e below s _ _ _ (T10.setTop (mkF m 19 #[.val (.ref t2), .val (.ref w2), .val (.int (3 : Int32)), .val (.int (2 : Int32)), .val (.ref en2)] []))
  refine Rest.via (fun t k => XS.aload X10.here hx rfl (hb hby d7_19) rfl rfl k) ?_
  show Rest p.tables e below s _ _ _ (T10.setTop (mkF m 21 #[.val (.ref t2), .val (.ref w2), .val (.int (3 : Int32)), .val (.int (2 : Int32)), .val (.ref en2)] [(.ref en2)]))
  obtain ⟨T12, X12, e12, st12⟩ := getF X10 hx hZ hown (host := "") (Or.inl (hw _ (List.mem_of_getElem? (i := 52) rfl))) Via.refl e10 Fl3c (g := (mkF m 21 #[.val (.ref t2), .val (.ref w2), .val (.int (3 : Int32)), .val (.int (2 : Int32)), .val (.ref en2)] [(.ref en2)])) rfl rfl (hb hby d7_21)
  refine Rest.via (fun t k => st12 t k) ?_
  show Rest p.tables e below s _ _ _ (T12.setTop (mkF m 24 #[.val (.ref t2), .val (.ref w2), .val (.int (3 : Int32)), .val (.int (2 : Int32)), .val (.ref en2)] [(.ref t2)]))
  refine Rest.via (fun t k => XS.aloadN X12.here hx rfl (hb hby d7_24) rfl rfl k) ?_
  show Rest p.tables e below s _ _ _ (T12.setTop (mkF m 25 #[.val (.ref t2), .val (.ref w2), .val (.int (3 : Int32)), .val (.int (2 : Int32)), .val (.ref en2)] [(.ref t2), (.ref t2)]))
  obtain ⟨cq13, kq13, q13a, q13b, q13c⟩ := isOf hZ e12 S3c.1
  obtain ⟨_, _, ⟨T13, L13, k13, n13⟩, -, X13, ⟨Lc13, hQ13, l13, y13, z13⟩, st13⟩ := X12.virtualBack hx (y := (⟨"java/lang/String", "equals", "(Ljava/lang/Object;)Z"⟩ : MethodName)) (z := (⟨"java/lang/String", "equals", "(Ljava/lang/Object;)Z"⟩ : MethodName)) hown (mvT hZ (hw _ (List.mem_of_getElem? (i := 54) rfl))) (mvT hZ (hw _ (List.mem_of_getElem? (i := 55) rfl))) (notFace_of_selects (args := #[]) (mvT hZ (hw _ (List.mem_of_getElem? (i := 57) rfl)))) (mvT hZ (hw _ (List.mem_of_getElem? (i := 57) rfl))) (mvT hZ (hw _ (List.mem_of_getElem? (i := 56) rfl))) (by decide) (backOf (W := 0) (rmSEs l Z aw hw [] t2  h2 n0 (Nat.le_trans Z0 K2.1) ) hZ (hw _ (List.mem_of_getElem? (i := 58) rfl)) (hw _ (List.mem_of_getElem? (i := 7) rfl)) (by decide) (by decide)) q13a q13c (g := (mkF m 25 #[.val (.ref t2), .val (.ref w2), .val (.int (3 : Int32)), .val (.int (2 : Int32)), .val (.ref en2)] [(.ref t2), (.ref t2)])) rfl (by rw [hml]; rfl) (Steps.refl _) (argsL := [(.ref t2)]) (rest := []) (lenOf pd_6 rfl) rfl (by show 2 * 0 + _ ≤ _; exact Nat.le_of_eq rfl) (hb hby d7_25) (fun _ _ => ⟨rfl, e12, (by decide : 1 + 0 ≤ _), (by decide : 3 + 0 ≤ _)⟩)
  dsimp only [Pt.U, Pt.locs, Pt.cells, Pt.slots] at X13 l13 y13 z13 st13 hQ13
  subst l13 y13 z13
  obtain ⟨rfl, Nq13, e13⟩ := hQ13
  have N13 := Fr.app N10 Nq13
  refine Rest.via (fun t k => st13.trans k) ?_
  show Rest p.tables e below s _ _ _ (T13.setTop (mkF m 28 #[.val (.ref t2), .val (.ref w2), .val (.int (3 : Int32)), .val (.int (2 : Int32)), .val (.ref en2)] [(.int (1 : Int32))]))
  refine Rest.via (fun t k => XS.ifNo X13.here hx rfl (hb hby d7_28) rfl ((if0 _ _).trans (feq (by decide : ¬ ((1 : Int32) = (0 : Int32)))).1) k) ?_
  show Rest p.tables e below s _ _ _ (T13.setTop (mkF m 31 #[.val (.ref t2), .val (.ref w2), .val (.int (3 : Int32)), .val (.int (2 : Int32)), .val (.ref en2)] []))
  refine Rest.via (fun t k => XS.aload X13.here hx rfl (hb hby d7_31) rfl rfl k) ?_
  show Rest p.tables e below s _ _ _ (T13.setTop (mkF m 33 #[.val (.ref t2), .val (.ref w2), .val (.int (3 : Int32)), .val (.int (2 : Int32)), .val (.ref en2)] [(.ref en2)]))
  refine Rest.ret X13 (v := some (.ref en2)) (fun h => by rw [Bd.returns] at h; cases h) hlk (fun fs hr => retOut X13 hx Bd.returns rfl (Or.inr (Or.inr (Or.inr (Or.inr ⟨rfl, rfl, rfl⟩)))) (hb hby d7_33) hr) ?_ (by decide) (by decide)
  rw [e13]
  exact ⟨rfl, N13, K2⟩
theorem d11_0 : decode prog_18_method_10_code 0 = .ok (.aload_n 0, 1) := by decide +kernel
theorem d11_1 : decode prog_18_method_10_code 1 = .ok (.getfield 32, 3) := by decide +kernel
theorem d11_4 : decode prog_18_method_10_code 4 = .ok (.areturn, 1) := by decide +kernel
theorem ef_TS (m : MethodId) (a0 : Addr) : entryFrame m #[(.ref a0)] 1 = mkF m 0 #[.val (.ref a0)] [] := by first | (simp [entryFrame, mkF, argsToLocals, Value.category, maxLocals]; done) | rfl
def QTS (Z : State) (a0 : Addr) (tt : Addr) (h0 : Heap) (n0 : Nat) (v : Option Value) (h : Heap) (L : List Loc) : Prop := v = some (.ref tt) ∧ Fr n0 L ∧ h = h0
set_option maxRecDepth 65536 in
set_option maxHeartbeats 40000000 in
theorem rmTS (l : Launch) (Z : State) (aw : Array Value) (hw : ∀ d ∈ tables_1, d.before aw Z = true) (ws : List Jvm.Cond) (a0 : Addr) (tt : Addr) (h0 : Heap) (n0 : Nat) (Z0 : n0 ≤ h0.size) (Fl : Fld Z h0 a0 "sluicegate/cli/QueueKind" "label" "Ljava/lang/String;" (.ref tt)) :
    MetFree l (⟨"sluicegate/cli/QueueKind", "toString", "()Ljava/lang/String;"⟩ : MethodName) (head1 (Jvm.Cond.code (⟨"sluicegate/cli/QueueKind", "toString", "()Ljava/lang/String;"⟩ : MethodName) prog_18_method_10_code 1 (some (.object "java/lang/String")) :: ws) ({ frames := 0, cells := 0, slots := 0, locals := 0 } : Room)) (fun a U => a = #[(.ref a0)] ∧ Z.Warmed39 U.vm ∧ U.heap = h0) (fun _ _ _ _ _ => True) (fun _ U o U' => ∃ v L, o = .returned v ∧ QTS Z a0 tt h0 n0 v U'.heap L ∧ FrameEnd U o U' L ({ frames := 0, cells := 0, slots := 0, locals := 0 } : Room).cells ({ frames := 0, cells := 0, slots := 0, locals := 0 } : Room).slots) := by
  refine MetFree.of_bodySF (plainFor_of_name pn_3) hisR ?_
  intro p e s m args below meth c s₁ Bd hml0 hP hK
  obtain ⟨rfl, hZ, hh⟩ := hP
  have hx := Bd.exec
  have hby := Bd.bytes
  have hml : c.maxLocals = 1 := hml0
  have hown : s.vm.findClass "sluicegate/cli/QueueKind" = some m.cls := findClass_of_methodNamed Bd.named
  have hnm := (name_of_methodNamed Bd.named Bd.method).1
  have hlk : meth.locks = false := BodyLoose.notSynchronized Bd
  have X0 : Stand p l e ({ frames := 0, cells := 0, slots := 0, locals := 0 } : Room) s m #[(.ref a0)] below meth c s₁ [] 0 0 := Stand.of_body Bd
  have eh0 : s₁.heap = h0 := by rw [← hh, Bd.state]; rfl
  have N0 := Fr.nil n0
  show Rest p.tables e below s (QTS Z a0 tt h0 n0) _ _ (s₁.setTop (entryFrame m #[(.ref a0)] 1))
  refine Rest.via (fun t k => castTop (ef_TS m a0) k) ?_
  show Rest p.tables e below s _ _ _ (s₁.setTop (mkF m 0 #[.val (.ref a0)] []))
  refine Rest.via (fun t k => XS.aloadN X0.here hx rfl (hb hby d11_0) rfl rfl k) ?_
  show Rest p.tables e below s _ _ _ (s₁.setTop (mkF m 1 #[.val (.ref a0)] [(.ref a0)]))
  obtain ⟨T1, X1, e1, st1⟩ := getF X0 hx hZ hown (host := "") (Or.inl (hw _ (List.mem_of_getElem? (i := 52) rfl))) Via.refl eh0 Fl (g := (mkF m 1 #[.val (.ref a0)] [(.ref a0)])) rfl rfl (hb hby d11_1)
  refine Rest.via (fun t k => st1 t k) ?_
  show Rest p.tables e below s _ _ _ (T1.setTop (mkF m 4 #[.val (.ref a0)] [(.ref tt)]))
  refine Rest.ret X1 (v := some (.ref tt)) (fun h => by rw [Bd.returns] at h; cases h) hlk (fun fs hr => retOut X1 hx Bd.returns rfl (Or.inr (Or.inr (Or.inr (Or.inr ⟨rfl, rfl, rfl⟩)))) (hb hby d11_4) hr) ?_ (by decide) (by decide)
  rw [e1]
  exact ⟨rfl, N0, rfl⟩
theorem own_three (x : Int32) : ((x &&& (2147483647 : Int32)) % (3 : Int32)) = 0 ∨ ((x &&& (2147483647 : Int32)) % (3 : Int32)) = 1 ∨ ((x &&& (2147483647 : Int32)) % (3 : Int32)) = 2 := by
  have e := c_mask x 2147483647 31 (by decide) (by decide)
  have h1 := Int.emod_nonneg x.toInt (b := ((2 ^ 31 : Nat) : Int)) (by decide)
  have h2 := (c_irem (x &&& (2147483647 : Int32)) (3 : Int32) 3 (by decide)).1 (by omega)
  have en0 : (0 : Int32).toInt = 0 := by decide
  have en1 : (1 : Int32).toInt = 1 := by decide
  have en2 : (2 : Int32).toInt = 2 := by decide
  simp only [← Int32.toInt_inj, en0, en1, en2]
  omega
theorem pd_7 : parseMethodDescriptor "([C)V" = some ⟨[(.array .char)], none⟩ := by decide +kernel
theorem pd_8 : parseMethodDescriptor "(Ljava/lang/String;)Lsluicegate/cli/QueueKind;" = some ⟨[(.object "java/lang/String")], some (.object "sluicegate/cli/QueueKind")⟩ := by decide +kernel
theorem pd_9 : parseMethodDescriptor "()Ljava/lang/String;" = some ⟨[], some (.object "java/lang/String")⟩ := by decide +kernel
theorem pn_4 : plainName "sluicegate/cli/QueueKindNamedPinLaw" = true := by first | (simp [plainName, overriddenIn]; done) | decide +kernel
theorem ef_0 (m : MethodId) (p0 : Int32) : entryFrame m #[(.int p0)] maxLocals = mkF m 0 #[.val (.int p0), .unset, .unset, .unset, .unset, .unset] [] := by first | (simp [entryFrame, mkF, argsToLocals, Value.category, maxLocals]; done) | rfl
def Q0 (Z : State) (p0 : Int32) (en0 : Addr) (en1 : Addr) (en2 : Addr) (t0 : Addr) (t1 : Addr) (t2 : Addr) (vv : Addr) (ic : Int32) (h0 : Heap) (n0 : Nat) (v : Option Value) (h : Heap) (L : List Loc) : Prop := v = some (.int 1) ∧ Fr n0 L
set_option maxRecDepth 65536 in
set_option maxHeartbeats 40000000 in
theorem rm0 (l : Launch) (Z : State) (aw : Array Value) (hw : ∀ d ∈ tables_1, d.before aw Z = true) (ws : List Jvm.Cond) (p0 : Int32) (en0 : Addr) (en1 : Addr) (en2 : Addr) (t0 : Addr) (t1 : Addr) (t2 : Addr) (vv : Addr) (ic : Int32) (h0 : Heap) (n0 : Nat) (Z0 : n0 ≤ h0.size) (O : Old Z n0 h0) (QK : own_QK Z Z.heap en0 en1 en2 t0 t1 t2 vv) (CS : own_CS Z ic) :
    MetFree l x (head1 (Jvm.Cond.code x code maxLocals ret :: ws) room_1) (fun a U => a = #[(.int p0)] ∧ Z.Warmed39 U.vm ∧ U.heap = h0) (fun _ _ _ _ _ => True) (fun _ U o U' => ∃ v L, o = .returned v ∧ Q0 Z p0 en0 en1 en2 t0 t1 t2 vv ic h0 n0 v U'.heap L ∧ FrameEnd U o U' L 5 24) := by
  refine MetFree.of_bodySF (plainFor_of_name pn_4) hisR ?_
  intro p e s m args below meth c s₁ Bd hml0 hP hK
  obtain ⟨rfl, hZ, hh⟩ := hP
  have hx := Bd.exec
  have hby := Bd.bytes
  have hml : c.maxLocals = 6 := hml0
  have hown : s.vm.findClass "sluicegate/cli/QueueKindNamedPinLaw" = some m.cls := findClass_of_methodNamed Bd.named
  have hnm := (name_of_methodNamed Bd.named Bd.method).1
  have hlk : meth.locks = false := BodyLoose.notSynchronized Bd
  have X0 : Stand p l e room_1 s m #[(.int p0)] below meth c s₁ [] 0 0 := Stand.of_body Bd
  have eh0 : s₁.heap = h0 := by rw [← hh, Bd.state]; rfl
  have N0 := Fr.nil n0
  show Rest p.tables e below s (Q0 Z p0 en0 en1 en2 t0 t1 t2 vv ic h0 n0) _ _ (s₁.setTop (entryFrame m #[(.int p0)] maxLocals))
  refine Rest.via (fun t k => castTop (ef_0 m p0) k) ?_
  obtain ⟨_, _, _, _, _, _, ⟨_, _, _, _, Tz0, _⟩, ⟨_, _, _, _, Tz1, _⟩, ⟨_, _, _, _, Tz2, _⟩, _⟩ := id QK
  show Rest p.tables e below s _ _ _ (s₁.setTop (mkF m 0 #[.val (.int p0), .unset, .unset, .unset, .unset, .unset] []))
  refine Rest.via (fun t k => XS.iloadN X0.here hx rfl (hb hby at_0) rfl k) ?_
  show Rest p.tables e below s _ _ _ (s₁.setTop (mkF m 1 #[.val (.int p0), .unset, .unset, .unset, .unset, .unset] [(.int p0)]))
  refine Rest.via (fun t k => X0.ldcInt hx hown (mvT hZ (hw _ (List.mem_of_getElem? (i := 0) rfl))) (g := (mkF m 1 #[.val (.int p0), .unset, .unset, .unset, .unset, .unset] [(.int p0)])) rfl (hb hby at_1) t k) ?_
  show Rest p.tables e below s _ _ _ (s₁.setTop (mkF m 3 #[.val (.int p0), .unset, .unset, .unset, .unset, .unset] [(.int (2147483647 : Int32)), (.int p0)]))
  refine Rest.via (fun t k => XS.iand X0.here hx rfl (hb hby at_3) rfl k) ?_
  show Rest p.tables e below s _ _ _ (s₁.setTop (mkF m 4 #[.val (.int p0), .unset, .unset, .unset, .unset, .unset] [(.int (p0 &&& (2147483647 : Int32)))]))
  refine Rest.via (fun t k => XS.iconst X0.here hx rfl (hb hby at_4) k) ?_
  show Rest p.tables e below s _ _ _ (s₁.setTop (mkF m 5 #[.val (.int p0), .unset, .unset, .unset, .unset, .unset] [(.int (3 : Int32)), (.int (p0 &&& (2147483647 : Int32)))]))
  refine Rest.via (fun t k => iremM X0 hx rfl (hb hby at_5) rfl (by decide) k) ?_
  show Rest p.tables e below s _ _ _ (s₁.setTop (mkF m 6 #[.val (.int p0), .unset, .unset, .unset, .unset, .unset] [(.int ((p0 &&& (2147483647 : Int32)) % (3 : Int32)))]))
  refine Rest.via (fun t k => XS.istoreN X0.here hx rfl (hb hby at_6) rfl (l' := #[.val (.int p0), .val (.int ((p0 &&& (2147483647 : Int32)) % (3 : Int32))), .unset, .unset, .unset, .unset]) rfl k) ?_
  show Rest p.tables e below s _ _ _ (s₁.setTop (mkF m 7 #[.val (.int p0), .val (.int ((p0 &&& (2147483647 : Int32)) % (3 : Int32))), .unset, .unset, .unset, .unset] []))
  obtain ⟨kv, hv_kv⟩ : ∃ z : Int32, z = ((p0 &&& (2147483647 : Int32)) % (3 : Int32)) := ⟨_, rfl⟩
  rw [← hv_kv]
  show Rest p.tables e below s _ _ _ (s₁.setTop (mkF m 7 #[.val (.int p0), .val (.int kv), .unset, .unset, .unset, .unset] []))
  obtain rfl | rfl | rfl : kv = 0 ∨ kv = 1 ∨ kv = 2 := by rw [hv_kv]; exact own_three _
  · show Rest p.tables e below s _ _ _ (s₁.setTop (mkF m 7 #[.val (.int p0), .val (.int (0 : Int32)), .unset, .unset, .unset, .unset] []))
    refine Rest.via (fun t k => XS.iloadN X0.here hx rfl (hb hby at_7) rfl k) ?_
    show Rest p.tables e below s _ _ _ (s₁.setTop (mkF m 8 #[.val (.int p0), .val (.int (0 : Int32)), .unset, .unset, .unset, .unset] [(.int (0 : Int32))]))
    refine Rest.via (fun t k => XS.ifNo X0.here hx rfl (hb hby at_8) rfl ((if0 _ _).trans (teq (by decide : (0 : Int32) = (0 : Int32))).2) k) ?_
    show Rest p.tables e below s _ _ _ (s₁.setTop (mkF m 11 #[.val (.int p0), .val (.int (0 : Int32)), .unset, .unset, .unset, .unset] []))
    refine Rest.via (fun t k => XS.iconst X0.here hx rfl (hb hby at_11) k) ?_
    show Rest p.tables e below s _ _ _ (s₁.setTop (mkF m 12 #[.val (.int p0), .val (.int (0 : Int32)), .unset, .unset, .unset, .unset] [(.int (5 : Int32))]))
    obtain ⟨T1, h1, k1, X1, e1, E1, A1, st1⟩ := newP X0 hx hZ (hw _ (List.mem_of_getElem? (i := 1) rfl)) eh0 (g := (mkF m 12 #[.val (.int p0), .val (.int (0 : Int32)), .unset, .unset, .unset, .unset] [(.int (5 : Int32))])) rfl (hb hby at_12) rfl (by decide) (cap := 5) (by decide) (by decide) (by decide) (by decide)
    obtain ⟨b1, gq1⟩ : ∃ z, z = h0.size := ⟨_, rfl⟩
    rw [← gq1] at A1 st1
    have sz_b1 : h0.size ≤ b1 := Nat.le_trans (Keep.refl h0 []).1 (Nat.le_of_eq gq1.symm)
    have g_b1 : n0 ≤ b1 := Nat.le_trans Z0 sz_b1
    have K1 : Keep h0 h1 [] := (Keep.refl h0 []).ext E1
    have V_b1 := Arv.new A1 (by decide)
    have V_b1 : Arv Z h1 b1 k1 .char (5 : Int32) [(.int (0 : Int32)), (.int (0 : Int32)), (.int (0 : Int32)), (.int (0 : Int32)), (.int (0 : Int32))] (.int (0 : Int32)) := V_b1.pad (pad_rep [] (.int (0 : Int32)) 5)
    refine Rest.via (fun t k => st1 t k) ?_
    show Rest p.tables e below s _ _ _ (T1.setTop (mkF m 14 #[.val (.int p0), .val (.int (0 : Int32)), .unset, .unset, .unset, .unset] [(.ref b1)]))
    refine Rest.via (fun t k => XS.dup X1.here hx rfl (hb hby at_14) rfl rfl k) ?_
    show Rest p.tables e below s _ _ _ (T1.setTop (mkF m 15 #[.val (.int p0), .val (.int (0 : Int32)), .unset, .unset, .unset, .unset] [(.ref b1), (.ref b1)]))
    refine Rest.via (fun t k => XS.iconst X1.here hx rfl (hb hby at_15) k) ?_
    show Rest p.tables e below s _ _ _ (T1.setTop (mkF m 16 #[.val (.int p0), .val (.int (0 : Int32)), .unset, .unset, .unset, .unset] [(.int (0 : Int32)), (.ref b1), (.ref b1)]))
    refine Rest.via (fun t k => XS.bipush X1.here hx rfl (hb hby at_16) k) ?_
    show Rest p.tables e below s _ _ _ (T1.setTop (mkF m 18 #[.val (.int p0), .val (.int (0 : Int32)), .unset, .unset, .unset, .unset] [(.int (97 : Int32)), (.int (0 : Int32)), (.ref b1), (.ref b1)]))
    obtain ⟨cl2, Ar2, qa2, Sa2, Pa2, Ha2, Ga2⟩ := id V_b1
    have hin2 := inb_of (j := (0 : Int32)) Sa2 ⟨by decide, by decide⟩
    obtain ⟨T2, h2, X2, e2, W2, st2⟩ := stC X1 hx hZ e1 Ar2 (j := (0 : Int32)) hin2 (g := (mkF m 18 #[.val (.int p0), .val (.int (0 : Int32)), .unset, .unset, .unset, .unset] [(.int (97 : Int32)), (.int (0 : Int32)), (.ref b1), (.ref b1)])) rfl rfl (hb hby at_18)
    refine Rest.via (fun t k => st2 t k) ?_
    have N2 := Fr.snoc X2 N0 g_b1
    have K2 : Keep h0 h2 [] := K1.wr W2 (Or.inr sz_b1)
    have V2 : Arv Z h2 b1 k1 .char (5 : Int32) [(.int (97 : Int32)), (.int (0 : Int32)), (.int (0 : Int32)), (.int (0 : Int32)), (.int (0 : Int32))] (.int (0 : Int32)) := by have q := Arv.set Ar2 qa2 Sa2 Pa2 Ha2 Ga2 (fits_nar_char _) W2 0 rfl (Nat.le_of_ble_eq_true rfl); rw [(by decide : nar .char (97 : Int32) = (97 : Int32))] at q; exact q
    show Rest p.tables e below s _ _ _ (T2.setTop (mkF m 19 #[.val (.int p0), .val (.int (0 : Int32)), .unset, .unset, .unset, .unset] [(.ref b1)]))
    refine Rest.via (fun t k => XS.dup X2.here hx rfl (hb hby at_19) rfl rfl k) ?_
    show Rest p.tables e below s _ _ _ (T2.setTop (mkF m 20 #[.val (.int p0), .val (.int (0 : Int32)), .unset, .unset, .unset, .unset] [(.ref b1), (.ref b1)]))
    refine Rest.via (fun t k => XS.iconst X2.here hx rfl (hb hby at_20) k) ?_
    show Rest p.tables e below s _ _ _ (T2.setTop (mkF m 21 #[.val (.int p0), .val (.int (0 : Int32)), .unset, .unset, .unset, .unset] [(.int (1 : Int32)), (.ref b1), (.ref b1)]))
    refine Rest.via (fun t k => XS.bipush X2.here hx rfl (hb hby at_21) k) ?_
    show Rest p.tables e below s _ _ _ (T2.setTop (mkF m 23 #[.val (.int p0), .val (.int (0 : Int32)), .unset, .unset, .unset, .unset] [(.int (114 : Int32)), (.int (1 : Int32)), (.ref b1), (.ref b1)]))
    obtain ⟨cl3, Ar3, qa3, Sa3, Pa3, Ha3, Ga3⟩ := id V2
    have hin3 := inb_of (j := (1 : Int32)) Sa3 ⟨by decide, by decide⟩
    obtain ⟨T3, h3, X3, e3, W3, st3⟩ := stC X2 hx hZ e2 Ar3 (j := (1 : Int32)) hin3 (g := (mkF m 23 #[.val (.int p0), .val (.int (0 : Int32)), .unset, .unset, .unset, .unset] [(.int (114 : Int32)), (.int (1 : Int32)), (.ref b1), (.ref b1)])) rfl rfl (hb hby at_23)
    refine Rest.via (fun t k => st3 t k) ?_
    have N3 := Fr.snoc X3 N2 g_b1
    have K3 : Keep h0 h3 [] := K2.wr W3 (Or.inr sz_b1)
    have V3 : Arv Z h3 b1 k1 .char (5 : Int32) [(.int (97 : Int32)), (.int (114 : Int32)), (.int (0 : Int32)), (.int (0 : Int32)), (.int (0 : Int32))] (.int (0 : Int32)) := by have q := Arv.set Ar3 qa3 Sa3 Pa3 Ha3 Ga3 (fits_nar_char _) W3 1 rfl (Nat.le_of_ble_eq_true rfl); rw [(by decide : nar .char (114 : Int32) = (114 : Int32))] at q; exact q
    show Rest p.tables e below s _ _ _ (T3.setTop (mkF m 24 #[.val (.int p0), .val (.int (0 : Int32)), .unset, .unset, .unset, .unset] [(.ref b1)]))
    refine Rest.via (fun t k => XS.dup X3.here hx rfl (hb hby at_24) rfl rfl k) ?_
    show Rest p.tables e below s _ _ _ (T3.setTop (mkF m 25 #[.val (.int p0), .val (.int (0 : Int32)), .unset, .unset, .unset, .unset] [(.ref b1), (.ref b1)]))
    refine Rest.via (fun t k => XS.iconst X3.here hx rfl (hb hby at_25) k) ?_
    show Rest p.tables e below s _ _ _ (T3.setTop (mkF m 26 #[.val (.int p0), .val (.int (0 : Int32)), .unset, .unset, .unset, .unset] [(.int (2 : Int32)), (.ref b1), (.ref b1)]))
    refine Rest.via (fun t k => XS.bipush X3.here hx rfl (hb hby at_26) k) ?_
    show Rest p.tables e below s _ _ _ (T3.setTop (mkF m 28 #[.val (.int p0), .val (.int (0 : Int32)), .unset, .unset, .unset, .unset] [(.int (114 : Int32)), (.int (2 : Int32)), (.ref b1), (.ref b1)]))
    obtain ⟨cl4, Ar4, qa4, Sa4, Pa4, Ha4, Ga4⟩ := id V3
    have hin4 := inb_of (j := (2 : Int32)) Sa4 ⟨by decide, by decide⟩
    obtain ⟨T4, h4, X4, e4, W4, st4⟩ := stC X3 hx hZ e3 Ar4 (j := (2 : Int32)) hin4 (g := (mkF m 28 #[.val (.int p0), .val (.int (0 : Int32)), .unset, .unset, .unset, .unset] [(.int (114 : Int32)), (.int (2 : Int32)), (.ref b1), (.ref b1)])) rfl rfl (hb hby at_28)
    refine Rest.via (fun t k => st4 t k) ?_
    have N4 := Fr.snoc X4 N3 g_b1
    have K4 : Keep h0 h4 [] := K3.wr W4 (Or.inr sz_b1)
    have V4 : Arv Z h4 b1 k1 .char (5 : Int32) [(.int (97 : Int32)), (.int (114 : Int32)), (.int (114 : Int32)), (.int (0 : Int32)), (.int (0 : Int32))] (.int (0 : Int32)) := by have q := Arv.set Ar4 qa4 Sa4 Pa4 Ha4 Ga4 (fits_nar_char _) W4 2 rfl (Nat.le_of_ble_eq_true rfl); rw [(by decide : nar .char (114 : Int32) = (114 : Int32))] at q; exact q
    show Rest p.tables e below s _ _ _ (T4.setTop (mkF m 29 #[.val (.int p0), .val (.int (0 : Int32)), .unset, .unset, .unset, .unset] [(.ref b1)]))
    refine Rest.via (fun t k => XS.dup X4.here hx rfl (hb hby at_29) rfl rfl k) ?_
    show Rest p.tables e below s _ _ _ (T4.setTop (mkF m 30 #[.val (.int p0), .val (.int (0 : Int32)), .unset, .unset, .unset, .unset] [(.ref b1), (.ref b1)]))
    refine Rest.via (fun t k => XS.iconst X4.here hx rfl (hb hby at_30) k) ?_
    show Rest p.tables e below s _ _ _ (T4.setTop (mkF m 31 #[.val (.int p0), .val (.int (0 : Int32)), .unset, .unset, .unset, .unset] [(.int (3 : Int32)), (.ref b1), (.ref b1)]))
    refine Rest.via (fun t k => XS.bipush X4.here hx rfl (hb hby at_31) k) ?_
    show Rest p.tables e below s _ _ _ (T4.setTop (mkF m 33 #[.val (.int p0), .val (.int (0 : Int32)), .unset, .unset, .unset, .unset] [(.int (97 : Int32)), (.int (3 : Int32)), (.ref b1), (.ref b1)]))
    obtain ⟨cl5, Ar5, qa5, Sa5, Pa5, Ha5, Ga5⟩ := id V4
    have hin5 := inb_of (j := (3 : Int32)) Sa5 ⟨by decide, by decide⟩
    obtain ⟨T5, h5, X5, e5, W5, st5⟩ := stC X4 hx hZ e4 Ar5 (j := (3 : Int32)) hin5 (g := (mkF m 33 #[.val (.int p0), .val (.int (0 : Int32)), .unset, .unset, .unset, .unset] [(.int (97 : Int32)), (.int (3 : Int32)), (.ref b1), (.ref b1)])) rfl rfl (hb hby at_33)
    refine Rest.via (fun t k => st5 t k) ?_
    have N5 := Fr.snoc X5 N4 g_b1
    have K5 : Keep h0 h5 [] := K4.wr W5 (Or.inr sz_b1)
    have V5 : Arv Z h5 b1 k1 .char (5 : Int32) [(.int (97 : Int32)), (.int (114 : Int32)), (.int (114 : Int32)), (.int (97 : Int32)), (.int (0 : Int32))] (.int (0 : Int32)) := by have q := Arv.set Ar5 qa5 Sa5 Pa5 Ha5 Ga5 (fits_nar_char _) W5 3 rfl (Nat.le_of_ble_eq_true rfl); rw [(by decide : nar .char (97 : Int32) = (97 : Int32))] at q; exact q
    show Rest p.tables e below s _ _ _ (T5.setTop (mkF m 34 #[.val (.int p0), .val (.int (0 : Int32)), .unset, .unset, .unset, .unset] [(.ref b1)]))
    refine Rest.via (fun t k => XS.dup X5.here hx rfl (hb hby at_34) rfl rfl k) ?_
    show Rest p.tables e below s _ _ _ (T5.setTop (mkF m 35 #[.val (.int p0), .val (.int (0 : Int32)), .unset, .unset, .unset, .unset] [(.ref b1), (.ref b1)]))
    refine Rest.via (fun t k => XS.iconst X5.here hx rfl (hb hby at_35) k) ?_
    show Rest p.tables e below s _ _ _ (T5.setTop (mkF m 36 #[.val (.int p0), .val (.int (0 : Int32)), .unset, .unset, .unset, .unset] [(.int (4 : Int32)), (.ref b1), (.ref b1)]))
    refine Rest.via (fun t k => XS.bipush X5.here hx rfl (hb hby at_36) k) ?_
    show Rest p.tables e below s _ _ _ (T5.setTop (mkF m 38 #[.val (.int p0), .val (.int (0 : Int32)), .unset, .unset, .unset, .unset] [(.int (121 : Int32)), (.int (4 : Int32)), (.ref b1), (.ref b1)]))
    obtain ⟨cl6, Ar6, qa6, Sa6, Pa6, Ha6, Ga6⟩ := id V5
    have hin6 := inb_of (j := (4 : Int32)) Sa6 ⟨by decide, by decide⟩
    obtain ⟨T6, h6, X6, e6, W6, st6⟩ := stC X5 hx hZ e5 Ar6 (j := (4 : Int32)) hin6 (g := (mkF m 38 #[.val (.int p0), .val (.int (0 : Int32)), .unset, .unset, .unset, .unset] [(.int (121 : Int32)), (.int (4 : Int32)), (.ref b1), (.ref b1)])) rfl rfl (hb hby at_38)
    refine Rest.via (fun t k => st6 t k) ?_
    have N6 := Fr.snoc X6 N5 g_b1
    have K6 : Keep h0 h6 [] := K5.wr W6 (Or.inr sz_b1)
    have V6 : Arv Z h6 b1 k1 .char (5 : Int32) [(.int (97 : Int32)), (.int (114 : Int32)), (.int (114 : Int32)), (.int (97 : Int32)), (.int (121 : Int32))] (.int (0 : Int32)) := by have q := Arv.set Ar6 qa6 Sa6 Pa6 Ha6 Ga6 (fits_nar_char _) W6 4 rfl (Nat.le_of_ble_eq_true rfl); rw [(by decide : nar .char (121 : Int32) = (121 : Int32))] at q; exact q
    show Rest p.tables e below s _ _ _ (T6.setTop (mkF m 39 #[.val (.int p0), .val (.int (0 : Int32)), .unset, .unset, .unset, .unset] [(.ref b1)]))
    refine Rest.via (fun t k => XS.astoreN X6.here hx rfl (hb hby at_39) rfl rfl (l' := #[.val (.int p0), .val (.int (0 : Int32)), .val (.ref b1), .unset, .unset, .unset]) rfl k) ?_
    show Rest p.tables e below s _ _ _ (T6.setTop (mkF m 40 #[.val (.int p0), .val (.int (0 : Int32)), .val (.ref b1), .unset, .unset, .unset] []))
    obtain ⟨T7, X7, e7, st7⟩ := getS2 X6 hx hZ hown (host := "") (Or.inl (hw _ (List.mem_of_getElem? (i := 2) rfl))) Via.refl e6 (own_QK_ext (O.keep K6 all0).2 QK).2.2.2.1 (g := (mkF m 40 #[.val (.int p0), .val (.int (0 : Int32)), .val (.ref b1), .unset, .unset, .unset] [])) rfl (hb hby at_40)
    refine Rest.via (fun t k => st7 t k) ?_
    show Rest p.tables e below s _ _ _ (T7.setTop (mkF m 43 #[.val (.int p0), .val (.int (0 : Int32)), .val (.ref b1), .unset, .unset, .unset] [(.ref en0)]))
    refine Rest.via (fun t k => XS.astoreN X7.here hx rfl (hb hby at_43) rfl rfl (l' := #[.val (.int p0), .val (.int (0 : Int32)), .val (.ref b1), .val (.ref en0), .unset, .unset]) rfl k) ?_
    show Rest p.tables e below s _ _ _ (T7.setTop (mkF m 44 #[.val (.int p0), .val (.int (0 : Int32)), .val (.ref b1), .val (.ref en0), .unset, .unset] []))
    refine Rest.via (fun t k => XS.goto X7.here hx rfl (pc0 := 44) (pc' := 139) rfl (hb hby at_44) (by decide) (by decide) k) ?_
    show Rest p.tables e below s _ _ _ (T7.setTop (mkF m 139 #[.val (.int p0), .val (.int (0 : Int32)), .val (.ref b1), .val (.ref en0), .unset, .unset] []))
    obtain ⟨T8, h8, X8, e8, E8, A8, D8, -, st8⟩ := newO X7 hx hZ hown (hw _ (List.mem_of_getElem? (i := 5) rfl)) (hw _ (List.mem_of_getElem? (i := 6) rfl)) (hw _ (List.mem_of_getElem? (i := 7) rfl)) e7 (g := (mkF m 139 #[.val (.int p0), .val (.int (0 : Int32)), .val (.ref b1), .val (.ref en0), .unset, .unset] [])) rfl (hb hby at_139) (by decide) (by decide)
    obtain ⟨b8, gq8⟩ : ∃ z, z = h6.size := ⟨_, rfl⟩
    rw [← gq8] at A8 D8 st8
    have sz_b8 : h0.size ≤ b8 := Nat.le_trans K6.1 (Nat.le_of_eq gq8.symm)
    have g_b8 : n0 ≤ b8 := Nat.le_trans Z0 sz_b8
    have ne_b1_b8 : b1 ≠ b8 := Nat.ne_of_lt (Nat.lt_of_lt_of_le V6.lt (Nat.le_of_eq gq8.symm))
    have K8 : Keep h0 h8 [] := K6.ext E8
    have E_b8 := A8
    have F_coder_b8 : Fld Z h8 b8 "java/lang/String" "coder" "B" (.int (0 : Int32)) := D8 (Or.inr (hw _ (List.mem_of_getElem? (i := 31) rfl))) (ty := .byte) (by decide)
    have F_value_b8 : Fld Z h8 b8 "java/lang/String" "value" "[B" .null := D8 (Or.inr (hw _ (List.mem_of_getElem? (i := 33) rfl))) (ty := (.array .byte)) (by decide)
    refine Rest.via (fun t k => st8 t k) ?_
    show Rest p.tables e below s _ _ _ (T8.setTop (mkF m 142 #[.val (.int p0), .val (.int (0 : Int32)), .val (.ref b1), .val (.ref en0), .unset, .unset] [(.ref b8)]))
    refine Rest.via (fun t k => XS.dup X8.here hx rfl (hb hby at_142) rfl rfl k) ?_
    show Rest p.tables e below s _ _ _ (T8.setTop (mkF m 143 #[.val (.int p0), .val (.int (0 : Int32)), .val (.ref b1), .val (.ref en0), .unset, .unset] [(.ref b8), (.ref b8)]))
    refine Rest.via (fun t k => XS.aloadN X8.here hx rfl (hb hby at_143) rfl rfl k) ?_
    show Rest p.tables e below s _ _ _ (T8.setTop (mkF m 144 #[.val (.int p0), .val (.int (0 : Int32)), .val (.ref b1), .val (.ref en0), .unset, .unset] [(.ref b1), (.ref b8), (.ref b8)]))
    obtain ⟨_, _, ⟨T9, L9, k9, n9⟩, -, X9, ⟨Lc9, hQ9, l9, y9, z9⟩, st9⟩ := X8.specialBack hx (y := (⟨"java/lang/String", "<init>", "([C)V"⟩ : MethodName)) rfl hown (mvT hZ (hw _ (List.mem_of_getElem? (i := 8) rfl))) (mvT hZ (hw _ (List.mem_of_getElem? (i := 9) rfl))) (mvT hZ (hw _ (List.mem_of_getElem? (i := 10) rfl))) (by decide) (backOf (W := 1) (rmSI5 l Z aw hw [] b8 b1 k1 ic (97 : Int32) (114 : Int32) (114 : Int32) (97 : Int32) (121 : Int32) h8 n0 (Nat.le_trans Z0 K8.1) E_b8 F_value_b8 F_coder_b8 g_b8 (V6.ext E8) (by decide) (by decide) (by decide) (by decide) (by decide) (O.keep K8 all0) CS) hZ (hw _ (List.mem_of_getElem? (i := 10) rfl)) (hw _ (List.mem_of_getElem? (i := 7) rfl)) (by decide) (by decide)) (g := (mkF m 144 #[.val (.int p0), .val (.int (0 : Int32)), .val (.ref b1), .val (.ref en0), .unset, .unset] [(.ref b1), (.ref b8), (.ref b8)])) rfl (by rw [hml]; rfl) (Steps.refl _) (a := b8) (argsL := [(.ref b1)]) (rest := [(.ref b8)]) (lenOf pd_7 rfl) rfl (by show 2 * 0 + _ ≤ _; exact Nat.le_of_eq rfl) (hb hby at_144) (fun _ _ => ⟨rfl, e8, (by decide : 2 + 1 ≤ _), (by decide : 9 + 5 ≤ _)⟩)
    dsimp only [Pt.U, Pt.locs, Pt.cells, Pt.slots] at X9 l9 y9 z9 st9 hQ9
    subst l9 y9 z9
    obtain ⟨h9, e9⟩ : ∃ z, T9.heap = z := ⟨_, rfl⟩
    rw [e9] at hQ9
    obtain ⟨rfl, Nq9, Kq9, vs9, kb9, sd9, Fv9, Fc9, Vq9, nb9⟩ := hQ9
    have N9 := Fr.app N6 Nq9
    have K9 : Keep h0 h9 [] := K8.trans Kq9 (allS (Or.inr sz_b8) all0)
    have St9 : own_St Z h9 b8 vs9 kb9 (5 : Int32) [(.int (own_by (97 : Int32))), (.int (own_by (114 : Int32))), (.int (own_by (114 : Int32))), (.int (own_by (97 : Int32))), (.int (own_by (121 : Int32)))] := ⟨E_b8.keep Kq9, Fv9, Fc9, Vq9⟩
    have nt0a : t0 ≠ b8 := Nat.ne_of_lt (Nat.lt_of_lt_of_le (Nat.lt_of_lt_of_le Tz0.lt (Nat.le_of_eq O.1)) g_b8)
    have nt1a : t1 ≠ b8 := Nat.ne_of_lt (Nat.lt_of_lt_of_le (Nat.lt_of_lt_of_le Tz1.lt (Nat.le_of_eq O.1)) g_b8)
    have nt2a : t2 ≠ b8 := Nat.ne_of_lt (Nat.lt_of_lt_of_le (Nat.lt_of_lt_of_le Tz2.lt (Nat.le_of_eq O.1)) g_b8)
    refine Rest.via (fun t k => st9.trans k) ?_
    show Rest p.tables e below s _ _ _ (T9.setTop (mkF m 147 #[.val (.int p0), .val (.int (0 : Int32)), .val (.ref b1), .val (.ref en0), .unset, .unset] [(.ref b8)]))
    refine Rest.via (fun t k => XS.astore X9.here hx rfl (hb hby at_147) rfl rfl (l' := #[.val (.int p0), .val (.int (0 : Int32)), .val (.ref b1), .val (.ref en0), .val (.ref b8), .unset]) rfl k) ?_
    show Rest p.tables e below s _ _ _ (T9.setTop (mkF m 149 #[.val (.int p0), .val (.int (0 : Int32)), .val (.ref b1), .val (.ref en0), .val (.ref b8), .unset] []))
    refine Rest.via (fun t k => XS.aload X9.here hx rfl (hb hby at_149) rfl rfl k) ?_
    show Rest p.tables e below s _ _ _ (T9.setTop (mkF m 151 #[.val (.int p0), .val (.int (0 : Int32)), .val (.ref b1), .val (.ref en0), .val (.ref b8), .unset] [(.ref b8)]))
    obtain ⟨_, _, ⟨T10, L10, k10, n10⟩, -, X10, ⟨Lc10, hQ10, l10, y10, z10⟩, st10⟩ := Jvm.LawKit.callS X9 hx (y := (⟨"sluicegate/cli/QueueKind", "named", "(Ljava/lang/String;)Lsluicegate/cli/QueueKind;"⟩ : MethodName)) hown (mvT hZ (hw _ (List.mem_of_getElem? (i := 34) rfl))) (mvT hZ (hw _ (List.mem_of_getElem? (i := 35) rfl))) (mvT hZ (hw _ (List.mem_of_getElem? (i := 3) rfl))) (mvT hZ (hw _ (List.mem_of_getElem? (i := 36) rfl))) (by decide) (backOf (W := 0) (rmNf0 l Z aw hw [] b8 en0 en1 en2 t0 t1 t2 vv ic vs9 kb9 h9 n0 (Nat.le_trans Z0 K9.1) (O.keep K9 all0) QK CS St9 nt0a nt1a nt2a) hZ (hw _ (List.mem_of_getElem? (i := 36) rfl)) (hw _ (List.mem_of_getElem? (i := 3) rfl)) (by decide) (by decide)) (g := (mkF m 151 #[.val (.int p0), .val (.int (0 : Int32)), .val (.ref b1), .val (.ref en0), .val (.ref b8), .unset] [(.ref b8)])) rfl (by rw [hml]; rfl) (argsL := [(.ref b8)]) (rest := []) (lenOf pd_8 rfl) rfl (by show 2 * 0 + _ ≤ _; exact Nat.le_of_eq rfl) (hb hby at_151) (fun _ _ => ⟨rfl, e9, (by decide : 3 + 1 ≤ _), (by decide : 14 + 3 ≤ _)⟩)
    dsimp only [Pt.U, Pt.locs, Pt.cells, Pt.slots] at X10 l10 y10 z10 st10 hQ10
    subst l10 y10 z10
    obtain ⟨h10, e10⟩ : ∃ z, T10.heap = z := ⟨_, rfl⟩
    rw [e10] at hQ10
    obtain ⟨rfl, Nq10, Kq10⟩ := hQ10
    have N10 := Fr.app N9 Nq10
    have K10 : Keep h0 h10 [] := K9.trans Kq10 all0
    have QK11 := own_QK_ext (O.keep K10 all0).2 QK
    obtain ⟨Sv11, ⟨kv11, Vv11⟩, Ev11, Sa11_, Sl11_, Sh11_, ⟨va11a, ka11, Ee11a, Fl11a, S11a⟩, ⟨va11b, kb11_, Ee11b, Fl11b, S11b⟩, ⟨va11c, kc11_, Ee11c, Fl11c, S11c⟩, nt01, nt02, nt12⟩ := id QK11
    refine Rest.via (fun t k => st10 t k) ?_
    show Rest p.tables e below s _ _ _ (T10.setTop (mkF m 154 #[.val (.int p0), .val (.int (0 : Int32)), .val (.ref b1), .val (.ref en0), .val (.ref b8), .unset] [(.ref en0)]))
    refine Rest.via (fun t k => XS.astore X10.here hx rfl (hb hby at_154) rfl rfl (l' := #[.val (.int p0), .val (.int (0 : Int32)), .val (.ref b1), .val (.ref en0), .val (.ref b8), .val (.ref en0)]) rfl k) ?_
    show Rest p.tables e below s _ _ _ (T10.setTop (mkF m 156 #[.val (.int p0), .val (.int (0 : Int32)), .val (.ref b1), .val (.ref en0), .val (.ref b8), .val (.ref en0)] []))
    refine Rest.via (fun t k => XS.aload X10.here hx rfl (hb hby at_156) rfl rfl k) ?_
    show Rest p.tables e below s _ _ _ (T10.setTop (mkF m 158 #[.val (.int p0), .val (.int (0 : Int32)), .val (.ref b1), .val (.ref en0), .val (.ref b8), .val (.ref en0)] [(.ref en0)]))
    refine Rest.via (fun t k => XS.aloadN X10.here hx rfl (hb hby at_158) rfl rfl k) ?_
    show Rest p.tables e below s _ _ _ (T10.setTop (mkF m 159 #[.val (.int p0), .val (.int (0 : Int32)), .val (.ref b1), .val (.ref en0), .val (.ref b8), .val (.ref en0)] [(.ref en0), (.ref en0)]))
    refine Rest.via (fun t k => Jvm.RoadKit.acmp (g := (mkF m 159 #[.val (.int p0), .val (.int (0 : Int32)), .val (.ref b1), .val (.ref en0), .val (.ref b8), .val (.ref en0)] [(.ref en0), (.ref en0)])) X10 hx rfl rfl rfl (pc0 := 159) (pc' := 164) (same := true) rfl (hb hby at_159) rfl (decide_eq_true rfl) (by decide) (by decide) k) ?_
    show Rest p.tables e below s _ _ _ (T10.setTop (mkF m 164 #[.val (.int p0), .val (.int (0 : Int32)), .val (.ref b1), .val (.ref en0), .val (.ref b8), .val (.ref en0)] []))
    refine Rest.via (fun t k => XS.aloadN X10.here hx rfl (hb hby at_164) rfl rfl k) ?_
    show Rest p.tables e below s _ _ _ (T10.setTop (mkF m 165 #[.val (.int p0), .val (.int (0 : Int32)), .val (.ref b1), .val (.ref en0), .val (.ref b8), .val (.ref en0)] [(.ref en0)]))
    obtain ⟨cq12, kq12, q12a, q12b, q12c⟩ := isOf hZ e10 Ee11a
    obtain ⟨_, _, ⟨T12, L12, k12, n12⟩, -, X12, ⟨Lc12, hQ12, l12, y12, z12⟩, st12⟩ := X10.virtualBack hx (y := (⟨"sluicegate/cli/QueueKind", "toString", "()Ljava/lang/String;"⟩ : MethodName)) (z := (⟨"sluicegate/cli/QueueKind", "toString", "()Ljava/lang/String;"⟩ : MethodName)) hown (mvT hZ (hw _ (List.mem_of_getElem? (i := 64) rfl))) (mvT hZ (hw _ (List.mem_of_getElem? (i := 65) rfl))) (notFace_of_selects (args := #[]) (mvT hZ (hw _ (List.mem_of_getElem? (i := 67) rfl)))) (mvT hZ (hw _ (List.mem_of_getElem? (i := 67) rfl))) (mvT hZ (hw _ (List.mem_of_getElem? (i := 66) rfl))) (by decide) (backOf (W := 0) (rmTS l Z aw hw [] en0 t0 h10 n0 (Nat.le_trans Z0 K10.1) Fl11a) hZ (hw _ (List.mem_of_getElem? (i := 68) rfl)) (hw _ (List.mem_of_getElem? (i := 3) rfl)) (by decide) (by decide)) q12a q12c (g := (mkF m 165 #[.val (.int p0), .val (.int (0 : Int32)), .val (.ref b1), .val (.ref en0), .val (.ref b8), .val (.ref en0)] [(.ref en0)])) rfl (by rw [hml]; rfl) (Steps.refl _) (argsL := []) (rest := []) (lenOf pd_9 rfl) rfl (by show 2 * 0 + _ ≤ _; exact Nat.le_of_eq rfl) (hb hby at_165) (fun _ _ => ⟨rfl, e10, (by decide : 4 + 0 ≤ _), (by decide : 17 + 0 ≤ _)⟩)
    dsimp only [Pt.U, Pt.locs, Pt.cells, Pt.slots] at X12 l12 y12 z12 st12 hQ12
    subst l12 y12 z12
    obtain ⟨rfl, Nq12, e12⟩ := hQ12
    have N12 := Fr.app N10 Nq12
    refine Rest.via (fun t k => st12.trans k) ?_
    show Rest p.tables e below s _ _ _ (T12.setTop (mkF m 168 #[.val (.int p0), .val (.int (0 : Int32)), .val (.ref b1), .val (.ref en0), .val (.ref b8), .val (.ref en0)] [(.ref t0)]))
    obtain ⟨_, _, ⟨T13, L13, k13, n13⟩, -, X13, ⟨Lc13, hQ13, l13, y13, z13⟩, st13⟩ := Jvm.LawKit.callS X12 hx (y := (⟨"sluicegate/cli/QueueKind", "named", "(Ljava/lang/String;)Lsluicegate/cli/QueueKind;"⟩ : MethodName)) hown (mvT hZ (hw _ (List.mem_of_getElem? (i := 34) rfl))) (mvT hZ (hw _ (List.mem_of_getElem? (i := 35) rfl))) (mvT hZ (hw _ (List.mem_of_getElem? (i := 3) rfl))) (mvT hZ (hw _ (List.mem_of_getElem? (i := 36) rfl))) (by decide) (backOf (W := 0) (rmNs0 l Z aw hw []  en0 en1 en2 t0 t1 t2 vv ic h10 n0 (Nat.le_trans Z0 K10.1) (O.keep K10 all0) QK CS) hZ (hw _ (List.mem_of_getElem? (i := 36) rfl)) (hw _ (List.mem_of_getElem? (i := 3) rfl)) (by decide) (by decide)) (g := (mkF m 168 #[.val (.int p0), .val (.int (0 : Int32)), .val (.ref b1), .val (.ref en0), .val (.ref b8), .val (.ref en0)] [(.ref t0)])) rfl (by rw [hml]; rfl) (argsL := [(.ref t0)]) (rest := []) (lenOf pd_8 rfl) rfl (by show 2 * 0 + _ ≤ _; exact Nat.le_of_eq rfl) (hb hby at_168) (fun _ _ => ⟨rfl, e12, (by decide : 4 + 1 ≤ _), (by decide : 17 + 3 ≤ _)⟩)
    dsimp only [Pt.U, Pt.locs, Pt.cells, Pt.slots] at X13 l13 y13 z13 st13 hQ13
    subst l13 y13 z13
    obtain ⟨h13, e13⟩ : ∃ z, T13.heap = z := ⟨_, rfl⟩
    rw [e13] at hQ13
    obtain ⟨rfl, Nq13, Kq13⟩ := hQ13
    have N13 := Fr.app N12 Nq13
    have K13 : Keep h0 h13 [] := K10.trans Kq13 all0
    refine Rest.via (fun t k => st13 t k) ?_
    show Rest p.tables e below s _ _ _ (T13.setTop (mkF m 171 #[.val (.int p0), .val (.int (0 : Int32)), .val (.ref b1), .val (.ref en0), .val (.ref b8), .val (.ref en0)] [(.ref en0)]))
    refine Rest.via (fun t k => XS.aloadN X13.here hx rfl (hb hby at_171) rfl rfl k) ?_
    show Rest p.tables e below s _ _ _ (T13.setTop (mkF m 172 #[.val (.int p0), .val (.int (0 : Int32)), .val (.ref b1), .val (.ref en0), .val (.ref b8), .val (.ref en0)] [(.ref en0), (.ref en0)]))
    refine Rest.via (fun t k => Jvm.RoadKit.acmp (g := (mkF m 172 #[.val (.int p0), .val (.int (0 : Int32)), .val (.ref b1), .val (.ref en0), .val (.ref b8), .val (.ref en0)] [(.ref en0), (.ref en0)])) X13 hx rfl rfl rfl (pc0 := 172) (pc' := 175) (same := true) rfl (hb hby at_172) rfl (decide_eq_true rfl) (by decide) (by decide) k) ?_
    show Rest p.tables e below s _ _ _ (T13.setTop (mkF m 175 #[.val (.int p0), .val (.int (0 : Int32)), .val (.ref b1), .val (.ref en0), .val (.ref b8), .val (.ref en0)] []))
    refine Rest.via (fun t k => XS.iconst X13.here hx rfl (hb hby at_175) k) ?_
    show Rest p.tables e below s _ _ _ (T13.setTop (mkF m 176 #[.val (.int p0), .val (.int (0 : Int32)), .val (.ref b1), .val (.ref en0), .val (.ref b8), .val (.ref en0)] [(.int (1 : Int32))]))
    refine Rest.via (fun t k => XS.goto X13.here hx rfl (pc0 := 176) (pc' := 180) rfl (hb hby at_176) (by decide) (by decide) k) ?_
    show Rest p.tables e below s _ _ _ (T13.setTop (mkF m 180 #[.val (.int p0), .val (.int (0 : Int32)), .val (.ref b1), .val (.ref en0), .val (.ref b8), .val (.ref en0)] [(.int (1 : Int32))]))
    refine Rest.ret X13 (v := some (.int (nar .boolean (1 : Int32)))) (fun h => by rw [Bd.returns] at h; cases h) hlk (fun fs hr => retN X13 hx (t := .boolean) Bd.returns (by simp) (hb hby at_180) hr) ?_ (by decide) (by decide)
    rw [e13]
    exact ⟨rfl, N13⟩
  · show Rest p.tables e below s _ _ _ (s₁.setTop (mkF m 7 #[.val (.int p0), .val (.int (1 : Int32)), .unset, .unset, .unset, .unset] []))
    refine Rest.via (fun t k => XS.iloadN X0.here hx rfl (hb hby at_7) rfl k) ?_
    show Rest p.tables e below s _ _ _ (s₁.setTop (mkF m 8 #[.val (.int p0), .val (.int (1 : Int32)), .unset, .unset, .unset, .unset] [(.int (1 : Int32))]))
    refine Rest.via (fun t k => XS.ifYes X0.here hx rfl (pc0 := 8) (pc' := 47) rfl (hb hby at_8) rfl ((if0 _ _).trans (feq (by decide : ¬ ((1 : Int32) = (0 : Int32)))).2) (by decide) (by decide) k) ?_
    show Rest p.tables e below s _ _ _ (s₁.setTop (mkF m 47 #[.val (.int p0), .val (.int (1 : Int32)), .unset, .unset, .unset, .unset] []))
    refine Rest.via (fun t k => XS.iloadN X0.here hx rfl (hb hby at_47) rfl k) ?_
    show Rest p.tables e below s _ _ _ (s₁.setTop (mkF m 48 #[.val (.int p0), .val (.int (1 : Int32)), .unset, .unset, .unset, .unset] [(.int (1 : Int32))]))
    refine Rest.via (fun t k => XS.iconst X0.here hx rfl (hb hby at_48) k) ?_
    show Rest p.tables e below s _ _ _ (s₁.setTop (mkF m 49 #[.val (.int p0), .val (.int (1 : Int32)), .unset, .unset, .unset, .unset] [(.int (1 : Int32)), (.int (1 : Int32))]))
    refine Rest.via (fun t k => XS.icmpNo X0.here hx rfl (hb hby at_49) rfl (teq (by decide : (1 : Int32) = (1 : Int32))).2 k) ?_
    show Rest p.tables e below s _ _ _ (s₁.setTop (mkF m 52 #[.val (.int p0), .val (.int (1 : Int32)), .unset, .unset, .unset, .unset] []))
    refine Rest.via (fun t k => XS.bipush X0.here hx rfl (hb hby at_52) k) ?_
    show Rest p.tables e below s _ _ _ (s₁.setTop (mkF m 54 #[.val (.int p0), .val (.int (1 : Int32)), .unset, .unset, .unset, .unset] [(.int (6 : Int32))]))
    obtain ⟨T14, h14, k14, X14, e14, E14, A14, st14⟩ := newP X0 hx hZ (hw _ (List.mem_of_getElem? (i := 1) rfl)) eh0 (g := (mkF m 54 #[.val (.int p0), .val (.int (1 : Int32)), .unset, .unset, .unset, .unset] [(.int (6 : Int32))])) rfl (hb hby at_54) rfl (by decide) (cap := 6) (by decide) (by decide) (by decide) (by decide)
    obtain ⟨b14, gq14⟩ : ∃ z, z = h0.size := ⟨_, rfl⟩
    rw [← gq14] at A14 st14
    have sz_b14 : h0.size ≤ b14 := Nat.le_trans (Keep.refl h0 []).1 (Nat.le_of_eq gq14.symm)
    have g_b14 : n0 ≤ b14 := Nat.le_trans Z0 sz_b14
    have K14 : Keep h0 h14 [] := (Keep.refl h0 []).ext E14
    have V_b14 := Arv.new A14 (by decide)
    have V_b14 : Arv Z h14 b14 k14 .char (6 : Int32) [(.int (0 : Int32)), (.int (0 : Int32)), (.int (0 : Int32)), (.int (0 : Int32)), (.int (0 : Int32)), (.int (0 : Int32))] (.int (0 : Int32)) := V_b14.pad (pad_rep [] (.int (0 : Int32)) 6)
    refine Rest.via (fun t k => st14 t k) ?_
    show Rest p.tables e below s _ _ _ (T14.setTop (mkF m 56 #[.val (.int p0), .val (.int (1 : Int32)), .unset, .unset, .unset, .unset] [(.ref b14)]))
    refine Rest.via (fun t k => XS.dup X14.here hx rfl (hb hby at_56) rfl rfl k) ?_
    show Rest p.tables e below s _ _ _ (T14.setTop (mkF m 57 #[.val (.int p0), .val (.int (1 : Int32)), .unset, .unset, .unset, .unset] [(.ref b14), (.ref b14)]))
    refine Rest.via (fun t k => XS.iconst X14.here hx rfl (hb hby at_57) k) ?_
    show Rest p.tables e below s _ _ _ (T14.setTop (mkF m 58 #[.val (.int p0), .val (.int (1 : Int32)), .unset, .unset, .unset, .unset] [(.int (0 : Int32)), (.ref b14), (.ref b14)]))
    refine Rest.via (fun t k => XS.bipush X14.here hx rfl (hb hby at_58) k) ?_
    show Rest p.tables e below s _ _ _ (T14.setTop (mkF m 60 #[.val (.int p0), .val (.int (1 : Int32)), .unset, .unset, .unset, .unset] [(.int (108 : Int32)), (.int (0 : Int32)), (.ref b14), (.ref b14)]))
    obtain ⟨cl15, Ar15, qa15, Sa15, Pa15, Ha15, Ga15⟩ := id V_b14
    have hin15 := inb_of (j := (0 : Int32)) Sa15 ⟨by decide, by decide⟩
    obtain ⟨T15, h15, X15, e15, W15, st15⟩ := stC X14 hx hZ e14 Ar15 (j := (0 : Int32)) hin15 (g := (mkF m 60 #[.val (.int p0), .val (.int (1 : Int32)), .unset, .unset, .unset, .unset] [(.int (108 : Int32)), (.int (0 : Int32)), (.ref b14), (.ref b14)])) rfl rfl (hb hby at_60)
    refine Rest.via (fun t k => st15 t k) ?_
    have N15 := Fr.snoc X15 N0 g_b14
    have K15 : Keep h0 h15 [] := K14.wr W15 (Or.inr sz_b14)
    have V15 : Arv Z h15 b14 k14 .char (6 : Int32) [(.int (108 : Int32)), (.int (0 : Int32)), (.int (0 : Int32)), (.int (0 : Int32)), (.int (0 : Int32)), (.int (0 : Int32))] (.int (0 : Int32)) := by have q := Arv.set Ar15 qa15 Sa15 Pa15 Ha15 Ga15 (fits_nar_char _) W15 0 rfl (Nat.le_of_ble_eq_true rfl); rw [(by decide : nar .char (108 : Int32) = (108 : Int32))] at q; exact q
    show Rest p.tables e below s _ _ _ (T15.setTop (mkF m 61 #[.val (.int p0), .val (.int (1 : Int32)), .unset, .unset, .unset, .unset] [(.ref b14)]))
    refine Rest.via (fun t k => XS.dup X15.here hx rfl (hb hby at_61) rfl rfl k) ?_
    show Rest p.tables e below s _ _ _ (T15.setTop (mkF m 62 #[.val (.int p0), .val (.int (1 : Int32)), .unset, .unset, .unset, .unset] [(.ref b14), (.ref b14)]))
    refine Rest.via (fun t k => XS.iconst X15.here hx rfl (hb hby at_62) k) ?_
    show Rest p.tables e below s _ _ _ (T15.setTop (mkF m 63 #[.val (.int p0), .val (.int (1 : Int32)), .unset, .unset, .unset, .unset] [(.int (1 : Int32)), (.ref b14), (.ref b14)]))
    refine Rest.via (fun t k => XS.bipush X15.here hx rfl (hb hby at_63) k) ?_
    show Rest p.tables e below s _ _ _ (T15.setTop (mkF m 65 #[.val (.int p0), .val (.int (1 : Int32)), .unset, .unset, .unset, .unset] [(.int (105 : Int32)), (.int (1 : Int32)), (.ref b14), (.ref b14)]))
    obtain ⟨cl16, Ar16, qa16, Sa16, Pa16, Ha16, Ga16⟩ := id V15
    have hin16 := inb_of (j := (1 : Int32)) Sa16 ⟨by decide, by decide⟩
    obtain ⟨T16, h16, X16, e16, W16, st16⟩ := stC X15 hx hZ e15 Ar16 (j := (1 : Int32)) hin16 (g := (mkF m 65 #[.val (.int p0), .val (.int (1 : Int32)), .unset, .unset, .unset, .unset] [(.int (105 : Int32)), (.int (1 : Int32)), (.ref b14), (.ref b14)])) rfl rfl (hb hby at_65)
    refine Rest.via (fun t k => st16 t k) ?_
    have N16 := Fr.snoc X16 N15 g_b14
    have K16 : Keep h0 h16 [] := K15.wr W16 (Or.inr sz_b14)
    have V16 : Arv Z h16 b14 k14 .char (6 : Int32) [(.int (108 : Int32)), (.int (105 : Int32)), (.int (0 : Int32)), (.int (0 : Int32)), (.int (0 : Int32)), (.int (0 : Int32))] (.int (0 : Int32)) := by have q := Arv.set Ar16 qa16 Sa16 Pa16 Ha16 Ga16 (fits_nar_char _) W16 1 rfl (Nat.le_of_ble_eq_true rfl); rw [(by decide : nar .char (105 : Int32) = (105 : Int32))] at q; exact q
    show Rest p.tables e below s _ _ _ (T16.setTop (mkF m 66 #[.val (.int p0), .val (.int (1 : Int32)), .unset, .unset, .unset, .unset] [(.ref b14)]))
    refine Rest.via (fun t k => XS.dup X16.here hx rfl (hb hby at_66) rfl rfl k) ?_
    show Rest p.tables e below s _ _ _ (T16.setTop (mkF m 67 #[.val (.int p0), .val (.int (1 : Int32)), .unset, .unset, .unset, .unset] [(.ref b14), (.ref b14)]))
    refine Rest.via (fun t k => XS.iconst X16.here hx rfl (hb hby at_67) k) ?_
    show Rest p.tables e below s _ _ _ (T16.setTop (mkF m 68 #[.val (.int p0), .val (.int (1 : Int32)), .unset, .unset, .unset, .unset] [(.int (2 : Int32)), (.ref b14), (.ref b14)]))
    refine Rest.via (fun t k => XS.bipush X16.here hx rfl (hb hby at_68) k) ?_
    show Rest p.tables e below s _ _ _ (T16.setTop (mkF m 70 #[.val (.int p0), .val (.int (1 : Int32)), .unset, .unset, .unset, .unset] [(.int (110 : Int32)), (.int (2 : Int32)), (.ref b14), (.ref b14)]))
    obtain ⟨cl17, Ar17, qa17, Sa17, Pa17, Ha17, Ga17⟩ := id V16
    have hin17 := inb_of (j := (2 : Int32)) Sa17 ⟨by decide, by decide⟩
    obtain ⟨T17, h17, X17, e17, W17, st17⟩ := stC X16 hx hZ e16 Ar17 (j := (2 : Int32)) hin17 (g := (mkF m 70 #[.val (.int p0), .val (.int (1 : Int32)), .unset, .unset, .unset, .unset] [(.int (110 : Int32)), (.int (2 : Int32)), (.ref b14), (.ref b14)])) rfl rfl (hb hby at_70)
    refine Rest.via (fun t k => st17 t k) ?_
    have N17 := Fr.snoc X17 N16 g_b14
    have K17 : Keep h0 h17 [] := K16.wr W17 (Or.inr sz_b14)
    have V17 : Arv Z h17 b14 k14 .char (6 : Int32) [(.int (108 : Int32)), (.int (105 : Int32)), (.int (110 : Int32)), (.int (0 : Int32)), (.int (0 : Int32)), (.int (0 : Int32))] (.int (0 : Int32)) := by have q := Arv.set Ar17 qa17 Sa17 Pa17 Ha17 Ga17 (fits_nar_char _) W17 2 rfl (Nat.le_of_ble_eq_true rfl); rw [(by decide : nar .char (110 : Int32) = (110 : Int32))] at q; exact q
    show Rest p.tables e below s _ _ _ (T17.setTop (mkF m 71 #[.val (.int p0), .val (.int (1 : Int32)), .unset, .unset, .unset, .unset] [(.ref b14)]))
    refine Rest.via (fun t k => XS.dup X17.here hx rfl (hb hby at_71) rfl rfl k) ?_
    show Rest p.tables e below s _ _ _ (T17.setTop (mkF m 72 #[.val (.int p0), .val (.int (1 : Int32)), .unset, .unset, .unset, .unset] [(.ref b14), (.ref b14)]))
    refine Rest.via (fun t k => XS.iconst X17.here hx rfl (hb hby at_72) k) ?_
    show Rest p.tables e below s _ _ _ (T17.setTop (mkF m 73 #[.val (.int p0), .val (.int (1 : Int32)), .unset, .unset, .unset, .unset] [(.int (3 : Int32)), (.ref b14), (.ref b14)]))
    refine Rest.via (fun t k => XS.bipush X17.here hx rfl (hb hby at_73) k) ?_
    show Rest p.tables e below s _ _ _ (T17.setTop (mkF m 75 #[.val (.int p0), .val (.int (1 : Int32)), .unset, .unset, .unset, .unset] [(.int (107 : Int32)), (.int (3 : Int32)), (.ref b14), (.ref b14)]))
    obtain ⟨cl18, Ar18, qa18, Sa18, Pa18, Ha18, Ga18⟩ := id V17
    have hin18 := inb_of (j := (3 : Int32)) Sa18 ⟨by decide, by decide⟩
    obtain ⟨T18, h18, X18, e18, W18, st18⟩ := stC X17 hx hZ e17 Ar18 (j := (3 : Int32)) hin18 (g := (mkF m 75 #[.val (.int p0), .val (.int (1 : Int32)), .unset, .unset, .unset, .unset] [(.int (107 : Int32)), (.int (3 : Int32)), (.ref b14), (.ref b14)])) rfl rfl (hb hby at_75)
    refine Rest.via (fun t k => st18 t k) ?_
    have N18 := Fr.snoc X18 N17 g_b14
    have K18 : Keep h0 h18 [] := K17.wr W18 (Or.inr sz_b14)
    have V18 : Arv Z h18 b14 k14 .char (6 : Int32) [(.int (108 : Int32)), (.int (105 : Int32)), (.int (110 : Int32)), (.int (107 : Int32)), (.int (0 : Int32)), (.int (0 : Int32))] (.int (0 : Int32)) := by have q := Arv.set Ar18 qa18 Sa18 Pa18 Ha18 Ga18 (fits_nar_char _) W18 3 rfl (Nat.le_of_ble_eq_true rfl); rw [(by decide : nar .char (107 : Int32) = (107 : Int32))] at q; exact q
    show Rest p.tables e below s _ _ _ (T18.setTop (mkF m 76 #[.val (.int p0), .val (.int (1 : Int32)), .unset, .unset, .unset, .unset] [(.ref b14)]))
    refine Rest.via (fun t k => XS.dup X18.here hx rfl (hb hby at_76) rfl rfl k) ?_
    show Rest p.tables e below s _ _ _ (T18.setTop (mkF m 77 #[.val (.int p0), .val (.int (1 : Int32)), .unset, .unset, .unset, .unset] [(.ref b14), (.ref b14)]))
    refine Rest.via (fun t k => XS.iconst X18.here hx rfl (hb hby at_77) k) ?_
    show Rest p.tables e below s _ _ _ (T18.setTop (mkF m 78 #[.val (.int p0), .val (.int (1 : Int32)), .unset, .unset, .unset, .unset] [(.int (4 : Int32)), (.ref b14), (.ref b14)]))
    refine Rest.via (fun t k => XS.bipush X18.here hx rfl (hb hby at_78) k) ?_
    show Rest p.tables e below s _ _ _ (T18.setTop (mkF m 80 #[.val (.int p0), .val (.int (1 : Int32)), .unset, .unset, .unset, .unset] [(.int (101 : Int32)), (.int (4 : Int32)), (.ref b14), (.ref b14)]))
    obtain ⟨cl19, Ar19, qa19, Sa19, Pa19, Ha19, Ga19⟩ := id V18
    have hin19 := inb_of (j := (4 : Int32)) Sa19 ⟨by decide, by decide⟩
    obtain ⟨T19, h19, X19, e19, W19, st19⟩ := stC X18 hx hZ e18 Ar19 (j := (4 : Int32)) hin19 (g := (mkF m 80 #[.val (.int p0), .val (.int (1 : Int32)), .unset, .unset, .unset, .unset] [(.int (101 : Int32)), (.int (4 : Int32)), (.ref b14), (.ref b14)])) rfl rfl (hb hby at_80)
    refine Rest.via (fun t k => st19 t k) ?_
    have N19 := Fr.snoc X19 N18 g_b14
    have K19 : Keep h0 h19 [] := K18.wr W19 (Or.inr sz_b14)
    have V19 : Arv Z h19 b14 k14 .char (6 : Int32) [(.int (108 : Int32)), (.int (105 : Int32)), (.int (110 : Int32)), (.int (107 : Int32)), (.int (101 : Int32)), (.int (0 : Int32))] (.int (0 : Int32)) := by have q := Arv.set Ar19 qa19 Sa19 Pa19 Ha19 Ga19 (fits_nar_char _) W19 4 rfl (Nat.le_of_ble_eq_true rfl); rw [(by decide : nar .char (101 : Int32) = (101 : Int32))] at q; exact q
    show Rest p.tables e below s _ _ _ (T19.setTop (mkF m 81 #[.val (.int p0), .val (.int (1 : Int32)), .unset, .unset, .unset, .unset] [(.ref b14)]))
    refine Rest.via (fun t k => XS.dup X19.here hx rfl (hb hby at_81) rfl rfl k) ?_
    show Rest p.tables e below s _ _ _ (T19.setTop (mkF m 82 #[.val (.int p0), .val (.int (1 : Int32)), .unset, .unset, .unset, .unset] [(.ref b14), (.ref b14)]))
    refine Rest.via (fun t k => XS.iconst X19.here hx rfl (hb hby at_82) k) ?_
    show Rest p.tables e below s _ _ _ (T19.setTop (mkF m 83 #[.val (.int p0), .val (.int (1 : Int32)), .unset, .unset, .unset, .unset] [(.int (5 : Int32)), (.ref b14), (.ref b14)]))
    refine Rest.via (fun t k => XS.bipush X19.here hx rfl (hb hby at_83) k) ?_
    show Rest p.tables e below s _ _ _ (T19.setTop (mkF m 85 #[.val (.int p0), .val (.int (1 : Int32)), .unset, .unset, .unset, .unset] [(.int (100 : Int32)), (.int (5 : Int32)), (.ref b14), (.ref b14)]))
    obtain ⟨cl20, Ar20, qa20, Sa20, Pa20, Ha20, Ga20⟩ := id V19
    have hin20 := inb_of (j := (5 : Int32)) Sa20 ⟨by decide, by decide⟩
    obtain ⟨T20, h20, X20, e20, W20, st20⟩ := stC X19 hx hZ e19 Ar20 (j := (5 : Int32)) hin20 (g := (mkF m 85 #[.val (.int p0), .val (.int (1 : Int32)), .unset, .unset, .unset, .unset] [(.int (100 : Int32)), (.int (5 : Int32)), (.ref b14), (.ref b14)])) rfl rfl (hb hby at_85)
    refine Rest.via (fun t k => st20 t k) ?_
    have N20 := Fr.snoc X20 N19 g_b14
    have K20 : Keep h0 h20 [] := K19.wr W20 (Or.inr sz_b14)
    have V20 : Arv Z h20 b14 k14 .char (6 : Int32) [(.int (108 : Int32)), (.int (105 : Int32)), (.int (110 : Int32)), (.int (107 : Int32)), (.int (101 : Int32)), (.int (100 : Int32))] (.int (0 : Int32)) := by have q := Arv.set Ar20 qa20 Sa20 Pa20 Ha20 Ga20 (fits_nar_char _) W20 5 rfl (Nat.le_of_ble_eq_true rfl); rw [(by decide : nar .char (100 : Int32) = (100 : Int32))] at q; exact q
    show Rest p.tables e below s _ _ _ (T20.setTop (mkF m 86 #[.val (.int p0), .val (.int (1 : Int32)), .unset, .unset, .unset, .unset] [(.ref b14)]))
    refine Rest.via (fun t k => XS.astoreN X20.here hx rfl (hb hby at_86) rfl rfl (l' := #[.val (.int p0), .val (.int (1 : Int32)), .val (.ref b14), .unset, .unset, .unset]) rfl k) ?_
    show Rest p.tables e below s _ _ _ (T20.setTop (mkF m 87 #[.val (.int p0), .val (.int (1 : Int32)), .val (.ref b14), .unset, .unset, .unset] []))
    obtain ⟨T21, X21, e21, st21⟩ := getS2 X20 hx hZ hown (host := "") (Or.inl (hw _ (List.mem_of_getElem? (i := 74) rfl))) Via.refl e20 (own_QK_ext (O.keep K20 all0).2 QK).2.2.2.2.1 (g := (mkF m 87 #[.val (.int p0), .val (.int (1 : Int32)), .val (.ref b14), .unset, .unset, .unset] [])) rfl (hb hby at_87)
    refine Rest.via (fun t k => st21 t k) ?_
    show Rest p.tables e below s _ _ _ (T21.setTop (mkF m 90 #[.val (.int p0), .val (.int (1 : Int32)), .val (.ref b14), .unset, .unset, .unset] [(.ref en1)]))
    refine Rest.via (fun t k => XS.astoreN X21.here hx rfl (hb hby at_90) rfl rfl (l' := #[.val (.int p0), .val (.int (1 : Int32)), .val (.ref b14), .val (.ref en1), .unset, .unset]) rfl k) ?_
    show Rest p.tables e below s _ _ _ (T21.setTop (mkF m 91 #[.val (.int p0), .val (.int (1 : Int32)), .val (.ref b14), .val (.ref en1), .unset, .unset] []))
    refine Rest.via (fun t k => XS.goto X21.here hx rfl (pc0 := 91) (pc' := 139) rfl (hb hby at_91) (by decide) (by decide) k) ?_
    show Rest p.tables e below s _ _ _ (T21.setTop (mkF m 139 #[.val (.int p0), .val (.int (1 : Int32)), .val (.ref b14), .val (.ref en1), .unset, .unset] []))
    obtain ⟨T22, h22, X22, e22, E22, A22, D22, -, st22⟩ := newO X21 hx hZ hown (hw _ (List.mem_of_getElem? (i := 5) rfl)) (hw _ (List.mem_of_getElem? (i := 6) rfl)) (hw _ (List.mem_of_getElem? (i := 7) rfl)) e21 (g := (mkF m 139 #[.val (.int p0), .val (.int (1 : Int32)), .val (.ref b14), .val (.ref en1), .unset, .unset] [])) rfl (hb hby at_139) (by decide) (by decide)
    obtain ⟨b22, gq22⟩ : ∃ z, z = h20.size := ⟨_, rfl⟩
    rw [← gq22] at A22 D22 st22
    have sz_b22 : h0.size ≤ b22 := Nat.le_trans K20.1 (Nat.le_of_eq gq22.symm)
    have g_b22 : n0 ≤ b22 := Nat.le_trans Z0 sz_b22
    have ne_b14_b22 : b14 ≠ b22 := Nat.ne_of_lt (Nat.lt_of_lt_of_le V20.lt (Nat.le_of_eq gq22.symm))
    have K22 : Keep h0 h22 [] := K20.ext E22
    have E_b22 := A22
    have F_coder_b22 : Fld Z h22 b22 "java/lang/String" "coder" "B" (.int (0 : Int32)) := D22 (Or.inr (hw _ (List.mem_of_getElem? (i := 31) rfl))) (ty := .byte) (by decide)
    have F_value_b22 : Fld Z h22 b22 "java/lang/String" "value" "[B" .null := D22 (Or.inr (hw _ (List.mem_of_getElem? (i := 33) rfl))) (ty := (.array .byte)) (by decide)
    refine Rest.via (fun t k => st22 t k) ?_
    show Rest p.tables e below s _ _ _ (T22.setTop (mkF m 142 #[.val (.int p0), .val (.int (1 : Int32)), .val (.ref b14), .val (.ref en1), .unset, .unset] [(.ref b22)]))
    refine Rest.via (fun t k => XS.dup X22.here hx rfl (hb hby at_142) rfl rfl k) ?_
    show Rest p.tables e below s _ _ _ (T22.setTop (mkF m 143 #[.val (.int p0), .val (.int (1 : Int32)), .val (.ref b14), .val (.ref en1), .unset, .unset] [(.ref b22), (.ref b22)]))
    refine Rest.via (fun t k => XS.aloadN X22.here hx rfl (hb hby at_143) rfl rfl k) ?_
    show Rest p.tables e below s _ _ _ (T22.setTop (mkF m 144 #[.val (.int p0), .val (.int (1 : Int32)), .val (.ref b14), .val (.ref en1), .unset, .unset] [(.ref b14), (.ref b22), (.ref b22)]))
    obtain ⟨_, _, ⟨T23, L23, k23, n23⟩, -, X23, ⟨Lc23, hQ23, l23, y23, z23⟩, st23⟩ := X22.specialBack hx (y := (⟨"java/lang/String", "<init>", "([C)V"⟩ : MethodName)) rfl hown (mvT hZ (hw _ (List.mem_of_getElem? (i := 8) rfl))) (mvT hZ (hw _ (List.mem_of_getElem? (i := 9) rfl))) (mvT hZ (hw _ (List.mem_of_getElem? (i := 10) rfl))) (by decide) (backOf (W := 1) (rmSI6 l Z aw hw [] b22 b14 k14 ic (108 : Int32) (105 : Int32) (110 : Int32) (107 : Int32) (101 : Int32) (100 : Int32) h22 n0 (Nat.le_trans Z0 K22.1) E_b22 F_value_b22 F_coder_b22 g_b22 (V20.ext E22) (by decide) (by decide) (by decide) (by decide) (by decide) (by decide) (O.keep K22 all0) CS) hZ (hw _ (List.mem_of_getElem? (i := 10) rfl)) (hw _ (List.mem_of_getElem? (i := 7) rfl)) (by decide) (by decide)) (g := (mkF m 144 #[.val (.int p0), .val (.int (1 : Int32)), .val (.ref b14), .val (.ref en1), .unset, .unset] [(.ref b14), (.ref b22), (.ref b22)])) rfl (by rw [hml]; rfl) (Steps.refl _) (a := b22) (argsL := [(.ref b14)]) (rest := [(.ref b22)]) (lenOf pd_7 rfl) rfl (by show 2 * 0 + _ ≤ _; exact Nat.le_of_eq rfl) (hb hby at_144) (fun _ _ => ⟨rfl, e22, (by decide : 2 + 1 ≤ _), (by decide : 10 + 6 ≤ _)⟩)
    dsimp only [Pt.U, Pt.locs, Pt.cells, Pt.slots] at X23 l23 y23 z23 st23 hQ23
    subst l23 y23 z23
    obtain ⟨h23, e23⟩ : ∃ z, T23.heap = z := ⟨_, rfl⟩
    rw [e23] at hQ23
    obtain ⟨rfl, Nq23, Kq23, vs23, kb23, sd23, Fv23, Fc23, Vq23, nb23⟩ := hQ23
    have N23 := Fr.app N20 Nq23
    have K23 : Keep h0 h23 [] := K22.trans Kq23 (allS (Or.inr sz_b22) all0)
    have St23 : own_St Z h23 b22 vs23 kb23 (6 : Int32) [(.int (own_by (108 : Int32))), (.int (own_by (105 : Int32))), (.int (own_by (110 : Int32))), (.int (own_by (107 : Int32))), (.int (own_by (101 : Int32))), (.int (own_by (100 : Int32)))] := ⟨E_b22.keep Kq23, Fv23, Fc23, Vq23⟩
    have nt0a : t0 ≠ b22 := Nat.ne_of_lt (Nat.lt_of_lt_of_le (Nat.lt_of_lt_of_le Tz0.lt (Nat.le_of_eq O.1)) g_b22)
    have nt1a : t1 ≠ b22 := Nat.ne_of_lt (Nat.lt_of_lt_of_le (Nat.lt_of_lt_of_le Tz1.lt (Nat.le_of_eq O.1)) g_b22)
    have nt2a : t2 ≠ b22 := Nat.ne_of_lt (Nat.lt_of_lt_of_le (Nat.lt_of_lt_of_le Tz2.lt (Nat.le_of_eq O.1)) g_b22)
    refine Rest.via (fun t k => st23.trans k) ?_
    show Rest p.tables e below s _ _ _ (T23.setTop (mkF m 147 #[.val (.int p0), .val (.int (1 : Int32)), .val (.ref b14), .val (.ref en1), .unset, .unset] [(.ref b22)]))
    refine Rest.via (fun t k => XS.astore X23.here hx rfl (hb hby at_147) rfl rfl (l' := #[.val (.int p0), .val (.int (1 : Int32)), .val (.ref b14), .val (.ref en1), .val (.ref b22), .unset]) rfl k) ?_
    show Rest p.tables e below s _ _ _ (T23.setTop (mkF m 149 #[.val (.int p0), .val (.int (1 : Int32)), .val (.ref b14), .val (.ref en1), .val (.ref b22), .unset] []))
    refine Rest.via (fun t k => XS.aload X23.here hx rfl (hb hby at_149) rfl rfl k) ?_
    show Rest p.tables e below s _ _ _ (T23.setTop (mkF m 151 #[.val (.int p0), .val (.int (1 : Int32)), .val (.ref b14), .val (.ref en1), .val (.ref b22), .unset] [(.ref b22)]))
    obtain ⟨_, _, ⟨T24, L24, k24, n24⟩, -, X24, ⟨Lc24, hQ24, l24, y24, z24⟩, st24⟩ := Jvm.LawKit.callS X23 hx (y := (⟨"sluicegate/cli/QueueKind", "named", "(Ljava/lang/String;)Lsluicegate/cli/QueueKind;"⟩ : MethodName)) hown (mvT hZ (hw _ (List.mem_of_getElem? (i := 34) rfl))) (mvT hZ (hw _ (List.mem_of_getElem? (i := 35) rfl))) (mvT hZ (hw _ (List.mem_of_getElem? (i := 3) rfl))) (mvT hZ (hw _ (List.mem_of_getElem? (i := 36) rfl))) (by decide) (backOf (W := 0) (rmNf1 l Z aw hw [] b22 en0 en1 en2 t0 t1 t2 vv ic vs23 kb23 h23 n0 (Nat.le_trans Z0 K23.1) (O.keep K23 all0) QK CS St23 nt0a nt1a nt2a) hZ (hw _ (List.mem_of_getElem? (i := 36) rfl)) (hw _ (List.mem_of_getElem? (i := 3) rfl)) (by decide) (by decide)) (g := (mkF m 151 #[.val (.int p0), .val (.int (1 : Int32)), .val (.ref b14), .val (.ref en1), .val (.ref b22), .unset] [(.ref b22)])) rfl (by rw [hml]; rfl) (argsL := [(.ref b22)]) (rest := []) (lenOf pd_8 rfl) rfl (by show 2 * 0 + _ ≤ _; exact Nat.le_of_eq rfl) (hb hby at_151) (fun _ _ => ⟨rfl, e23, (by decide : 3 + 1 ≤ _), (by decide : 16 + 3 ≤ _)⟩)
    dsimp only [Pt.U, Pt.locs, Pt.cells, Pt.slots] at X24 l24 y24 z24 st24 hQ24
    subst l24 y24 z24
    obtain ⟨h24, e24⟩ : ∃ z, T24.heap = z := ⟨_, rfl⟩
    rw [e24] at hQ24
    obtain ⟨rfl, Nq24, Kq24⟩ := hQ24
    have N24 := Fr.app N23 Nq24
    have K24 : Keep h0 h24 [] := K23.trans Kq24 all0
    have QK25 := own_QK_ext (O.keep K24 all0).2 QK
    obtain ⟨Sv25, ⟨kv25, Vv25⟩, Ev25, Sa25_, Sl25_, Sh25_, ⟨va25a, ka25, Ee25a, Fl25a, S25a⟩, ⟨va25b, kb25_, Ee25b, Fl25b, S25b⟩, ⟨va25c, kc25_, Ee25c, Fl25c, S25c⟩, nt01, nt02, nt12⟩ := id QK25
    refine Rest.via (fun t k => st24 t k) ?_
    show Rest p.tables e below s _ _ _ (T24.setTop (mkF m 154 #[.val (.int p0), .val (.int (1 : Int32)), .val (.ref b14), .val (.ref en1), .val (.ref b22), .unset] [(.ref en1)]))
    refine Rest.via (fun t k => XS.astore X24.here hx rfl (hb hby at_154) rfl rfl (l' := #[.val (.int p0), .val (.int (1 : Int32)), .val (.ref b14), .val (.ref en1), .val (.ref b22), .val (.ref en1)]) rfl k) ?_
    show Rest p.tables e below s _ _ _ (T24.setTop (mkF m 156 #[.val (.int p0), .val (.int (1 : Int32)), .val (.ref b14), .val (.ref en1), .val (.ref b22), .val (.ref en1)] []))
    refine Rest.via (fun t k => XS.aload X24.here hx rfl (hb hby at_156) rfl rfl k) ?_
    show Rest p.tables e below s _ _ _ (T24.setTop (mkF m 158 #[.val (.int p0), .val (.int (1 : Int32)), .val (.ref b14), .val (.ref en1), .val (.ref b22), .val (.ref en1)] [(.ref en1)]))
    refine Rest.via (fun t k => XS.aloadN X24.here hx rfl (hb hby at_158) rfl rfl k) ?_
    show Rest p.tables e below s _ _ _ (T24.setTop (mkF m 159 #[.val (.int p0), .val (.int (1 : Int32)), .val (.ref b14), .val (.ref en1), .val (.ref b22), .val (.ref en1)] [(.ref en1), (.ref en1)]))
    refine Rest.via (fun t k => Jvm.RoadKit.acmp (g := (mkF m 159 #[.val (.int p0), .val (.int (1 : Int32)), .val (.ref b14), .val (.ref en1), .val (.ref b22), .val (.ref en1)] [(.ref en1), (.ref en1)])) X24 hx rfl rfl rfl (pc0 := 159) (pc' := 164) (same := true) rfl (hb hby at_159) rfl (decide_eq_true rfl) (by decide) (by decide) k) ?_
    show Rest p.tables e below s _ _ _ (T24.setTop (mkF m 164 #[.val (.int p0), .val (.int (1 : Int32)), .val (.ref b14), .val (.ref en1), .val (.ref b22), .val (.ref en1)] []))
    refine Rest.via (fun t k => XS.aloadN X24.here hx rfl (hb hby at_164) rfl rfl k) ?_
    show Rest p.tables e below s _ _ _ (T24.setTop (mkF m 165 #[.val (.int p0), .val (.int (1 : Int32)), .val (.ref b14), .val (.ref en1), .val (.ref b22), .val (.ref en1)] [(.ref en1)]))
    obtain ⟨cq26, kq26, q26a, q26b, q26c⟩ := isOf hZ e24 Ee25b
    obtain ⟨_, _, ⟨T26, L26, k26, n26⟩, -, X26, ⟨Lc26, hQ26, l26, y26, z26⟩, st26⟩ := X24.virtualBack hx (y := (⟨"sluicegate/cli/QueueKind", "toString", "()Ljava/lang/String;"⟩ : MethodName)) (z := (⟨"sluicegate/cli/QueueKind", "toString", "()Ljava/lang/String;"⟩ : MethodName)) hown (mvT hZ (hw _ (List.mem_of_getElem? (i := 64) rfl))) (mvT hZ (hw _ (List.mem_of_getElem? (i := 65) rfl))) (notFace_of_selects (args := #[]) (mvT hZ (hw _ (List.mem_of_getElem? (i := 76) rfl)))) (mvT hZ (hw _ (List.mem_of_getElem? (i := 76) rfl))) (mvT hZ (hw _ (List.mem_of_getElem? (i := 66) rfl))) (by decide) (backOf (W := 0) (rmTS l Z aw hw [] en1 t1 h24 n0 (Nat.le_trans Z0 K24.1) Fl25b) hZ (hw _ (List.mem_of_getElem? (i := 68) rfl)) (hw _ (List.mem_of_getElem? (i := 3) rfl)) (by decide) (by decide)) q26a q26c (g := (mkF m 165 #[.val (.int p0), .val (.int (1 : Int32)), .val (.ref b14), .val (.ref en1), .val (.ref b22), .val (.ref en1)] [(.ref en1)])) rfl (by rw [hml]; rfl) (Steps.refl _) (argsL := []) (rest := []) (lenOf pd_9 rfl) rfl (by show 2 * 0 + _ ≤ _; exact Nat.le_of_eq rfl) (hb hby at_165) (fun _ _ => ⟨rfl, e24, (by decide : 4 + 0 ≤ _), (by decide : 19 + 0 ≤ _)⟩)
    dsimp only [Pt.U, Pt.locs, Pt.cells, Pt.slots] at X26 l26 y26 z26 st26 hQ26
    subst l26 y26 z26
    obtain ⟨rfl, Nq26, e26⟩ := hQ26
    have N26 := Fr.app N24 Nq26
    refine Rest.via (fun t k => st26.trans k) ?_
    show Rest p.tables e below s _ _ _ (T26.setTop (mkF m 168 #[.val (.int p0), .val (.int (1 : Int32)), .val (.ref b14), .val (.ref en1), .val (.ref b22), .val (.ref en1)] [(.ref t1)]))
    obtain ⟨_, _, ⟨T27, L27, k27, n27⟩, -, X27, ⟨Lc27, hQ27, l27, y27, z27⟩, st27⟩ := Jvm.LawKit.callS X26 hx (y := (⟨"sluicegate/cli/QueueKind", "named", "(Ljava/lang/String;)Lsluicegate/cli/QueueKind;"⟩ : MethodName)) hown (mvT hZ (hw _ (List.mem_of_getElem? (i := 34) rfl))) (mvT hZ (hw _ (List.mem_of_getElem? (i := 35) rfl))) (mvT hZ (hw _ (List.mem_of_getElem? (i := 3) rfl))) (mvT hZ (hw _ (List.mem_of_getElem? (i := 36) rfl))) (by decide) (backOf (W := 0) (rmNs1 l Z aw hw []  en0 en1 en2 t0 t1 t2 vv ic h24 n0 (Nat.le_trans Z0 K24.1) (O.keep K24 all0) QK CS) hZ (hw _ (List.mem_of_getElem? (i := 36) rfl)) (hw _ (List.mem_of_getElem? (i := 3) rfl)) (by decide) (by decide)) (g := (mkF m 168 #[.val (.int p0), .val (.int (1 : Int32)), .val (.ref b14), .val (.ref en1), .val (.ref b22), .val (.ref en1)] [(.ref t1)])) rfl (by rw [hml]; rfl) (argsL := [(.ref t1)]) (rest := []) (lenOf pd_8 rfl) rfl (by show 2 * 0 + _ ≤ _; exact Nat.le_of_eq rfl) (hb hby at_168) (fun _ _ => ⟨rfl, e26, (by decide : 4 + 1 ≤ _), (by decide : 19 + 3 ≤ _)⟩)
    dsimp only [Pt.U, Pt.locs, Pt.cells, Pt.slots] at X27 l27 y27 z27 st27 hQ27
    subst l27 y27 z27
    obtain ⟨h27, e27⟩ : ∃ z, T27.heap = z := ⟨_, rfl⟩
    rw [e27] at hQ27
    obtain ⟨rfl, Nq27, Kq27⟩ := hQ27
    have N27 := Fr.app N26 Nq27
    have K27 : Keep h0 h27 [] := K24.trans Kq27 all0
    refine Rest.via (fun t k => st27 t k) ?_
    show Rest p.tables e below s _ _ _ (T27.setTop (mkF m 171 #[.val (.int p0), .val (.int (1 : Int32)), .val (.ref b14), .val (.ref en1), .val (.ref b22), .val (.ref en1)] [(.ref en1)]))
    refine Rest.via (fun t k => XS.aloadN X27.here hx rfl (hb hby at_171) rfl rfl k) ?_
    show Rest p.tables e below s _ _ _ (T27.setTop (mkF m 172 #[.val (.int p0), .val (.int (1 : Int32)), .val (.ref b14), .val (.ref en1), .val (.ref b22), .val (.ref en1)] [(.ref en1), (.ref en1)]))
    refine Rest.via (fun t k => Jvm.RoadKit.acmp (g := (mkF m 172 #[.val (.int p0), .val (.int (1 : Int32)), .val (.ref b14), .val (.ref en1), .val (.ref b22), .val (.ref en1)] [(.ref en1), (.ref en1)])) X27 hx rfl rfl rfl (pc0 := 172) (pc' := 175) (same := true) rfl (hb hby at_172) rfl (decide_eq_true rfl) (by decide) (by decide) k) ?_
    show Rest p.tables e below s _ _ _ (T27.setTop (mkF m 175 #[.val (.int p0), .val (.int (1 : Int32)), .val (.ref b14), .val (.ref en1), .val (.ref b22), .val (.ref en1)] []))
    refine Rest.via (fun t k => XS.iconst X27.here hx rfl (hb hby at_175) k) ?_
    show Rest p.tables e below s _ _ _ (T27.setTop (mkF m 176 #[.val (.int p0), .val (.int (1 : Int32)), .val (.ref b14), .val (.ref en1), .val (.ref b22), .val (.ref en1)] [(.int (1 : Int32))]))
    refine Rest.via (fun t k => XS.goto X27.here hx rfl (pc0 := 176) (pc' := 180) rfl (hb hby at_176) (by decide) (by decide) k) ?_
    show Rest p.tables e below s _ _ _ (T27.setTop (mkF m 180 #[.val (.int p0), .val (.int (1 : Int32)), .val (.ref b14), .val (.ref en1), .val (.ref b22), .val (.ref en1)] [(.int (1 : Int32))]))
    refine Rest.ret X27 (v := some (.int (nar .boolean (1 : Int32)))) (fun h => by rw [Bd.returns] at h; cases h) hlk (fun fs hr => retN X27 hx (t := .boolean) Bd.returns (by simp) (hb hby at_180) hr) ?_ (by decide) (by decide)
    rw [e27]
    exact ⟨rfl, N27⟩
  · show Rest p.tables e below s _ _ _ (s₁.setTop (mkF m 7 #[.val (.int p0), .val (.int (2 : Int32)), .unset, .unset, .unset, .unset] []))
    refine Rest.via (fun t k => XS.iloadN X0.here hx rfl (hb hby at_7) rfl k) ?_
    show Rest p.tables e below s _ _ _ (s₁.setTop (mkF m 8 #[.val (.int p0), .val (.int (2 : Int32)), .unset, .unset, .unset, .unset] [(.int (2 : Int32))]))
    refine Rest.via (fun t k => XS.ifYes X0.here hx rfl (pc0 := 8) (pc' := 47) rfl (hb hby at_8) rfl ((if0 _ _).trans (feq (by decide : ¬ ((2 : Int32) = (0 : Int32)))).2) (by decide) (by decide) k) ?_
    show Rest p.tables e below s _ _ _ (s₁.setTop (mkF m 47 #[.val (.int p0), .val (.int (2 : Int32)), .unset, .unset, .unset, .unset] []))
    refine Rest.via (fun t k => XS.iloadN X0.here hx rfl (hb hby at_47) rfl k) ?_
    show Rest p.tables e below s _ _ _ (s₁.setTop (mkF m 48 #[.val (.int p0), .val (.int (2 : Int32)), .unset, .unset, .unset, .unset] [(.int (2 : Int32))]))
    refine Rest.via (fun t k => XS.iconst X0.here hx rfl (hb hby at_48) k) ?_
    show Rest p.tables e below s _ _ _ (s₁.setTop (mkF m 49 #[.val (.int p0), .val (.int (2 : Int32)), .unset, .unset, .unset, .unset] [(.int (1 : Int32)), (.int (2 : Int32))]))
    refine Rest.via (fun t k => XS.icmpYes X0.here hx rfl (pc0 := 49) (pc' := 94) rfl (hb hby at_49) rfl (feq (by decide : ¬ ((2 : Int32) = (1 : Int32)))).2 (by decide) (by decide) k) ?_
    show Rest p.tables e below s _ _ _ (s₁.setTop (mkF m 94 #[.val (.int p0), .val (.int (2 : Int32)), .unset, .unset, .unset, .unset] []))
    refine Rest.via (fun t k => XS.bipush X0.here hx rfl (hb hby at_94) k) ?_
    show Rest p.tables e below s _ _ _ (s₁.setTop (mkF m 96 #[.val (.int p0), .val (.int (2 : Int32)), .unset, .unset, .unset, .unset] [(.int (7 : Int32))]))
    obtain ⟨T28, h28, k28, X28, e28, E28, A28, st28⟩ := newP X0 hx hZ (hw _ (List.mem_of_getElem? (i := 1) rfl)) eh0 (g := (mkF m 96 #[.val (.int p0), .val (.int (2 : Int32)), .unset, .unset, .unset, .unset] [(.int (7 : Int32))])) rfl (hb hby at_96) rfl (by decide) (cap := 7) (by decide) (by decide) (by decide) (by decide)
    obtain ⟨b28, gq28⟩ : ∃ z, z = h0.size := ⟨_, rfl⟩
    rw [← gq28] at A28 st28
    have sz_b28 : h0.size ≤ b28 := Nat.le_trans (Keep.refl h0 []).1 (Nat.le_of_eq gq28.symm)
    have g_b28 : n0 ≤ b28 := Nat.le_trans Z0 sz_b28
    have K28 : Keep h0 h28 [] := (Keep.refl h0 []).ext E28
    have V_b28 := Arv.new A28 (by decide)
    have V_b28 : Arv Z h28 b28 k28 .char (7 : Int32) [(.int (0 : Int32)), (.int (0 : Int32)), (.int (0 : Int32)), (.int (0 : Int32)), (.int (0 : Int32)), (.int (0 : Int32)), (.int (0 : Int32))] (.int (0 : Int32)) := V_b28.pad (pad_rep [] (.int (0 : Int32)) 7)
    refine Rest.via (fun t k => st28 t k) ?_
    show Rest p.tables e below s _ _ _ (T28.setTop (mkF m 98 #[.val (.int p0), .val (.int (2 : Int32)), .unset, .unset, .unset, .unset] [(.ref b28)]))
    refine Rest.via (fun t k => XS.dup X28.here hx rfl (hb hby at_98) rfl rfl k) ?_
    show Rest p.tables e below s _ _ _ (T28.setTop (mkF m 99 #[.val (.int p0), .val (.int (2 : Int32)), .unset, .unset, .unset, .unset] [(.ref b28), (.ref b28)]))
    refine Rest.via (fun t k => XS.iconst X28.here hx rfl (hb hby at_99) k) ?_
    show Rest p.tables e below s _ _ _ (T28.setTop (mkF m 100 #[.val (.int p0), .val (.int (2 : Int32)), .unset, .unset, .unset, .unset] [(.int (0 : Int32)), (.ref b28), (.ref b28)]))
    refine Rest.via (fun t k => XS.bipush X28.here hx rfl (hb hby at_100) k) ?_
    show Rest p.tables e below s _ _ _ (T28.setTop (mkF m 102 #[.val (.int p0), .val (.int (2 : Int32)), .unset, .unset, .unset, .unset] [(.int (104 : Int32)), (.int (0 : Int32)), (.ref b28), (.ref b28)]))
    obtain ⟨cl29, Ar29, qa29, Sa29, Pa29, Ha29, Ga29⟩ := id V_b28
    have hin29 := inb_of (j := (0 : Int32)) Sa29 ⟨by decide, by decide⟩
    obtain ⟨T29, h29, X29, e29, W29, st29⟩ := stC X28 hx hZ e28 Ar29 (j := (0 : Int32)) hin29 (g := (mkF m 102 #[.val (.int p0), .val (.int (2 : Int32)), .unset, .unset, .unset, .unset] [(.int (104 : Int32)), (.int (0 : Int32)), (.ref b28), (.ref b28)])) rfl rfl (hb hby at_102)
    refine Rest.via (fun t k => st29 t k) ?_
    have N29 := Fr.snoc X29 N0 g_b28
    have K29 : Keep h0 h29 [] := K28.wr W29 (Or.inr sz_b28)
    have V29 : Arv Z h29 b28 k28 .char (7 : Int32) [(.int (104 : Int32)), (.int (0 : Int32)), (.int (0 : Int32)), (.int (0 : Int32)), (.int (0 : Int32)), (.int (0 : Int32)), (.int (0 : Int32))] (.int (0 : Int32)) := by have q := Arv.set Ar29 qa29 Sa29 Pa29 Ha29 Ga29 (fits_nar_char _) W29 0 rfl (Nat.le_of_ble_eq_true rfl); rw [(by decide : nar .char (104 : Int32) = (104 : Int32))] at q; exact q
    show Rest p.tables e below s _ _ _ (T29.setTop (mkF m 103 #[.val (.int p0), .val (.int (2 : Int32)), .unset, .unset, .unset, .unset] [(.ref b28)]))
    refine Rest.via (fun t k => XS.dup X29.here hx rfl (hb hby at_103) rfl rfl k) ?_
    show Rest p.tables e below s _ _ _ (T29.setTop (mkF m 104 #[.val (.int p0), .val (.int (2 : Int32)), .unset, .unset, .unset, .unset] [(.ref b28), (.ref b28)]))
    refine Rest.via (fun t k => XS.iconst X29.here hx rfl (hb hby at_104) k) ?_
    show Rest p.tables e below s _ _ _ (T29.setTop (mkF m 105 #[.val (.int p0), .val (.int (2 : Int32)), .unset, .unset, .unset, .unset] [(.int (1 : Int32)), (.ref b28), (.ref b28)]))
    refine Rest.via (fun t k => XS.bipush X29.here hx rfl (hb hby at_105) k) ?_
    show Rest p.tables e below s _ _ _ (T29.setTop (mkF m 107 #[.val (.int p0), .val (.int (2 : Int32)), .unset, .unset, .unset, .unset] [(.int (97 : Int32)), (.int (1 : Int32)), (.ref b28), (.ref b28)]))
    obtain ⟨cl30, Ar30, qa30, Sa30, Pa30, Ha30, Ga30⟩ := id V29
    have hin30 := inb_of (j := (1 : Int32)) Sa30 ⟨by decide, by decide⟩
    obtain ⟨T30, h30, X30, e30, W30, st30⟩ := stC X29 hx hZ e29 Ar30 (j := (1 : Int32)) hin30 (g := (mkF m 107 #[.val (.int p0), .val (.int (2 : Int32)), .unset, .unset, .unset, .unset] [(.int (97 : Int32)), (.int (1 : Int32)), (.ref b28), (.ref b28)])) rfl rfl (hb hby at_107)
    refine Rest.via (fun t k => st30 t k) ?_
    have N30 := Fr.snoc X30 N29 g_b28
    have K30 : Keep h0 h30 [] := K29.wr W30 (Or.inr sz_b28)
    have V30 : Arv Z h30 b28 k28 .char (7 : Int32) [(.int (104 : Int32)), (.int (97 : Int32)), (.int (0 : Int32)), (.int (0 : Int32)), (.int (0 : Int32)), (.int (0 : Int32)), (.int (0 : Int32))] (.int (0 : Int32)) := by have q := Arv.set Ar30 qa30 Sa30 Pa30 Ha30 Ga30 (fits_nar_char _) W30 1 rfl (Nat.le_of_ble_eq_true rfl); rw [(by decide : nar .char (97 : Int32) = (97 : Int32))] at q; exact q
    show Rest p.tables e below s _ _ _ (T30.setTop (mkF m 108 #[.val (.int p0), .val (.int (2 : Int32)), .unset, .unset, .unset, .unset] [(.ref b28)]))
    refine Rest.via (fun t k => XS.dup X30.here hx rfl (hb hby at_108) rfl rfl k) ?_
    show Rest p.tables e below s _ _ _ (T30.setTop (mkF m 109 #[.val (.int p0), .val (.int (2 : Int32)), .unset, .unset, .unset, .unset] [(.ref b28), (.ref b28)]))
    refine Rest.via (fun t k => XS.iconst X30.here hx rfl (hb hby at_109) k) ?_
    show Rest p.tables e below s _ _ _ (T30.setTop (mkF m 110 #[.val (.int p0), .val (.int (2 : Int32)), .unset, .unset, .unset, .unset] [(.int (2 : Int32)), (.ref b28), (.ref b28)]))
    refine Rest.via (fun t k => XS.bipush X30.here hx rfl (hb hby at_110) k) ?_
    show Rest p.tables e below s _ _ _ (T30.setTop (mkF m 112 #[.val (.int p0), .val (.int (2 : Int32)), .unset, .unset, .unset, .unset] [(.int (110 : Int32)), (.int (2 : Int32)), (.ref b28), (.ref b28)]))
    obtain ⟨cl31, Ar31, qa31, Sa31, Pa31, Ha31, Ga31⟩ := id V30
    have hin31 := inb_of (j := (2 : Int32)) Sa31 ⟨by decide, by decide⟩
    obtain ⟨T31, h31, X31, e31, W31, st31⟩ := stC X30 hx hZ e30 Ar31 (j := (2 : Int32)) hin31 (g := (mkF m 112 #[.val (.int p0), .val (.int (2 : Int32)), .unset, .unset, .unset, .unset] [(.int (110 : Int32)), (.int (2 : Int32)), (.ref b28), (.ref b28)])) rfl rfl (hb hby at_112)
    refine Rest.via (fun t k => st31 t k) ?_
    have N31 := Fr.snoc X31 N30 g_b28
    have K31 : Keep h0 h31 [] := K30.wr W31 (Or.inr sz_b28)
    have V31 : Arv Z h31 b28 k28 .char (7 : Int32) [(.int (104 : Int32)), (.int (97 : Int32)), (.int (110 : Int32)), (.int (0 : Int32)), (.int (0 : Int32)), (.int (0 : Int32)), (.int (0 : Int32))] (.int (0 : Int32)) := by have q := Arv.set Ar31 qa31 Sa31 Pa31 Ha31 Ga31 (fits_nar_char _) W31 2 rfl (Nat.le_of_ble_eq_true rfl); rw [(by decide : nar .char (110 : Int32) = (110 : Int32))] at q; exact q
    show Rest p.tables e below s _ _ _ (T31.setTop (mkF m 113 #[.val (.int p0), .val (.int (2 : Int32)), .unset, .unset, .unset, .unset] [(.ref b28)]))
    refine Rest.via (fun t k => XS.dup X31.here hx rfl (hb hby at_113) rfl rfl k) ?_
    show Rest p.tables e below s _ _ _ (T31.setTop (mkF m 114 #[.val (.int p0), .val (.int (2 : Int32)), .unset, .unset, .unset, .unset] [(.ref b28), (.ref b28)]))
    refine Rest.via (fun t k => XS.iconst X31.here hx rfl (hb hby at_114) k) ?_
    show Rest p.tables e below s _ _ _ (T31.setTop (mkF m 115 #[.val (.int p0), .val (.int (2 : Int32)), .unset, .unset, .unset, .unset] [(.int (3 : Int32)), (.ref b28), (.ref b28)]))
    refine Rest.via (fun t k => XS.bipush X31.here hx rfl (hb hby at_115) k) ?_
    show Rest p.tables e below s _ _ _ (T31.setTop (mkF m 117 #[.val (.int p0), .val (.int (2 : Int32)), .unset, .unset, .unset, .unset] [(.int (100 : Int32)), (.int (3 : Int32)), (.ref b28), (.ref b28)]))
    obtain ⟨cl32, Ar32, qa32, Sa32, Pa32, Ha32, Ga32⟩ := id V31
    have hin32 := inb_of (j := (3 : Int32)) Sa32 ⟨by decide, by decide⟩
    obtain ⟨T32, h32, X32, e32, W32, st32⟩ := stC X31 hx hZ e31 Ar32 (j := (3 : Int32)) hin32 (g := (mkF m 117 #[.val (.int p0), .val (.int (2 : Int32)), .unset, .unset, .unset, .unset] [(.int (100 : Int32)), (.int (3 : Int32)), (.ref b28), (.ref b28)])) rfl rfl (hb hby at_117)
    refine Rest.via (fun t k => st32 t k) ?_
    have N32 := Fr.snoc X32 N31 g_b28
    have K32 : Keep h0 h32 [] := K31.wr W32 (Or.inr sz_b28)
    have V32 : Arv Z h32 b28 k28 .char (7 : Int32) [(.int (104 : Int32)), (.int (97 : Int32)), (.int (110 : Int32)), (.int (100 : Int32)), (.int (0 : Int32)), (.int (0 : Int32)), (.int (0 : Int32))] (.int (0 : Int32)) := by have q := Arv.set Ar32 qa32 Sa32 Pa32 Ha32 Ga32 (fits_nar_char _) W32 3 rfl (Nat.le_of_ble_eq_true rfl); rw [(by decide : nar .char (100 : Int32) = (100 : Int32))] at q; exact q
    show Rest p.tables e below s _ _ _ (T32.setTop (mkF m 118 #[.val (.int p0), .val (.int (2 : Int32)), .unset, .unset, .unset, .unset] [(.ref b28)]))
    refine Rest.via (fun t k => XS.dup X32.here hx rfl (hb hby at_118) rfl rfl k) ?_
    show Rest p.tables e below s _ _ _ (T32.setTop (mkF m 119 #[.val (.int p0), .val (.int (2 : Int32)), .unset, .unset, .unset, .unset] [(.ref b28), (.ref b28)]))
    refine Rest.via (fun t k => XS.iconst X32.here hx rfl (hb hby at_119) k) ?_
    show Rest p.tables e below s _ _ _ (T32.setTop (mkF m 120 #[.val (.int p0), .val (.int (2 : Int32)), .unset, .unset, .unset, .unset] [(.int (4 : Int32)), (.ref b28), (.ref b28)]))
    refine Rest.via (fun t k => XS.bipush X32.here hx rfl (hb hby at_120) k) ?_
    show Rest p.tables e below s _ _ _ (T32.setTop (mkF m 122 #[.val (.int p0), .val (.int (2 : Int32)), .unset, .unset, .unset, .unset] [(.int (111 : Int32)), (.int (4 : Int32)), (.ref b28), (.ref b28)]))
    obtain ⟨cl33, Ar33, qa33, Sa33, Pa33, Ha33, Ga33⟩ := id V32
    have hin33 := inb_of (j := (4 : Int32)) Sa33 ⟨by decide, by decide⟩
    obtain ⟨T33, h33, X33, e33, W33, st33⟩ := stC X32 hx hZ e32 Ar33 (j := (4 : Int32)) hin33 (g := (mkF m 122 #[.val (.int p0), .val (.int (2 : Int32)), .unset, .unset, .unset, .unset] [(.int (111 : Int32)), (.int (4 : Int32)), (.ref b28), (.ref b28)])) rfl rfl (hb hby at_122)
    refine Rest.via (fun t k => st33 t k) ?_
    have N33 := Fr.snoc X33 N32 g_b28
    have K33 : Keep h0 h33 [] := K32.wr W33 (Or.inr sz_b28)
    have V33 : Arv Z h33 b28 k28 .char (7 : Int32) [(.int (104 : Int32)), (.int (97 : Int32)), (.int (110 : Int32)), (.int (100 : Int32)), (.int (111 : Int32)), (.int (0 : Int32)), (.int (0 : Int32))] (.int (0 : Int32)) := by have q := Arv.set Ar33 qa33 Sa33 Pa33 Ha33 Ga33 (fits_nar_char _) W33 4 rfl (Nat.le_of_ble_eq_true rfl); rw [(by decide : nar .char (111 : Int32) = (111 : Int32))] at q; exact q
    show Rest p.tables e below s _ _ _ (T33.setTop (mkF m 123 #[.val (.int p0), .val (.int (2 : Int32)), .unset, .unset, .unset, .unset] [(.ref b28)]))
    refine Rest.via (fun t k => XS.dup X33.here hx rfl (hb hby at_123) rfl rfl k) ?_
    show Rest p.tables e below s _ _ _ (T33.setTop (mkF m 124 #[.val (.int p0), .val (.int (2 : Int32)), .unset, .unset, .unset, .unset] [(.ref b28), (.ref b28)]))
    refine Rest.via (fun t k => XS.iconst X33.here hx rfl (hb hby at_124) k) ?_
    show Rest p.tables e below s _ _ _ (T33.setTop (mkF m 125 #[.val (.int p0), .val (.int (2 : Int32)), .unset, .unset, .unset, .unset] [(.int (5 : Int32)), (.ref b28), (.ref b28)]))
    refine Rest.via (fun t k => XS.bipush X33.here hx rfl (hb hby at_125) k) ?_
    show Rest p.tables e below s _ _ _ (T33.setTop (mkF m 127 #[.val (.int p0), .val (.int (2 : Int32)), .unset, .unset, .unset, .unset] [(.int (102 : Int32)), (.int (5 : Int32)), (.ref b28), (.ref b28)]))
    obtain ⟨cl34, Ar34, qa34, Sa34, Pa34, Ha34, Ga34⟩ := id V33
    have hin34 := inb_of (j := (5 : Int32)) Sa34 ⟨by decide, by decide⟩
    obtain ⟨T34, h34, X34, e34, W34, st34⟩ := stC X33 hx hZ e33 Ar34 (j := (5 : Int32)) hin34 (g := (mkF m 127 #[.val (.int p0), .val (.int (2 : Int32)), .unset, .unset, .unset, .unset] [(.int (102 : Int32)), (.int (5 : Int32)), (.ref b28), (.ref b28)])) rfl rfl (hb hby at_127)
    refine Rest.via (fun t k => st34 t k) ?_
    have N34 := Fr.snoc X34 N33 g_b28
    have K34 : Keep h0 h34 [] := K33.wr W34 (Or.inr sz_b28)
    have V34 : Arv Z h34 b28 k28 .char (7 : Int32) [(.int (104 : Int32)), (.int (97 : Int32)), (.int (110 : Int32)), (.int (100 : Int32)), (.int (111 : Int32)), (.int (102 : Int32)), (.int (0 : Int32))] (.int (0 : Int32)) := by have q := Arv.set Ar34 qa34 Sa34 Pa34 Ha34 Ga34 (fits_nar_char _) W34 5 rfl (Nat.le_of_ble_eq_true rfl); rw [(by decide : nar .char (102 : Int32) = (102 : Int32))] at q; exact q
    show Rest p.tables e below s _ _ _ (T34.setTop (mkF m 128 #[.val (.int p0), .val (.int (2 : Int32)), .unset, .unset, .unset, .unset] [(.ref b28)]))
    refine Rest.via (fun t k => XS.dup X34.here hx rfl (hb hby at_128) rfl rfl k) ?_
    show Rest p.tables e below s _ _ _ (T34.setTop (mkF m 129 #[.val (.int p0), .val (.int (2 : Int32)), .unset, .unset, .unset, .unset] [(.ref b28), (.ref b28)]))
    refine Rest.via (fun t k => XS.bipush X34.here hx rfl (hb hby at_129) k) ?_
    show Rest p.tables e below s _ _ _ (T34.setTop (mkF m 131 #[.val (.int p0), .val (.int (2 : Int32)), .unset, .unset, .unset, .unset] [(.int (6 : Int32)), (.ref b28), (.ref b28)]))
    refine Rest.via (fun t k => XS.bipush X34.here hx rfl (hb hby at_131) k) ?_
    show Rest p.tables e below s _ _ _ (T34.setTop (mkF m 133 #[.val (.int p0), .val (.int (2 : Int32)), .unset, .unset, .unset, .unset] [(.int (102 : Int32)), (.int (6 : Int32)), (.ref b28), (.ref b28)]))
    obtain ⟨cl35, Ar35, qa35, Sa35, Pa35, Ha35, Ga35⟩ := id V34
    have hin35 := inb_of (j := (6 : Int32)) Sa35 ⟨by decide, by decide⟩
    obtain ⟨T35, h35, X35, e35, W35, st35⟩ := stC X34 hx hZ e34 Ar35 (j := (6 : Int32)) hin35 (g := (mkF m 133 #[.val (.int p0), .val (.int (2 : Int32)), .unset, .unset, .unset, .unset] [(.int (102 : Int32)), (.int (6 : Int32)), (.ref b28), (.ref b28)])) rfl rfl (hb hby at_133)
    refine Rest.via (fun t k => st35 t k) ?_
    have N35 := Fr.snoc X35 N34 g_b28
    have K35 : Keep h0 h35 [] := K34.wr W35 (Or.inr sz_b28)
    have V35 : Arv Z h35 b28 k28 .char (7 : Int32) [(.int (104 : Int32)), (.int (97 : Int32)), (.int (110 : Int32)), (.int (100 : Int32)), (.int (111 : Int32)), (.int (102 : Int32)), (.int (102 : Int32))] (.int (0 : Int32)) := by have q := Arv.set Ar35 qa35 Sa35 Pa35 Ha35 Ga35 (fits_nar_char _) W35 6 rfl (Nat.le_of_ble_eq_true rfl); rw [(by decide : nar .char (102 : Int32) = (102 : Int32))] at q; exact q
    show Rest p.tables e below s _ _ _ (T35.setTop (mkF m 134 #[.val (.int p0), .val (.int (2 : Int32)), .unset, .unset, .unset, .unset] [(.ref b28)]))
    refine Rest.via (fun t k => XS.astoreN X35.here hx rfl (hb hby at_134) rfl rfl (l' := #[.val (.int p0), .val (.int (2 : Int32)), .val (.ref b28), .unset, .unset, .unset]) rfl k) ?_
    show Rest p.tables e below s _ _ _ (T35.setTop (mkF m 135 #[.val (.int p0), .val (.int (2 : Int32)), .val (.ref b28), .unset, .unset, .unset] []))
    obtain ⟨T36, X36, e36, st36⟩ := getS2 X35 hx hZ hown (host := "") (Or.inl (hw _ (List.mem_of_getElem? (i := 69) rfl))) Via.refl e35 (own_QK_ext (O.keep K35 all0).2 QK).2.2.2.2.2.1 (g := (mkF m 135 #[.val (.int p0), .val (.int (2 : Int32)), .val (.ref b28), .unset, .unset, .unset] [])) rfl (hb hby at_135)
    refine Rest.via (fun t k => st36 t k) ?_
    show Rest p.tables e below s _ _ _ (T36.setTop (mkF m 138 #[.val (.int p0), .val (.int (2 : Int32)), .val (.ref b28), .unset, .unset, .unset] [(.ref en2)]))
    refine Rest.via (fun t k => XS.astoreN X36.here hx rfl (hb hby at_138) rfl rfl (l' := #[.val (.int p0), .val (.int (2 : Int32)), .val (.ref b28), .val (.ref en2), .unset, .unset]) rfl k) ?_
    show Rest p.tables e below s _ _ _ (T36.setTop (mkF m 139 #[.val (.int p0), .val (.int (2 : Int32)), .val (.ref b28), .val (.ref en2), .unset, .unset] []))
    obtain ⟨T37, h37, X37, e37, E37, A37, D37, -, st37⟩ := newO X36 hx hZ hown (hw _ (List.mem_of_getElem? (i := 5) rfl)) (hw _ (List.mem_of_getElem? (i := 6) rfl)) (hw _ (List.mem_of_getElem? (i := 7) rfl)) e36 (g := (mkF m 139 #[.val (.int p0), .val (.int (2 : Int32)), .val (.ref b28), .val (.ref en2), .unset, .unset] [])) rfl (hb hby at_139) (by decide) (by decide)
    obtain ⟨b37, gq37⟩ : ∃ z, z = h35.size := ⟨_, rfl⟩
    rw [← gq37] at A37 D37 st37
    have sz_b37 : h0.size ≤ b37 := Nat.le_trans K35.1 (Nat.le_of_eq gq37.symm)
    have g_b37 : n0 ≤ b37 := Nat.le_trans Z0 sz_b37
    have ne_b28_b37 : b28 ≠ b37 := Nat.ne_of_lt (Nat.lt_of_lt_of_le V35.lt (Nat.le_of_eq gq37.symm))
    have K37 : Keep h0 h37 [] := K35.ext E37
    have E_b37 := A37
    have F_coder_b37 : Fld Z h37 b37 "java/lang/String" "coder" "B" (.int (0 : Int32)) := D37 (Or.inr (hw _ (List.mem_of_getElem? (i := 31) rfl))) (ty := .byte) (by decide)
    have F_value_b37 : Fld Z h37 b37 "java/lang/String" "value" "[B" .null := D37 (Or.inr (hw _ (List.mem_of_getElem? (i := 33) rfl))) (ty := (.array .byte)) (by decide)
    refine Rest.via (fun t k => st37 t k) ?_
    show Rest p.tables e below s _ _ _ (T37.setTop (mkF m 142 #[.val (.int p0), .val (.int (2 : Int32)), .val (.ref b28), .val (.ref en2), .unset, .unset] [(.ref b37)]))
    refine Rest.via (fun t k => XS.dup X37.here hx rfl (hb hby at_142) rfl rfl k) ?_
    show Rest p.tables e below s _ _ _ (T37.setTop (mkF m 143 #[.val (.int p0), .val (.int (2 : Int32)), .val (.ref b28), .val (.ref en2), .unset, .unset] [(.ref b37), (.ref b37)]))
    refine Rest.via (fun t k => XS.aloadN X37.here hx rfl (hb hby at_143) rfl rfl k) ?_
    show Rest p.tables e below s _ _ _ (T37.setTop (mkF m 144 #[.val (.int p0), .val (.int (2 : Int32)), .val (.ref b28), .val (.ref en2), .unset, .unset] [(.ref b28), (.ref b37), (.ref b37)]))
    obtain ⟨_, _, ⟨T38, L38, k38, n38⟩, -, X38, ⟨Lc38, hQ38, l38, y38, z38⟩, st38⟩ := X37.specialBack hx (y := (⟨"java/lang/String", "<init>", "([C)V"⟩ : MethodName)) rfl hown (mvT hZ (hw _ (List.mem_of_getElem? (i := 8) rfl))) (mvT hZ (hw _ (List.mem_of_getElem? (i := 9) rfl))) (mvT hZ (hw _ (List.mem_of_getElem? (i := 10) rfl))) (by decide) (backOf (W := 1) (rmSI7 l Z aw hw [] b37 b28 k28 ic (104 : Int32) (97 : Int32) (110 : Int32) (100 : Int32) (111 : Int32) (102 : Int32) (102 : Int32) h37 n0 (Nat.le_trans Z0 K37.1) E_b37 F_value_b37 F_coder_b37 g_b37 (V35.ext E37) (by decide) (by decide) (by decide) (by decide) (by decide) (by decide) (by decide) (O.keep K37 all0) CS) hZ (hw _ (List.mem_of_getElem? (i := 10) rfl)) (hw _ (List.mem_of_getElem? (i := 7) rfl)) (by decide) (by decide)) (g := (mkF m 144 #[.val (.int p0), .val (.int (2 : Int32)), .val (.ref b28), .val (.ref en2), .unset, .unset] [(.ref b28), (.ref b37), (.ref b37)])) rfl (by rw [hml]; rfl) (Steps.refl _) (a := b37) (argsL := [(.ref b28)]) (rest := [(.ref b37)]) (lenOf pd_7 rfl) rfl (by show 2 * 0 + _ ≤ _; exact Nat.le_of_eq rfl) (hb hby at_144) (fun _ _ => ⟨rfl, e37, (by decide : 2 + 1 ≤ _), (by decide : 11 + 7 ≤ _)⟩)
    dsimp only [Pt.U, Pt.locs, Pt.cells, Pt.slots] at X38 l38 y38 z38 st38 hQ38
    subst l38 y38 z38
    obtain ⟨h38, e38⟩ : ∃ z, T38.heap = z := ⟨_, rfl⟩
    rw [e38] at hQ38
    obtain ⟨rfl, Nq38, Kq38, vs38, kb38, sd38, Fv38, Fc38, Vq38, nb38⟩ := hQ38
    have N38 := Fr.app N35 Nq38
    have K38 : Keep h0 h38 [] := K37.trans Kq38 (allS (Or.inr sz_b37) all0)
    have St38 : own_St Z h38 b37 vs38 kb38 (7 : Int32) [(.int (own_by (104 : Int32))), (.int (own_by (97 : Int32))), (.int (own_by (110 : Int32))), (.int (own_by (100 : Int32))), (.int (own_by (111 : Int32))), (.int (own_by (102 : Int32))), (.int (own_by (102 : Int32)))] := ⟨E_b37.keep Kq38, Fv38, Fc38, Vq38⟩
    have nt0a : t0 ≠ b37 := Nat.ne_of_lt (Nat.lt_of_lt_of_le (Nat.lt_of_lt_of_le Tz0.lt (Nat.le_of_eq O.1)) g_b37)
    have nt1a : t1 ≠ b37 := Nat.ne_of_lt (Nat.lt_of_lt_of_le (Nat.lt_of_lt_of_le Tz1.lt (Nat.le_of_eq O.1)) g_b37)
    have nt2a : t2 ≠ b37 := Nat.ne_of_lt (Nat.lt_of_lt_of_le (Nat.lt_of_lt_of_le Tz2.lt (Nat.le_of_eq O.1)) g_b37)
    refine Rest.via (fun t k => st38.trans k) ?_
    show Rest p.tables e below s _ _ _ (T38.setTop (mkF m 147 #[.val (.int p0), .val (.int (2 : Int32)), .val (.ref b28), .val (.ref en2), .unset, .unset] [(.ref b37)]))
    refine Rest.via (fun t k => XS.astore X38.here hx rfl (hb hby at_147) rfl rfl (l' := #[.val (.int p0), .val (.int (2 : Int32)), .val (.ref b28), .val (.ref en2), .val (.ref b37), .unset]) rfl k) ?_
    show Rest p.tables e below s _ _ _ (T38.setTop (mkF m 149 #[.val (.int p0), .val (.int (2 : Int32)), .val (.ref b28), .val (.ref en2), .val (.ref b37), .unset] []))
    refine Rest.via (fun t k => XS.aload X38.here hx rfl (hb hby at_149) rfl rfl k) ?_
    show Rest p.tables e below s _ _ _ (T38.setTop (mkF m 151 #[.val (.int p0), .val (.int (2 : Int32)), .val (.ref b28), .val (.ref en2), .val (.ref b37), .unset] [(.ref b37)]))
    obtain ⟨_, _, ⟨T39, L39, k39, n39⟩, -, X39, ⟨Lc39, hQ39, l39, y39, z39⟩, st39⟩ := Jvm.LawKit.callS X38 hx (y := (⟨"sluicegate/cli/QueueKind", "named", "(Ljava/lang/String;)Lsluicegate/cli/QueueKind;"⟩ : MethodName)) hown (mvT hZ (hw _ (List.mem_of_getElem? (i := 34) rfl))) (mvT hZ (hw _ (List.mem_of_getElem? (i := 35) rfl))) (mvT hZ (hw _ (List.mem_of_getElem? (i := 3) rfl))) (mvT hZ (hw _ (List.mem_of_getElem? (i := 36) rfl))) (by decide) (backOf (W := 0) (rmNf2 l Z aw hw [] b37 en0 en1 en2 t0 t1 t2 vv ic vs38 kb38 h38 n0 (Nat.le_trans Z0 K38.1) (O.keep K38 all0) QK CS St38 nt0a nt1a nt2a) hZ (hw _ (List.mem_of_getElem? (i := 36) rfl)) (hw _ (List.mem_of_getElem? (i := 3) rfl)) (by decide) (by decide)) (g := (mkF m 151 #[.val (.int p0), .val (.int (2 : Int32)), .val (.ref b28), .val (.ref en2), .val (.ref b37), .unset] [(.ref b37)])) rfl (by rw [hml]; rfl) (argsL := [(.ref b37)]) (rest := []) (lenOf pd_8 rfl) rfl (by show 2 * 0 + _ ≤ _; exact Nat.le_of_eq rfl) (hb hby at_151) (fun _ _ => ⟨rfl, e38, (by decide : 3 + 1 ≤ _), (by decide : 18 + 3 ≤ _)⟩)
    dsimp only [Pt.U, Pt.locs, Pt.cells, Pt.slots] at X39 l39 y39 z39 st39 hQ39
    subst l39 y39 z39
    obtain ⟨h39, e39⟩ : ∃ z, T39.heap = z := ⟨_, rfl⟩
    rw [e39] at hQ39
    obtain ⟨rfl, Nq39, Kq39⟩ := hQ39
    have N39 := Fr.app N38 Nq39
    have K39 : Keep h0 h39 [] := K38.trans Kq39 all0
    have QK40 := own_QK_ext (O.keep K39 all0).2 QK
    obtain ⟨Sv40, ⟨kv40, Vv40⟩, Ev40, Sa40_, Sl40_, Sh40_, ⟨va40a, ka40, Ee40a, Fl40a, S40a⟩, ⟨va40b, kb40_, Ee40b, Fl40b, S40b⟩, ⟨va40c, kc40_, Ee40c, Fl40c, S40c⟩, nt01, nt02, nt12⟩ := id QK40
    refine Rest.via (fun t k => st39 t k) ?_
    show Rest p.tables e below s _ _ _ (T39.setTop (mkF m 154 #[.val (.int p0), .val (.int (2 : Int32)), .val (.ref b28), .val (.ref en2), .val (.ref b37), .unset] [(.ref en2)]))
    refine Rest.via (fun t k => XS.astore X39.here hx rfl (hb hby at_154) rfl rfl (l' := #[.val (.int p0), .val (.int (2 : Int32)), .val (.ref b28), .val (.ref en2), .val (.ref b37), .val (.ref en2)]) rfl k) ?_
    show Rest p.tables e below s _ _ _ (T39.setTop (mkF m 156 #[.val (.int p0), .val (.int (2 : Int32)), .val (.ref b28), .val (.ref en2), .val (.ref b37), .val (.ref en2)] []))
    refine Rest.via (fun t k => XS.aload X39.here hx rfl (hb hby at_156) rfl rfl k) ?_
    show Rest p.tables e below s _ _ _ (T39.setTop (mkF m 158 #[.val (.int p0), .val (.int (2 : Int32)), .val (.ref b28), .val (.ref en2), .val (.ref b37), .val (.ref en2)] [(.ref en2)]))
    refine Rest.via (fun t k => XS.aloadN X39.here hx rfl (hb hby at_158) rfl rfl k) ?_
    show Rest p.tables e below s _ _ _ (T39.setTop (mkF m 159 #[.val (.int p0), .val (.int (2 : Int32)), .val (.ref b28), .val (.ref en2), .val (.ref b37), .val (.ref en2)] [(.ref en2), (.ref en2)]))
    refine Rest.via (fun t k => Jvm.RoadKit.acmp (g := (mkF m 159 #[.val (.int p0), .val (.int (2 : Int32)), .val (.ref b28), .val (.ref en2), .val (.ref b37), .val (.ref en2)] [(.ref en2), (.ref en2)])) X39 hx rfl rfl rfl (pc0 := 159) (pc' := 164) (same := true) rfl (hb hby at_159) rfl (decide_eq_true rfl) (by decide) (by decide) k) ?_
    show Rest p.tables e below s _ _ _ (T39.setTop (mkF m 164 #[.val (.int p0), .val (.int (2 : Int32)), .val (.ref b28), .val (.ref en2), .val (.ref b37), .val (.ref en2)] []))
    refine Rest.via (fun t k => XS.aloadN X39.here hx rfl (hb hby at_164) rfl rfl k) ?_
    show Rest p.tables e below s _ _ _ (T39.setTop (mkF m 165 #[.val (.int p0), .val (.int (2 : Int32)), .val (.ref b28), .val (.ref en2), .val (.ref b37), .val (.ref en2)] [(.ref en2)]))
    obtain ⟨cq41, kq41, q41a, q41b, q41c⟩ := isOf hZ e39 Ee40c
    obtain ⟨_, _, ⟨T41, L41, k41, n41⟩, -, X41, ⟨Lc41, hQ41, l41, y41, z41⟩, st41⟩ := X39.virtualBack hx (y := (⟨"sluicegate/cli/QueueKind", "toString", "()Ljava/lang/String;"⟩ : MethodName)) (z := (⟨"sluicegate/cli/QueueKind", "toString", "()Ljava/lang/String;"⟩ : MethodName)) hown (mvT hZ (hw _ (List.mem_of_getElem? (i := 64) rfl))) (mvT hZ (hw _ (List.mem_of_getElem? (i := 65) rfl))) (notFace_of_selects (args := #[]) (mvT hZ (hw _ (List.mem_of_getElem? (i := 73) rfl)))) (mvT hZ (hw _ (List.mem_of_getElem? (i := 73) rfl))) (mvT hZ (hw _ (List.mem_of_getElem? (i := 66) rfl))) (by decide) (backOf (W := 0) (rmTS l Z aw hw [] en2 t2 h39 n0 (Nat.le_trans Z0 K39.1) Fl40c) hZ (hw _ (List.mem_of_getElem? (i := 68) rfl)) (hw _ (List.mem_of_getElem? (i := 3) rfl)) (by decide) (by decide)) q41a q41c (g := (mkF m 165 #[.val (.int p0), .val (.int (2 : Int32)), .val (.ref b28), .val (.ref en2), .val (.ref b37), .val (.ref en2)] [(.ref en2)])) rfl (by rw [hml]; rfl) (Steps.refl _) (argsL := []) (rest := []) (lenOf pd_9 rfl) rfl (by show 2 * 0 + _ ≤ _; exact Nat.le_of_eq rfl) (hb hby at_165) (fun _ _ => ⟨rfl, e39, (by decide : 4 + 0 ≤ _), (by decide : 21 + 0 ≤ _)⟩)
    dsimp only [Pt.U, Pt.locs, Pt.cells, Pt.slots] at X41 l41 y41 z41 st41 hQ41
    subst l41 y41 z41
    obtain ⟨rfl, Nq41, e41⟩ := hQ41
    have N41 := Fr.app N39 Nq41
    refine Rest.via (fun t k => st41.trans k) ?_
    show Rest p.tables e below s _ _ _ (T41.setTop (mkF m 168 #[.val (.int p0), .val (.int (2 : Int32)), .val (.ref b28), .val (.ref en2), .val (.ref b37), .val (.ref en2)] [(.ref t2)]))
    obtain ⟨_, _, ⟨T42, L42, k42, n42⟩, -, X42, ⟨Lc42, hQ42, l42, y42, z42⟩, st42⟩ := Jvm.LawKit.callS X41 hx (y := (⟨"sluicegate/cli/QueueKind", "named", "(Ljava/lang/String;)Lsluicegate/cli/QueueKind;"⟩ : MethodName)) hown (mvT hZ (hw _ (List.mem_of_getElem? (i := 34) rfl))) (mvT hZ (hw _ (List.mem_of_getElem? (i := 35) rfl))) (mvT hZ (hw _ (List.mem_of_getElem? (i := 3) rfl))) (mvT hZ (hw _ (List.mem_of_getElem? (i := 36) rfl))) (by decide) (backOf (W := 0) (rmNs2 l Z aw hw []  en0 en1 en2 t0 t1 t2 vv ic h39 n0 (Nat.le_trans Z0 K39.1) (O.keep K39 all0) QK CS) hZ (hw _ (List.mem_of_getElem? (i := 36) rfl)) (hw _ (List.mem_of_getElem? (i := 3) rfl)) (by decide) (by decide)) (g := (mkF m 168 #[.val (.int p0), .val (.int (2 : Int32)), .val (.ref b28), .val (.ref en2), .val (.ref b37), .val (.ref en2)] [(.ref t2)])) rfl (by rw [hml]; rfl) (argsL := [(.ref t2)]) (rest := []) (lenOf pd_8 rfl) rfl (by show 2 * 0 + _ ≤ _; exact Nat.le_of_eq rfl) (hb hby at_168) (fun _ _ => ⟨rfl, e41, (by decide : 4 + 1 ≤ _), (by decide : 21 + 3 ≤ _)⟩)
    dsimp only [Pt.U, Pt.locs, Pt.cells, Pt.slots] at X42 l42 y42 z42 st42 hQ42
    subst l42 y42 z42
    obtain ⟨h42, e42⟩ : ∃ z, T42.heap = z := ⟨_, rfl⟩
    rw [e42] at hQ42
    obtain ⟨rfl, Nq42, Kq42⟩ := hQ42
    have N42 := Fr.app N41 Nq42
    have K42 : Keep h0 h42 [] := K39.trans Kq42 all0
    refine Rest.via (fun t k => st42 t k) ?_
    show Rest p.tables e below s _ _ _ (T42.setTop (mkF m 171 #[.val (.int p0), .val (.int (2 : Int32)), .val (.ref b28), .val (.ref en2), .val (.ref b37), .val (.ref en2)] [(.ref en2)]))
    refine Rest.via (fun t k => XS.aloadN X42.here hx rfl (hb hby at_171) rfl rfl k) ?_
    show Rest p.tables e below s _ _ _ (T42.setTop (mkF m 172 #[.val (.int p0), .val (.int (2 : Int32)), .val (.ref b28), .val (.ref en2), .val (.ref b37), .val (.ref en2)] [(.ref en2), (.ref en2)]))
    refine Rest.via (fun t k => Jvm.RoadKit.acmp (g := (mkF m 172 #[.val (.int p0), .val (.int (2 : Int32)), .val (.ref b28), .val (.ref en2), .val (.ref b37), .val (.ref en2)] [(.ref en2), (.ref en2)])) X42 hx rfl rfl rfl (pc0 := 172) (pc' := 175) (same := true) rfl (hb hby at_172) rfl (decide_eq_true rfl) (by decide) (by decide) k) ?_
    show Rest p.tables e below s _ _ _ (T42.setTop (mkF m 175 #[.val (.int p0), .val (.int (2 : Int32)), .val (.ref b28), .val (.ref en2), .val (.ref b37), .val (.ref en2)] []))
    refine Rest.via (fun t k => XS.iconst X42.here hx rfl (hb hby at_175) k) ?_
    show Rest p.tables e below s _ _ _ (T42.setTop (mkF m 176 #[.val (.int p0), .val (.int (2 : Int32)), .val (.ref b28), .val (.ref en2), .val (.ref b37), .val (.ref en2)] [(.int (1 : Int32))]))
    refine Rest.via (fun t k => XS.goto X42.here hx rfl (pc0 := 176) (pc' := 180) rfl (hb hby at_176) (by decide) (by decide) k) ?_
    show Rest p.tables e below s _ _ _ (T42.setTop (mkF m 180 #[.val (.int p0), .val (.int (2 : Int32)), .val (.ref b28), .val (.ref en2), .val (.ref b37), .val (.ref en2)] [(.int (1 : Int32))]))
    refine Rest.ret X42 (v := some (.int (nar .boolean (1 : Int32)))) (fun h => by rw [Bd.returns] at h; cases h) hlk (fun fs hr => retN X42 hx (t := .boolean) Bd.returns (by simp) (hb hby at_180) hr) ?_ (by decide) (by decide)
    rw [e42]
    exact ⟨rfl, N42⟩
theorem own_eqref {s : State} {args : Array Value} {a b : Term} {x : Addr} (ha : a.eval args s none [] s = some (.ref x)) (h : (Jvm.Cond.eq a b).value args s none s [] = some true) : b.eval args s none [] s = some (.ref x) := by
  obtain ⟨u, w, en1, en2, k1, k2⟩ := cmp_v (Or.inl h)
  cases ha.symm.trans en1
  have hw : w.isRef = true := k1.2
  have q : Value.ref x = w := gotT (eq_R en1 en2 rfl hw) h
  rw [q]; exact en2
theorem own_eqref' {s : State} {args : Array Value} {a b : Term} {x : Addr} (hb : b.eval args s none [] s = some (.ref x)) (h : (Jvm.Cond.eq a b).value args s none s [] = some true) : a.eval args s none [] s = some (.ref x) := by
  obtain ⟨u, w, en1, en2, k1, k2⟩ := cmp_v (Or.inl h)
  cases hb.symm.trans en2
  have hw : u.isRef = true := k2.2
  have q : u = Value.ref x := gotT (eq_R en1 en2 hw rfl) h
  rw [← q]; exact en1
theorem own_neref {s : State} {args : Array Value} {a b : Term} {x y : Addr} (ha : a.eval args s none [] s = some (.ref x)) (hb : b.eval args s none [] s = some (.ref y)) (h : (Jvm.Cond.not (.eq a b)).value args s none s [] = some true) : x ≠ y := fun q => by
  have h2 := gotF (eq_R ha hb rfl rfl) (not_v h)
  exact h2 (by rw [q])
theorem own_eqfld {args : Array Value} {s : State} {t : Term} {C n d : String} {a : Addr} {k : Int32} (ht : t.eval args s none [] s = some (.ref a)) (h : (Jvm.Cond.eq (.field t C n d) (.int k)).value args s none s [] = some true) : Fld s s.heap a C n d (.int k) := by
  obtain ⟨x, y, en1, en2, k1, k2⟩ := cmp_v (Or.inl h)
  cases (Option.some.inj (en2.symm.trans (Term.int_eval k)) : y = .int k)
  obtain ⟨z, rfl⟩ := k2
  have hz : z = k := gotT (Cond.eq_ints en1 (Term.int_eval k)) h
  subst hz
  exact Fld.start (by rw [← fld_at ht]; exact en1)
theorem own_elem {s : State} {args : Array Value} {t : Term} {v : Addr} {cl : Cell} {j c : Int32} (ev : t.eval args s none [] s = some (.ref v)) (hc : s.heap[v]? = some cl) (h : (Jvm.Cond.eq (.elem t (.int j)) (.int c)).value args s none s [] = some true) : cl.slots[j.toNatClampNeg]? = some (.int c) := by
  obtain ⟨x, y, e1, e2, k1, k2⟩ := cmp_v (Or.inl h)
  cases (Option.some.inj (e2.symm.trans (Term.int_eval c)) : y = .int c)
  obtain ⟨z, rfl⟩ := k2
  have hz : z = c := gotT (Cond.eq_ints e1 (Term.int_eval c)) h
  subst hz
  exact (elem_in e1 ev (Term.int_eval j) hc).2
theorem own_len {s : State} {args : Array Value} {t : Term} {v : Addr} {cl : Cell} {ty : FieldType} {n : Int32} (ev : t.eval args s none [] s = some (.ref v)) (A : Arr s s.heap v cl ty) (h : (Jvm.Cond.eq (.length t) (.int n)).value args s none s [] = some true) : cl.slots.size < 2 ^ 31 ∧ cl.slots.size.toInt32 = n := by
  have hat : s.arrayAt? v = some cl := Arr.fin (Vm.Alike.refl _) A
  obtain ⟨x, y, f1, f2, j1, j2⟩ := cmp_v (Or.inl h)
  obtain ⟨b, cell, g1, g2, g3, g4⟩ := Jvm.Lib.length_spec f1
  cases ev.symm.trans g1
  cases hat.symm.trans g2
  subst g4
  exact ⟨g3, gotT (Cond.eq_ints f1 (Term.int_eval n)) h⟩
set_option maxRecDepth 65536 in
set_option maxHeartbeats 40000000 in
theorem comes_1 {Post : Tables → Env → Array Value → State → Outcome → State → Prop} (hpost : ∀ tb e args s v u, (limb_1_1.after args s (.returned v) u = true ∧ limb_1_2.after args s (.returned v) u = true ∧ True) → FrameEnd s (.returned v) u (Jvm.fieldLocs frame_1_writes args s ++ Jvm.arrayLocs frame_1_arrays args s ++ Jvm.staticLocs frame_1_statics s) 24 128 → Post tb e args s (.returned v) u) :
    ArmFor flags0 classFile x code maxLocals ret World_1 tables_1 room_1 Calls_1 rest_1 Pre_1 Post := by
  intro l hfl _ _ p e ha hc hk s m args below hf hA hF happ hP
  obtain ⟨hcalls, hrest, hpre⟩ := hP
  obtain ⟨-, -, -, hnamed, -, -, -, hat⟩ := (Spec.applies_iff hf).mp happ
  obtain ⟨hg, hn⟩ := and_e (Cond.before_iff.mp (show (Jvm.Cond.and given_1 narrow_1).before args s = true from hpre))
  obtain ⟨hcnt, hg0⟩ := and_e hg
  have ha0 := hg0
  obtain ⟨w0, rfl⟩ : ∃ w0 : Value, args = #[w0] := by
    have hs : args.size = 1 := by simpa [Cond.value, given_1] using hcnt
    obtain ⟨L⟩ := args
    match L, hs with
    | [w0], _ => exact ⟨w0, rfl⟩
  have hw := fun d (hd : d ∈ tables_1) => atoms_spec (ws := Jvm.Cond.code x code maxLocals ret :: tables_1) hat d (List.mem_cons_of_mem _ hd)
  obtain ⟨hsets, hown0⟩ := atoms_of _ (rest_1_c_eq ▸ (show rest_1_c.before _ s = true from hrest))
  have hr0 := Cond.before_iff.mp hown0
  have hfit : Fit s := fun {y c} hc i hi => by
    obtain ⟨ha, rfl⟩ := Array.getElem?_eq_some_iff.mp hc
    have q := List.all_eq_true.mp ((Array.all_eq_true_iff_forall_mem.mp hF) _ (Array.getElem_mem ha)) i (List.mem_range.mpr hi)
    simpa [Array.getElem?_eq_getElem hi] using q
  obtain ⟨i0, ei0⟩ := is_v ha0
  obtain rfl : w0 = (.int i0) := Option.some.inj ei0
  obtain ⟨hn0, hr0⟩ := and_e hn
  obtain ⟨hn1, hr1⟩ := and_e hr0
  obtain ⟨hn2, hr2⟩ := and_e hr1
  obtain ⟨hn3, hr3⟩ := and_e hr2
  obtain ⟨hn4, hr4⟩ := and_e hr3
  obtain ⟨hn5, hr5⟩ := and_e hr4
  obtain ⟨hn6, hr6⟩ := and_e hr5
  obtain ⟨hn7, hr7⟩ := and_e hr6
  obtain ⟨hn8, hr8⟩ := and_e hr7
  obtain ⟨hn9, hr9⟩ := and_e hr8
  obtain ⟨hn10, hr10⟩ := and_e hr9
  obtain ⟨hn11, hr11⟩ := and_e hr10
  obtain ⟨hn12, hr12⟩ := and_e hr11
  obtain ⟨hn13, hr13⟩ := and_e hr12
  obtain ⟨hn14, hr14⟩ := and_e hr13
  obtain ⟨hn15, hr15⟩ := and_e hr14
  obtain ⟨hn16, hr16⟩ := and_e hr15
  obtain ⟨hn17, hr17⟩ := and_e hr16
  obtain ⟨hn18, hr18⟩ := and_e hr17
  obtain ⟨hn19, hr19⟩ := and_e hr18
  obtain ⟨hn20, hr20⟩ := and_e hr19
  obtain ⟨hn21, hr21⟩ := and_e hr20
  obtain ⟨hn22, hr22⟩ := and_e hr21
  obtain ⟨hn23, hr23⟩ := and_e hr22
  obtain ⟨hn24, hr24⟩ := and_e hr23
  obtain ⟨hn25, hr25⟩ := and_e hr24
  obtain ⟨hn26, hr26⟩ := and_e hr25
  obtain ⟨hn27, hr27⟩ := and_e hr26
  obtain ⟨hn28, hr28⟩ := and_e hr27
  obtain ⟨hn29, hr29⟩ := and_e hr28
  obtain ⟨hn30, hr30⟩ := and_e hr29
  obtain ⟨hn31, hr31⟩ := and_e hr30
  obtain ⟨hn32, hr32⟩ := and_e hr31
  obtain ⟨hn33, hr33⟩ := and_e hr32
  obtain ⟨hn34, hr34⟩ := and_e hr33
  obtain ⟨hn35, hr35⟩ := and_e hr34
  obtain ⟨hn36, hr36⟩ := and_e hr35
  obtain ⟨hn37, hr37⟩ := and_e hr36
  obtain ⟨hn38, hr38⟩ := and_e hr37
  obtain ⟨hn39, hr39⟩ := and_e hr38
  obtain ⟨hn40, hr40⟩ := and_e hr39
  have hn41 := hr40
  obtain ⟨vv, evv⟩ := arr_v hn1
  obtain ⟨clv, Av⟩ := Arr.start evv hn1
  have Ev := Exa.start evv hn2
  have hlv := own_len evv Av hn3
  have Sv : Sta s s.heap "sluicegate/cli/QueueKind" "$VALUES" "[Lsluicegate/cli/QueueKind;" (.ref vv) := Sta.start evv (Or.inl (hw _ (List.mem_of_getElem? (i := 49) rfl)))
  obtain ⟨en0, ee0⟩ := exa_v hn0
  have Ee0 := Exa.start ee0 hn0
  obtain ⟨en1, ee1⟩ := exa_v hn5
  have Ee1 := Exa.start ee1 hn5
  obtain ⟨en2, ee2⟩ := exa_v hn6
  have Ee2 := Exa.start ee2 hn6
  have el0 := own_eqref' ee0 hn4
  have q0 := (elem_in el0 evv (Term.int_eval 0) Av.1).2
  have q1 := (elem_in ee1 evv (Term.int_eval 1) Av.1).2
  have q2 := (elem_in ee2 evv (Term.int_eval 2) Av.1).2
  have Vv : Arv s s.heap vv clv.cls _ (3 : Int32) [(.ref en0), (.ref en1), (.ref en2)] .null := Arv.start hfit Av hlv.1 hlv.2 (by decide) rfl ⟨q0, q1, q2, trivial⟩
  have es1 := own_eqref' ee1 hn22
  have es2 := own_eqref' ee2 hn11
  have Ss0 : Sta s s.heap "sluicegate/cli/QueueKind" "ARRAY" "Lsluicegate/cli/QueueKind;" (.ref en0) := Sta.start ee0 (Or.inr ⟨(hw _ (List.mem_of_getElem? (i := 3) rfl)), (hw _ (List.mem_of_getElem? (i := 4) rfl))⟩)
  have Ss1 : Sta s s.heap "sluicegate/cli/QueueKind" "LINKED" "Lsluicegate/cli/QueueKind;" (.ref en1) := Sta.start es1 (Or.inr ⟨(hw _ (List.mem_of_getElem? (i := 3) rfl)), (hw _ (List.mem_of_getElem? (i := 75) rfl))⟩)
  have Ss2 : Sta s s.heap "sluicegate/cli/QueueKind" "HANDOFF" "Lsluicegate/cli/QueueKind;" (.ref en2) := Sta.start es2 (Or.inr ⟨(hw _ (List.mem_of_getElem? (i := 3) rfl)), (hw _ (List.mem_of_getElem? (i := 70) rfl))⟩)
  obtain ⟨t0, et0⟩ := exa_v hn7
  have Lb0 : own_Lb s s.heap en0 t0 "sluicegate/cli/QueueKind$1" (5 : Int32) [(.int (97 : Int32)), (.int (114 : Int32)), (.int (114 : Int32)), (.int (97 : Int32)), (.int (121 : Int32))] := by
    have Et := Exa.start et0 hn7
    have Fm := Fld.start ((fld_at ee0).symm.trans et0)
    obtain ⟨va, ev⟩ := arr_v hn9
    have Fv := Fld.start ((fld_at et0).symm.trans ev)
    have Fc := own_eqfld et0 hn8
    obtain ⟨cl, A⟩ := Arr.start ev hn9
    have hl := own_len ev A hn10
    have el0 := own_elem ev A.1 hn24
    have el1 := own_elem ev A.1 hn25
    have el2 := own_elem ev A.1 hn26
    have el3 := own_elem ev A.1 hn27
    have el4 := own_elem ev A.1 hn28
    exact ⟨va, cl.cls, Ee0, Fm, Et, Fv, Fc, Arv.start hfit A hl.1 hl.2 (by decide) rfl ⟨el0, el1, el2, el3, el4, trivial⟩⟩
  obtain ⟨t1, et1⟩ := exa_v hn12
  have Lb1 : own_Lb s s.heap en1 t1 "sluicegate/cli/QueueKind$2" (6 : Int32) [(.int (108 : Int32)), (.int (105 : Int32)), (.int (110 : Int32)), (.int (107 : Int32)), (.int (101 : Int32)), (.int (100 : Int32))] := by
    have Et := Exa.start et1 hn12
    have Fm := Fld.start ((fld_at ee1).symm.trans et1)
    obtain ⟨va, ev⟩ := arr_v hn14
    have Fv := Fld.start ((fld_at et1).symm.trans ev)
    have Fc := own_eqfld et1 hn13
    obtain ⟨cl, A⟩ := Arr.start ev hn14
    have hl := own_len ev A hn15
    have el0 := own_elem ev A.1 hn29
    have el1 := own_elem ev A.1 hn30
    have el2 := own_elem ev A.1 hn31
    have el3 := own_elem ev A.1 hn32
    have el4 := own_elem ev A.1 hn33
    have el5 := own_elem ev A.1 hn34
    exact ⟨va, cl.cls, Ee1, Fm, Et, Fv, Fc, Arv.start hfit A hl.1 hl.2 (by decide) rfl ⟨el0, el1, el2, el3, el4, el5, trivial⟩⟩
  obtain ⟨t2, et2⟩ := exa_v hn16
  have Lb2 : own_Lb s s.heap en2 t2 "sluicegate/cli/QueueKind$3" (7 : Int32) [(.int (104 : Int32)), (.int (97 : Int32)), (.int (110 : Int32)), (.int (100 : Int32)), (.int (111 : Int32)), (.int (102 : Int32)), (.int (102 : Int32))] := by
    have Et := Exa.start et2 hn16
    have Fm := Fld.start ((fld_at ee2).symm.trans et2)
    obtain ⟨va, ev⟩ := arr_v hn18
    have Fv := Fld.start ((fld_at et2).symm.trans ev)
    have Fc := own_eqfld et2 hn17
    obtain ⟨cl, A⟩ := Arr.start ev hn18
    have hl := own_len ev A hn19
    have el0 := own_elem ev A.1 hn35
    have el1 := own_elem ev A.1 hn36
    have el2 := own_elem ev A.1 hn37
    have el3 := own_elem ev A.1 hn38
    have el4 := own_elem ev A.1 hn39
    have el5 := own_elem ev A.1 hn40
    have el6 := own_elem ev A.1 hn41
    exact ⟨va, cl.cls, Ee2, Fm, Et, Fv, Fc, Arv.start hfit A hl.1 hl.2 (by decide) rfl ⟨el0, el1, el2, el3, el4, el5, el6, trivial⟩⟩
  have nt01 : t0 ≠ t1 := (own_neref et1 et0 hn23).symm
  have nt02 : t0 ≠ t2 := (own_neref et2 et0 hn20).symm
  have nt12 : t1 ≠ t2 := (own_neref et1 et2 hn21)
  obtain ⟨ic, eic⟩ := is_v (Cond.before_iff.mp (hsets _ (List.mem_of_getElem? (i := 1) rfl)))
  have CS : own_CS s ic := ⟨Sta.start eic (Or.inl (hsets _ (List.mem_of_getElem? (i := 0) rfl))), gotF (Cond.eq_ints eic (Term.int_eval (0))) (not_v (Cond.before_iff.mp (hsets _ (List.mem_of_getElem? (i := 2) rfl))))⟩
  have QK0 : own_QK s s.heap en0 en1 en2 t0 t1 t2 vv := ⟨Sv, ⟨_, Vv⟩, Ev, Ss0, Ss1, Ss2, Lb0, Lb1, Lb2, nt01, nt02, nt12⟩
  obtain ⟨n, o, h1, h2, h3, _, L, rfl, ⟨rfl, N⟩, hq⟩ := rm0 l s _ hw tables_1 i0 en0 en1 en2 t0 t1 t2 vv ic s.heap s.heap.size (Nat.le_refl _) (Old.start s) QK0 CS p e ha hc hk s m _ below hf ((Spec.applies_iff_loose hf).mp happ).1 ⟨rfl, State.Warmed39.refl s, rfl⟩ trivial
  refine ⟨n, _, h1, h2, h3, hpost _ _ _ _ _ _ ⟨Cond.after_iff.mpr rfl, Cond.after_iff.mpr (eq_i res_at (Term.int_eval (1)) rfl), trivial⟩ ⟨hq.1, hq.2.1, (hq.2.2.sift fun y hy => Or.inr (N y hy)).mono (by decide) (by decide)⟩⟩
theorem main_1_1 : Claimed_1_1 := comes_1 fun _ _ _ _ _ _ h hF => ⟨h.1, hF⟩
theorem main_1_2 : Claimed_1_2 := comes_1 fun _ _ _ _ _ _ h hF => ⟨h.2.1, hF⟩
end Jvm.Pilot.@@N@@
namespace Jvm.Pilot.@@N@@
open Jvm Jvm.ClassFile Sem Op Lib Jvm.Free Jvm.Stand Jvm.Pilot.@@N@@.Jvm.D
/-! MADE BY PROGRAM (witnessworld.py) out of the Statement's table words and the real class files: 25 classes; the members and pool entries that the words name. The judged class is class 1, her method 1. -/
namespace start1
open Jvm.ClassFile
def u (s : String) : CpInfo := .utf8 (stringToUtf16 s)
/-- a pool by its gaps: so many unusable entries, then the entry; so many at the end -/
def gap : Nat → List CpInfo → List CpInfo
  | 0, r => r
  | n + 1, r => .unusable :: gap n r
def poolList (es : List (Nat × CpInfo)) (last : Nat) : List CpInfo := es.foldr (fun e r => gap e.1 (e.2 :: r)) (gap last [])
def pool (es : List (Nat × CpInfo)) (last : Nat) : Array CpInfo := ⟨poolList es last⟩
def fileOf (pool : Array CpInfo) (this : Nat) (attrs : Array Attribute := #[]) (ms : Array MethodInfo := #[]) (fl : Nat := 33) (sup : Nat := 0) (ifs : Array Nat := #[]) (fds : Array FieldInfo := #[]) : ClassFile where
  minorVersion := 0
  majorVersion := 65
  constantPool := pool
  accessFlags := fl
  thisClass := this
  superClass := sup
  interfaces := ifs
  fields := fds
  methods := ms
  attributes := attrs
def plain (name : String) (sup : Option ClassId) : Class where
  name := name
  kind := .ordinary
  loader := none
  accessFlags := 33
  super := sup
  interfaces := #[]
  cf := none
  fields := #[]
  methods := #[]
  instanceTypes := #[]
  staticTypes := #[]
  resolved := #[]
  callSites := []
  init := .initialized
  statics := none
  mirror := none

def pool0 : Array CpInfo := pool [(5, u "<init>"), (0, u "()V"), (1, .class_ 10), (1, u "java/lang/Object"), (85, u "clone"), (0, u "()Ljava/lang/Object;")] 26

def k0c0 : Code := { maxStack := 0, maxLocals := 1, code := object_method_1_code, exceptionTable := #[], attributes := #[] }
def k0m0 : Method := { name := "<init>", desc := "()V", sig := { parameters := [], returnType := none }, accessFlags := 1, code := some k0c0 }
def k0m1 : Method := { name := "clone", desc := "()Ljava/lang/Object;", sig := { parameters := [], returnType := some (.object "java/lang/Object") }, accessFlags := 260, code := none }
/-- java/lang/Object -/
def k0 : Class := { plain "java/lang/Object" none with
  accessFlags := 33
  interfaces := #[]
  cf := some (fileOf pool0 8 #[] #[{ accessFlags := 1, nameIndex := 5, descriptorIndex := 6, attributes := #[] }, { accessFlags := 260, nameIndex := 96, descriptorIndex := 97, attributes := #[] }] 33 0 #[] #[])
  fields := #[]
  methods := #[k0m0, k0m1]
  instanceTypes := #[]
  staticTypes := #[]
  resolved := Array.replicate 124 none
  statics := none }

def pool1 : Array CpInfo := pool [(2, .class_ 4), (1, u "java/lang/Object"), (0, u "<init>"), (0, u "()V"), (0, .integer 2147483647), (0, .fieldref 9 10), (0, .class_ 11), (0, .nameAndType 12 13), (0, u "sluicegate/cli/QueueKind"), (0, u "ARRAY"), (0, u "Lsluicegate/cli/QueueKind;"), (0, .fieldref 9 15), (0, .nameAndType 16 13), (0, u "LINKED"), (0, .fieldref 9 18), (0, .nameAndType 19 13), (0, u "HANDOFF"), (0, .class_ 21), (0, u "java/lang/String"), (0, .methodref 20 23), (0, .nameAndType 5 24), (0, u "([C)V"), (0, .methodref 9 26), (0, .nameAndType 27 28), (0, u "named"), (0, u "(Ljava/lang/String;)Lsluicegate/cli/QueueKind;"), (0, .methodref 9 30), (0, .nameAndType 31 32), (0, u "toString"), (0, u "()Ljava/lang/String;"), (0, .class_ 34), (0, u "sluicegate/cli/QueueKindNamedPinLaw"), (2, u "law"), (0, u "(I)Z")] 8

def k1m0 : Method := { name := "<init>", desc := "()V", sig := { parameters := [], returnType := none }, accessFlags := 2, code := none }
def k1c1 : Code := { maxStack := 4, maxLocals := 6, code := code, exceptionTable := #[], attributes := #[] }
def k1m1 : Method := { name := "law", desc := "(I)Z", sig := { parameters := [.int], returnType := some .boolean }, accessFlags := 9, code := some k1c1 }
/-- sluicegate/cli/QueueKindNamedPinLaw -/
def k1 : Class := { plain "sluicegate/cli/QueueKindNamedPinLaw" (some 0) with
  accessFlags := 49
  interfaces := #[]
  cf := some (fileOf pool1 33 #[] #[{ accessFlags := 2, nameIndex := 5, descriptorIndex := 6, attributes := #[] }, { accessFlags := 9, nameIndex := 37, descriptorIndex := 38, attributes := #[] }] 49 2 #[] #[])
  fields := #[]
  methods := #[k1m0, k1m1]
  instanceTypes := #[]
  staticTypes := #[]
  resolved := Array.replicate 47 none
  statics := none }

def pool2 : Array CpInfo := pool [(1, .class_ 2), (0, u "java/lang/constant/Constable"), (0, .class_ 4), (0, u "java/lang/Object")] 6

/-- java/lang/constant/Constable -/
def k2 : Class := { plain "java/lang/constant/Constable" (some 0) with
  accessFlags := 1537
  interfaces := #[]
  cf := some (fileOf pool2 1 #[] #[] 1537 3 #[] #[])
  fields := #[]
  methods := #[]
  instanceTypes := #[]
  staticTypes := #[]
  resolved := Array.replicate 11 none
  statics := none }

def pool3 : Array CpInfo := pool [(1, .class_ 2), (0, u "java/lang/Comparable"), (0, .class_ 4), (0, u "java/lang/Object")] 7

/-- java/lang/Comparable -/
def k3 : Class := { plain "java/lang/Comparable" (some 0) with
  accessFlags := 1537
  interfaces := #[]
  cf := some (fileOf pool3 1 #[] #[] 1537 3 #[] #[])
  fields := #[]
  methods := #[]
  instanceTypes := #[]
  staticTypes := #[]
  resolved := Array.replicate 12 none
  statics := none }

def pool4 : Array CpInfo := pool [(1, .class_ 2), (0, u "java/io/Serializable"), (0, .class_ 4), (0, u "java/lang/Object")] 2

/-- java/io/Serializable -/
def k4 : Class := { plain "java/io/Serializable" (some 0) with
  accessFlags := 1537
  interfaces := #[]
  cf := some (fileOf pool4 1 #[] #[] 1537 3 #[] #[])
  fields := #[]
  methods := #[]
  instanceTypes := #[]
  staticTypes := #[]
  resolved := Array.replicate 7 none
  statics := none }

def pool5 : Array CpInfo := pool [(2, .class_ 4), (1, u "java/lang/Enum"), (0, u "name"), (0, u "Ljava/lang/String;"), (2, u "ordinal"), (0, u "I"), (1, .class_ 14), (1, u "java/lang/Object"), (4, u "hash"), (86, .class_ 108), (1, u "java/lang/Enum$EnumDesc"), (2, .class_ 112), (0, u "java/lang/constant/Constable"), (0, .class_ 114), (0, u "java/lang/Comparable"), (0, .class_ 116), (0, u "java/io/Serializable")] 87

/-- java/lang/Enum -/
def k5 : Class := { plain "java/lang/Enum" (some 0) with
  accessFlags := 1057
  interfaces := #[2, 3, 4]
  cf := some (fileOf pool5 2 #[.nestMembers #[106]] #[] 1057 12 #[111, 113, 115] #[{ accessFlags := 18, nameIndex := 5, descriptorIndex := 6, attributes := #[] }, { accessFlags := 18, nameIndex := 9, descriptorIndex := 10, attributes := #[] }, { accessFlags := 2, nameIndex := 19, descriptorIndex := 10, attributes := #[] }])
  fields := #[{ name := "name", type := (.object "java/lang/String"), accessFlags := 18, slot := 0, constantValue := 0 }, { name := "ordinal", type := .int, accessFlags := 18, slot := 1, constantValue := 0 }, { name := "hash", type := .int, accessFlags := 2, slot := 2, constantValue := 0 }]
  methods := #[]
  instanceTypes := #[(.object "java/lang/String"), .int, .int]
  staticTypes := #[]
  resolved := Array.replicate 204 none
  statics := none }

def pool6 : Array CpInfo := pool [(1, .class_ 2), (0, u "sluicegate/cli/QueueKind"), (2, u "ARRAY"), (0, u "Lsluicegate/cli/QueueKind;"), (2, u "LINKED"), (2, u "HANDOFF"), (0, .fieldref 1 14), (0, .nameAndType 15 16), (0, u "$VALUES"), (0, u "[Lsluicegate/cli/QueueKind;"), (0, .methodref 18 19), (0, .class_ 16), (0, .nameAndType 20 21), (0, u "clone"), (0, u "()Ljava/lang/Object;"), (1, .class_ 25), (1, u "java/lang/Enum"), (6, .fieldref 1 33), (0, .nameAndType 34 35), (0, u "label"), (0, u "Ljava/lang/String;"), (2, u "fairMode"), (0, u "Z"), (5, u "()Ljava/lang/String;"), (11, .methodref 1 58), (0, .nameAndType 59 60), (0, u "values"), (0, u "()[Lsluicegate/cli/QueueKind;"), (0, .methodref 62 63), (0, .class_ 64), (0, .nameAndType 65 66), (0, u "java/lang/String"), (0, u "equals"), (0, u "(Ljava/lang/Object;)Z"), (45, .class_ 113), (0, u "sluicegate/cli/QueueKind$1"), (6, .class_ 121), (0, u "sluicegate/cli/QueueKind$2"), (4, .class_ 127), (0, u "sluicegate/cli/QueueKind$3"), (9, u "(Ljava/lang/String;)Lsluicegate/cli/QueueKind;"), (7, u "named"), (1, u "toString")] 50

def k6c0 : Code := { maxStack := 1, maxLocals := 0, code := prog_18_method_1_code, exceptionTable := #[], attributes := #[] }
def k6m0 : Method := { name := "values", desc := "()[Lsluicegate/cli/QueueKind;", sig := { parameters := [], returnType := some (.array (.object "sluicegate/cli/QueueKind")) }, accessFlags := 9, code := some k6c0 }
def k6c1 : Code := { maxStack := 4, maxLocals := 5, code := prog_18_method_6_code, exceptionTable := #[], attributes := #[] }
def k6m1 : Method := { name := "named", desc := "(Ljava/lang/String;)Lsluicegate/cli/QueueKind;", sig := { parameters := [(.object "java/lang/String")], returnType := some (.object "sluicegate/cli/QueueKind") }, accessFlags := 8, code := some k6c1 }
def k6c2 : Code := { maxStack := 1, maxLocals := 1, code := prog_18_method_10_code, exceptionTable := #[], attributes := #[] }
def k6m2 : Method := { name := "toString", desc := "()Ljava/lang/String;", sig := { parameters := [], returnType := some (.object "java/lang/String") }, accessFlags := 1, code := some k6c2 }
/-- sluicegate/cli/QueueKind -/
def k6 : Class := { plain "sluicegate/cli/QueueKind" (some 5) with
  accessFlags := 17440
  interfaces := #[]
  cf := some (fileOf pool6 1 #[.nestMembers #[126, 120, 112]] #[{ accessFlags := 9, nameIndex := 59, descriptorIndex := 60, attributes := #[] }, { accessFlags := 8, nameIndex := 145, descriptorIndex := 137, attributes := #[] }, { accessFlags := 1, nameIndex := 147, descriptorIndex := 45, attributes := #[] }] 17440 23 #[] #[{ accessFlags := 16409, nameIndex := 5, descriptorIndex := 6, attributes := #[] }, { accessFlags := 16409, nameIndex := 9, descriptorIndex := 6, attributes := #[] }, { accessFlags := 16409, nameIndex := 12, descriptorIndex := 6, attributes := #[] }, { accessFlags := 18, nameIndex := 34, descriptorIndex := 35, attributes := #[] }, { accessFlags := 18, nameIndex := 38, descriptorIndex := 39, attributes := #[] }, { accessFlags := 4122, nameIndex := 15, descriptorIndex := 16, attributes := #[] }])
  fields := #[{ name := "ARRAY", type := (.object "sluicegate/cli/QueueKind"), accessFlags := 16409, slot := 0, constantValue := 0 }, { name := "LINKED", type := (.object "sluicegate/cli/QueueKind"), accessFlags := 16409, slot := 1, constantValue := 0 }, { name := "HANDOFF", type := (.object "sluicegate/cli/QueueKind"), accessFlags := 16409, slot := 2, constantValue := 0 }, { name := "label", type := (.object "java/lang/String"), accessFlags := 18, slot := 3, constantValue := 0 }, { name := "fairMode", type := .boolean, accessFlags := 18, slot := 4, constantValue := 0 }, { name := "$VALUES", type := (.array (.object "sluicegate/cli/QueueKind")), accessFlags := 4122, slot := 3, constantValue := 0 }]
  methods := #[k6m0, k6m1, k6m2]
  instanceTypes := #[(.object "java/lang/String"), .int, .int, (.object "java/lang/String"), .boolean]
  staticTypes := #[(.object "sluicegate/cli/QueueKind"), (.object "sluicegate/cli/QueueKind"), (.object "sluicegate/cli/QueueKind"), (.array (.object "sluicegate/cli/QueueKind"))]
  resolved := Array.replicate 198 none
  statics := some 0 }

def pool7 : Array CpInfo := pool [(2, .class_ 4), (1, u "java/lang/CharSequence"), (42, .class_ 48), (0, u "java/lang/CharSequence$1CodePointIterator"), (10, .class_ 60), (0, u "java/lang/CharSequence$1CharIterator"), (5, .class_ 67), (0, u "java/lang/Object")] 63

/-- java/lang/CharSequence -/
def k7 : Class := { plain "java/lang/CharSequence" (some 0) with
  accessFlags := 1537
  interfaces := #[]
  cf := some (fileOf pool7 2 #[.nestMembers #[47, 59]] #[] 1537 66 #[] #[])
  fields := #[]
  methods := #[]
  instanceTypes := #[]
  staticTypes := #[]
  resolved := Array.replicate 131 none
  statics := none }

def pool8 : Array CpInfo := pool [(1, .class_ 2), (0, u "java/lang/constant/ConstantDesc"), (0, .class_ 4), (0, u "java/lang/Object")] 32

/-- java/lang/constant/ConstantDesc -/
def k8 : Class := { plain "java/lang/constant/ConstantDesc" (some 0) with
  accessFlags := 1537
  interfaces := #[]
  cf := some (fileOf pool8 1 #[] #[] 1537 3 #[] #[])
  fields := #[]
  methods := #[]
  instanceTypes := #[]
  staticTypes := #[]
  resolved := Array.replicate 37 none
  statics := none }

def pool9 : Array CpInfo := pool [(1, .methodref 2 3), (0, .class_ 4), (0, .nameAndType 5 6), (0, u "java/lang/Object"), (0, u "<init>"), (0, u "()V"), (2, .fieldref 10 11), (0, .class_ 12), (0, .nameAndType 13 14), (0, u "java/lang/String"), (0, u "value"), (0, u "[B"), (0, .fieldref 10 16), (0, .nameAndType 17 18), (0, u "coder"), (0, u "B"), (2, u "hash"), (0, u "I"), (2, u "hashIsZero"), (0, u "Z"), (0, .methodref 10 28), (0, .nameAndType 5 29), (0, u "([CIILjava/lang/Void;)V"), (8, .fieldref 10 39), (0, .nameAndType 40 26), (0, u "COMPACT_STRINGS"), (1, .class_ 44), (1, u "java/lang/StringUTF16"), (0, u "compress"), (1, .methodref 42 48), (0, .nameAndType 49 50), (0, u "coderFromArrayLen"), (0, u "([BI)B"), (56, .class_ 109), (1, u "java/lang/StringLatin1"), (67, .methodref 42 178), (0, .nameAndType 45 179), (0, u "([CII)[B"), (361, .methodref 107 542), (0, .nameAndType 543 544), (0, u "equals"), (0, u "([B[B)Z"), (28, u "(Ljava/lang/Object;)Z"), (1, .class_ 576), (0, u "java/lang/CharSequence"), (22, u "CASE_INSENSITIVE_ORDER"), (0, u "Ljava/util/Comparator;"), (409, u "([C)V"), (90, u "serialPersistentFields"), (0, u "[Ljava/io/ObjectStreamField;"), (0, .class_ 1104), (0, u "java/lang/String$CaseInsensitiveComparator"), (1, .class_ 1107), (0, u "java/io/Serializable"), (0, .class_ 1109), (0, u "java/lang/Comparable"), (0, .class_ 1111), (0, u "java/lang/constant/Constable"), (0, .class_ 1113), (0, u "java/lang/constant/ConstantDesc"), (2, u "serialVersionUID"), (0, u "J"), (3, u "REPL"), (0, u "C"), (2, u "LATIN1"), (1, u "UTF16")] 323

def k9m0 : Method := { name := "<init>", desc := "()V", sig := { parameters := [], returnType := none }, accessFlags := 1, code := none }
def k9c1 : Code := { maxStack := 5, maxLocals := 2, code := jdk_42_method_3_code, exceptionTable := #[], attributes := #[] }
def k9m1 : Method := { name := "<init>", desc := "([C)V", sig := { parameters := [(.array .char)], returnType := none }, accessFlags := 1, code := some k9c1 }
def k9c2 : Code := { maxStack := 2, maxLocals := 3, code := jdk_42_method_66_code, exceptionTable := #[], attributes := #[] }
def k9m2 : Method := { name := "equals", desc := "(Ljava/lang/Object;)Z", sig := { parameters := [(.object "java/lang/Object")], returnType := some .boolean }, accessFlags := 1, code := some k9c2 }
def k9c3 : Code := { maxStack := 4, maxLocals := 6, code := jdk_42_method_149_code, exceptionTable := #[], attributes := #[] }
def k9m3 : Method := { name := "<init>", desc := "([CIILjava/lang/Void;)V", sig := { parameters := [(.array .char), .int, .int, (.object "java/lang/Void")], returnType := none }, accessFlags := 2, code := some k9c3 }
/-- java/lang/String -/
def k9 : Class := { plain "java/lang/String" (some 0) with
  accessFlags := 49
  interfaces := #[4, 3, 7, 2, 8]
  cf := some (fileOf pool9 10 #[.nestMembers #[1103]] #[{ accessFlags := 1, nameIndex := 5, descriptorIndex := 6, attributes := #[] }, { accessFlags := 1, nameIndex := 5, descriptorIndex := 1010, attributes := #[] }, { accessFlags := 1, nameIndex := 543, descriptorIndex := 573, attributes := #[] }, { accessFlags := 2, nameIndex := 5, descriptorIndex := 29, attributes := #[] }] 49 2 #[1106, 1108, 575, 1110, 1112] #[{ accessFlags := 18, nameIndex := 13, descriptorIndex := 14, attributes := #[] }, { accessFlags := 18, nameIndex := 17, descriptorIndex := 18, attributes := #[] }, { accessFlags := 2, nameIndex := 21, descriptorIndex := 22, attributes := #[] }, { accessFlags := 2, nameIndex := 25, descriptorIndex := 26, attributes := #[] }, { accessFlags := 26, nameIndex := 1116, descriptorIndex := 1117, attributes := #[] }, { accessFlags := 24, nameIndex := 40, descriptorIndex := 26, attributes := #[] }, { accessFlags := 26, nameIndex := 1101, descriptorIndex := 1102, attributes := #[] }, { accessFlags := 26, nameIndex := 1121, descriptorIndex := 1122, attributes := #[] }, { accessFlags := 25, nameIndex := 599, descriptorIndex := 600, attributes := #[] }, { accessFlags := 24, nameIndex := 1125, descriptorIndex := 18, attributes := #[] }, { accessFlags := 24, nameIndex := 1127, descriptorIndex := 18, attributes := #[] }])
  fields := #[{ name := "value", type := (.array .byte), accessFlags := 18, slot := 0, constantValue := 0 }, { name := "coder", type := .byte, accessFlags := 18, slot := 1, constantValue := 0 }, { name := "hash", type := .int, accessFlags := 2, slot := 2, constantValue := 0 }, { name := "hashIsZero", type := .boolean, accessFlags := 2, slot := 3, constantValue := 0 }, { name := "serialVersionUID", type := .long, accessFlags := 26, slot := 0, constantValue := 0 }, { name := "COMPACT_STRINGS", type := .boolean, accessFlags := 24, slot := 1, constantValue := 0 }, { name := "serialPersistentFields", type := (.array (.object "java/io/ObjectStreamField")), accessFlags := 26, slot := 2, constantValue := 0 }, { name := "REPL", type := .char, accessFlags := 26, slot := 3, constantValue := 0 }, { name := "CASE_INSENSITIVE_ORDER", type := (.object "java/util/Comparator"), accessFlags := 25, slot := 4, constantValue := 0 }, { name := "LATIN1", type := .byte, accessFlags := 24, slot := 5, constantValue := 0 }, { name := "UTF16", type := .byte, accessFlags := 24, slot := 6, constantValue := 0 }]
  methods := #[k9m0, k9m1, k9m2, k9m3]
  instanceTypes := #[(.array .byte), .byte, .int, .boolean]
  staticTypes := #[.long, .boolean, (.array (.object "java/io/ObjectStreamField")), .char, (.object "java/util/Comparator"), .byte, .byte]
  resolved := Array.replicate 1451 none
  statics := some 1 }

def pool10 : Array CpInfo := pool [(6, .class_ 8), (1, u "java/lang/Object"), (0, u "<init>"), (0, u "()V"), (1, .class_ 14), (1, u "java/lang/StringUTF16"), (31, u "$assertionsDisabled"), (0, u "Z"), (13, u "HI_BYTE_SHIFT"), (0, u "I"), (2, u "LO_BYTE_SHIFT"), (49, .methodref 12 116), (0, .nameAndType 117 118), (0, u "compress"), (0, u "([CI[BII)I"), (3, u "([CII)[B"), (138, u "coderFromArrayLen"), (0, u "([BI)B"), (106, .class_ 371), (1, u "java/lang/StringUTF16$LinesSpliterator"), (58, u "MAX_LENGTH"), (196, .class_ 628), (0, u "java/lang/StringUTF16$CodePointsSpliterator"), (0, .class_ 630), (0, u "java/lang/StringUTF16$CharsSpliterator")] 4

def k10m0 : Method := { name := "<init>", desc := "()V", sig := { parameters := [], returnType := none }, accessFlags := 0, code := none }
def k10c1 : Code := { maxStack := 2, maxLocals := 2, code := jdk_52_method_15_code, exceptionTable := #[], attributes := #[] }
def k10m1 : Method := { name := "coderFromArrayLen", desc := "([BI)B", sig := { parameters := [(.array .byte), .int], returnType := some .byte }, accessFlags := 8, code := some k10c1 }
def k10c2 : Code := { maxStack := 5, maxLocals := 6, code := jdk_52_method_16_code, exceptionTable := #[], attributes := #[] }
def k10m2 : Method := { name := "compress", desc := "([CII)[B", sig := { parameters := [(.array .char), .int, .int], returnType := some (.array .byte) }, accessFlags := 9, code := some k10c2 }
def k10c3 : Code := { maxStack := 3, maxLocals := 7, code := jdk_52_method_21_code, exceptionTable := #[], attributes := #[] }
def k10m3 : Method := { name := "compress", desc := "([CI[BII)I", sig := { parameters := [(.array .char), .int, (.array .byte), .int, .int], returnType := some .int }, accessFlags := 9, code := some k10c3 }
/-- java/lang/StringUTF16 -/
def k10 : Class := { plain "java/lang/StringUTF16" (some 0) with
  accessFlags := 48
  interfaces := #[]
  cf := some (fileOf pool10 12 #[.nestMembers #[627, 629, 369]] #[{ accessFlags := 0, nameIndex := 9, descriptorIndex := 10, attributes := #[] }, { accessFlags := 8, nameIndex := 261, descriptorIndex := 262, attributes := #[] }, { accessFlags := 9, nameIndex := 117, descriptorIndex := 122, attributes := #[] }, { accessFlags := 9, nameIndex := 117, descriptorIndex := 118, attributes := #[] }] 48 6 #[] #[{ accessFlags := 26, nameIndex := 61, descriptorIndex := 62, attributes := #[] }, { accessFlags := 26, nameIndex := 65, descriptorIndex := 62, attributes := #[] }, { accessFlags := 24, nameIndex := 430, descriptorIndex := 62, attributes := #[] }, { accessFlags := 4120, nameIndex := 46, descriptorIndex := 47, attributes := #[] }])
  fields := #[{ name := "HI_BYTE_SHIFT", type := .int, accessFlags := 26, slot := 0, constantValue := 0 }, { name := "LO_BYTE_SHIFT", type := .int, accessFlags := 26, slot := 1, constantValue := 0 }, { name := "MAX_LENGTH", type := .int, accessFlags := 24, slot := 2, constantValue := 0 }, { name := "$assertionsDisabled", type := .boolean, accessFlags := 4120, slot := 3, constantValue := 0 }]
  methods := #[k10m0, k10m1, k10m2, k10m3]
  instanceTypes := #[]
  staticTypes := #[.int, .int, .int, .boolean]
  resolved := Array.replicate 635 none
  statics := none }

def pool11 : Array CpInfo := pool [(1, .class_ 2), (0, u "java/lang/Cloneable"), (0, .class_ 4), (0, u "java/lang/Object")] 2

/-- java/lang/Cloneable -/
def k11 : Class := { plain "java/lang/Cloneable" (some 0) with
  accessFlags := 1537
  interfaces := #[]
  cf := some (fileOf pool11 1 #[] #[] 1537 3 #[] #[])
  fields := #[]
  methods := #[]
  instanceTypes := #[]
  staticTypes := #[]
  resolved := Array.replicate 7 none
  statics := none }

def pool12 : Array CpInfo := pool [(2, .class_ 4), (1, u "sluicegate/cli/QueueKind"), (24, .class_ 30), (0, u "sluicegate/cli/QueueKind$1")] 14

/-- sluicegate/cli/QueueKind$1 -/
def k12 : Class := { plain "sluicegate/cli/QueueKind$1" (some 6) with
  accessFlags := 16432
  interfaces := #[]
  cf := some (fileOf pool12 29 #[.nestHost 2] #[] 16432 2 #[] #[])
  fields := #[]
  methods := #[]
  instanceTypes := #[(.object "java/lang/String"), .int, .int, (.object "java/lang/String"), .boolean]
  staticTypes := #[]
  resolved := Array.replicate 45 none
  statics := none }

def pool13 : Array CpInfo := pool [(4, .class_ 6), (1, u "java/lang/Object"), (0, u "<init>"), (0, u "()V"), (5, .class_ 16), (1, u "java/lang/StringLatin1"), (104, u "$assertionsDisabled"), (0, u "Z"), (98, .class_ 223), (1, u "java/lang/StringLatin1$LinesSpliterator"), (57, u "equals"), (0, u "([B[B)Z"), (107, .class_ 391), (0, u "java/lang/StringLatin1$CharsSpliterator")] 3

def k13m0 : Method := { name := "<init>", desc := "()V", sig := { parameters := [], returnType := none }, accessFlags := 0, code := none }
def k13c1 : Code := { maxStack := 3, maxLocals := 3, code := jdk_43_method_13_code, exceptionTable := #[], attributes := #[] }
def k13m1 : Method := { name := "equals", desc := "([B[B)Z", sig := { parameters := [(.array .byte), (.array .byte)], returnType := some .boolean }, accessFlags := 9, code := some k13c1 }
/-- java/lang/StringLatin1 -/
def k13 : Class := { plain "java/lang/StringLatin1" (some 0) with
  accessFlags := 48
  interfaces := #[]
  cf := some (fileOf pool13 14 #[.nestMembers #[390, 221]] #[{ accessFlags := 0, nameIndex := 7, descriptorIndex := 8, attributes := #[] }, { accessFlags := 9, nameIndex := 281, descriptorIndex := 282, attributes := #[] }] 48 4 #[] #[{ accessFlags := 4120, nameIndex := 121, descriptorIndex := 122, attributes := #[] }])
  fields := #[{ name := "$assertionsDisabled", type := .boolean, accessFlags := 4120, slot := 0, constantValue := 0 }]
  methods := #[k13m0, k13m1]
  instanceTypes := #[]
  staticTypes := #[.boolean]
  resolved := Array.replicate 395 none
  statics := none }

def pool14 : Array CpInfo := pool [(2, .class_ 4), (1, u "sluicegate/cli/QueueKind"), (20, .class_ 26), (0, u "sluicegate/cli/QueueKind$2")] 15

/-- sluicegate/cli/QueueKind$2 -/
def k14 : Class := { plain "sluicegate/cli/QueueKind$2" (some 6) with
  accessFlags := 16432
  interfaces := #[]
  cf := some (fileOf pool14 25 #[.nestHost 2] #[] 16432 2 #[] #[])
  fields := #[]
  methods := #[]
  instanceTypes := #[(.object "java/lang/String"), .int, .int, (.object "java/lang/String"), .boolean]
  staticTypes := #[]
  resolved := Array.replicate 42 none
  statics := none }

def pool15 : Array CpInfo := pool [(2, .class_ 4), (1, u "sluicegate/cli/QueueKind"), (20, .class_ 26), (0, u "sluicegate/cli/QueueKind$3")] 14

/-- sluicegate/cli/QueueKind$3 -/
def k15 : Class := { plain "sluicegate/cli/QueueKind$3" (some 6) with
  accessFlags := 16432
  interfaces := #[]
  cf := some (fileOf pool15 25 #[.nestHost 2] #[] 16432 2 #[] #[])
  fields := #[]
  methods := #[]
  instanceTypes := #[(.object "java/lang/String"), .int, .int, (.object "java/lang/String"), .boolean]
  staticTypes := #[]
  resolved := Array.replicate 41 none
  statics := none }

def pool16 : Array CpInfo := pool [(2, .class_ 4), (1, u "java/lang/Object"), (0, u "<init>"), (0, u "()V"), (17, .class_ 26), (1, u "jdk/internal/util/Preconditions"), (28, .class_ 56), (0, u "jdk/internal/util/Preconditions$4"), (57, .class_ 115), (0, u "jdk/internal/util/Preconditions$1"), (7, u "SIOOBE_FORMATTER"), (0, u "Ljava/util/function/BiFunction;"), (0, .class_ 126), (0, u "jdk/internal/util/Preconditions$2"), (3, u "AIOOBE_FORMATTER"), (0, .class_ 132), (0, u "jdk/internal/util/Preconditions$3"), (3, u "IOOBE_FORMATTER")] 57

def k16m0 : Method := { name := "<init>", desc := "()V", sig := { parameters := [], returnType := none }, accessFlags := 1, code := none }
/-- jdk/internal/util/Preconditions -/
def k16 : Class := { plain "jdk/internal/util/Preconditions" (some 0) with
  accessFlags := 33
  interfaces := #[]
  cf := some (fileOf pool16 24 #[.nestMembers #[55, 131, 125, 114]] #[{ accessFlags := 1, nameIndex := 5, descriptorIndex := 6, attributes := #[] }] 33 2 #[] #[{ accessFlags := 25, nameIndex := 123, descriptorIndex := 124, attributes := #[] }, { accessFlags := 25, nameIndex := 130, descriptorIndex := 124, attributes := #[] }, { accessFlags := 25, nameIndex := 136, descriptorIndex := 124, attributes := #[] }])
  fields := #[{ name := "SIOOBE_FORMATTER", type := (.object "java/util/function/BiFunction"), accessFlags := 25, slot := 0, constantValue := 0 }, { name := "AIOOBE_FORMATTER", type := (.object "java/util/function/BiFunction"), accessFlags := 25, slot := 1, constantValue := 0 }, { name := "IOOBE_FORMATTER", type := (.object "java/util/function/BiFunction"), accessFlags := 25, slot := 2, constantValue := 0 }]
  methods := #[k16m0]
  instanceTypes := #[]
  staticTypes := #[(.object "java/util/function/BiFunction"), (.object "java/util/function/BiFunction"), (.object "java/util/function/BiFunction")]
  resolved := Array.replicate 194 none
  statics := some 2 }

def pool17 : Array CpInfo := pool [(9, u "<init>"), (6, .class_ 18), (1, u "java/lang/Object"), (0, u "()V"), (1, .class_ 23), (1, u "jdk/internal/util/ArraysSupport"), (0, u "LOG2_ARRAY_LONG_INDEX_SCALE"), (0, u "I"), (2, u "U"), (0, u "Ljdk/internal/misc/Unsafe;"), (8, u "BIG_ENDIAN"), (0, u "Z"), (8, u "LOG2_BYTE_BIT_SIZE"), (4, u "LOG2_ARRAY_INT_INDEX_SCALE"), (54, u "JLA"), (0, u "Ljdk/internal/access/JavaLangAccess;"), (11, u "LOG2_ARRAY_BOOLEAN_INDEX_SCALE"), (9, u "LOG2_ARRAY_BYTE_INDEX_SCALE"), (5, u "LOG2_ARRAY_CHAR_INDEX_SCALE"), (5, u "LOG2_ARRAY_SHORT_INDEX_SCALE"), (18, u "LOG2_ARRAY_FLOAT_INDEX_SCALE"), (24, u "LOG2_ARRAY_DOUBLE_INDEX_SCALE"), (89, u "T_BOOLEAN"), (2, u "T_CHAR"), (1, u "T_FLOAT"), (1, u "T_DOUBLE"), (1, u "T_BYTE"), (1, u "T_SHORT"), (1, u "T_INT"), (1, u "T_LONG"), (1, u "SOFT_MAX_ARRAY_LENGTH")] 83

def k17m0 : Method := { name := "<init>", desc := "()V", sig := { parameters := [], returnType := none }, accessFlags := 2, code := none }
/-- jdk/internal/util/ArraysSupport -/
def k17 : Class := { plain "jdk/internal/util/ArraysSupport" (some 0) with
  accessFlags := 33
  interfaces := #[]
  cf := some (fileOf pool17 21 #[] #[{ accessFlags := 2, nameIndex := 9, descriptorIndex := 19, attributes := #[] }] 33 16 #[] #[{ accessFlags := 24, nameIndex := 28, descriptorIndex := 29, attributes := #[] }, { accessFlags := 26, nameIndex := 38, descriptorIndex := 39, attributes := #[] }, { accessFlags := 25, nameIndex := 121, descriptorIndex := 25, attributes := #[] }, { accessFlags := 25, nameIndex := 131, descriptorIndex := 25, attributes := #[] }, { accessFlags := 25, nameIndex := 137, descriptorIndex := 25, attributes := #[] }, { accessFlags := 25, nameIndex := 143, descriptorIndex := 25, attributes := #[] }, { accessFlags := 25, nameIndex := 53, descriptorIndex := 25, attributes := #[] }, { accessFlags := 25, nameIndex := 24, descriptorIndex := 25, attributes := #[] }, { accessFlags := 25, nameIndex := 162, descriptorIndex := 25, attributes := #[] }, { accessFlags := 25, nameIndex := 187, descriptorIndex := 25, attributes := #[] }, { accessFlags := 26, nameIndex := 48, descriptorIndex := 25, attributes := #[] }, { accessFlags := 25, nameIndex := 277, descriptorIndex := 25, attributes := #[] }, { accessFlags := 25, nameIndex := 280, descriptorIndex := 25, attributes := #[] }, { accessFlags := 25, nameIndex := 282, descriptorIndex := 25, attributes := #[] }, { accessFlags := 25, nameIndex := 284, descriptorIndex := 25, attributes := #[] }, { accessFlags := 25, nameIndex := 286, descriptorIndex := 25, attributes := #[] }, { accessFlags := 25, nameIndex := 288, descriptorIndex := 25, attributes := #[] }, { accessFlags := 25, nameIndex := 290, descriptorIndex := 25, attributes := #[] }, { accessFlags := 25, nameIndex := 292, descriptorIndex := 25, attributes := #[] }, { accessFlags := 26, nameIndex := 108, descriptorIndex := 109, attributes := #[] }, { accessFlags := 25, nameIndex := 294, descriptorIndex := 25, attributes := #[] }])
  fields := #[{ name := "U", type := (.object "jdk/internal/misc/Unsafe"), accessFlags := 24, slot := 0, constantValue := 0 }, { name := "BIG_ENDIAN", type := .boolean, accessFlags := 26, slot := 1, constantValue := 0 }, { name := "LOG2_ARRAY_BOOLEAN_INDEX_SCALE", type := .int, accessFlags := 25, slot := 2, constantValue := 0 }, { name := "LOG2_ARRAY_BYTE_INDEX_SCALE", type := .int, accessFlags := 25, slot := 3, constantValue := 0 }, { name := "LOG2_ARRAY_CHAR_INDEX_SCALE", type := .int, accessFlags := 25, slot := 4, constantValue := 0 }, { name := "LOG2_ARRAY_SHORT_INDEX_SCALE", type := .int, accessFlags := 25, slot := 5, constantValue := 0 }, { name := "LOG2_ARRAY_INT_INDEX_SCALE", type := .int, accessFlags := 25, slot := 6, constantValue := 0 }, { name := "LOG2_ARRAY_LONG_INDEX_SCALE", type := .int, accessFlags := 25, slot := 7, constantValue := 0 }, { name := "LOG2_ARRAY_FLOAT_INDEX_SCALE", type := .int, accessFlags := 25, slot := 8, constantValue := 0 }, { name := "LOG2_ARRAY_DOUBLE_INDEX_SCALE", type := .int, accessFlags := 25, slot := 9, constantValue := 0 }, { name := "LOG2_BYTE_BIT_SIZE", type := .int, accessFlags := 26, slot := 10, constantValue := 0 }, { name := "T_BOOLEAN", type := .int, accessFlags := 25, slot := 11, constantValue := 0 }, { name := "T_CHAR", type := .int, accessFlags := 25, slot := 12, constantValue := 0 }, { name := "T_FLOAT", type := .int, accessFlags := 25, slot := 13, constantValue := 0 }, { name := "T_DOUBLE", type := .int, accessFlags := 25, slot := 14, constantValue := 0 }, { name := "T_BYTE", type := .int, accessFlags := 25, slot := 15, constantValue := 0 }, { name := "T_SHORT", type := .int, accessFlags := 25, slot := 16, constantValue := 0 }, { name := "T_INT", type := .int, accessFlags := 25, slot := 17, constantValue := 0 }, { name := "T_LONG", type := .int, accessFlags := 25, slot := 18, constantValue := 0 }, { name := "JLA", type := (.object "jdk/internal/access/JavaLangAccess"), accessFlags := 26, slot := 19, constantValue := 0 }, { name := "SOFT_MAX_ARRAY_LENGTH", type := .int, accessFlags := 25, slot := 20, constantValue := 0 }]
  methods := #[k17m0]
  instanceTypes := #[]
  staticTypes := #[(.object "jdk/internal/misc/Unsafe"), .boolean, .int, .int, .int, .int, .int, .int, .int, .int, .int, .int, .int, .int, .int, .int, .int, .int, .int, (.object "jdk/internal/access/JavaLangAccess"), .int]
  resolved := Array.replicate 378 none
  statics := none }

/-- the primitive byte -/
def k18 : Class := { plain "byte" none with kind := .primitive 'B', accessFlags := 0x411 }
/-- [B -/
def k19 : Class := { plain "[B" (some 0) with kind := .array 18 .byte, interfaces := #[11, 4], accessFlags := 1041 }

/-- the primitive char -/
def k20 : Class := { plain "char" none with kind := .primitive 'C', accessFlags := 0x411 }
/-- [C -/
def k21 : Class := { plain "[C" (some 0) with kind := .array 20 .char, interfaces := #[11, 4], accessFlags := 1041 }

/-- the primitive int -/
def k22 : Class := { plain "int" none with kind := .primitive 'I', accessFlags := 0x411 }
/-- [I -/
def k23 : Class := { plain "[I" (some 0) with kind := .array 22 .int, interfaces := #[11, 4], accessFlags := 1041 }

/-- [Lsluicegate/cli/QueueKind; -/
def k24 : Class := { plain "[Lsluicegate/cli/QueueKind;" (some 0) with kind := .array 6 (.object "sluicegate/cli/QueueKind"), interfaces := #[11, 4], accessFlags := 1041 }

def heap : Heap := #[{ cls := 6, slots := #[.ref 10, .ref 11, .ref 12, .ref 3], vm := .statics 6 },
  { cls := 9, slots := #[.long 0, .int 1, .null, .int 0, .null, .int 0, .int 0], vm := .statics 9 },
  { cls := 16, slots := #[.null, .null, .null], vm := .statics 16 },
  { cls := 24, slots := #[.ref 10, .ref 11, .ref 12], vm := .none },
  { cls := 19, slots := #[.int 97, .int 114, .int 114, .int 97, .int 121], vm := .none },
  { cls := 19, slots := #[.int 108, .int 105, .int 110, .int 107, .int 101, .int 100], vm := .none },
  { cls := 19, slots := #[.int 104, .int 97, .int 110, .int 100, .int 111, .int 102, .int 102], vm := .none },
  { cls := 9, slots := #[.ref 4, .int 0, .int 0, .int 0], vm := .none },
  { cls := 9, slots := #[.ref 5, .int 0, .int 0, .int 0], vm := .none },
  { cls := 9, slots := #[.ref 6, .int 0, .int 0, .int 0], vm := .none },
  { cls := 12, slots := #[.null, .int 0, .int 0, .ref 7, .int 0], vm := .none },
  { cls := 14, slots := #[.null, .int 1, .int 0, .ref 8, .int 0], vm := .none },
  { cls := 15, slots := #[.null, .int 2, .int 0, .ref 9, .int 1], vm := .none }]
def classes : Array Class := #[k0, k1, k2, k3, k4, k5, k6, k7, k8, k9, k10, k11, k12, k13, k14, k15, k16, k17, k18, k19, k20, k21, k22, k23, k24]
def interned : List (Array UInt16 × Addr) := []
def slotsUsed : Nat := 62
def theMethod : MethodId := ⟨1, 1⟩
def args0 : Array Value := #[.int 5]
def aboutOver (below : List Frame) : State where
  vm := { classes := classes, interned := interned.toArray }
  heap := heap
  slotsUsed := slotsUsed
  threads := #[{ frames := .invoking theMethod args0 :: below }]
def below0 : List Frame := [.native { method := ⟨0, 0⟩, args := #[] }]
def about1 : State := aboutOver below0
def p0 : Program := .bare "" "" ""
def e0 : Env := launch0.env 0 0 0
theorem w_frames : about1.frames = Frame.invoking theMethod args0 :: below0 := rfl
set_option maxRecDepth 65536 in
theorem w_args : argsFit about1.vm theMethod args0 = true := by decide +kernel
set_option maxRecDepth 65536 in
theorem w_heap : heapFits about1 = true := by decide +kernel
set_option maxRecDepth 65536 in
theorem w_runnable : about1.curStatus? = some .runnable := by decide +kernel
set_option maxRecDepth 65536 in
theorem w_alone : about1.alone = true := by decide +kernel
set_option maxRecDepth 65536 in
theorem w_named : about1.methodNamed? x = some theMethod := by decide +kernel
set_option maxRecDepth 65536 in
theorem w_hears : about1.hears theMethod below0 = true := by decide +kernel
set_option maxRecDepth 65536 in
theorem w_ripe : about1.ripe theMethod args0 below0 = true := by decide +kernel
theorem w_running : about1.status = .running := rfl
set_option maxRecDepth 65536 in
theorem w_room : about1.hasRoom e0.platform room_1 = true :=
  launch0.hasRoom_least _ room_1 (by decide +kernel) (by decide +kernel) (by decide +kernel) (by decide +kernel) (by decide +kernel) (by decide +kernel)
theorem allAtoms_all (ts : List Jvm.Cond) (a : Array Jvm.Value) (st : Jvm.State) : (allAtoms ts).before a st = ts.all (fun c => c.before a st) := by
  induction ts with
  | nil => rfl
  | cons c t ih =>
    show (Jvm.Cond.and c (allAtoms t)).before a st = _
    rw [Jvm.Cond.before_and, ih, List.all_cons]
def words1 : List Jvm.Cond := Jvm.Cond.code x code maxLocals ret :: tables_1
/-- a 'code' word, met by the world's own term for the bytes: nothing is compared byte by byte -/
theorem code_word {y : MethodName} {bytes : ByteArray} {mx : Nat} {rt : Option FieldType} {a : Array Value} {s : State} {m : MethodId} {meth : Method} {c : Code} (h1 : s.methodNamed? y = some m) (h2 : s.vm.method? m = some meth) (h3 : meth.code = some c) (h4 : c.code = bytes)
    (h5 : (c.maxLocals == mx && c.exceptionTable.isEmpty && decide (c.maxStack ≤ mostOperands) && decide (meth.sig.returnType = rt) && !meth.locks && decide (parseMethodDescriptor y.desc = some meth.sig)) = true) : (Jvm.Cond.code y bytes mx rt).before a s = true := by
  simp only [Bool.and_eq_true, beq_iff_eq, Bool.not_eq_true', decide_eq_true_eq] at h5
  obtain ⟨⟨⟨⟨⟨g1, g2⟩, g3⟩, g4⟩, g5⟩, g6⟩ := h5
  simp [Cond.before, Cond.holds, Cond.value, h1, h2, h3, h4, g1, g2, g3, g4, g5, g6]
def isCode : Jvm.Cond → Bool
  | .code _ _ _ _ => true
  | _ => false
theorem all_split {L : List Jvm.Cond} {P : Jvm.Cond → Bool} (h1 : L.all (fun c => isCode c || P c) = true) (h2 : ∀ c ∈ L.filter isCode, P c = true) : L.all P = true := by
  refine List.all_eq_true.mpr fun c hc => ?_
  have h := List.all_eq_true.mp h1 c hc
  rcases Bool.eq_false_or_eq_true (isCode c) with hi | hi
  · exact h2 c (List.mem_filter.mpr ⟨hc, hi⟩)
  · simpa [hi] using h
set_option maxRecDepth 65536 in
theorem w_c0 : (Jvm.Cond.code x code maxLocals ret).before args0 about1 = true := code_word (m := ⟨1, 1⟩) (meth := k1m1) (c := k1c1) (by decide +kernel) rfl rfl rfl (by decide +kernel)
set_option maxRecDepth 65536 in
theorem w_c1 : (Jvm.Cond.code ({ cls := "java/lang/String", name := "<init>", desc := "([C)V" } : Jvm.MethodName) jdk_42_method_3_code (2 : Nat) (Option.none : Option Jvm.ClassFile.FieldType)).before args0 about1 = true := code_word (m := ⟨9, 1⟩) (meth := k9m1) (c := k9c1) (by decide +kernel) rfl rfl rfl (by decide +kernel)
set_option maxRecDepth 65536 in
theorem w_c2 : (Jvm.Cond.code ({ cls := "java/lang/String", name := "<init>", desc := "([CIILjava/lang/Void;)V" } : Jvm.MethodName) jdk_42_method_149_code (6 : Nat) (Option.none : Option Jvm.ClassFile.FieldType)).before args0 about1 = true := code_word (m := ⟨9, 3⟩) (meth := k9m3) (c := k9c3) (by decide +kernel) rfl rfl rfl (by decide +kernel)
set_option maxRecDepth 65536 in
theorem w_c3 : (Jvm.Cond.code ({ cls := "java/lang/Object", name := "<init>", desc := "()V" } : Jvm.MethodName) object_method_1_code (1 : Nat) (Option.none : Option Jvm.ClassFile.FieldType)).before args0 about1 = true := code_word (m := ⟨0, 0⟩) (meth := k0m0) (c := k0c0) (by decide +kernel) rfl rfl rfl (by decide +kernel)
set_option maxRecDepth 65536 in
theorem w_c4 : (Jvm.Cond.code ({ cls := "java/lang/StringUTF16", name := "compress", desc := "([CII)[B" } : Jvm.MethodName) jdk_52_method_16_code (6 : Nat) (Option.some (Jvm.ClassFile.FieldType.array Jvm.ClassFile.FieldType.byte))).before args0 about1 = true := code_word (m := ⟨10, 2⟩) (meth := k10m2) (c := k10c2) (by decide +kernel) rfl rfl rfl (by decide +kernel)
set_option maxRecDepth 65536 in
theorem w_c5 : (Jvm.Cond.code ({ cls := "java/lang/StringUTF16", name := "compress", desc := "([CI[BII)I" } : Jvm.MethodName) jdk_52_method_21_code (7 : Nat) (Option.some Jvm.ClassFile.FieldType.int)).before args0 about1 = true := code_word (m := ⟨10, 3⟩) (meth := k10m3) (c := k10c3) (by decide +kernel) rfl rfl rfl (by decide +kernel)
set_option maxRecDepth 65536 in
theorem w_c6 : (Jvm.Cond.code ({ cls := "java/lang/StringUTF16", name := "coderFromArrayLen", desc := "([BI)B" } : Jvm.MethodName) jdk_52_method_15_code (2 : Nat) (Option.some Jvm.ClassFile.FieldType.byte)).before args0 about1 = true := code_word (m := ⟨10, 1⟩) (meth := k10m1) (c := k10c1) (by decide +kernel) rfl rfl rfl (by decide +kernel)
set_option maxRecDepth 65536 in
theorem w_c7 : (Jvm.Cond.code ({ cls := "sluicegate/cli/QueueKind", name := "named", desc := "(Ljava/lang/String;)Lsluicegate/cli/QueueKind;" } : Jvm.MethodName) prog_18_method_6_code (5 : Nat) (Option.some (Jvm.ClassFile.FieldType.object "sluicegate/cli/QueueKind"))).before args0 about1 = true := code_word (m := ⟨6, 1⟩) (meth := k6m1) (c := k6c1) (by decide +kernel) rfl rfl rfl (by decide +kernel)
set_option maxRecDepth 65536 in
theorem w_c8 : (Jvm.Cond.code ({ cls := "sluicegate/cli/QueueKind", name := "values", desc := "()[Lsluicegate/cli/QueueKind;" } : Jvm.MethodName) prog_18_method_1_code (0 : Nat) (Option.some (Jvm.ClassFile.FieldType.array (Jvm.ClassFile.FieldType.object "sluicegate/cli/QueueKind")))).before args0 about1 = true := code_word (m := ⟨6, 0⟩) (meth := k6m0) (c := k6c0) (by decide +kernel) rfl rfl rfl (by decide +kernel)
set_option maxRecDepth 65536 in
theorem w_c9 : (Jvm.Cond.code ({ cls := "java/lang/String", name := "equals", desc := "(Ljava/lang/Object;)Z" } : Jvm.MethodName) jdk_42_method_66_code (3 : Nat) (Option.some Jvm.ClassFile.FieldType.boolean)).before args0 about1 = true := code_word (m := ⟨9, 2⟩) (meth := k9m2) (c := k9c2) (by decide +kernel) rfl rfl rfl (by decide +kernel)
set_option maxRecDepth 65536 in
theorem w_c10 : (Jvm.Cond.code ({ cls := "java/lang/StringLatin1", name := "equals", desc := "([B[B)Z" } : Jvm.MethodName) jdk_43_method_13_code (3 : Nat) (Option.some Jvm.ClassFile.FieldType.boolean)).before args0 about1 = true := code_word (m := ⟨13, 1⟩) (meth := k13m1) (c := k13c1) (by decide +kernel) rfl rfl rfl (by decide +kernel)
set_option maxRecDepth 65536 in
theorem w_c11 : (Jvm.Cond.code ({ cls := "sluicegate/cli/QueueKind", name := "toString", desc := "()Ljava/lang/String;" } : Jvm.MethodName) prog_18_method_10_code (1 : Nat) (Option.some (Jvm.ClassFile.FieldType.object "java/lang/String"))).before args0 about1 = true := code_word (m := ⟨6, 2⟩) (meth := k6m2) (c := k6c2) (by decide +kernel) rfl rfl rfl (by decide +kernel)
def codes1 : List Jvm.Cond := [Jvm.Cond.code x code maxLocals ret, Jvm.Cond.code ({ cls := "java/lang/String", name := "<init>", desc := "([C)V" } : Jvm.MethodName) jdk_42_method_3_code (2 : Nat) (Option.none : Option Jvm.ClassFile.FieldType), Jvm.Cond.code ({ cls := "java/lang/String", name := "<init>", desc := "([CIILjava/lang/Void;)V" } : Jvm.MethodName) jdk_42_method_149_code (6 : Nat) (Option.none : Option Jvm.ClassFile.FieldType), Jvm.Cond.code ({ cls := "java/lang/Object", name := "<init>", desc := "()V" } : Jvm.MethodName) object_method_1_code (1 : Nat) (Option.none : Option Jvm.ClassFile.FieldType), Jvm.Cond.code ({ cls := "java/lang/StringUTF16", name := "compress", desc := "([CII)[B" } : Jvm.MethodName) jdk_52_method_16_code (6 : Nat) (Option.some (Jvm.ClassFile.FieldType.array Jvm.ClassFile.FieldType.byte)), Jvm.Cond.code ({ cls := "java/lang/StringUTF16", name := "compress", desc := "([CI[BII)I" } : Jvm.MethodName) jdk_52_method_21_code (7 : Nat) (Option.some Jvm.ClassFile.FieldType.int), Jvm.Cond.code ({ cls := "java/lang/StringUTF16", name := "coderFromArrayLen", desc := "([BI)B" } : Jvm.MethodName) jdk_52_method_15_code (2 : Nat) (Option.some Jvm.ClassFile.FieldType.byte), Jvm.Cond.code ({ cls := "sluicegate/cli/QueueKind", name := "named", desc := "(Ljava/lang/String;)Lsluicegate/cli/QueueKind;" } : Jvm.MethodName) prog_18_method_6_code (5 : Nat) (Option.some (Jvm.ClassFile.FieldType.object "sluicegate/cli/QueueKind")), Jvm.Cond.code ({ cls := "sluicegate/cli/QueueKind", name := "values", desc := "()[Lsluicegate/cli/QueueKind;" } : Jvm.MethodName) prog_18_method_1_code (0 : Nat) (Option.some (Jvm.ClassFile.FieldType.array (Jvm.ClassFile.FieldType.object "sluicegate/cli/QueueKind"))), Jvm.Cond.code ({ cls := "java/lang/String", name := "equals", desc := "(Ljava/lang/Object;)Z" } : Jvm.MethodName) jdk_42_method_66_code (3 : Nat) (Option.some Jvm.ClassFile.FieldType.boolean), Jvm.Cond.code ({ cls := "java/lang/StringLatin1", name := "equals", desc := "([B[B)Z" } : Jvm.MethodName) jdk_43_method_13_code (3 : Nat) (Option.some Jvm.ClassFile.FieldType.boolean), Jvm.Cond.code ({ cls := "sluicegate/cli/QueueKind", name := "toString", desc := "()Ljava/lang/String;" } : Jvm.MethodName) prog_18_method_10_code (1 : Nat) (Option.some (Jvm.ClassFile.FieldType.object "java/lang/String"))]
set_option maxRecDepth 65536 in
theorem codes_eq : words1.filter isCode = codes1 := rfl
theorem w_codes : ∀ c ∈ words1.filter isCode, c.before args0 about1 = true := by
  rw [codes_eq]
  intro c hc
  simp only [codes1, List.mem_cons, List.not_mem_nil, or_false] at hc
  rcases hc with rfl | rfl | rfl | rfl | rfl | rfl | rfl | rfl | rfl | rfl | rfl | rfl
  · exact w_c0
  · exact w_c1
  · exact w_c2
  · exact w_c3
  · exact w_c4
  · exact w_c5
  · exact w_c6
  · exact w_c7
  · exact w_c8
  · exact w_c9
  · exact w_c10
  · exact w_c11
set_option maxRecDepth 65536 in
theorem w_t1 : (words1.take 24).all (fun c => isCode c || c.before args0 about1) = true := by decide +kernel
set_option maxRecDepth 65536 in
theorem w_t2 : ((words1.drop 24).take 24).all (fun c => isCode c || c.before args0 about1) = true := by decide +kernel
set_option maxRecDepth 65536 in
theorem w_t3 : (((words1.drop 24).drop 24).take 24).all (fun c => isCode c || c.before args0 about1) = true := by decide +kernel
set_option maxRecDepth 65536 in
theorem w_t4 : (((words1.drop 24).drop 24).drop 24).all (fun c => isCode c || c.before args0 about1) = true := by decide +kernel
theorem w_tables : (allAtoms (Jvm.Cond.code x code maxLocals ret :: tables_1)).before args0 about1 = true := by
  rw [allAtoms_all]
  show words1.all (fun c => c.before args0 about1) = true
  refine all_split ?_ w_codes
  rw [← List.take_append_drop 24 words1, List.all_append, w_t1, ← List.take_append_drop 24 (words1.drop 24), List.all_append, w_t2, ← List.take_append_drop 24 ((words1.drop 24).drop 24), List.all_append, w_t3, w_t4]
  rfl
set_option maxRecDepth 65536 in
theorem w_rest : rest_1_c.before args0 about1 = true := by decide +kernel
set_option maxRecDepth 65536 in
theorem w_case : (Jvm.Cond.and given_1 narrow_1).before args0 about1 = true := by decide +kernel
theorem w_applies : (headSpec (Jvm.Cond.code x code maxLocals ret :: tables_1) room_1).applies x e0.platform about1 = true :=
  (Spec.applies_iff w_frames).mpr ⟨w_running, w_runnable, w_alone, w_named, w_hears, w_ripe, w_room, w_tables⟩
theorem atStart : AtStart classFile x code maxLocals ret World_1 tables_1 room_1 Calls_1 rest_1 Pre_1 launch0 p0 e0 about1 theMethod args0 below0 :=
  ⟨lists_1, trivial, launch0.admits_env _ _ _, launch0.least_env, fairChoices_fair.cas, fairChoices_fair.clock, w_frames, w_args, w_heap, w_applies, trivial, w_rest, w_case⟩
end start1
theorem witness_1 : WitnessClaimed_1 := ⟨start1.p0, start1.e0, start1.about1, start1.theMethod, start1.args0, start1.below0, start1.atStart⟩
end Jvm.Pilot.@@N@@
