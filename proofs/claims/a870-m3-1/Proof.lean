import JvmDerived
import JvmDerived.Pilot.@@N@@Statement
import JvmDerived.Pilot.@@N@@Code
set_option linter.unusedVariables false
set_option linter.unusedSimpArgs false
namespace Jvm.Pilot.@@N@@
open Jvm Jvm.ClassFile Sem Op Lib Jvm.Free Jvm.Stand Jvm.LawKit Jvm.RoadKit Bundle Jvm.Pilot.@@N@@.Jvm.D
/-- from S the method comes to its end, and what it leaves answers Q -/
def Rest (tb : Tables) (e : Env) (below : List Frame) (s : State) (Q : Option Value → Heap → List Loc → Prop) (k n : Nat) (S : State) : Prop :=
  ∃ t o, Steps tb e below S t ∧ t.status = .running ∧ Ended t below o ∧ ∃ v L, o = .returned v ∧ Q v t.heap L ∧ FrameEnd s o t L k n
theorem Rest.via {tb : Tables} {e : Env} {below : List Frame} {s : State} {Q : Option Value → Heap → List Loc → Prop} {k n : Nat} {S S' : State} (h : ∀ t, Steps tb e below S' t → Steps tb e below S t) (r : Rest tb e below s Q k n S') : Rest tb e below s Q k n S := by
  obtain ⟨t, o, h1, h2⟩ := r; exact ⟨t, o, h t h1, h2⟩
theorem Rest.ret {p : Program} {l : Launch} {e : Env} {R : Room} {s : State} {m : MethodId} {args : Array Value} {below : List Frame} {meth : Method} {c : Code} {T : State} {locs : List Loc} {cells slots : Nat} {Q : Option Value → Heap → List Loc → Prop} {k n : Nat} {S : State} {v : Option Value}
    (X : Stand p l e R s m args below meth c T locs cells slots) (hv : meth.sig.returnType = none → v = none) (hlocks : meth.locks = false)
    (st : ∀ fs, (∀ (f : JFrame) (acts : List Action), f.method = m → f.locked = none → f.entered = [] → (doReturn e (T.setTop f) acts v).1 = T.setFrames fs) → Steps p.tables e below S (T.setFrames fs))
    (hq : Q v T.heap locs) (hk : cells ≤ k) (hn : slots ≤ n) : Rest p.tables e below s Q k n S := by
  obtain ⟨fs, hr, hrun, hended, hW, hsame⟩ := X.leave (v := v) hv hlocks
  exact ⟨_, _, st fs hr, hrun, hended, _, _, rfl, hq, ⟨_, rfl⟩, hW, hsame.mono hk hn⟩
/-- the same, of a walk that may load String constants: the intern table may have grown -/
def RestW (tb : Tables) (e : Env) (below : List Frame) (s : State) (Q : Option Value → Heap → List Loc → Vm → Prop) (k n : Nat) (S : State) : Prop :=
  ∃ t o, Steps tb e below S t ∧ t.status = .running ∧ Ended t below o ∧ ∃ v L, o = .returned v ∧ Q v t.heap L t.vm ∧ ReturnedEndW s o t L k n
theorem RestW.via {tb : Tables} {e : Env} {below : List Frame} {s : State} {Q : Option Value → Heap → List Loc → Vm → Prop} {k n : Nat} {S S' : State} (h : ∀ t, Steps tb e below S' t → Steps tb e below S t) (r : RestW tb e below s Q k n S') : RestW tb e below s Q k n S := by
  obtain ⟨t, o, h1, h2⟩ := r; exact ⟨t, o, h t h1, h2⟩
theorem RestW.ret {p : Program} {l : Launch} {e : Env} {R : Room} {s : State} {vm0 : Vm} {k0 : Nat} {m : MethodId} {args : Array Value} {below : List Frame} {meth : Method} {c : Code} {T : State} {locs : List Loc} {cells slots : Nat} {Q : Option Value → Heap → List Loc → Vm → Prop} {k n : Nat} {S : State} {v : Option Value}
    (X : Stand p l e R (s.setVm vm0) m args below meth c T locs cells slots) (hS : s.Since vm0 k0) (hk0 : k0 ≤ T.heap.size) (hv : meth.sig.returnType = none → v = none) (hlocks : meth.locks = false)
    (st : ∀ fs, (∀ (f : JFrame) (acts : List Action), f.method = m → f.locked = none → f.entered = [] → (doReturn e (T.setTop f) acts v).1 = T.setFrames fs) → Steps p.tables e below S (T.setFrames fs))
    (hq : Q v T.heap locs T.vm) (hk : cells ≤ k) (hn : slots ≤ n) : RestW p.tables e below s Q k n S := by
  obtain ⟨fs, hr, hrun, hended, hW, hsame⟩ := X.leave (v := v) hv hlocks
  obtain ⟨g1, g2, g3⟩ := hS.ended (U := T.setFrames fs) hW hk0 hsame
  exact ⟨_, _, st fs hr, hrun, hended, _, _, rfl, hq, ⟨_, rfl⟩, g1, g2, g3.mono hk hn⟩
theorem own_IB_warm {Z s : State} {vm0 vm' : Vm} {Ts : List String} (I : IB Z vm0 Ts) (W : (s.setVm vm0).WarmedH vm') : IB Z vm' Ts := by
  obtain ⟨more, e, hm⟩ := I
  exact ⟨more, W.interned_eq.trans e, hm⟩
theorem own_Lit_warm {Z s : State} {vm0 vm' : Vm} {own : String} {i : Nat} {a : Addr} (L : Lit (Z.setVm vm0) own i a) (W : (s.setVm vm0).Warmed39 vm') : Lit (Z.setVm vm') own i a := State.resolvedAt?_warmed39 (s := s.setVm vm0) W L
theorem own_backV {p : Program} {l : Launch} {e : Env} {R : Room} {s : State} {args : Array Value} {below : List Frame} {Z : State} {a0 : Array Value} {h : Heap} {y : MethodName} {bytes : ByteArray} {maxL : Nat} {ret : Option FieldType} {rm : Room} {len W : Nat} {as' : Array Value} {VP : Vm → Prop} {Q : Option Value → Heap → List Loc → Vm → Prop}
    (hM : MetFree l y (head1 [Cond.code y bytes maxL ret] rm) (fun a U => a = as' ∧ Z.Warmed39 U.vm ∧ U.heap = h ∧ VP U.vm) (fun _ _ _ _ _ => True) (fun _ U o U' => ∃ v L, o = .returned v ∧ Q v U'.heap L U'.vm ∧ ReturnedEndW U o U' L rm.cells rm.slots))
    (hZ : Z.Warmed39 s.vm) (wc : (Cond.code y bytes maxL ret).before a0 Z = true) (wz : (Cond.initialized y.cls).before a0 Z = true) (hf : rm.frames + 1 ≤ R.frames) (hl : W + (maxL + 11) + rm.locals ≤ R.locals) (hV : ∀ vm', s.WarmedH vm' → VP vm') :
    BackS l R p e below s args y len W (fun A a => a = as' ∧ A.U.heap = h ∧ A.cells + rm.cells ≤ R.cells ∧ A.slots + rm.slots ≤ R.slots)
      (fun A _ v B => ∃ L, Q v B.U.heap L B.U.vm ∧ B.locs = A.locs ++ L ∧ B.cells = A.cells + rm.cells ∧ B.slots = A.slots + rm.slots) := by
  refine BackS.of_freeW (bytes := bytes) (maxL := maxL) (ret := ret) (E := fun _ _ o t L k n => k = rm.cells ∧ n = rm.slots ∧ ∃ v, o = .returned v ∧ Q v t.heap L t.vm) hM hf hl ?_ ?_ (fun _ _ _ _ _ _ _ _ _ => trivial) ?_ ?_
  · intro m meth c A a Y hp
    have hU : Z.Warmed39 A.U.vm := wtrans hZ Y.warmed
    refine ⟨?_, mv hU wc, mv hU wz, hp.2.2.1, hp.2.2.2⟩
    show (Cond.and _ .tt).before a A.U = true
    rw [Cond.before_and, mv hU wc]; rfl
  · intro m meth c A a g mk Y hp
    exact ⟨hp.1, wtrans hZ Y.warmed, hp.2.1, hV _ Y.warmed⟩
  · rintro _ _ _ _ ⟨v, L, h1, h2, h3⟩
    exact ⟨L, _, _, h3, rfl, rfl, v, h1, h2⟩
  · intro m meth c A a g mk v t L k n Y hp _ _ hE
    obtain ⟨e1, e2, v', e3, e4⟩ := hE
    cases e3
    subst e1 e2
    exact ⟨L, e4, rfl, rfl, rfl⟩

def own_by (c : Int32) : Int32 := c.toInt8.toInt32
theorem own_by_nar (c : Int32) : (c.toInt8.toInt32).toInt8.toInt32 = own_by c := by
  show (c.toInt8.toInt32).toInt8.toInt32 = c.toInt8.toInt32
  simp
def own_CS (Z : State) (ic : Int32) : Prop := Sta Z Z.heap "java/lang/String" "COMPACT_STRINGS" "Z" (.int ic) ∧ ¬ (ic = (0 : Int32))
def own_St (Z : State) (h : Heap) (t va : Addr) (k : ClassId) (n : Int32) (vs : List Value) : Prop := Exa Z h t "java/lang/String" ∧ Fld Z h t "java/lang/String" "value" "[B" (.ref va) ∧ Fld Z h t "java/lang/String" "coder" "B" (.int (0 : Int32)) ∧ Arv Z h va k .byte n vs (.int (0 : Int32))
theorem own_St_ext {Z : State} {h h' : Heap} {t va : Addr} {k : ClassId} {n : Int32} {vs : List Value} (E : Ext h h') (F : own_St Z h t va k n vs) : own_St Z h' t va k n vs := by
  obtain ⟨a, b, c, d⟩ := F
  exact ⟨a.ext E, b.ext E, c.ext E, d.ext E⟩
theorem own_St_keep {Z : State} {h h' : Heap} {t va : Addr} {k : ClassId} {n : Int32} {vs : List Value} {ws : List Addr} (F : own_St Z h t va k n vs) (K : Keep h h' ws) (q1 : t ∉ ws) (q2 : va ∉ ws) : own_St Z h' t va k n vs := by
  obtain ⟨a, b, c, d⟩ := F
  exact ⟨a.keep K, b.keep K q1, c.keep K q1, d.keep K q2⟩
theorem own_ite1 {P : Prop} [Decidable P] (h : ¬ (if P then (1 : Int32) else 0) = (0 : Int32)) : (if P then (1 : Int32) else 0) = (1 : Int32) := by
  by_cases q : P
  · rw [if_pos q]
  · rw [if_neg q] at h; exact absurd rfl h
theorem d9_0 : decode jdk_52_method_21_code 0 = .ok (.iconst 0, 1) := by decide +kernel
theorem d9_1 : decode jdk_52_method_21_code 1 = .ok (.istore 5, 2) := by decide +kernel
theorem d9_3 : decode jdk_52_method_21_code 3 = .ok (.iload 5, 2) := by decide +kernel
theorem d9_5 : decode jdk_52_method_21_code 5 = .ok (.iload 4, 2) := by decide +kernel
theorem d9_7 : decode jdk_52_method_21_code 7 = .ok (.if_icmp .ge 37, 3) := by decide +kernel
theorem d9_10 : decode jdk_52_method_21_code 10 = .ok (.aload_n 0, 1) := by decide +kernel
theorem d9_11 : decode jdk_52_method_21_code 11 = .ok (.iload_n 1, 1) := by decide +kernel
theorem d9_12 : decode jdk_52_method_21_code 12 = .ok (.caload, 1) := by decide +kernel
theorem d9_13 : decode jdk_52_method_21_code 13 = .ok (.istore 6, 2) := by decide +kernel
theorem d9_15 : decode jdk_52_method_21_code 15 = .ok (.iload 6, 2) := by decide +kernel
theorem d9_17 : decode jdk_52_method_21_code 17 = .ok (.sipush 255, 3) := by decide +kernel
theorem d9_20 : decode jdk_52_method_21_code 20 = .ok (.if_icmp .le 6, 3) := by decide +kernel
theorem d9_26 : decode jdk_52_method_21_code 26 = .ok (.aload_n 2, 1) := by decide +kernel
theorem d9_27 : decode jdk_52_method_21_code 27 = .ok (.iload_n 3, 1) := by decide +kernel
theorem d9_28 : decode jdk_52_method_21_code 28 = .ok (.iload 6, 2) := by decide +kernel
theorem d9_30 : decode jdk_52_method_21_code 30 = .ok (.i2b, 1) := by decide +kernel
theorem d9_31 : decode jdk_52_method_21_code 31 = .ok (.bastore, 1) := by decide +kernel
theorem d9_32 : decode jdk_52_method_21_code 32 = .ok (.iinc 1 1, 3) := by decide +kernel
theorem d9_35 : decode jdk_52_method_21_code 35 = .ok (.iinc 3 1, 3) := by decide +kernel
theorem d9_38 : decode jdk_52_method_21_code 38 = .ok (.iinc 5 1, 3) := by decide +kernel
theorem d9_41 : decode jdk_52_method_21_code 41 = .ok (.goto (-38), 3) := by decide +kernel
theorem d9_44 : decode jdk_52_method_21_code 44 = .ok (.iload 4, 2) := by decide +kernel
theorem d9_46 : decode jdk_52_method_21_code 46 = .ok (.ireturn, 1) := by decide +kernel
theorem pn_0 : plainName "java/lang/StringUTF16" = true := by first | (simp [plainName, overriddenIn]; done) | decide +kernel
theorem ef_U1 (m : MethodId) (a0 : Addr) (a2 : Addr) : entryFrame m #[(.ref a0), (.int (0 : Int32)), (.ref a2), (.int (0 : Int32)), (.int (1 : Int32))] 7 = mkF m 0 #[.val (.ref a0), .val (.int (0 : Int32)), .val (.ref a2), .val (.int (0 : Int32)), .val (.int (1 : Int32)), .unset, .unset] [] := by first | (simp [entryFrame, mkF, argsToLocals, Value.category, maxLocals]; done) | rfl
def QU1 (Z : State) (a0 : Addr) (a2 : Addr) (kc : ClassId) (kb : ClassId) (ca : Int32) (h0 : Heap) (n0 : Nat) (v : Option Value) (h : Heap) (L : List Loc) : Prop := v = some (.int (1 : Int32)) ∧ Fr n0 L ∧ Keep h0 h [a2] ∧ Arv Z h a2 kb .byte (1 : Int32) [(.int (own_by ca))] (.int (0 : Int32))
set_option maxRecDepth 65536 in
set_option maxHeartbeats 40000000 in
theorem rmU1 (l : Launch) (Z : State) (aw : Array Value) (hw : ∀ d ∈ tables_1, d.before aw Z = true) (ws : List Jvm.Cond) (a0 : Addr) (a2 : Addr) (kc : ClassId) (kb : ClassId) (ca : Int32) (h0 : Heap) (n0 : Nat) (Z0 : n0 ≤ h0.size) (V0 : Arv Z h0 a0 kc .char (1 : Int32) [(.int ca)] (.int (0 : Int32))) (V2 : Arv Z h0 a2 kb .byte (1 : Int32) [(.int (0 : Int32))] (.int (0 : Int32))) (n02 : a0 ≠ a2) (g_a2 : n0 ≤ a2) (hca : ¬ ((255 : Int32) < ca)) :
    MetFree l (⟨"java/lang/StringUTF16", "compress", "([CI[BII)I"⟩ : MethodName) (head1 (Jvm.Cond.code (⟨"java/lang/StringUTF16", "compress", "([CI[BII)I"⟩ : MethodName) jdk_52_method_21_code 7 (some .int) :: ws) ({ frames := 0, cells := 0, slots := 0, locals := 0 } : Room)) (fun a U => a = #[(.ref a0), (.int (0 : Int32)), (.ref a2), (.int (0 : Int32)), (.int (1 : Int32))] ∧ Z.Warmed39 U.vm ∧ U.heap = h0) (fun _ _ _ _ _ => True) (fun _ U o U' => ∃ v L, o = .returned v ∧ QU1 Z a0 a2 kc kb ca h0 n0 v U'.heap L ∧ FrameEnd U o U' L ({ frames := 0, cells := 0, slots := 0, locals := 0 } : Room).cells ({ frames := 0, cells := 0, slots := 0, locals := 0 } : Room).slots) := by
  refine MetFree.of_bodySF (plainFor_of_name pn_0) hisR ?_
  intro p e s m args below meth c s₁ Bd hml0 hP hK
  obtain ⟨rfl, hZ, hh⟩ := hP
  have hx := Bd.exec
  have hby := Bd.bytes
  have hml : c.maxLocals = 7 := hml0
  have hown : s.vm.findClass "java/lang/StringUTF16" = some m.cls := findClass_of_methodNamed Bd.named
  have hnm := (name_of_methodNamed Bd.named Bd.method).1
  have hlk : meth.locks = false := BodyLoose.notSynchronized Bd
  have X0 : Stand p l e ({ frames := 0, cells := 0, slots := 0, locals := 0 } : Room) s m #[(.ref a0), (.int (0 : Int32)), (.ref a2), (.int (0 : Int32)), (.int (1 : Int32))] below meth c s₁ [] 0 0 := Stand.of_body Bd
  have _u := trivial
  have eh0 : s₁.heap = h0 := by rw [← hh, Bd.state]; rfl
  have N0 := Fr.nil n0
  show Rest p.tables e below s (QU1 Z a0 a2 kc kb ca h0 n0) _ _ (s₁.setTop (entryFrame m #[(.ref a0), (.int (0 : Int32)), (.ref a2), (.int (0 : Int32)), (.int (1 : Int32))] 7))
  refine Rest.via (fun t k => castTop (ef_U1 m a0 a2) k) ?_
  show Rest p.tables e below s _ _ _ (s₁.setTop (mkF m 0 #[.val (.ref a0), .val (.int (0 : Int32)), .val (.ref a2), .val (.int (0 : Int32)), .val (.int (1 : Int32)), .unset, .unset] []))
  refine Rest.via (fun t k => XS.iconst X0.here hx rfl (hb hby d9_0) k) ?_
  show Rest p.tables e below s _ _ _ (s₁.setTop (mkF m 1 #[.val (.ref a0), .val (.int (0 : Int32)), .val (.ref a2), .val (.int (0 : Int32)), .val (.int (1 : Int32)), .unset, .unset] [(.int (0 : Int32))]))
  refine Rest.via (fun t k => XS.istore X0.here hx rfl (hb hby d9_1) rfl (l' := #[.val (.ref a0), .val (.int (0 : Int32)), .val (.ref a2), .val (.int (0 : Int32)), .val (.int (1 : Int32)), .val (.int (0 : Int32)), .unset]) rfl k) ?_
  show Rest p.tables e below s _ _ _ (s₁.setTop (mkF m 3 #[.val (.ref a0), .val (.int (0 : Int32)), .val (.ref a2), .val (.int (0 : Int32)), .val (.int (1 : Int32)), .val (.int (0 : Int32)), .unset] []))
  refine Rest.via (fun t k => XS.iload X0.here hx rfl (hb hby d9_3) rfl k) ?_
  show Rest p.tables e below s _ _ _ (s₁.setTop (mkF m 5 #[.val (.ref a0), .val (.int (0 : Int32)), .val (.ref a2), .val (.int (0 : Int32)), .val (.int (1 : Int32)), .val (.int (0 : Int32)), .unset] [(.int (0 : Int32))]))
  refine Rest.via (fun t k => XS.iload X0.here hx rfl (hb hby d9_5) rfl k) ?_
  show Rest p.tables e below s _ _ _ (s₁.setTop (mkF m 7 #[.val (.ref a0), .val (.int (0 : Int32)), .val (.ref a2), .val (.int (0 : Int32)), .val (.int (1 : Int32)), .val (.int (0 : Int32)), .unset] [(.int (1 : Int32)), (.int (0 : Int32))]))
  refine Rest.via (fun t k => XS.icmpNo X0.here hx rfl (hb hby d9_7) rfl (tlt (by decide : (0 : Int32) < (1 : Int32))).2.1 k) ?_
  show Rest p.tables e below s _ _ _ (s₁.setTop (mkF m 10 #[.val (.ref a0), .val (.int (0 : Int32)), .val (.ref a2), .val (.int (0 : Int32)), .val (.int (1 : Int32)), .val (.int (0 : Int32)), .unset] []))
  refine Rest.via (fun t k => XS.aloadN X0.here hx rfl (hb hby d9_10) rfl rfl k) ?_
  show Rest p.tables e below s _ _ _ (s₁.setTop (mkF m 11 #[.val (.ref a0), .val (.int (0 : Int32)), .val (.ref a2), .val (.int (0 : Int32)), .val (.int (1 : Int32)), .val (.int (0 : Int32)), .unset] [(.ref a0)]))
  refine Rest.via (fun t k => XS.iloadN X0.here hx rfl (hb hby d9_11) rfl k) ?_
  show Rest p.tables e below s _ _ _ (s₁.setTop (mkF m 12 #[.val (.ref a0), .val (.int (0 : Int32)), .val (.ref a2), .val (.int (0 : Int32)), .val (.int (1 : Int32)), .val (.int (0 : Int32)), .unset] [(.int (0 : Int32)), (.ref a0)]))
  obtain ⟨cl1, Ar1, qa1, Sa1, Pa1, Ha1, Ga1⟩ := id V0
  have hin1 := inb_of (j := (0 : Int32)) Sa1 ⟨by decide, by decide⟩
  have hat1 : cl1.slots[((0 : Int32)).toNatClampNeg]? = some (.int ca) := Has.at Ha1 hin1 rfl
  refine Rest.via (fun t k => X0.caload hx (j := (0 : Int32)) (v := (.int ca)) (by rw [eh0]; exact Ar1.1) (State.isArrayOf_alike hZ.alike Ar1.2.1) Ar1.2.2 hin1 hat1 (g := (mkF m 12 #[.val (.ref a0), .val (.int (0 : Int32)), .val (.ref a2), .val (.int (0 : Int32)), .val (.int (1 : Int32)), .val (.int (0 : Int32)), .unset] [(.int (0 : Int32)), (.ref a0)])) rfl rfl (hb hby d9_12) t k) ?_
  show Rest p.tables e below s _ _ _ (s₁.setTop (mkF m 13 #[.val (.ref a0), .val (.int (0 : Int32)), .val (.ref a2), .val (.int (0 : Int32)), .val (.int (1 : Int32)), .val (.int (0 : Int32)), .unset] [(.int ca)]))
  refine Rest.via (fun t k => XS.istore X0.here hx rfl (hb hby d9_13) rfl (l' := #[.val (.ref a0), .val (.int (0 : Int32)), .val (.ref a2), .val (.int (0 : Int32)), .val (.int (1 : Int32)), .val (.int (0 : Int32)), .val (.int ca)]) rfl k) ?_
  show Rest p.tables e below s _ _ _ (s₁.setTop (mkF m 15 #[.val (.ref a0), .val (.int (0 : Int32)), .val (.ref a2), .val (.int (0 : Int32)), .val (.int (1 : Int32)), .val (.int (0 : Int32)), .val (.int ca)] []))
  refine Rest.via (fun t k => XS.iload X0.here hx rfl (hb hby d9_15) rfl k) ?_
  show Rest p.tables e below s _ _ _ (s₁.setTop (mkF m 17 #[.val (.ref a0), .val (.int (0 : Int32)), .val (.ref a2), .val (.int (0 : Int32)), .val (.int (1 : Int32)), .val (.int (0 : Int32)), .val (.int ca)] [(.int ca)]))
  refine Rest.via (fun t k => XS.sipush X0.here hx rfl (hb hby d9_17) k) ?_
  show Rest p.tables e below s _ _ _ (s₁.setTop (mkF m 20 #[.val (.ref a0), .val (.int (0 : Int32)), .val (.ref a2), .val (.int (0 : Int32)), .val (.int (1 : Int32)), .val (.int (0 : Int32)), .val (.int ca)] [(.int (255 : Int32)), (.int ca)]))
  refine Rest.via (fun t k => XS.icmpYes X0.here hx rfl (pc0 := 20) (pc' := 26) rfl (hb hby d9_20) rfl (flt (hca : ¬ ((255 : Int32) < ca))).2.2.2 (by decide) (by decide) k) ?_
  show Rest p.tables e below s _ _ _ (s₁.setTop (mkF m 26 #[.val (.ref a0), .val (.int (0 : Int32)), .val (.ref a2), .val (.int (0 : Int32)), .val (.int (1 : Int32)), .val (.int (0 : Int32)), .val (.int ca)] []))
  refine Rest.via (fun t k => XS.aloadN X0.here hx rfl (hb hby d9_26) rfl rfl k) ?_
  show Rest p.tables e below s _ _ _ (s₁.setTop (mkF m 27 #[.val (.ref a0), .val (.int (0 : Int32)), .val (.ref a2), .val (.int (0 : Int32)), .val (.int (1 : Int32)), .val (.int (0 : Int32)), .val (.int ca)] [(.ref a2)]))
  refine Rest.via (fun t k => XS.iloadN X0.here hx rfl (hb hby d9_27) rfl k) ?_
  show Rest p.tables e below s _ _ _ (s₁.setTop (mkF m 28 #[.val (.ref a0), .val (.int (0 : Int32)), .val (.ref a2), .val (.int (0 : Int32)), .val (.int (1 : Int32)), .val (.int (0 : Int32)), .val (.int ca)] [(.int (0 : Int32)), (.ref a2)]))
  refine Rest.via (fun t k => XS.iload X0.here hx rfl (hb hby d9_28) rfl k) ?_
  show Rest p.tables e below s _ _ _ (s₁.setTop (mkF m 30 #[.val (.ref a0), .val (.int (0 : Int32)), .val (.ref a2), .val (.int (0 : Int32)), .val (.int (1 : Int32)), .val (.int (0 : Int32)), .val (.int ca)] [(.int ca), (.int (0 : Int32)), (.ref a2)]))
  refine Rest.via (fun t k => XS.i2b X0.here hx rfl (hb hby d9_30) rfl k) ?_
  show Rest p.tables e below s _ _ _ (s₁.setTop (mkF m 31 #[.val (.ref a0), .val (.int (0 : Int32)), .val (.ref a2), .val (.int (0 : Int32)), .val (.int (1 : Int32)), .val (.int (0 : Int32)), .val (.int ca)] [(.int (ca.toInt8.toInt32)), (.int (0 : Int32)), (.ref a2)]))
  obtain ⟨cl2, Ar2, qa2, Sa2, Pa2, Ha2, Ga2⟩ := id V2
  have hin2 := inb_of (j := (0 : Int32)) Sa2 ⟨by decide, by decide⟩
  obtain ⟨T2, h2, X2, e2, W2, st2⟩ := stB X0 hx hZ eh0 Ar2 (j := (0 : Int32)) hin2 (g := (mkF m 31 #[.val (.ref a0), .val (.int (0 : Int32)), .val (.ref a2), .val (.int (0 : Int32)), .val (.int (1 : Int32)), .val (.int (0 : Int32)), .val (.int ca)] [(.int (ca.toInt8.toInt32)), (.int (0 : Int32)), (.ref a2)])) rfl rfl (hb hby d9_31)
  refine Rest.via (fun t k => st2 t k) ?_
  have N2 := Fr.snoc X2 N0 g_a2
  have K2 : Keep h0 h2 [a2] := (Keep.refl h0 [a2]).wr W2 (Or.inl (List.mem_of_getElem? (i := 0) rfl))
  have V2 : Arv Z h2 a2 kb .byte (1 : Int32) [(.int (own_by ca))] (.int (0 : Int32)) := by have q := Arv.set Ar2 qa2 Sa2 Pa2 Ha2 Ga2 (fits_nar_byte _) W2 0 rfl (Nat.le_of_ble_eq_true rfl); rw [own_by_nar] at q; exact q
  show Rest p.tables e below s _ _ _ (T2.setTop (mkF m 32 #[.val (.ref a0), .val (.int (0 : Int32)), .val (.ref a2), .val (.int (0 : Int32)), .val (.int (1 : Int32)), .val (.int (0 : Int32)), .val (.int ca)] []))
  refine Rest.via (fun t k => XS.iinc X2.here hx rfl (hb hby d9_32) rfl (l' := #[.val (.ref a0), .val (.int ((0 : Int32) + (1 : Int32))), .val (.ref a2), .val (.int (0 : Int32)), .val (.int (1 : Int32)), .val (.int (0 : Int32)), .val (.int ca)]) rfl k) ?_
  show Rest p.tables e below s _ _ _ (T2.setTop (mkF m 35 #[.val (.ref a0), .val (.int ((0 : Int32) + (1 : Int32))), .val (.ref a2), .val (.int (0 : Int32)), .val (.int (1 : Int32)), .val (.int (0 : Int32)), .val (.int ca)] []))
  rw [(by decide : ((0 : Int32) + (1 : Int32)) = (1 : Int32))]
  show Rest p.tables e below s _ _ _ (T2.setTop (mkF m 35 #[.val (.ref a0), .val (.int (1 : Int32)), .val (.ref a2), .val (.int (0 : Int32)), .val (.int (1 : Int32)), .val (.int (0 : Int32)), .val (.int ca)] []))
  refine Rest.via (fun t k => XS.iinc X2.here hx rfl (hb hby d9_35) rfl (l' := #[.val (.ref a0), .val (.int (1 : Int32)), .val (.ref a2), .val (.int ((0 : Int32) + (1 : Int32))), .val (.int (1 : Int32)), .val (.int (0 : Int32)), .val (.int ca)]) rfl k) ?_
  show Rest p.tables e below s _ _ _ (T2.setTop (mkF m 38 #[.val (.ref a0), .val (.int (1 : Int32)), .val (.ref a2), .val (.int ((0 : Int32) + (1 : Int32))), .val (.int (1 : Int32)), .val (.int (0 : Int32)), .val (.int ca)] []))
  rw [(by decide : ((0 : Int32) + (1 : Int32)) = (1 : Int32))]
  show Rest p.tables e below s _ _ _ (T2.setTop (mkF m 38 #[.val (.ref a0), .val (.int (1 : Int32)), .val (.ref a2), .val (.int (1 : Int32)), .val (.int (1 : Int32)), .val (.int (0 : Int32)), .val (.int ca)] []))
  refine Rest.via (fun t k => XS.iinc X2.here hx rfl (hb hby d9_38) rfl (l' := #[.val (.ref a0), .val (.int (1 : Int32)), .val (.ref a2), .val (.int (1 : Int32)), .val (.int (1 : Int32)), .val (.int ((0 : Int32) + (1 : Int32))), .val (.int ca)]) rfl k) ?_
  show Rest p.tables e below s _ _ _ (T2.setTop (mkF m 41 #[.val (.ref a0), .val (.int (1 : Int32)), .val (.ref a2), .val (.int (1 : Int32)), .val (.int (1 : Int32)), .val (.int ((0 : Int32) + (1 : Int32))), .val (.int ca)] []))
  rw [(by decide : ((0 : Int32) + (1 : Int32)) = (1 : Int32))]
  show Rest p.tables e below s _ _ _ (T2.setTop (mkF m 41 #[.val (.ref a0), .val (.int (1 : Int32)), .val (.ref a2), .val (.int (1 : Int32)), .val (.int (1 : Int32)), .val (.int (1 : Int32)), .val (.int ca)] []))
  refine Rest.via (fun t k => XS.goto X2.here hx rfl (pc0 := 41) (pc' := 3) rfl (hb hby d9_41) (by decide) (by decide) k) ?_
  show Rest p.tables e below s _ _ _ (T2.setTop (mkF m 3 #[.val (.ref a0), .val (.int (1 : Int32)), .val (.ref a2), .val (.int (1 : Int32)), .val (.int (1 : Int32)), .val (.int (1 : Int32)), .val (.int ca)] []))
  refine Rest.via (fun t k => XS.iload X2.here hx rfl (hb hby d9_3) rfl k) ?_
  show Rest p.tables e below s _ _ _ (T2.setTop (mkF m 5 #[.val (.ref a0), .val (.int (1 : Int32)), .val (.ref a2), .val (.int (1 : Int32)), .val (.int (1 : Int32)), .val (.int (1 : Int32)), .val (.int ca)] [(.int (1 : Int32))]))
  refine Rest.via (fun t k => XS.iload X2.here hx rfl (hb hby d9_5) rfl k) ?_
  show Rest p.tables e below s _ _ _ (T2.setTop (mkF m 7 #[.val (.ref a0), .val (.int (1 : Int32)), .val (.ref a2), .val (.int (1 : Int32)), .val (.int (1 : Int32)), .val (.int (1 : Int32)), .val (.int ca)] [(.int (1 : Int32)), (.int (1 : Int32))]))
  refine Rest.via (fun t k => XS.icmpYes X2.here hx rfl (pc0 := 7) (pc' := 44) rfl (hb hby d9_7) rfl (flt (by decide : ¬ ((1 : Int32) < (1 : Int32)))).2.1 (by decide) (by decide) k) ?_
  show Rest p.tables e below s _ _ _ (T2.setTop (mkF m 44 #[.val (.ref a0), .val (.int (1 : Int32)), .val (.ref a2), .val (.int (1 : Int32)), .val (.int (1 : Int32)), .val (.int (1 : Int32)), .val (.int ca)] []))
  refine Rest.via (fun t k => XS.iload X2.here hx rfl (hb hby d9_44) rfl k) ?_
  show Rest p.tables e below s _ _ _ (T2.setTop (mkF m 46 #[.val (.ref a0), .val (.int (1 : Int32)), .val (.ref a2), .val (.int (1 : Int32)), .val (.int (1 : Int32)), .val (.int (1 : Int32)), .val (.int ca)] [(.int (1 : Int32))]))
  refine Rest.ret X2 (v := some (.int (1 : Int32))) (fun h => by rw [Bd.returns] at h; cases h) hlk (fun fs hr => retOut X2 hx Bd.returns rfl (Or.inl ⟨rfl, Or.inl rfl, _, rfl⟩) (hb hby d9_46) hr) ?_ (by decide) (by decide)
  rw [e2]
  exact ⟨rfl, N2, K2, V2⟩
theorem pd_0 : parseMethodDescriptor "([CI[BII)I" = some ⟨[(.array .char), .int, (.array .byte), .int, .int], some .int⟩ := by decide +kernel
theorem d8_0 : decode jdk_52_method_16_code 0 = .ok (.iload_n 2, 1) := by decide +kernel
theorem d8_1 : decode jdk_52_method_16_code 1 = .ok (.newarray .byte, 2) := by decide +kernel
theorem d8_3 : decode jdk_52_method_16_code 3 = .ok (.astore_n 3, 1) := by decide +kernel
theorem d8_4 : decode jdk_52_method_16_code 4 = .ok (.aload_n 0, 1) := by decide +kernel
theorem d8_5 : decode jdk_52_method_16_code 5 = .ok (.iload_n 1, 1) := by decide +kernel
theorem d8_6 : decode jdk_52_method_16_code 6 = .ok (.aload_n 3, 1) := by decide +kernel
theorem d8_7 : decode jdk_52_method_16_code 7 = .ok (.iconst 0, 1) := by decide +kernel
theorem d8_8 : decode jdk_52_method_16_code 8 = .ok (.iload_n 2, 1) := by decide +kernel
theorem d8_9 : decode jdk_52_method_16_code 9 = .ok (.invokestatic 115, 3) := by decide +kernel
theorem d8_12 : decode jdk_52_method_16_code 12 = .ok (.istore 4, 2) := by decide +kernel
theorem d8_14 : decode jdk_52_method_16_code 14 = .ok (.iload 4, 2) := by decide +kernel
theorem d8_16 : decode jdk_52_method_16_code 16 = .ok (.iload_n 2, 1) := by decide +kernel
theorem d8_17 : decode jdk_52_method_16_code 17 = .ok (.if_icmp .eq 40, 3) := by decide +kernel
theorem d8_57 : decode jdk_52_method_16_code 57 = .ok (.aload_n 3, 1) := by decide +kernel
theorem d8_58 : decode jdk_52_method_16_code 58 = .ok (.areturn, 1) := by decide +kernel
theorem ef_W1 (m : MethodId) (a0 : Addr) : entryFrame m #[(.ref a0), (.int (0 : Int32)), (.int (1 : Int32))] 6 = mkF m 0 #[.val (.ref a0), .val (.int (0 : Int32)), .val (.int (1 : Int32)), .unset, .unset, .unset] [] := by first | (simp [entryFrame, mkF, argsToLocals, Value.category, maxLocals]; done) | rfl
def QW1 (Z : State) (a0 : Addr) (kc : ClassId) (ca : Int32) (h0 : Heap) (n0 : Nat) (v : Option Value) (h : Heap) (L : List Loc) : Prop := ∃ va kb, v = some (.ref va) ∧ Fr n0 L ∧ Keep h0 h [] ∧ h0.size ≤ va ∧ Arv Z h va kb .byte (1 : Int32) [(.int (own_by ca))] (.int (0 : Int32))
set_option maxRecDepth 65536 in
set_option maxHeartbeats 40000000 in
theorem rmW1 (l : Launch) (Z : State) (aw : Array Value) (hw : ∀ d ∈ tables_1, d.before aw Z = true) (ws : List Jvm.Cond) (a0 : Addr) (kc : ClassId) (ca : Int32) (h0 : Heap) (n0 : Nat) (Z0 : n0 ≤ h0.size) (V0 : Arv Z h0 a0 kc .char (1 : Int32) [(.int ca)] (.int (0 : Int32))) (hca : ¬ ((255 : Int32) < ca)) :
    MetFree l (⟨"java/lang/StringUTF16", "compress", "([CII)[B"⟩ : MethodName) (head1 (Jvm.Cond.code (⟨"java/lang/StringUTF16", "compress", "([CII)[B"⟩ : MethodName) jdk_52_method_16_code 6 (some (.array .byte)) :: ws) ({ frames := 1, cells := 1, slots := 1, locals := 18 } : Room)) (fun a U => a = #[(.ref a0), (.int (0 : Int32)), (.int (1 : Int32))] ∧ Z.Warmed39 U.vm ∧ U.heap = h0) (fun _ _ _ _ _ => True) (fun _ U o U' => ∃ v L, o = .returned v ∧ QW1 Z a0 kc ca h0 n0 v U'.heap L ∧ FrameEnd U o U' L ({ frames := 1, cells := 1, slots := 1, locals := 18 } : Room).cells ({ frames := 1, cells := 1, slots := 1, locals := 18 } : Room).slots) := by
  refine MetFree.of_bodySF (plainFor_of_name pn_0) hisR ?_
  intro p e s m args below meth c s₁ Bd hml0 hP hK
  obtain ⟨rfl, hZ, hh⟩ := hP
  have hx := Bd.exec
  have hby := Bd.bytes
  have hml : c.maxLocals = 6 := hml0
  have hown : s.vm.findClass "java/lang/StringUTF16" = some m.cls := findClass_of_methodNamed Bd.named
  have hnm := (name_of_methodNamed Bd.named Bd.method).1
  have hlk : meth.locks = false := BodyLoose.notSynchronized Bd
  have X0 : Stand p l e ({ frames := 1, cells := 1, slots := 1, locals := 18 } : Room) s m #[(.ref a0), (.int (0 : Int32)), (.int (1 : Int32))] below meth c s₁ [] 0 0 := Stand.of_body Bd
  have _u := trivial
  have eh0 : s₁.heap = h0 := by rw [← hh, Bd.state]; rfl
  have N0 := Fr.nil n0
  show Rest p.tables e below s (QW1 Z a0 kc ca h0 n0) _ _ (s₁.setTop (entryFrame m #[(.ref a0), (.int (0 : Int32)), (.int (1 : Int32))] 6))
  refine Rest.via (fun t k => castTop (ef_W1 m a0) k) ?_
  show Rest p.tables e below s _ _ _ (s₁.setTop (mkF m 0 #[.val (.ref a0), .val (.int (0 : Int32)), .val (.int (1 : Int32)), .unset, .unset, .unset] []))
  refine Rest.via (fun t k => XS.iloadN X0.here hx rfl (hb hby d8_0) rfl k) ?_
  show Rest p.tables e below s _ _ _ (s₁.setTop (mkF m 1 #[.val (.ref a0), .val (.int (0 : Int32)), .val (.int (1 : Int32)), .unset, .unset, .unset] [(.int (1 : Int32))]))
  obtain ⟨T1, h1, k1, X1, e1, E1, A1, st1⟩ := newP X0 hx hZ (hw _ (List.mem_of_getElem? (i := 22) rfl)) eh0 (g := (mkF m 1 #[.val (.ref a0), .val (.int (0 : Int32)), .val (.int (1 : Int32)), .unset, .unset, .unset] [(.int (1 : Int32))])) rfl (hb hby d8_1) rfl (by decide) (cap := 1) (by decide) (by decide) (by decide) (by decide)
  obtain ⟨b1, gq1⟩ : ∃ z, z = h0.size := ⟨_, rfl⟩
  rw [← gq1] at A1 st1
  have sz_b1 : h0.size ≤ b1 := Nat.le_trans (Keep.refl h0 []).1 (Nat.le_of_eq gq1.symm)
  have g_b1 : n0 ≤ b1 := Nat.le_trans Z0 sz_b1
  have ne_a0_b1 : a0 ≠ b1 := Nat.ne_of_lt (Nat.lt_of_lt_of_le V0.lt (Nat.le_of_eq gq1.symm))
  have K1 : Keep h0 h1 [] := (Keep.refl h0 []).ext E1
  have V_b1 := Arv.new A1 (by decide)
  have V_b1 : Arv Z h1 b1 k1 .byte (1 : Int32) [(.int (0 : Int32))] (.int (0 : Int32)) := V_b1.pad (pad_rep [] (.int (0 : Int32)) 1)
  refine Rest.via (fun t k => st1 t k) ?_
  show Rest p.tables e below s _ _ _ (T1.setTop (mkF m 3 #[.val (.ref a0), .val (.int (0 : Int32)), .val (.int (1 : Int32)), .unset, .unset, .unset] [(.ref b1)]))
  refine Rest.via (fun t k => XS.astoreN X1.here hx rfl (hb hby d8_3) rfl rfl (l' := #[.val (.ref a0), .val (.int (0 : Int32)), .val (.int (1 : Int32)), .val (.ref b1), .unset, .unset]) rfl k) ?_
  show Rest p.tables e below s _ _ _ (T1.setTop (mkF m 4 #[.val (.ref a0), .val (.int (0 : Int32)), .val (.int (1 : Int32)), .val (.ref b1), .unset, .unset] []))
  refine Rest.via (fun t k => XS.aloadN X1.here hx rfl (hb hby d8_4) rfl rfl k) ?_
  show Rest p.tables e below s _ _ _ (T1.setTop (mkF m 5 #[.val (.ref a0), .val (.int (0 : Int32)), .val (.int (1 : Int32)), .val (.ref b1), .unset, .unset] [(.ref a0)]))
  refine Rest.via (fun t k => XS.iloadN X1.here hx rfl (hb hby d8_5) rfl k) ?_
  show Rest p.tables e below s _ _ _ (T1.setTop (mkF m 6 #[.val (.ref a0), .val (.int (0 : Int32)), .val (.int (1 : Int32)), .val (.ref b1), .unset, .unset] [(.int (0 : Int32)), (.ref a0)]))
  refine Rest.via (fun t k => XS.aloadN X1.here hx rfl (hb hby d8_6) rfl rfl k) ?_
  show Rest p.tables e below s _ _ _ (T1.setTop (mkF m 7 #[.val (.ref a0), .val (.int (0 : Int32)), .val (.int (1 : Int32)), .val (.ref b1), .unset, .unset] [(.ref b1), (.int (0 : Int32)), (.ref a0)]))
  refine Rest.via (fun t k => XS.iconst X1.here hx rfl (hb hby d8_7) k) ?_
  show Rest p.tables e below s _ _ _ (T1.setTop (mkF m 8 #[.val (.ref a0), .val (.int (0 : Int32)), .val (.int (1 : Int32)), .val (.ref b1), .unset, .unset] [(.int (0 : Int32)), (.ref b1), (.int (0 : Int32)), (.ref a0)]))
  refine Rest.via (fun t k => XS.iloadN X1.here hx rfl (hb hby d8_8) rfl k) ?_
  show Rest p.tables e below s _ _ _ (T1.setTop (mkF m 9 #[.val (.ref a0), .val (.int (0 : Int32)), .val (.int (1 : Int32)), .val (.ref b1), .unset, .unset] [(.int (1 : Int32)), (.int (0 : Int32)), (.ref b1), (.int (0 : Int32)), (.ref a0)]))
  obtain ⟨_, _, ⟨T2, L2, k2, n2⟩, -, X2, ⟨Lc2, hQ2, l2, y2, z2⟩, st2⟩ := Jvm.LawKit.callS X1 hx (y := (⟨"java/lang/StringUTF16", "compress", "([CI[BII)I"⟩ : MethodName)) hown (mvT hZ (hw _ (List.mem_of_getElem? (i := 50) rfl))) (mvT hZ (hw _ (List.mem_of_getElem? (i := 51) rfl))) (mvT hZ (hw _ (List.mem_of_getElem? (i := 48) rfl))) (mvT hZ (hw _ (List.mem_of_getElem? (i := 52) rfl))) (by decide) (backOf (W := 0) (rmU1 l Z aw hw [] a0 b1 kc k1 ca h1 n0 (Nat.le_trans Z0 K1.1) (V0.ext E1) V_b1 ne_a0_b1 g_b1 hca) hZ (hw _ (List.mem_of_getElem? (i := 52) rfl)) (hw _ (List.mem_of_getElem? (i := 48) rfl)) (by decide) (by decide)) (g := (mkF m 9 #[.val (.ref a0), .val (.int (0 : Int32)), .val (.int (1 : Int32)), .val (.ref b1), .unset, .unset] [(.int (1 : Int32)), (.int (0 : Int32)), (.ref b1), (.int (0 : Int32)), (.ref a0)])) rfl (by rw [hml]; rfl) (argsL := [(.ref a0), (.int (0 : Int32)), (.ref b1), (.int (0 : Int32)), (.int (1 : Int32))]) (rest := []) (lenOf pd_0 rfl) rfl (by show 2 * 0 + _ ≤ _; exact Nat.le_of_eq rfl) (hb hby d8_9) (fun _ _ => ⟨rfl, e1, (by decide : 1 + 0 ≤ _), (by decide : 1 + 0 ≤ _)⟩)
  dsimp only [Pt.U, Pt.locs, Pt.cells, Pt.slots] at X2 l2 y2 z2 st2 hQ2
  subst l2 y2 z2
  obtain ⟨h2, e2⟩ : ∃ z, T2.heap = z := ⟨_, rfl⟩
  rw [e2] at hQ2
  obtain ⟨rfl, Nq2, Kq2, Vq2⟩ := hQ2
  have N2 := Fr.app N0 Nq2
  have K2 : Keep h0 h2 [] := K1.trans Kq2 (allS (Or.inr sz_b1) all0)
  refine Rest.via (fun t k => st2 t k) ?_
  show Rest p.tables e below s _ _ _ (T2.setTop (mkF m 12 #[.val (.ref a0), .val (.int (0 : Int32)), .val (.int (1 : Int32)), .val (.ref b1), .unset, .unset] [(.int (1 : Int32))]))
  refine Rest.via (fun t k => XS.istore X2.here hx rfl (hb hby d8_12) rfl (l' := #[.val (.ref a0), .val (.int (0 : Int32)), .val (.int (1 : Int32)), .val (.ref b1), .val (.int (1 : Int32)), .unset]) rfl k) ?_
  show Rest p.tables e below s _ _ _ (T2.setTop (mkF m 14 #[.val (.ref a0), .val (.int (0 : Int32)), .val (.int (1 : Int32)), .val (.ref b1), .val (.int (1 : Int32)), .unset] []))
  refine Rest.via (fun t k => XS.iload X2.here hx rfl (hb hby d8_14) rfl k) ?_
  show Rest p.tables e below s _ _ _ (T2.setTop (mkF m 16 #[.val (.ref a0), .val (.int (0 : Int32)), .val (.int (1 : Int32)), .val (.ref b1), .val (.int (1 : Int32)), .unset] [(.int (1 : Int32))]))
  refine Rest.via (fun t k => XS.iloadN X2.here hx rfl (hb hby d8_16) rfl k) ?_
  show Rest p.tables e below s _ _ _ (T2.setTop (mkF m 17 #[.val (.ref a0), .val (.int (0 : Int32)), .val (.int (1 : Int32)), .val (.ref b1), .val (.int (1 : Int32)), .unset] [(.int (1 : Int32)), (.int (1 : Int32))]))
  refine Rest.via (fun t k => XS.icmpYes X2.here hx rfl (pc0 := 17) (pc' := 57) rfl (hb hby d8_17) rfl (teq (by decide : (1 : Int32) = (1 : Int32))).1 (by decide) (by decide) k) ?_
  show Rest p.tables e below s _ _ _ (T2.setTop (mkF m 57 #[.val (.ref a0), .val (.int (0 : Int32)), .val (.int (1 : Int32)), .val (.ref b1), .val (.int (1 : Int32)), .unset] []))
  refine Rest.via (fun t k => XS.aloadN X2.here hx rfl (hb hby d8_57) rfl rfl k) ?_
  show Rest p.tables e below s _ _ _ (T2.setTop (mkF m 58 #[.val (.ref a0), .val (.int (0 : Int32)), .val (.int (1 : Int32)), .val (.ref b1), .val (.int (1 : Int32)), .unset] [(.ref b1)]))
  refine Rest.ret X2 (v := some (.ref b1)) (fun h => by rw [Bd.returns] at h; cases h) hlk (fun fs hr => retOut X2 hx Bd.returns rfl (Or.inr (Or.inr (Or.inr (Or.inr ⟨rfl, rfl, rfl⟩)))) (hb hby d8_58) hr) ?_ (by decide) (by decide)
  rw [e2]
  exact ⟨b1, k1, rfl, N2, K2, sz_b1, Vq2⟩
theorem d10_0 : decode jdk_52_method_15_code 0 = .ok (.iload_n 1, 1) := by decide +kernel
theorem d10_1 : decode jdk_52_method_15_code 1 = .ok (.aload_n 0, 1) := by decide +kernel
theorem d10_2 : decode jdk_52_method_15_code 2 = .ok (.arraylength, 1) := by decide +kernel
theorem d10_3 : decode jdk_52_method_15_code 3 = .ok (.isub, 1) := by decide +kernel
theorem d10_4 : decode jdk_52_method_15_code 4 = .ok (.bipush 31, 2) := by decide +kernel
theorem d10_6 : decode jdk_52_method_15_code 6 = .ok (.iushr, 1) := by decide +kernel
theorem d10_7 : decode jdk_52_method_15_code 7 = .ok (.i2b, 1) := by decide +kernel
theorem d10_8 : decode jdk_52_method_15_code 8 = .ok (.ireturn, 1) := by decide +kernel
theorem ef_C1 (m : MethodId) (a0 : Addr) : entryFrame m #[(.ref a0), (.int (1 : Int32))] 2 = mkF m 0 #[.val (.ref a0), .val (.int (1 : Int32))] [] := by first | (simp [entryFrame, mkF, argsToLocals, Value.category, maxLocals]; done) | rfl
def QC1 (Z : State) (a0 : Addr) (k : ClassId) (vs : List Value) (h0 : Heap) (n0 : Nat) (v : Option Value) (h : Heap) (L : List Loc) : Prop := v = some (.int (0 : Int32)) ∧ Fr n0 L ∧ h = h0
set_option maxRecDepth 65536 in
set_option maxHeartbeats 40000000 in
theorem rmC1 (l : Launch) (Z : State) (aw : Array Value) (hw : ∀ d ∈ tables_1, d.before aw Z = true) (ws : List Jvm.Cond) (a0 : Addr) (k : ClassId) (vs : List Value) (h0 : Heap) (n0 : Nat) (Z0 : n0 ≤ h0.size) (V0 : Arv Z h0 a0 k .byte (1 : Int32) vs (.int (0 : Int32))) :
    MetFree l (⟨"java/lang/StringUTF16", "coderFromArrayLen", "([BI)B"⟩ : MethodName) (head1 (Jvm.Cond.code (⟨"java/lang/StringUTF16", "coderFromArrayLen", "([BI)B"⟩ : MethodName) jdk_52_method_15_code 2 (some .byte) :: ws) ({ frames := 0, cells := 0, slots := 0, locals := 0 } : Room)) (fun a U => a = #[(.ref a0), (.int (1 : Int32))] ∧ Z.Warmed39 U.vm ∧ U.heap = h0) (fun _ _ _ _ _ => True) (fun _ U o U' => ∃ v L, o = .returned v ∧ QC1 Z a0 k vs h0 n0 v U'.heap L ∧ FrameEnd U o U' L ({ frames := 0, cells := 0, slots := 0, locals := 0 } : Room).cells ({ frames := 0, cells := 0, slots := 0, locals := 0 } : Room).slots) := by
  refine MetFree.of_bodySF (plainFor_of_name pn_0) hisR ?_
  intro p e s m args below meth c s₁ Bd hml0 hP hK
  obtain ⟨rfl, hZ, hh⟩ := hP
  have hx := Bd.exec
  have hby := Bd.bytes
  have hml : c.maxLocals = 2 := hml0
  have hown : s.vm.findClass "java/lang/StringUTF16" = some m.cls := findClass_of_methodNamed Bd.named
  have hnm := (name_of_methodNamed Bd.named Bd.method).1
  have hlk : meth.locks = false := BodyLoose.notSynchronized Bd
  have X0 : Stand p l e ({ frames := 0, cells := 0, slots := 0, locals := 0 } : Room) s m #[(.ref a0), (.int (1 : Int32))] below meth c s₁ [] 0 0 := Stand.of_body Bd
  have _u := trivial
  have eh0 : s₁.heap = h0 := by rw [← hh, Bd.state]; rfl
  have N0 := Fr.nil n0
  show Rest p.tables e below s (QC1 Z a0 k vs h0 n0) _ _ (s₁.setTop (entryFrame m #[(.ref a0), (.int (1 : Int32))] 2))
  refine Rest.via (fun t k => castTop (ef_C1 m a0) k) ?_
  show Rest p.tables e below s _ _ _ (s₁.setTop (mkF m 0 #[.val (.ref a0), .val (.int (1 : Int32))] []))
  refine Rest.via (fun t k => XS.iloadN X0.here hx rfl (hb hby d10_0) rfl k) ?_
  show Rest p.tables e below s _ _ _ (s₁.setTop (mkF m 1 #[.val (.ref a0), .val (.int (1 : Int32))] [(.int (1 : Int32))]))
  refine Rest.via (fun t k => XS.aloadN X0.here hx rfl (hb hby d10_1) rfl rfl k) ?_
  show Rest p.tables e below s _ _ _ (s₁.setTop (mkF m 2 #[.val (.ref a0), .val (.int (1 : Int32))] [(.ref a0), (.int (1 : Int32))]))
  obtain ⟨cl1, Ar1, -, S1, P1, -, -⟩ := id V0
  refine Rest.via (fun t k => X0.arraylength hx (by rw [eh0]; exact Ar1.1) (State.isArrayOf_alike hZ.alike Ar1.2.1) (g := (mkF m 2 #[.val (.ref a0), .val (.int (1 : Int32))] [(.ref a0), (.int (1 : Int32))])) rfl rfl (hb hby d10_2) t k) ?_
  rw [len_of S1 P1]
  show Rest p.tables e below s _ _ _ (s₁.setTop (mkF m 3 #[.val (.ref a0), .val (.int (1 : Int32))] [(.int (1 : Int32)), (.int (1 : Int32))]))
  refine Rest.via (fun t k => XS.isub X0.here hx rfl (hb hby d10_3) rfl k) ?_
  show Rest p.tables e below s _ _ _ (s₁.setTop (mkF m 4 #[.val (.ref a0), .val (.int (1 : Int32))] [(.int ((1 : Int32) - (1 : Int32)))]))
  rw [(by decide : ((1 : Int32) - (1 : Int32)) = (0 : Int32))]
  show Rest p.tables e below s _ _ _ (s₁.setTop (mkF m 4 #[.val (.ref a0), .val (.int (1 : Int32))] [(.int (0 : Int32))]))
  refine Rest.via (fun t k => XS.bipush X0.here hx rfl (hb hby d10_4) k) ?_
  show Rest p.tables e below s _ _ _ (s₁.setTop (mkF m 6 #[.val (.ref a0), .val (.int (1 : Int32))] [(.int (31 : Int32)), (.int (0 : Int32))]))
  refine Rest.via (fun t k => XS.iushr X0.here hx rfl (hb hby d10_6) rfl k) ?_
  show Rest p.tables e below s _ _ _ (s₁.setTop (mkF m 7 #[.val (.ref a0), .val (.int (1 : Int32))] [(.int (((0 : Int32).toUInt32 >>> ((31 : Int32) &&& 31).toUInt32).toInt32))]))
  rw [(by decide : (((0 : Int32).toUInt32 >>> ((31 : Int32) &&& 31).toUInt32).toInt32) = (0 : Int32))]
  show Rest p.tables e below s _ _ _ (s₁.setTop (mkF m 7 #[.val (.ref a0), .val (.int (1 : Int32))] [(.int (0 : Int32))]))
  refine Rest.via (fun t k => XS.i2b X0.here hx rfl (hb hby d10_7) rfl k) ?_
  show Rest p.tables e below s _ _ _ (s₁.setTop (mkF m 8 #[.val (.ref a0), .val (.int (1 : Int32))] [(.int ((0 : Int32).toInt8.toInt32))]))
  rw [(by decide : ((0 : Int32).toInt8.toInt32) = (0 : Int32))]
  show Rest p.tables e below s _ _ _ (s₁.setTop (mkF m 8 #[.val (.ref a0), .val (.int (1 : Int32))] [(.int (0 : Int32))]))
  refine Rest.ret X0 (v := some (.int (nar .byte (0 : Int32)))) (fun h => by rw [Bd.returns] at h; cases h) hlk (fun fs hr => retN X0 hx (t := .byte) Bd.returns (by simp) (hb hby d10_8) hr) ?_ (by decide) (by decide)
  rw [eh0]
  exact ⟨rfl, N0, rfl⟩
theorem pd_1 : parseMethodDescriptor "([CII)[B" = some ⟨[(.array .char), .int, .int], some (.array .byte)⟩ := by decide +kernel
theorem pd_2 : parseMethodDescriptor "([BI)B" = some ⟨[(.array .byte), .int], some .byte⟩ := by decide +kernel
theorem d3_0 : decode jdk_42_method_149_code 0 = .ok (.aload_n 0, 1) := by decide +kernel
theorem d3_1 : decode jdk_42_method_149_code 1 = .ok (.invokespecial 1, 3) := by decide +kernel
theorem d3_4 : decode jdk_42_method_149_code 4 = .ok (.iload_n 3, 1) := by decide +kernel
theorem d3_5 : decode jdk_42_method_149_code 5 = .ok (.ifCond .ne 22, 3) := by decide +kernel
theorem d3_27 : decode jdk_42_method_149_code 27 = .ok (.getstatic 38, 3) := by decide +kernel
theorem d3_30 : decode jdk_42_method_149_code 30 = .ok (.ifCond .eq 28, 3) := by decide +kernel
theorem d3_33 : decode jdk_42_method_149_code 33 = .ok (.aload_n 1, 1) := by decide +kernel
theorem d3_34 : decode jdk_42_method_149_code 34 = .ok (.iload_n 2, 1) := by decide +kernel
theorem d3_35 : decode jdk_42_method_149_code 35 = .ok (.iload_n 3, 1) := by decide +kernel
theorem d3_36 : decode jdk_42_method_149_code 36 = .ok (.invokestatic 177, 3) := by decide +kernel
theorem d3_39 : decode jdk_42_method_149_code 39 = .ok (.astore 5, 2) := by decide +kernel
theorem d3_41 : decode jdk_42_method_149_code 41 = .ok (.aload_n 0, 1) := by decide +kernel
theorem d3_42 : decode jdk_42_method_149_code 42 = .ok (.aload 5, 2) := by decide +kernel
theorem d3_44 : decode jdk_42_method_149_code 44 = .ok (.iload_n 3, 1) := by decide +kernel
theorem d3_45 : decode jdk_42_method_149_code 45 = .ok (.invokestatic 47, 3) := by decide +kernel
theorem d3_48 : decode jdk_42_method_149_code 48 = .ok (.putfield 15, 3) := by decide +kernel
theorem d3_51 : decode jdk_42_method_149_code 51 = .ok (.aload_n 0, 1) := by decide +kernel
theorem d3_52 : decode jdk_42_method_149_code 52 = .ok (.aload 5, 2) := by decide +kernel
theorem d3_54 : decode jdk_42_method_149_code 54 = .ok (.putfield 9, 3) := by decide +kernel
theorem d3_57 : decode jdk_42_method_149_code 57 = .ok (.return_, 1) := by decide +kernel
theorem pn_1 : plainName "java/lang/String" = true := by first | (simp [plainName, overriddenIn]; done) | decide +kernel
theorem ef_SJ1 (m : MethodId) (a0 : Addr) (a1 : Addr) : entryFrame m #[(.ref a0), (.ref a1), (.int (0 : Int32)), (.int (1 : Int32)), .null] 6 = mkF m 0 #[.val (.ref a0), .val (.ref a1), .val (.int (0 : Int32)), .val (.int (1 : Int32)), .val .null, .unset] [] := by first | (simp [entryFrame, mkF, argsToLocals, Value.category, maxLocals]; done) | rfl
def QSJ1 (Z : State) (a0 : Addr) (a1 : Addr) (kc : ClassId) (ic : Int32) (ca : Int32) (h0 : Heap) (n0 : Nat) (v : Option Value) (h : Heap) (L : List Loc) : Prop := v = none ∧ Fr n0 L ∧ Keep h0 h [a0] ∧ ∃ va kb, h0.size ≤ va ∧ Fld Z h a0 "java/lang/String" "value" "[B" (.ref va) ∧ Fld Z h a0 "java/lang/String" "coder" "B" (.int (0 : Int32)) ∧ Arv Z h va kb .byte (1 : Int32) [(.int (own_by ca))] (.int (0 : Int32)) ∧ a0 ≠ va
set_option maxRecDepth 65536 in
set_option maxHeartbeats 40000000 in
theorem rmSJ1 (l : Launch) (Z : State) (aw : Array Value) (hw : ∀ d ∈ tables_1, d.before aw Z = true) (ws : List Jvm.Cond) (a0 : Addr) (a1 : Addr) (kc : ClassId) (ic : Int32) (ca : Int32) (h0 : Heap) (n0 : Nat) (Z0 : n0 ≤ h0.size) (E_a0 : Exa Z h0 a0 "java/lang/String") (F_v : Fld Z h0 a0 "java/lang/String" "value" "[B" .null) (F_c : Fld Z h0 a0 "java/lang/String" "coder" "B" (.int (0 : Int32))) (g_a0 : n0 ≤ a0) (V1 : Arv Z h0 a1 kc .char (1 : Int32) [(.int ca)] (.int (0 : Int32))) (hca : ¬ ((255 : Int32) < ca)) (O : Old Z n0 h0) (CS : own_CS Z ic) :
    MetFree l (⟨"java/lang/String", "<init>", "([CIILjava/lang/Void;)V"⟩ : MethodName) (head1 (Jvm.Cond.code (⟨"java/lang/String", "<init>", "([CIILjava/lang/Void;)V"⟩ : MethodName) jdk_42_method_149_code 6 none :: ws) ({ frames := 2, cells := 1, slots := 1, locals := 35 } : Room)) (fun a U => a = #[(.ref a0), (.ref a1), (.int (0 : Int32)), (.int (1 : Int32)), .null] ∧ Z.Warmed39 U.vm ∧ U.heap = h0) (fun _ _ _ _ _ => True) (fun _ U o U' => ∃ v L, o = .returned v ∧ QSJ1 Z a0 a1 kc ic ca h0 n0 v U'.heap L ∧ FrameEnd U o U' L ({ frames := 2, cells := 1, slots := 1, locals := 35 } : Room).cells ({ frames := 2, cells := 1, slots := 1, locals := 35 } : Room).slots) := by
  refine MetFree.of_bodySF (plainFor_of_name pn_1) hisR ?_
  intro p e s m args below meth c s₁ Bd hml0 hP hK
  obtain ⟨rfl, hZ, hh⟩ := hP
  have hx := Bd.exec
  have hby := Bd.bytes
  have hml : c.maxLocals = 6 := hml0
  have hown : s.vm.findClass "java/lang/String" = some m.cls := findClass_of_methodNamed Bd.named
  have hnm := (name_of_methodNamed Bd.named Bd.method).1
  have hlk : meth.locks = false := BodyLoose.notSynchronized Bd
  have X0 : Stand p l e ({ frames := 2, cells := 1, slots := 1, locals := 35 } : Room) s m #[(.ref a0), (.ref a1), (.int (0 : Int32)), (.int (1 : Int32)), .null] below meth c s₁ [] 0 0 := Stand.of_body Bd
  have _u := trivial
  have eh0 : s₁.heap = h0 := by rw [← hh, Bd.state]; rfl
  have N0 := Fr.nil n0
  show Rest p.tables e below s (QSJ1 Z a0 a1 kc ic ca h0 n0) _ _ (s₁.setTop (entryFrame m #[(.ref a0), (.ref a1), (.int (0 : Int32)), (.int (1 : Int32)), .null] 6))
  refine Rest.via (fun t k => castTop (ef_SJ1 m a0 a1) k) ?_
  show Rest p.tables e below s _ _ _ (s₁.setTop (mkF m 0 #[.val (.ref a0), .val (.ref a1), .val (.int (0 : Int32)), .val (.int (1 : Int32)), .val .null, .unset] []))
  refine Rest.via (fun t k => XS.aloadN X0.here hx rfl (hb hby d3_0) rfl rfl k) ?_
  show Rest p.tables e below s _ _ _ (s₁.setTop (mkF m 1 #[.val (.ref a0), .val (.ref a1), .val (.int (0 : Int32)), .val (.int (1 : Int32)), .val .null, .unset] [(.ref a0)]))
  obtain ⟨T1, X1, e1, st1⟩ := initO X0 hx hZ hown (hw _ (List.mem_of_getElem? (i := 18) rfl)) (hw _ (List.mem_of_getElem? (i := 19) rfl)) (hw _ (List.mem_of_getElem? (i := 20) rfl)) eh0 (g := (mkF m 1 #[.val (.ref a0), .val (.ref a1), .val (.int (0 : Int32)), .val (.int (1 : Int32)), .val .null, .unset] [(.ref a0)])) rfl (by rw [hml]; rfl) rfl (hb hby d3_1) (by decide) (W := 0) (by show 2 * 0 + _ ≤ _; exact Nat.le_of_eq rfl) (by decide)
  refine Rest.via (fun t k => st1 t k) ?_
  show Rest p.tables e below s _ _ _ (T1.setTop (mkF m 4 #[.val (.ref a0), .val (.ref a1), .val (.int (0 : Int32)), .val (.int (1 : Int32)), .val .null, .unset] []))
  refine Rest.via (fun t k => XS.iloadN X1.here hx rfl (hb hby d3_4) rfl k) ?_
  show Rest p.tables e below s _ _ _ (T1.setTop (mkF m 5 #[.val (.ref a0), .val (.ref a1), .val (.int (0 : Int32)), .val (.int (1 : Int32)), .val .null, .unset] [(.int (1 : Int32))]))
  refine Rest.via (fun t k => XS.ifYes X1.here hx rfl (pc0 := 5) (pc' := 27) rfl (hb hby d3_5) rfl ((if0 _ _).trans (feq (by decide : ¬ ((1 : Int32) = (0 : Int32)))).2) (by decide) (by decide) k) ?_
  show Rest p.tables e below s _ _ _ (T1.setTop (mkF m 27 #[.val (.ref a0), .val (.ref a1), .val (.int (0 : Int32)), .val (.int (1 : Int32)), .val .null, .unset] []))
  obtain ⟨T2, X2, e2, st2⟩ := getS2 X1 hx hZ hown (host := "") (Or.inl (hw _ (List.mem_of_getElem? (i := 45) rfl))) Via.refl e1 (CS.1.ext (O.keep (Keep.refl h0 [a0]) (allS g_a0 all0)).2) (g := (mkF m 27 #[.val (.ref a0), .val (.ref a1), .val (.int (0 : Int32)), .val (.int (1 : Int32)), .val .null, .unset] [])) rfl (hb hby d3_27)
  refine Rest.via (fun t k => st2 t k) ?_
  show Rest p.tables e below s _ _ _ (T2.setTop (mkF m 30 #[.val (.ref a0), .val (.ref a1), .val (.int (0 : Int32)), .val (.int (1 : Int32)), .val .null, .unset] [(.int ic)]))
  refine Rest.via (fun t k => XS.ifNo X2.here hx rfl (hb hby d3_30) rfl ((if0 _ _).trans (feq (CS.2 : ¬ (ic = (0 : Int32)))).1) k) ?_
  show Rest p.tables e below s _ _ _ (T2.setTop (mkF m 33 #[.val (.ref a0), .val (.ref a1), .val (.int (0 : Int32)), .val (.int (1 : Int32)), .val .null, .unset] []))
  refine Rest.via (fun t k => XS.aloadN X2.here hx rfl (hb hby d3_33) rfl rfl k) ?_
  show Rest p.tables e below s _ _ _ (T2.setTop (mkF m 34 #[.val (.ref a0), .val (.ref a1), .val (.int (0 : Int32)), .val (.int (1 : Int32)), .val .null, .unset] [(.ref a1)]))
  refine Rest.via (fun t k => XS.iloadN X2.here hx rfl (hb hby d3_34) rfl k) ?_
  show Rest p.tables e below s _ _ _ (T2.setTop (mkF m 35 #[.val (.ref a0), .val (.ref a1), .val (.int (0 : Int32)), .val (.int (1 : Int32)), .val .null, .unset] [(.int (0 : Int32)), (.ref a1)]))
  refine Rest.via (fun t k => XS.iloadN X2.here hx rfl (hb hby d3_35) rfl k) ?_
  show Rest p.tables e below s _ _ _ (T2.setTop (mkF m 36 #[.val (.ref a0), .val (.ref a1), .val (.int (0 : Int32)), .val (.int (1 : Int32)), .val .null, .unset] [(.int (1 : Int32)), (.int (0 : Int32)), (.ref a1)]))
  obtain ⟨_, _, ⟨T3, L3, k3, n3⟩, -, X3, ⟨Lc3, hQ3, l3, y3, z3⟩, st3⟩ := Jvm.LawKit.callS X2 hx (y := (⟨"java/lang/StringUTF16", "compress", "([CII)[B"⟩ : MethodName)) hown (mvT hZ (hw _ (List.mem_of_getElem? (i := 46) rfl))) (mvT hZ (hw _ (List.mem_of_getElem? (i := 47) rfl))) (mvT hZ (hw _ (List.mem_of_getElem? (i := 48) rfl))) (mvT hZ (hw _ (List.mem_of_getElem? (i := 49) rfl))) (by decide) (backOf (W := 0) (rmW1 l Z aw hw [] a1 kc ca h0 n0 (Nat.le_trans Z0 (Keep.refl h0 [a0]).1) V1 hca) hZ (hw _ (List.mem_of_getElem? (i := 49) rfl)) (hw _ (List.mem_of_getElem? (i := 48) rfl)) (by decide) (by decide)) (g := (mkF m 36 #[.val (.ref a0), .val (.ref a1), .val (.int (0 : Int32)), .val (.int (1 : Int32)), .val .null, .unset] [(.int (1 : Int32)), (.int (0 : Int32)), (.ref a1)])) rfl (by rw [hml]; rfl) (argsL := [(.ref a1), (.int (0 : Int32)), (.int (1 : Int32))]) (rest := []) (lenOf pd_1 rfl) rfl (by show 2 * 0 + _ ≤ _; exact Nat.le_of_eq rfl) (hb hby d3_36) (fun _ _ => ⟨rfl, e2, (by decide : 0 + 1 ≤ _), (by decide : 0 + 1 ≤ _)⟩)
  dsimp only [Pt.U, Pt.locs, Pt.cells, Pt.slots] at X3 l3 y3 z3 st3 hQ3
  subst l3 y3 z3
  obtain ⟨h3, e3⟩ : ∃ z, T3.heap = z := ⟨_, rfl⟩
  rw [e3] at hQ3
  obtain ⟨va3, kb3, rfl, Nq3, Kq3, sd3, Vq3⟩ := hQ3
  have N3 := Fr.app N0 Nq3
  have sz_va3 : h0.size ≤ va3 := Nat.le_trans (Keep.refl h0 [a0]).1 sd3
  have ne_a0_va3 : a0 ≠ va3 := Nat.ne_of_lt (Nat.lt_of_lt_of_le E_a0.lt sd3)
  have K3 : Keep h0 h3 [a0] := (Keep.refl h0 [a0]).trans Kq3 all0
  refine Rest.via (fun t k => st3 t k) ?_
  show Rest p.tables e below s _ _ _ (T3.setTop (mkF m 39 #[.val (.ref a0), .val (.ref a1), .val (.int (0 : Int32)), .val (.int (1 : Int32)), .val .null, .unset] [(.ref va3)]))
  refine Rest.via (fun t k => XS.astore X3.here hx rfl (hb hby d3_39) rfl rfl (l' := #[.val (.ref a0), .val (.ref a1), .val (.int (0 : Int32)), .val (.int (1 : Int32)), .val .null, .val (.ref va3)]) rfl k) ?_
  show Rest p.tables e below s _ _ _ (T3.setTop (mkF m 41 #[.val (.ref a0), .val (.ref a1), .val (.int (0 : Int32)), .val (.int (1 : Int32)), .val .null, .val (.ref va3)] []))
  refine Rest.via (fun t k => XS.aloadN X3.here hx rfl (hb hby d3_41) rfl rfl k) ?_
  show Rest p.tables e below s _ _ _ (T3.setTop (mkF m 42 #[.val (.ref a0), .val (.ref a1), .val (.int (0 : Int32)), .val (.int (1 : Int32)), .val .null, .val (.ref va3)] [(.ref a0)]))
  refine Rest.via (fun t k => XS.aload X3.here hx rfl (hb hby d3_42) rfl rfl k) ?_
  show Rest p.tables e below s _ _ _ (T3.setTop (mkF m 44 #[.val (.ref a0), .val (.ref a1), .val (.int (0 : Int32)), .val (.int (1 : Int32)), .val .null, .val (.ref va3)] [(.ref va3), (.ref a0)]))
  refine Rest.via (fun t k => XS.iloadN X3.here hx rfl (hb hby d3_44) rfl k) ?_
  show Rest p.tables e below s _ _ _ (T3.setTop (mkF m 45 #[.val (.ref a0), .val (.ref a1), .val (.int (0 : Int32)), .val (.int (1 : Int32)), .val .null, .val (.ref va3)] [(.int (1 : Int32)), (.ref va3), (.ref a0)]))
  obtain ⟨_, _, ⟨T4, L4, k4, n4⟩, -, X4, ⟨Lc4, hQ4, l4, y4, z4⟩, st4⟩ := Jvm.LawKit.callS X3 hx (y := (⟨"java/lang/StringUTF16", "coderFromArrayLen", "([BI)B"⟩ : MethodName)) hown (mvT hZ (hw _ (List.mem_of_getElem? (i := 53) rfl))) (mvT hZ (hw _ (List.mem_of_getElem? (i := 54) rfl))) (mvT hZ (hw _ (List.mem_of_getElem? (i := 48) rfl))) (mvT hZ (hw _ (List.mem_of_getElem? (i := 55) rfl))) (by decide) (backOf (W := 1) (rmC1 l Z aw hw [] va3 kb3 _ h3 n0 (Nat.le_trans Z0 K3.1) Vq3) hZ (hw _ (List.mem_of_getElem? (i := 55) rfl)) (hw _ (List.mem_of_getElem? (i := 48) rfl)) (by decide) (by decide)) (g := (mkF m 45 #[.val (.ref a0), .val (.ref a1), .val (.int (0 : Int32)), .val (.int (1 : Int32)), .val .null, .val (.ref va3)] [(.int (1 : Int32)), (.ref va3), (.ref a0)])) rfl (by rw [hml]; rfl) (argsL := [(.ref va3), (.int (1 : Int32))]) (rest := [(.ref a0)]) (lenOf pd_2 rfl) rfl (by show 2 * 0 + _ ≤ _; exact Nat.le_of_eq rfl) (hb hby d3_45) (fun _ _ => ⟨rfl, e3, (by decide : 1 + 0 ≤ _), (by decide : 1 + 0 ≤ _)⟩)
  dsimp only [Pt.U, Pt.locs, Pt.cells, Pt.slots] at X4 l4 y4 z4 st4 hQ4
  subst l4 y4 z4
  obtain ⟨rfl, Nq4, e4⟩ := hQ4
  have N4 := Fr.app N3 Nq4
  refine Rest.via (fun t k => st4 t k) ?_
  show Rest p.tables e below s _ _ _ (T4.setTop (mkF m 48 #[.val (.ref a0), .val (.ref a1), .val (.int (0 : Int32)), .val (.int (1 : Int32)), .val .null, .val (.ref va3)] [(.int (0 : Int32)), (.ref a0)]))
  have Fo5 := (F_c.keep Kq3 nin0)
  obtain ⟨T5, h5, X5, e5, W5, st5⟩ := putFN X4 hx hZ hown (hw _ (List.mem_of_getElem? (i := 28) rfl)) Via.refl e4 Fo5 (E_a0.keep Kq3) (Or.inr ⟨(hw _ (List.mem_of_getElem? (i := 24) rfl)), rfl, hnm⟩) (hw _ (List.mem_of_getElem? (i := 8) rfl)) (ty := .byte) (v' := (.int (0 : Int32))) (by decide) rfl (by decide) (g := (mkF m 48 #[.val (.ref a0), .val (.ref a1), .val (.int (0 : Int32)), .val (.int (1 : Int32)), .val .null, .val (.ref va3)] [(.int (0 : Int32)), (.ref a0)])) rfl rfl (hb hby d3_48)
  refine Rest.via (fun t k => st5 t k) ?_
  have N5 := Fr.snoc X5 N4 g_a0
  have K5 : Keep h0 h5 [a0] := K3.wr W5 (Or.inl (List.mem_of_getElem? (i := 0) rfl))
  have Fw5 := Fo5.same W5
  show Rest p.tables e below s _ _ _ (T5.setTop (mkF m 51 #[.val (.ref a0), .val (.ref a1), .val (.int (0 : Int32)), .val (.int (1 : Int32)), .val .null, .val (.ref va3)] []))
  refine Rest.via (fun t k => XS.aloadN X5.here hx rfl (hb hby d3_51) rfl rfl k) ?_
  show Rest p.tables e below s _ _ _ (T5.setTop (mkF m 52 #[.val (.ref a0), .val (.ref a1), .val (.int (0 : Int32)), .val (.int (1 : Int32)), .val .null, .val (.ref va3)] [(.ref a0)]))
  refine Rest.via (fun t k => XS.aload X5.here hx rfl (hb hby d3_52) rfl rfl k) ?_
  show Rest p.tables e below s _ _ _ (T5.setTop (mkF m 54 #[.val (.ref a0), .val (.ref a1), .val (.int (0 : Int32)), .val (.int (1 : Int32)), .val .null, .val (.ref va3)] [(.ref va3), (.ref a0)]))
  have Fo6 := ((F_v.keep Kq3 nin0).other W5 (Or.inr (slot_ne (Or.inr (hw _ (List.mem_of_getElem? (i := 23) rfl))) (Or.inr (hw _ (List.mem_of_getElem? (i := 24) rfl))) (by decide) (t := (.array .byte)) (t' := .byte) (by decide) (by decide))))
  obtain ⟨T6, h6, X6, e6, W6, st6⟩ := putF X5 hx hZ hown (host := "") (Or.inl (hw _ (List.mem_of_getElem? (i := 27) rfl))) Via.refl e5 Fo6 ((E_a0.keep Kq3).wr W5) (Or.inr ⟨(hw _ (List.mem_of_getElem? (i := 23) rfl)), rfl, hnm⟩) (hw _ (List.mem_of_getElem? (i := 8) rfl)) (ty := (.array .byte)) (by decide) rfl rfl (g := (mkF m 54 #[.val (.ref a0), .val (.ref a1), .val (.int (0 : Int32)), .val (.int (1 : Int32)), .val .null, .val (.ref va3)] [(.ref va3), (.ref a0)])) rfl rfl (hb hby d3_54)
  refine Rest.via (fun t k => st6 t k) ?_
  have N6 := Fr.snoc X6 N5 g_a0
  have K6 : Keep h0 h6 [a0] := K5.wr W6 (Or.inl (List.mem_of_getElem? (i := 0) rfl))
  have Fw6 := Fo6.same W6
  show Rest p.tables e below s _ _ _ (T6.setTop (mkF m 57 #[.val (.ref a0), .val (.ref a1), .val (.int (0 : Int32)), .val (.int (1 : Int32)), .val .null, .val (.ref va3)] []))
  refine Rest.ret X6 (v := none) (fun _ => rfl) hlk (fun fs hr => X6.returnOut hx Bd.returns (hb hby d3_57) hr) ?_ (by decide) (by decide)
  rw [e6]
  exact ⟨rfl, N6, K6, va3, kb3, sz_va3, Fw6, (Fw5.other W6 (Or.inr (slot_ne (Or.inr (hw _ (List.mem_of_getElem? (i := 24) rfl))) (Or.inr (hw _ (List.mem_of_getElem? (i := 23) rfl))) (by decide) (t := .byte) (t' := (.array .byte)) (by decide) (by decide)))), ((Vq3.other W5 (Ne.symm ne_a0_va3)).other W6 (Ne.symm ne_a0_va3)), ne_a0_va3⟩
theorem pd_3 : parseMethodDescriptor "([CIILjava/lang/Void;)V" = some ⟨[(.array .char), .int, .int, (.object "java/lang/Void")], none⟩ := by decide +kernel
theorem d2_0 : decode jdk_42_method_3_code 0 = .ok (.aload_n 0, 1) := by decide +kernel
theorem d2_1 : decode jdk_42_method_3_code 1 = .ok (.aload_n 1, 1) := by decide +kernel
theorem d2_2 : decode jdk_42_method_3_code 2 = .ok (.iconst 0, 1) := by decide +kernel
theorem d2_3 : decode jdk_42_method_3_code 3 = .ok (.aload_n 1, 1) := by decide +kernel
theorem d2_4 : decode jdk_42_method_3_code 4 = .ok (.arraylength, 1) := by decide +kernel
theorem d2_5 : decode jdk_42_method_3_code 5 = .ok (.aconst_null, 1) := by decide +kernel
theorem d2_6 : decode jdk_42_method_3_code 6 = .ok (.invokespecial 27, 3) := by decide +kernel
theorem d2_9 : decode jdk_42_method_3_code 9 = .ok (.return_, 1) := by decide +kernel
theorem ef_SI1 (m : MethodId) (a0 : Addr) (a1 : Addr) : entryFrame m #[(.ref a0), (.ref a1)] 2 = mkF m 0 #[.val (.ref a0), .val (.ref a1)] [] := by first | (simp [entryFrame, mkF, argsToLocals, Value.category, maxLocals]; done) | rfl
def QSI1 (Z : State) (a0 : Addr) (a1 : Addr) (kc : ClassId) (ic : Int32) (ca : Int32) (h0 : Heap) (n0 : Nat) (v : Option Value) (h : Heap) (L : List Loc) : Prop := v = none ∧ Fr n0 L ∧ Keep h0 h [a0] ∧ ∃ va kb, h0.size ≤ va ∧ Fld Z h a0 "java/lang/String" "value" "[B" (.ref va) ∧ Fld Z h a0 "java/lang/String" "coder" "B" (.int (0 : Int32)) ∧ Arv Z h va kb .byte (1 : Int32) [(.int (own_by ca))] (.int (0 : Int32)) ∧ a0 ≠ va
set_option maxRecDepth 65536 in
set_option maxHeartbeats 40000000 in
theorem rmSI1 (l : Launch) (Z : State) (aw : Array Value) (hw : ∀ d ∈ tables_1, d.before aw Z = true) (ws : List Jvm.Cond) (a0 : Addr) (a1 : Addr) (kc : ClassId) (ic : Int32) (ca : Int32) (h0 : Heap) (n0 : Nat) (Z0 : n0 ≤ h0.size) (E_a0 : Exa Z h0 a0 "java/lang/String") (F_v : Fld Z h0 a0 "java/lang/String" "value" "[B" .null) (F_c : Fld Z h0 a0 "java/lang/String" "coder" "B" (.int (0 : Int32))) (g_a0 : n0 ≤ a0) (V1 : Arv Z h0 a1 kc .char (1 : Int32) [(.int ca)] (.int (0 : Int32))) (hca : ¬ ((255 : Int32) < ca)) (O : Old Z n0 h0) (CS : own_CS Z ic) :
    MetFree l (⟨"java/lang/String", "<init>", "([C)V"⟩ : MethodName) (head1 (Jvm.Cond.code (⟨"java/lang/String", "<init>", "([C)V"⟩ : MethodName) jdk_42_method_3_code 2 none :: ws) ({ frames := 3, cells := 1, slots := 1, locals := 52 } : Room)) (fun a U => a = #[(.ref a0), (.ref a1)] ∧ Z.Warmed39 U.vm ∧ U.heap = h0) (fun _ _ _ _ _ => True) (fun _ U o U' => ∃ v L, o = .returned v ∧ QSI1 Z a0 a1 kc ic ca h0 n0 v U'.heap L ∧ FrameEnd U o U' L ({ frames := 3, cells := 1, slots := 1, locals := 52 } : Room).cells ({ frames := 3, cells := 1, slots := 1, locals := 52 } : Room).slots) := by
  refine MetFree.of_bodySF (plainFor_of_name pn_1) hisR ?_
  intro p e s m args below meth c s₁ Bd hml0 hP hK
  obtain ⟨rfl, hZ, hh⟩ := hP
  have hx := Bd.exec
  have hby := Bd.bytes
  have hml : c.maxLocals = 2 := hml0
  have hown : s.vm.findClass "java/lang/String" = some m.cls := findClass_of_methodNamed Bd.named
  have hnm := (name_of_methodNamed Bd.named Bd.method).1
  have hlk : meth.locks = false := BodyLoose.notSynchronized Bd
  have X0 : Stand p l e ({ frames := 3, cells := 1, slots := 1, locals := 52 } : Room) s m #[(.ref a0), (.ref a1)] below meth c s₁ [] 0 0 := Stand.of_body Bd
  have _u := trivial
  have eh0 : s₁.heap = h0 := by rw [← hh, Bd.state]; rfl
  have N0 := Fr.nil n0
  show Rest p.tables e below s (QSI1 Z a0 a1 kc ic ca h0 n0) _ _ (s₁.setTop (entryFrame m #[(.ref a0), (.ref a1)] 2))
  refine Rest.via (fun t k => castTop (ef_SI1 m a0 a1) k) ?_
  show Rest p.tables e below s _ _ _ (s₁.setTop (mkF m 0 #[.val (.ref a0), .val (.ref a1)] []))
  refine Rest.via (fun t k => XS.aloadN X0.here hx rfl (hb hby d2_0) rfl rfl k) ?_
  show Rest p.tables e below s _ _ _ (s₁.setTop (mkF m 1 #[.val (.ref a0), .val (.ref a1)] [(.ref a0)]))
  refine Rest.via (fun t k => XS.aloadN X0.here hx rfl (hb hby d2_1) rfl rfl k) ?_
  show Rest p.tables e below s _ _ _ (s₁.setTop (mkF m 2 #[.val (.ref a0), .val (.ref a1)] [(.ref a1), (.ref a0)]))
  refine Rest.via (fun t k => XS.iconst X0.here hx rfl (hb hby d2_2) k) ?_
  show Rest p.tables e below s _ _ _ (s₁.setTop (mkF m 3 #[.val (.ref a0), .val (.ref a1)] [(.int (0 : Int32)), (.ref a1), (.ref a0)]))
  refine Rest.via (fun t k => XS.aloadN X0.here hx rfl (hb hby d2_3) rfl rfl k) ?_
  show Rest p.tables e below s _ _ _ (s₁.setTop (mkF m 4 #[.val (.ref a0), .val (.ref a1)] [(.ref a1), (.int (0 : Int32)), (.ref a1), (.ref a0)]))
  obtain ⟨cl1, Ar1, -, S1, P1, -, -⟩ := id V1
  refine Rest.via (fun t k => X0.arraylength hx (by rw [eh0]; exact Ar1.1) (State.isArrayOf_alike hZ.alike Ar1.2.1) (g := (mkF m 4 #[.val (.ref a0), .val (.ref a1)] [(.ref a1), (.int (0 : Int32)), (.ref a1), (.ref a0)])) rfl rfl (hb hby d2_4) t k) ?_
  rw [len_of S1 P1]
  show Rest p.tables e below s _ _ _ (s₁.setTop (mkF m 5 #[.val (.ref a0), .val (.ref a1)] [(.int (1 : Int32)), (.int (0 : Int32)), (.ref a1), (.ref a0)]))
  refine Rest.via (fun t k => XS.aconstNull X0.here hx rfl (hb hby d2_5) k) ?_
  show Rest p.tables e below s _ _ _ (s₁.setTop (mkF m 6 #[.val (.ref a0), .val (.ref a1)] [.null, (.int (1 : Int32)), (.int (0 : Int32)), (.ref a1), (.ref a0)]))
  obtain ⟨_, _, ⟨T2, L2, k2, n2⟩, -, X2, ⟨Lc2, hQ2, l2, y2, z2⟩, st2⟩ := X0.specialBack hx (y := (⟨"java/lang/String", "<init>", "([CIILjava/lang/Void;)V"⟩ : MethodName)) rfl hown (mvT hZ (hw _ (List.mem_of_getElem? (i := 14) rfl))) (mvT hZ (hw _ (List.mem_of_getElem? (i := 15) rfl))) (mvT hZ (hw _ (List.mem_of_getElem? (i := 17) rfl))) (by decide) (backOf (W := 0) (rmSJ1 l Z aw hw [] a0 a1 kc ic ca h0 n0 (Nat.le_trans Z0 (Keep.refl h0 [a0]).1) E_a0 F_v F_c g_a0 V1 hca (O.keep (Keep.refl h0 [a0]) (allS g_a0 all0)) CS) hZ (hw _ (List.mem_of_getElem? (i := 17) rfl)) (hw _ (List.mem_of_getElem? (i := 9) rfl)) (by decide) (by decide)) (g := (mkF m 6 #[.val (.ref a0), .val (.ref a1)] [.null, (.int (1 : Int32)), (.int (0 : Int32)), (.ref a1), (.ref a0)])) rfl (by rw [hml]; rfl) (Steps.refl _) (a := a0) (argsL := [(.ref a1), (.int (0 : Int32)), (.int (1 : Int32)), .null]) (rest := []) (lenOf pd_3 rfl) rfl (by show 2 * 0 + _ ≤ _; exact Nat.le_of_eq rfl) (hb hby d2_6) (fun _ _ => ⟨rfl, eh0, (by decide : 0 + 1 ≤ _), (by decide : 0 + 1 ≤ _)⟩)
  dsimp only [Pt.U, Pt.locs, Pt.cells, Pt.slots] at X2 l2 y2 z2 st2 hQ2
  subst l2 y2 z2
  obtain ⟨h2, e2⟩ : ∃ z, T2.heap = z := ⟨_, rfl⟩
  rw [e2] at hQ2
  obtain ⟨rfl, Nq2, Kq2, va2, kb2, sd2, Fv2, Fc2, Vq2, nb2⟩ := hQ2
  have N2 := Fr.app N0 Nq2
  have K2 : Keep h0 h2 [a0] := (Keep.refl h0 [a0]).trans Kq2 (allS (Or.inl (List.mem_of_getElem? (i := 0) rfl)) all0)
  refine Rest.via (fun t k => st2.trans k) ?_
  show Rest p.tables e below s _ _ _ (T2.setTop (mkF m 9 #[.val (.ref a0), .val (.ref a1)] []))
  refine Rest.ret X2 (v := none) (fun _ => rfl) hlk (fun fs hr => X2.returnOut hx Bd.returns (hb hby d2_9) hr) ?_ (by decide) (by decide)
  rw [e2]
  exact ⟨rfl, N2, K2, va2, kb2, Nat.le_trans (Keep.refl h0 [a0]).1 sd2, Fv2, Fc2, Vq2, nb2⟩
theorem ef_U2 (m : MethodId) (a0 : Addr) (a2 : Addr) : entryFrame m #[(.ref a0), (.int (0 : Int32)), (.ref a2), (.int (0 : Int32)), (.int (2 : Int32))] 7 = mkF m 0 #[.val (.ref a0), .val (.int (0 : Int32)), .val (.ref a2), .val (.int (0 : Int32)), .val (.int (2 : Int32)), .unset, .unset] [] := by first | (simp [entryFrame, mkF, argsToLocals, Value.category, maxLocals]; done) | rfl
def QU2 (Z : State) (a0 : Addr) (a2 : Addr) (kc : ClassId) (kb : ClassId) (ca : Int32) (cb : Int32) (h0 : Heap) (n0 : Nat) (v : Option Value) (h : Heap) (L : List Loc) : Prop := v = some (.int (2 : Int32)) ∧ Fr n0 L ∧ Keep h0 h [a2] ∧ Arv Z h a2 kb .byte (2 : Int32) [(.int (own_by ca)), (.int (own_by cb))] (.int (0 : Int32))
set_option maxRecDepth 65536 in
set_option maxHeartbeats 40000000 in
theorem rmU2 (l : Launch) (Z : State) (aw : Array Value) (hw : ∀ d ∈ tables_1, d.before aw Z = true) (ws : List Jvm.Cond) (a0 : Addr) (a2 : Addr) (kc : ClassId) (kb : ClassId) (ca : Int32) (cb : Int32) (h0 : Heap) (n0 : Nat) (Z0 : n0 ≤ h0.size) (V0 : Arv Z h0 a0 kc .char (2 : Int32) [(.int ca), (.int cb)] (.int (0 : Int32))) (V2 : Arv Z h0 a2 kb .byte (2 : Int32) [(.int (0 : Int32)), (.int (0 : Int32))] (.int (0 : Int32))) (n02 : a0 ≠ a2) (g_a2 : n0 ≤ a2) (hca : ¬ ((255 : Int32) < ca)) (hcb : ¬ ((255 : Int32) < cb)) :
    MetFree l (⟨"java/lang/StringUTF16", "compress", "([CI[BII)I"⟩ : MethodName) (head1 (Jvm.Cond.code (⟨"java/lang/StringUTF16", "compress", "([CI[BII)I"⟩ : MethodName) jdk_52_method_21_code 7 (some .int) :: ws) ({ frames := 0, cells := 0, slots := 0, locals := 0 } : Room)) (fun a U => a = #[(.ref a0), (.int (0 : Int32)), (.ref a2), (.int (0 : Int32)), (.int (2 : Int32))] ∧ Z.Warmed39 U.vm ∧ U.heap = h0) (fun _ _ _ _ _ => True) (fun _ U o U' => ∃ v L, o = .returned v ∧ QU2 Z a0 a2 kc kb ca cb h0 n0 v U'.heap L ∧ FrameEnd U o U' L ({ frames := 0, cells := 0, slots := 0, locals := 0 } : Room).cells ({ frames := 0, cells := 0, slots := 0, locals := 0 } : Room).slots) := by
  refine MetFree.of_bodySF (plainFor_of_name pn_0) hisR ?_
  intro p e s m args below meth c s₁ Bd hml0 hP hK
  obtain ⟨rfl, hZ, hh⟩ := hP
  have hx := Bd.exec
  have hby := Bd.bytes
  have hml : c.maxLocals = 7 := hml0
  have hown : s.vm.findClass "java/lang/StringUTF16" = some m.cls := findClass_of_methodNamed Bd.named
  have hnm := (name_of_methodNamed Bd.named Bd.method).1
  have hlk : meth.locks = false := BodyLoose.notSynchronized Bd
  have X0 : Stand p l e ({ frames := 0, cells := 0, slots := 0, locals := 0 } : Room) s m #[(.ref a0), (.int (0 : Int32)), (.ref a2), (.int (0 : Int32)), (.int (2 : Int32))] below meth c s₁ [] 0 0 := Stand.of_body Bd
  have _u := trivial
  have eh0 : s₁.heap = h0 := by rw [← hh, Bd.state]; rfl
  have N0 := Fr.nil n0
  show Rest p.tables e below s (QU2 Z a0 a2 kc kb ca cb h0 n0) _ _ (s₁.setTop (entryFrame m #[(.ref a0), (.int (0 : Int32)), (.ref a2), (.int (0 : Int32)), (.int (2 : Int32))] 7))
  refine Rest.via (fun t k => castTop (ef_U2 m a0 a2) k) ?_
  show Rest p.tables e below s _ _ _ (s₁.setTop (mkF m 0 #[.val (.ref a0), .val (.int (0 : Int32)), .val (.ref a2), .val (.int (0 : Int32)), .val (.int (2 : Int32)), .unset, .unset] []))
  refine Rest.via (fun t k => XS.iconst X0.here hx rfl (hb hby d9_0) k) ?_
  show Rest p.tables e below s _ _ _ (s₁.setTop (mkF m 1 #[.val (.ref a0), .val (.int (0 : Int32)), .val (.ref a2), .val (.int (0 : Int32)), .val (.int (2 : Int32)), .unset, .unset] [(.int (0 : Int32))]))
  refine Rest.via (fun t k => XS.istore X0.here hx rfl (hb hby d9_1) rfl (l' := #[.val (.ref a0), .val (.int (0 : Int32)), .val (.ref a2), .val (.int (0 : Int32)), .val (.int (2 : Int32)), .val (.int (0 : Int32)), .unset]) rfl k) ?_
  show Rest p.tables e below s _ _ _ (s₁.setTop (mkF m 3 #[.val (.ref a0), .val (.int (0 : Int32)), .val (.ref a2), .val (.int (0 : Int32)), .val (.int (2 : Int32)), .val (.int (0 : Int32)), .unset] []))
  refine Rest.via (fun t k => XS.iload X0.here hx rfl (hb hby d9_3) rfl k) ?_
  show Rest p.tables e below s _ _ _ (s₁.setTop (mkF m 5 #[.val (.ref a0), .val (.int (0 : Int32)), .val (.ref a2), .val (.int (0 : Int32)), .val (.int (2 : Int32)), .val (.int (0 : Int32)), .unset] [(.int (0 : Int32))]))
  refine Rest.via (fun t k => XS.iload X0.here hx rfl (hb hby d9_5) rfl k) ?_
  show Rest p.tables e below s _ _ _ (s₁.setTop (mkF m 7 #[.val (.ref a0), .val (.int (0 : Int32)), .val (.ref a2), .val (.int (0 : Int32)), .val (.int (2 : Int32)), .val (.int (0 : Int32)), .unset] [(.int (2 : Int32)), (.int (0 : Int32))]))
  refine Rest.via (fun t k => XS.icmpNo X0.here hx rfl (hb hby d9_7) rfl (tlt (by decide : (0 : Int32) < (2 : Int32))).2.1 k) ?_
  show Rest p.tables e below s _ _ _ (s₁.setTop (mkF m 10 #[.val (.ref a0), .val (.int (0 : Int32)), .val (.ref a2), .val (.int (0 : Int32)), .val (.int (2 : Int32)), .val (.int (0 : Int32)), .unset] []))
  refine Rest.via (fun t k => XS.aloadN X0.here hx rfl (hb hby d9_10) rfl rfl k) ?_
  show Rest p.tables e below s _ _ _ (s₁.setTop (mkF m 11 #[.val (.ref a0), .val (.int (0 : Int32)), .val (.ref a2), .val (.int (0 : Int32)), .val (.int (2 : Int32)), .val (.int (0 : Int32)), .unset] [(.ref a0)]))
  refine Rest.via (fun t k => XS.iloadN X0.here hx rfl (hb hby d9_11) rfl k) ?_
  show Rest p.tables e below s _ _ _ (s₁.setTop (mkF m 12 #[.val (.ref a0), .val (.int (0 : Int32)), .val (.ref a2), .val (.int (0 : Int32)), .val (.int (2 : Int32)), .val (.int (0 : Int32)), .unset] [(.int (0 : Int32)), (.ref a0)]))
  obtain ⟨cl1, Ar1, qa1, Sa1, Pa1, Ha1, Ga1⟩ := id V0
  have hin1 := inb_of (j := (0 : Int32)) Sa1 ⟨by decide, by decide⟩
  have hat1 : cl1.slots[((0 : Int32)).toNatClampNeg]? = some (.int ca) := Has.at Ha1 hin1 rfl
  refine Rest.via (fun t k => X0.caload hx (j := (0 : Int32)) (v := (.int ca)) (by rw [eh0]; exact Ar1.1) (State.isArrayOf_alike hZ.alike Ar1.2.1) Ar1.2.2 hin1 hat1 (g := (mkF m 12 #[.val (.ref a0), .val (.int (0 : Int32)), .val (.ref a2), .val (.int (0 : Int32)), .val (.int (2 : Int32)), .val (.int (0 : Int32)), .unset] [(.int (0 : Int32)), (.ref a0)])) rfl rfl (hb hby d9_12) t k) ?_
  show Rest p.tables e below s _ _ _ (s₁.setTop (mkF m 13 #[.val (.ref a0), .val (.int (0 : Int32)), .val (.ref a2), .val (.int (0 : Int32)), .val (.int (2 : Int32)), .val (.int (0 : Int32)), .unset] [(.int ca)]))
  refine Rest.via (fun t k => XS.istore X0.here hx rfl (hb hby d9_13) rfl (l' := #[.val (.ref a0), .val (.int (0 : Int32)), .val (.ref a2), .val (.int (0 : Int32)), .val (.int (2 : Int32)), .val (.int (0 : Int32)), .val (.int ca)]) rfl k) ?_
  show Rest p.tables e below s _ _ _ (s₁.setTop (mkF m 15 #[.val (.ref a0), .val (.int (0 : Int32)), .val (.ref a2), .val (.int (0 : Int32)), .val (.int (2 : Int32)), .val (.int (0 : Int32)), .val (.int ca)] []))
  refine Rest.via (fun t k => XS.iload X0.here hx rfl (hb hby d9_15) rfl k) ?_
  show Rest p.tables e below s _ _ _ (s₁.setTop (mkF m 17 #[.val (.ref a0), .val (.int (0 : Int32)), .val (.ref a2), .val (.int (0 : Int32)), .val (.int (2 : Int32)), .val (.int (0 : Int32)), .val (.int ca)] [(.int ca)]))
  refine Rest.via (fun t k => XS.sipush X0.here hx rfl (hb hby d9_17) k) ?_
  show Rest p.tables e below s _ _ _ (s₁.setTop (mkF m 20 #[.val (.ref a0), .val (.int (0 : Int32)), .val (.ref a2), .val (.int (0 : Int32)), .val (.int (2 : Int32)), .val (.int (0 : Int32)), .val (.int ca)] [(.int (255 : Int32)), (.int ca)]))
  refine Rest.via (fun t k => XS.icmpYes X0.here hx rfl (pc0 := 20) (pc' := 26) rfl (hb hby d9_20) rfl (flt (hca : ¬ ((255 : Int32) < ca))).2.2.2 (by decide) (by decide) k) ?_
  show Rest p.tables e below s _ _ _ (s₁.setTop (mkF m 26 #[.val (.ref a0), .val (.int (0 : Int32)), .val (.ref a2), .val (.int (0 : Int32)), .val (.int (2 : Int32)), .val (.int (0 : Int32)), .val (.int ca)] []))
  refine Rest.via (fun t k => XS.aloadN X0.here hx rfl (hb hby d9_26) rfl rfl k) ?_
  show Rest p.tables e below s _ _ _ (s₁.setTop (mkF m 27 #[.val (.ref a0), .val (.int (0 : Int32)), .val (.ref a2), .val (.int (0 : Int32)), .val (.int (2 : Int32)), .val (.int (0 : Int32)), .val (.int ca)] [(.ref a2)]))
  refine Rest.via (fun t k => XS.iloadN X0.here hx rfl (hb hby d9_27) rfl k) ?_
  show Rest p.tables e below s _ _ _ (s₁.setTop (mkF m 28 #[.val (.ref a0), .val (.int (0 : Int32)), .val (.ref a2), .val (.int (0 : Int32)), .val (.int (2 : Int32)), .val (.int (0 : Int32)), .val (.int ca)] [(.int (0 : Int32)), (.ref a2)]))
  refine Rest.via (fun t k => XS.iload X0.here hx rfl (hb hby d9_28) rfl k) ?_
  show Rest p.tables e below s _ _ _ (s₁.setTop (mkF m 30 #[.val (.ref a0), .val (.int (0 : Int32)), .val (.ref a2), .val (.int (0 : Int32)), .val (.int (2 : Int32)), .val (.int (0 : Int32)), .val (.int ca)] [(.int ca), (.int (0 : Int32)), (.ref a2)]))
  refine Rest.via (fun t k => XS.i2b X0.here hx rfl (hb hby d9_30) rfl k) ?_
  show Rest p.tables e below s _ _ _ (s₁.setTop (mkF m 31 #[.val (.ref a0), .val (.int (0 : Int32)), .val (.ref a2), .val (.int (0 : Int32)), .val (.int (2 : Int32)), .val (.int (0 : Int32)), .val (.int ca)] [(.int (ca.toInt8.toInt32)), (.int (0 : Int32)), (.ref a2)]))
  obtain ⟨cl2, Ar2, qa2, Sa2, Pa2, Ha2, Ga2⟩ := id V2
  have hin2 := inb_of (j := (0 : Int32)) Sa2 ⟨by decide, by decide⟩
  obtain ⟨T2, h2, X2, e2, W2, st2⟩ := stB X0 hx hZ eh0 Ar2 (j := (0 : Int32)) hin2 (g := (mkF m 31 #[.val (.ref a0), .val (.int (0 : Int32)), .val (.ref a2), .val (.int (0 : Int32)), .val (.int (2 : Int32)), .val (.int (0 : Int32)), .val (.int ca)] [(.int (ca.toInt8.toInt32)), (.int (0 : Int32)), (.ref a2)])) rfl rfl (hb hby d9_31)
  refine Rest.via (fun t k => st2 t k) ?_
  have N2 := Fr.snoc X2 N0 g_a2
  have K2 : Keep h0 h2 [a2] := (Keep.refl h0 [a2]).wr W2 (Or.inl (List.mem_of_getElem? (i := 0) rfl))
  have V2 : Arv Z h2 a2 kb .byte (2 : Int32) [(.int (own_by ca)), (.int (0 : Int32))] (.int (0 : Int32)) := by have q := Arv.set Ar2 qa2 Sa2 Pa2 Ha2 Ga2 (fits_nar_byte _) W2 0 rfl (Nat.le_of_ble_eq_true rfl); rw [own_by_nar] at q; exact q
  show Rest p.tables e below s _ _ _ (T2.setTop (mkF m 32 #[.val (.ref a0), .val (.int (0 : Int32)), .val (.ref a2), .val (.int (0 : Int32)), .val (.int (2 : Int32)), .val (.int (0 : Int32)), .val (.int ca)] []))
  refine Rest.via (fun t k => XS.iinc X2.here hx rfl (hb hby d9_32) rfl (l' := #[.val (.ref a0), .val (.int ((0 : Int32) + (1 : Int32))), .val (.ref a2), .val (.int (0 : Int32)), .val (.int (2 : Int32)), .val (.int (0 : Int32)), .val (.int ca)]) rfl k) ?_
  show Rest p.tables e below s _ _ _ (T2.setTop (mkF m 35 #[.val (.ref a0), .val (.int ((0 : Int32) + (1 : Int32))), .val (.ref a2), .val (.int (0 : Int32)), .val (.int (2 : Int32)), .val (.int (0 : Int32)), .val (.int ca)] []))
  rw [(by decide : ((0 : Int32) + (1 : Int32)) = (1 : Int32))]
  show Rest p.tables e below s _ _ _ (T2.setTop (mkF m 35 #[.val (.ref a0), .val (.int (1 : Int32)), .val (.ref a2), .val (.int (0 : Int32)), .val (.int (2 : Int32)), .val (.int (0 : Int32)), .val (.int ca)] []))
  refine Rest.via (fun t k => XS.iinc X2.here hx rfl (hb hby d9_35) rfl (l' := #[.val (.ref a0), .val (.int (1 : Int32)), .val (.ref a2), .val (.int ((0 : Int32) + (1 : Int32))), .val (.int (2 : Int32)), .val (.int (0 : Int32)), .val (.int ca)]) rfl k) ?_
  show Rest p.tables e below s _ _ _ (T2.setTop (mkF m 38 #[.val (.ref a0), .val (.int (1 : Int32)), .val (.ref a2), .val (.int ((0 : Int32) + (1 : Int32))), .val (.int (2 : Int32)), .val (.int (0 : Int32)), .val (.int ca)] []))
  rw [(by decide : ((0 : Int32) + (1 : Int32)) = (1 : Int32))]
  show Rest p.tables e below s _ _ _ (T2.setTop (mkF m 38 #[.val (.ref a0), .val (.int (1 : Int32)), .val (.ref a2), .val (.int (1 : Int32)), .val (.int (2 : Int32)), .val (.int (0 : Int32)), .val (.int ca)] []))
  refine Rest.via (fun t k => XS.iinc X2.here hx rfl (hb hby d9_38) rfl (l' := #[.val (.ref a0), .val (.int (1 : Int32)), .val (.ref a2), .val (.int (1 : Int32)), .val (.int (2 : Int32)), .val (.int ((0 : Int32) + (1 : Int32))), .val (.int ca)]) rfl k) ?_
  show Rest p.tables e below s _ _ _ (T2.setTop (mkF m 41 #[.val (.ref a0), .val (.int (1 : Int32)), .val (.ref a2), .val (.int (1 : Int32)), .val (.int (2 : Int32)), .val (.int ((0 : Int32) + (1 : Int32))), .val (.int ca)] []))
  rw [(by decide : ((0 : Int32) + (1 : Int32)) = (1 : Int32))]
  show Rest p.tables e below s _ _ _ (T2.setTop (mkF m 41 #[.val (.ref a0), .val (.int (1 : Int32)), .val (.ref a2), .val (.int (1 : Int32)), .val (.int (2 : Int32)), .val (.int (1 : Int32)), .val (.int ca)] []))
  refine Rest.via (fun t k => XS.goto X2.here hx rfl (pc0 := 41) (pc' := 3) rfl (hb hby d9_41) (by decide) (by decide) k) ?_
  show Rest p.tables e below s _ _ _ (T2.setTop (mkF m 3 #[.val (.ref a0), .val (.int (1 : Int32)), .val (.ref a2), .val (.int (1 : Int32)), .val (.int (2 : Int32)), .val (.int (1 : Int32)), .val (.int ca)] []))
  refine Rest.via (fun t k => XS.iload X2.here hx rfl (hb hby d9_3) rfl k) ?_
  show Rest p.tables e below s _ _ _ (T2.setTop (mkF m 5 #[.val (.ref a0), .val (.int (1 : Int32)), .val (.ref a2), .val (.int (1 : Int32)), .val (.int (2 : Int32)), .val (.int (1 : Int32)), .val (.int ca)] [(.int (1 : Int32))]))
  refine Rest.via (fun t k => XS.iload X2.here hx rfl (hb hby d9_5) rfl k) ?_
  show Rest p.tables e below s _ _ _ (T2.setTop (mkF m 7 #[.val (.ref a0), .val (.int (1 : Int32)), .val (.ref a2), .val (.int (1 : Int32)), .val (.int (2 : Int32)), .val (.int (1 : Int32)), .val (.int ca)] [(.int (2 : Int32)), (.int (1 : Int32))]))
  refine Rest.via (fun t k => XS.icmpNo X2.here hx rfl (hb hby d9_7) rfl (tlt (by decide : (1 : Int32) < (2 : Int32))).2.1 k) ?_
  show Rest p.tables e below s _ _ _ (T2.setTop (mkF m 10 #[.val (.ref a0), .val (.int (1 : Int32)), .val (.ref a2), .val (.int (1 : Int32)), .val (.int (2 : Int32)), .val (.int (1 : Int32)), .val (.int ca)] []))
  refine Rest.via (fun t k => XS.aloadN X2.here hx rfl (hb hby d9_10) rfl rfl k) ?_
  show Rest p.tables e below s _ _ _ (T2.setTop (mkF m 11 #[.val (.ref a0), .val (.int (1 : Int32)), .val (.ref a2), .val (.int (1 : Int32)), .val (.int (2 : Int32)), .val (.int (1 : Int32)), .val (.int ca)] [(.ref a0)]))
  refine Rest.via (fun t k => XS.iloadN X2.here hx rfl (hb hby d9_11) rfl k) ?_
  show Rest p.tables e below s _ _ _ (T2.setTop (mkF m 12 #[.val (.ref a0), .val (.int (1 : Int32)), .val (.ref a2), .val (.int (1 : Int32)), .val (.int (2 : Int32)), .val (.int (1 : Int32)), .val (.int ca)] [(.int (1 : Int32)), (.ref a0)]))
  obtain ⟨cl3, Ar3, qa3, Sa3, Pa3, Ha3, Ga3⟩ := id (V0.other W2 n02)
  have hin3 := inb_of (j := (1 : Int32)) Sa3 ⟨by decide, by decide⟩
  have hat3 : cl3.slots[((1 : Int32)).toNatClampNeg]? = some (.int cb) := Has.at Ha3 hin3 rfl
  refine Rest.via (fun t k => X2.caload hx (j := (1 : Int32)) (v := (.int cb)) (by rw [e2]; exact Ar3.1) (State.isArrayOf_alike hZ.alike Ar3.2.1) Ar3.2.2 hin3 hat3 (g := (mkF m 12 #[.val (.ref a0), .val (.int (1 : Int32)), .val (.ref a2), .val (.int (1 : Int32)), .val (.int (2 : Int32)), .val (.int (1 : Int32)), .val (.int ca)] [(.int (1 : Int32)), (.ref a0)])) rfl rfl (hb hby d9_12) t k) ?_
  show Rest p.tables e below s _ _ _ (T2.setTop (mkF m 13 #[.val (.ref a0), .val (.int (1 : Int32)), .val (.ref a2), .val (.int (1 : Int32)), .val (.int (2 : Int32)), .val (.int (1 : Int32)), .val (.int ca)] [(.int cb)]))
  refine Rest.via (fun t k => XS.istore X2.here hx rfl (hb hby d9_13) rfl (l' := #[.val (.ref a0), .val (.int (1 : Int32)), .val (.ref a2), .val (.int (1 : Int32)), .val (.int (2 : Int32)), .val (.int (1 : Int32)), .val (.int cb)]) rfl k) ?_
  show Rest p.tables e below s _ _ _ (T2.setTop (mkF m 15 #[.val (.ref a0), .val (.int (1 : Int32)), .val (.ref a2), .val (.int (1 : Int32)), .val (.int (2 : Int32)), .val (.int (1 : Int32)), .val (.int cb)] []))
  refine Rest.via (fun t k => XS.iload X2.here hx rfl (hb hby d9_15) rfl k) ?_
  show Rest p.tables e below s _ _ _ (T2.setTop (mkF m 17 #[.val (.ref a0), .val (.int (1 : Int32)), .val (.ref a2), .val (.int (1 : Int32)), .val (.int (2 : Int32)), .val (.int (1 : Int32)), .val (.int cb)] [(.int cb)]))
  refine Rest.via (fun t k => XS.sipush X2.here hx rfl (hb hby d9_17) k) ?_
  show Rest p.tables e below s _ _ _ (T2.setTop (mkF m 20 #[.val (.ref a0), .val (.int (1 : Int32)), .val (.ref a2), .val (.int (1 : Int32)), .val (.int (2 : Int32)), .val (.int (1 : Int32)), .val (.int cb)] [(.int (255 : Int32)), (.int cb)]))
  refine Rest.via (fun t k => XS.icmpYes X2.here hx rfl (pc0 := 20) (pc' := 26) rfl (hb hby d9_20) rfl (flt (hcb : ¬ ((255 : Int32) < cb))).2.2.2 (by decide) (by decide) k) ?_
  show Rest p.tables e below s _ _ _ (T2.setTop (mkF m 26 #[.val (.ref a0), .val (.int (1 : Int32)), .val (.ref a2), .val (.int (1 : Int32)), .val (.int (2 : Int32)), .val (.int (1 : Int32)), .val (.int cb)] []))
  refine Rest.via (fun t k => XS.aloadN X2.here hx rfl (hb hby d9_26) rfl rfl k) ?_
  show Rest p.tables e below s _ _ _ (T2.setTop (mkF m 27 #[.val (.ref a0), .val (.int (1 : Int32)), .val (.ref a2), .val (.int (1 : Int32)), .val (.int (2 : Int32)), .val (.int (1 : Int32)), .val (.int cb)] [(.ref a2)]))
  refine Rest.via (fun t k => XS.iloadN X2.here hx rfl (hb hby d9_27) rfl k) ?_
  show Rest p.tables e below s _ _ _ (T2.setTop (mkF m 28 #[.val (.ref a0), .val (.int (1 : Int32)), .val (.ref a2), .val (.int (1 : Int32)), .val (.int (2 : Int32)), .val (.int (1 : Int32)), .val (.int cb)] [(.int (1 : Int32)), (.ref a2)]))
  refine Rest.via (fun t k => XS.iload X2.here hx rfl (hb hby d9_28) rfl k) ?_
  show Rest p.tables e below s _ _ _ (T2.setTop (mkF m 30 #[.val (.ref a0), .val (.int (1 : Int32)), .val (.ref a2), .val (.int (1 : Int32)), .val (.int (2 : Int32)), .val (.int (1 : Int32)), .val (.int cb)] [(.int cb), (.int (1 : Int32)), (.ref a2)]))
  refine Rest.via (fun t k => XS.i2b X2.here hx rfl (hb hby d9_30) rfl k) ?_
  show Rest p.tables e below s _ _ _ (T2.setTop (mkF m 31 #[.val (.ref a0), .val (.int (1 : Int32)), .val (.ref a2), .val (.int (1 : Int32)), .val (.int (2 : Int32)), .val (.int (1 : Int32)), .val (.int cb)] [(.int (cb.toInt8.toInt32)), (.int (1 : Int32)), (.ref a2)]))
  obtain ⟨cl4, Ar4, qa4, Sa4, Pa4, Ha4, Ga4⟩ := id V2
  have hin4 := inb_of (j := (1 : Int32)) Sa4 ⟨by decide, by decide⟩
  obtain ⟨T4, h4, X4, e4, W4, st4⟩ := stB X2 hx hZ e2 Ar4 (j := (1 : Int32)) hin4 (g := (mkF m 31 #[.val (.ref a0), .val (.int (1 : Int32)), .val (.ref a2), .val (.int (1 : Int32)), .val (.int (2 : Int32)), .val (.int (1 : Int32)), .val (.int cb)] [(.int (cb.toInt8.toInt32)), (.int (1 : Int32)), (.ref a2)])) rfl rfl (hb hby d9_31)
  refine Rest.via (fun t k => st4 t k) ?_
  have N4 := Fr.snoc X4 N2 g_a2
  have K4 : Keep h0 h4 [a2] := K2.wr W4 (Or.inl (List.mem_of_getElem? (i := 0) rfl))
  have V4 : Arv Z h4 a2 kb .byte (2 : Int32) [(.int (own_by ca)), (.int (own_by cb))] (.int (0 : Int32)) := by have q := Arv.set Ar4 qa4 Sa4 Pa4 Ha4 Ga4 (fits_nar_byte _) W4 1 rfl (Nat.le_of_ble_eq_true rfl); rw [own_by_nar] at q; exact q
  show Rest p.tables e below s _ _ _ (T4.setTop (mkF m 32 #[.val (.ref a0), .val (.int (1 : Int32)), .val (.ref a2), .val (.int (1 : Int32)), .val (.int (2 : Int32)), .val (.int (1 : Int32)), .val (.int cb)] []))
  refine Rest.via (fun t k => XS.iinc X4.here hx rfl (hb hby d9_32) rfl (l' := #[.val (.ref a0), .val (.int ((1 : Int32) + (1 : Int32))), .val (.ref a2), .val (.int (1 : Int32)), .val (.int (2 : Int32)), .val (.int (1 : Int32)), .val (.int cb)]) rfl k) ?_
  show Rest p.tables e below s _ _ _ (T4.setTop (mkF m 35 #[.val (.ref a0), .val (.int ((1 : Int32) + (1 : Int32))), .val (.ref a2), .val (.int (1 : Int32)), .val (.int (2 : Int32)), .val (.int (1 : Int32)), .val (.int cb)] []))
  rw [(by decide : ((1 : Int32) + (1 : Int32)) = (2 : Int32))]
  show Rest p.tables e below s _ _ _ (T4.setTop (mkF m 35 #[.val (.ref a0), .val (.int (2 : Int32)), .val (.ref a2), .val (.int (1 : Int32)), .val (.int (2 : Int32)), .val (.int (1 : Int32)), .val (.int cb)] []))
  refine Rest.via (fun t k => XS.iinc X4.here hx rfl (hb hby d9_35) rfl (l' := #[.val (.ref a0), .val (.int (2 : Int32)), .val (.ref a2), .val (.int ((1 : Int32) + (1 : Int32))), .val (.int (2 : Int32)), .val (.int (1 : Int32)), .val (.int cb)]) rfl k) ?_
  show Rest p.tables e below s _ _ _ (T4.setTop (mkF m 38 #[.val (.ref a0), .val (.int (2 : Int32)), .val (.ref a2), .val (.int ((1 : Int32) + (1 : Int32))), .val (.int (2 : Int32)), .val (.int (1 : Int32)), .val (.int cb)] []))
  rw [(by decide : ((1 : Int32) + (1 : Int32)) = (2 : Int32))]
  show Rest p.tables e below s _ _ _ (T4.setTop (mkF m 38 #[.val (.ref a0), .val (.int (2 : Int32)), .val (.ref a2), .val (.int (2 : Int32)), .val (.int (2 : Int32)), .val (.int (1 : Int32)), .val (.int cb)] []))
  refine Rest.via (fun t k => XS.iinc X4.here hx rfl (hb hby d9_38) rfl (l' := #[.val (.ref a0), .val (.int (2 : Int32)), .val (.ref a2), .val (.int (2 : Int32)), .val (.int (2 : Int32)), .val (.int ((1 : Int32) + (1 : Int32))), .val (.int cb)]) rfl k) ?_
  show Rest p.tables e below s _ _ _ (T4.setTop (mkF m 41 #[.val (.ref a0), .val (.int (2 : Int32)), .val (.ref a2), .val (.int (2 : Int32)), .val (.int (2 : Int32)), .val (.int ((1 : Int32) + (1 : Int32))), .val (.int cb)] []))
  rw [(by decide : ((1 : Int32) + (1 : Int32)) = (2 : Int32))]
  show Rest p.tables e below s _ _ _ (T4.setTop (mkF m 41 #[.val (.ref a0), .val (.int (2 : Int32)), .val (.ref a2), .val (.int (2 : Int32)), .val (.int (2 : Int32)), .val (.int (2 : Int32)), .val (.int cb)] []))
  refine Rest.via (fun t k => XS.goto X4.here hx rfl (pc0 := 41) (pc' := 3) rfl (hb hby d9_41) (by decide) (by decide) k) ?_
  show Rest p.tables e below s _ _ _ (T4.setTop (mkF m 3 #[.val (.ref a0), .val (.int (2 : Int32)), .val (.ref a2), .val (.int (2 : Int32)), .val (.int (2 : Int32)), .val (.int (2 : Int32)), .val (.int cb)] []))
  refine Rest.via (fun t k => XS.iload X4.here hx rfl (hb hby d9_3) rfl k) ?_
  show Rest p.tables e below s _ _ _ (T4.setTop (mkF m 5 #[.val (.ref a0), .val (.int (2 : Int32)), .val (.ref a2), .val (.int (2 : Int32)), .val (.int (2 : Int32)), .val (.int (2 : Int32)), .val (.int cb)] [(.int (2 : Int32))]))
  refine Rest.via (fun t k => XS.iload X4.here hx rfl (hb hby d9_5) rfl k) ?_
  show Rest p.tables e below s _ _ _ (T4.setTop (mkF m 7 #[.val (.ref a0), .val (.int (2 : Int32)), .val (.ref a2), .val (.int (2 : Int32)), .val (.int (2 : Int32)), .val (.int (2 : Int32)), .val (.int cb)] [(.int (2 : Int32)), (.int (2 : Int32))]))
  refine Rest.via (fun t k => XS.icmpYes X4.here hx rfl (pc0 := 7) (pc' := 44) rfl (hb hby d9_7) rfl (flt (by decide : ¬ ((2 : Int32) < (2 : Int32)))).2.1 (by decide) (by decide) k) ?_
  show Rest p.tables e below s _ _ _ (T4.setTop (mkF m 44 #[.val (.ref a0), .val (.int (2 : Int32)), .val (.ref a2), .val (.int (2 : Int32)), .val (.int (2 : Int32)), .val (.int (2 : Int32)), .val (.int cb)] []))
  refine Rest.via (fun t k => XS.iload X4.here hx rfl (hb hby d9_44) rfl k) ?_
  show Rest p.tables e below s _ _ _ (T4.setTop (mkF m 46 #[.val (.ref a0), .val (.int (2 : Int32)), .val (.ref a2), .val (.int (2 : Int32)), .val (.int (2 : Int32)), .val (.int (2 : Int32)), .val (.int cb)] [(.int (2 : Int32))]))
  refine Rest.ret X4 (v := some (.int (2 : Int32))) (fun h => by rw [Bd.returns] at h; cases h) hlk (fun fs hr => retOut X4 hx Bd.returns rfl (Or.inl ⟨rfl, Or.inl rfl, _, rfl⟩) (hb hby d9_46) hr) ?_ (by decide) (by decide)
  rw [e4]
  exact ⟨rfl, N4, K4, V4⟩
theorem ef_W2 (m : MethodId) (a0 : Addr) : entryFrame m #[(.ref a0), (.int (0 : Int32)), (.int (2 : Int32))] 6 = mkF m 0 #[.val (.ref a0), .val (.int (0 : Int32)), .val (.int (2 : Int32)), .unset, .unset, .unset] [] := by first | (simp [entryFrame, mkF, argsToLocals, Value.category, maxLocals]; done) | rfl
def QW2 (Z : State) (a0 : Addr) (kc : ClassId) (ca : Int32) (cb : Int32) (h0 : Heap) (n0 : Nat) (v : Option Value) (h : Heap) (L : List Loc) : Prop := ∃ va kb, v = some (.ref va) ∧ Fr n0 L ∧ Keep h0 h [] ∧ h0.size ≤ va ∧ Arv Z h va kb .byte (2 : Int32) [(.int (own_by ca)), (.int (own_by cb))] (.int (0 : Int32))
set_option maxRecDepth 65536 in
set_option maxHeartbeats 40000000 in
theorem rmW2 (l : Launch) (Z : State) (aw : Array Value) (hw : ∀ d ∈ tables_1, d.before aw Z = true) (ws : List Jvm.Cond) (a0 : Addr) (kc : ClassId) (ca : Int32) (cb : Int32) (h0 : Heap) (n0 : Nat) (Z0 : n0 ≤ h0.size) (V0 : Arv Z h0 a0 kc .char (2 : Int32) [(.int ca), (.int cb)] (.int (0 : Int32))) (hca : ¬ ((255 : Int32) < ca)) (hcb : ¬ ((255 : Int32) < cb)) :
    MetFree l (⟨"java/lang/StringUTF16", "compress", "([CII)[B"⟩ : MethodName) (head1 (Jvm.Cond.code (⟨"java/lang/StringUTF16", "compress", "([CII)[B"⟩ : MethodName) jdk_52_method_16_code 6 (some (.array .byte)) :: ws) ({ frames := 1, cells := 1, slots := 2, locals := 18 } : Room)) (fun a U => a = #[(.ref a0), (.int (0 : Int32)), (.int (2 : Int32))] ∧ Z.Warmed39 U.vm ∧ U.heap = h0) (fun _ _ _ _ _ => True) (fun _ U o U' => ∃ v L, o = .returned v ∧ QW2 Z a0 kc ca cb h0 n0 v U'.heap L ∧ FrameEnd U o U' L ({ frames := 1, cells := 1, slots := 2, locals := 18 } : Room).cells ({ frames := 1, cells := 1, slots := 2, locals := 18 } : Room).slots) := by
  refine MetFree.of_bodySF (plainFor_of_name pn_0) hisR ?_
  intro p e s m args below meth c s₁ Bd hml0 hP hK
  obtain ⟨rfl, hZ, hh⟩ := hP
  have hx := Bd.exec
  have hby := Bd.bytes
  have hml : c.maxLocals = 6 := hml0
  have hown : s.vm.findClass "java/lang/StringUTF16" = some m.cls := findClass_of_methodNamed Bd.named
  have hnm := (name_of_methodNamed Bd.named Bd.method).1
  have hlk : meth.locks = false := BodyLoose.notSynchronized Bd
  have X0 : Stand p l e ({ frames := 1, cells := 1, slots := 2, locals := 18 } : Room) s m #[(.ref a0), (.int (0 : Int32)), (.int (2 : Int32))] below meth c s₁ [] 0 0 := Stand.of_body Bd
  have _u := trivial
  have eh0 : s₁.heap = h0 := by rw [← hh, Bd.state]; rfl
  have N0 := Fr.nil n0
  show Rest p.tables e below s (QW2 Z a0 kc ca cb h0 n0) _ _ (s₁.setTop (entryFrame m #[(.ref a0), (.int (0 : Int32)), (.int (2 : Int32))] 6))
  refine Rest.via (fun t k => castTop (ef_W2 m a0) k) ?_
  show Rest p.tables e below s _ _ _ (s₁.setTop (mkF m 0 #[.val (.ref a0), .val (.int (0 : Int32)), .val (.int (2 : Int32)), .unset, .unset, .unset] []))
  refine Rest.via (fun t k => XS.iloadN X0.here hx rfl (hb hby d8_0) rfl k) ?_
  show Rest p.tables e below s _ _ _ (s₁.setTop (mkF m 1 #[.val (.ref a0), .val (.int (0 : Int32)), .val (.int (2 : Int32)), .unset, .unset, .unset] [(.int (2 : Int32))]))
  obtain ⟨T1, h1, k1, X1, e1, E1, A1, st1⟩ := newP X0 hx hZ (hw _ (List.mem_of_getElem? (i := 22) rfl)) eh0 (g := (mkF m 1 #[.val (.ref a0), .val (.int (0 : Int32)), .val (.int (2 : Int32)), .unset, .unset, .unset] [(.int (2 : Int32))])) rfl (hb hby d8_1) rfl (by decide) (cap := 2) (by decide) (by decide) (by decide) (by decide)
  obtain ⟨b1, gq1⟩ : ∃ z, z = h0.size := ⟨_, rfl⟩
  rw [← gq1] at A1 st1
  have sz_b1 : h0.size ≤ b1 := Nat.le_trans (Keep.refl h0 []).1 (Nat.le_of_eq gq1.symm)
  have g_b1 : n0 ≤ b1 := Nat.le_trans Z0 sz_b1
  have ne_a0_b1 : a0 ≠ b1 := Nat.ne_of_lt (Nat.lt_of_lt_of_le V0.lt (Nat.le_of_eq gq1.symm))
  have K1 : Keep h0 h1 [] := (Keep.refl h0 []).ext E1
  have V_b1 := Arv.new A1 (by decide)
  have V_b1 : Arv Z h1 b1 k1 .byte (2 : Int32) [(.int (0 : Int32)), (.int (0 : Int32))] (.int (0 : Int32)) := V_b1.pad (pad_rep [] (.int (0 : Int32)) 2)
  refine Rest.via (fun t k => st1 t k) ?_
  show Rest p.tables e below s _ _ _ (T1.setTop (mkF m 3 #[.val (.ref a0), .val (.int (0 : Int32)), .val (.int (2 : Int32)), .unset, .unset, .unset] [(.ref b1)]))
  refine Rest.via (fun t k => XS.astoreN X1.here hx rfl (hb hby d8_3) rfl rfl (l' := #[.val (.ref a0), .val (.int (0 : Int32)), .val (.int (2 : Int32)), .val (.ref b1), .unset, .unset]) rfl k) ?_
  show Rest p.tables e below s _ _ _ (T1.setTop (mkF m 4 #[.val (.ref a0), .val (.int (0 : Int32)), .val (.int (2 : Int32)), .val (.ref b1), .unset, .unset] []))
  refine Rest.via (fun t k => XS.aloadN X1.here hx rfl (hb hby d8_4) rfl rfl k) ?_
  show Rest p.tables e below s _ _ _ (T1.setTop (mkF m 5 #[.val (.ref a0), .val (.int (0 : Int32)), .val (.int (2 : Int32)), .val (.ref b1), .unset, .unset] [(.ref a0)]))
  refine Rest.via (fun t k => XS.iloadN X1.here hx rfl (hb hby d8_5) rfl k) ?_
  show Rest p.tables e below s _ _ _ (T1.setTop (mkF m 6 #[.val (.ref a0), .val (.int (0 : Int32)), .val (.int (2 : Int32)), .val (.ref b1), .unset, .unset] [(.int (0 : Int32)), (.ref a0)]))
  refine Rest.via (fun t k => XS.aloadN X1.here hx rfl (hb hby d8_6) rfl rfl k) ?_
  show Rest p.tables e below s _ _ _ (T1.setTop (mkF m 7 #[.val (.ref a0), .val (.int (0 : Int32)), .val (.int (2 : Int32)), .val (.ref b1), .unset, .unset] [(.ref b1), (.int (0 : Int32)), (.ref a0)]))
  refine Rest.via (fun t k => XS.iconst X1.here hx rfl (hb hby d8_7) k) ?_
  show Rest p.tables e below s _ _ _ (T1.setTop (mkF m 8 #[.val (.ref a0), .val (.int (0 : Int32)), .val (.int (2 : Int32)), .val (.ref b1), .unset, .unset] [(.int (0 : Int32)), (.ref b1), (.int (0 : Int32)), (.ref a0)]))
  refine Rest.via (fun t k => XS.iloadN X1.here hx rfl (hb hby d8_8) rfl k) ?_
  show Rest p.tables e below s _ _ _ (T1.setTop (mkF m 9 #[.val (.ref a0), .val (.int (0 : Int32)), .val (.int (2 : Int32)), .val (.ref b1), .unset, .unset] [(.int (2 : Int32)), (.int (0 : Int32)), (.ref b1), (.int (0 : Int32)), (.ref a0)]))
  obtain ⟨_, _, ⟨T2, L2, k2, n2⟩, -, X2, ⟨Lc2, hQ2, l2, y2, z2⟩, st2⟩ := Jvm.LawKit.callS X1 hx (y := (⟨"java/lang/StringUTF16", "compress", "([CI[BII)I"⟩ : MethodName)) hown (mvT hZ (hw _ (List.mem_of_getElem? (i := 50) rfl))) (mvT hZ (hw _ (List.mem_of_getElem? (i := 51) rfl))) (mvT hZ (hw _ (List.mem_of_getElem? (i := 48) rfl))) (mvT hZ (hw _ (List.mem_of_getElem? (i := 52) rfl))) (by decide) (backOf (W := 0) (rmU2 l Z aw hw [] a0 b1 kc k1 ca cb h1 n0 (Nat.le_trans Z0 K1.1) (V0.ext E1) V_b1 ne_a0_b1 g_b1 hca hcb) hZ (hw _ (List.mem_of_getElem? (i := 52) rfl)) (hw _ (List.mem_of_getElem? (i := 48) rfl)) (by decide) (by decide)) (g := (mkF m 9 #[.val (.ref a0), .val (.int (0 : Int32)), .val (.int (2 : Int32)), .val (.ref b1), .unset, .unset] [(.int (2 : Int32)), (.int (0 : Int32)), (.ref b1), (.int (0 : Int32)), (.ref a0)])) rfl (by rw [hml]; rfl) (argsL := [(.ref a0), (.int (0 : Int32)), (.ref b1), (.int (0 : Int32)), (.int (2 : Int32))]) (rest := []) (lenOf pd_0 rfl) rfl (by show 2 * 0 + _ ≤ _; exact Nat.le_of_eq rfl) (hb hby d8_9) (fun _ _ => ⟨rfl, e1, (by decide : 1 + 0 ≤ _), (by decide : 2 + 0 ≤ _)⟩)
  dsimp only [Pt.U, Pt.locs, Pt.cells, Pt.slots] at X2 l2 y2 z2 st2 hQ2
  subst l2 y2 z2
  obtain ⟨h2, e2⟩ : ∃ z, T2.heap = z := ⟨_, rfl⟩
  rw [e2] at hQ2
  obtain ⟨rfl, Nq2, Kq2, Vq2⟩ := hQ2
  have N2 := Fr.app N0 Nq2
  have K2 : Keep h0 h2 [] := K1.trans Kq2 (allS (Or.inr sz_b1) all0)
  refine Rest.via (fun t k => st2 t k) ?_
  show Rest p.tables e below s _ _ _ (T2.setTop (mkF m 12 #[.val (.ref a0), .val (.int (0 : Int32)), .val (.int (2 : Int32)), .val (.ref b1), .unset, .unset] [(.int (2 : Int32))]))
  refine Rest.via (fun t k => XS.istore X2.here hx rfl (hb hby d8_12) rfl (l' := #[.val (.ref a0), .val (.int (0 : Int32)), .val (.int (2 : Int32)), .val (.ref b1), .val (.int (2 : Int32)), .unset]) rfl k) ?_
  show Rest p.tables e below s _ _ _ (T2.setTop (mkF m 14 #[.val (.ref a0), .val (.int (0 : Int32)), .val (.int (2 : Int32)), .val (.ref b1), .val (.int (2 : Int32)), .unset] []))
  refine Rest.via (fun t k => XS.iload X2.here hx rfl (hb hby d8_14) rfl k) ?_
  show Rest p.tables e below s _ _ _ (T2.setTop (mkF m 16 #[.val (.ref a0), .val (.int (0 : Int32)), .val (.int (2 : Int32)), .val (.ref b1), .val (.int (2 : Int32)), .unset] [(.int (2 : Int32))]))
  refine Rest.via (fun t k => XS.iloadN X2.here hx rfl (hb hby d8_16) rfl k) ?_
  show Rest p.tables e below s _ _ _ (T2.setTop (mkF m 17 #[.val (.ref a0), .val (.int (0 : Int32)), .val (.int (2 : Int32)), .val (.ref b1), .val (.int (2 : Int32)), .unset] [(.int (2 : Int32)), (.int (2 : Int32))]))
  refine Rest.via (fun t k => XS.icmpYes X2.here hx rfl (pc0 := 17) (pc' := 57) rfl (hb hby d8_17) rfl (teq (by decide : (2 : Int32) = (2 : Int32))).1 (by decide) (by decide) k) ?_
  show Rest p.tables e below s _ _ _ (T2.setTop (mkF m 57 #[.val (.ref a0), .val (.int (0 : Int32)), .val (.int (2 : Int32)), .val (.ref b1), .val (.int (2 : Int32)), .unset] []))
  refine Rest.via (fun t k => XS.aloadN X2.here hx rfl (hb hby d8_57) rfl rfl k) ?_
  show Rest p.tables e below s _ _ _ (T2.setTop (mkF m 58 #[.val (.ref a0), .val (.int (0 : Int32)), .val (.int (2 : Int32)), .val (.ref b1), .val (.int (2 : Int32)), .unset] [(.ref b1)]))
  refine Rest.ret X2 (v := some (.ref b1)) (fun h => by rw [Bd.returns] at h; cases h) hlk (fun fs hr => retOut X2 hx Bd.returns rfl (Or.inr (Or.inr (Or.inr (Or.inr ⟨rfl, rfl, rfl⟩)))) (hb hby d8_58) hr) ?_ (by decide) (by decide)
  rw [e2]
  exact ⟨b1, k1, rfl, N2, K2, sz_b1, Vq2⟩
theorem ef_C2 (m : MethodId) (a0 : Addr) : entryFrame m #[(.ref a0), (.int (2 : Int32))] 2 = mkF m 0 #[.val (.ref a0), .val (.int (2 : Int32))] [] := by first | (simp [entryFrame, mkF, argsToLocals, Value.category, maxLocals]; done) | rfl
def QC2 (Z : State) (a0 : Addr) (k : ClassId) (vs : List Value) (h0 : Heap) (n0 : Nat) (v : Option Value) (h : Heap) (L : List Loc) : Prop := v = some (.int (0 : Int32)) ∧ Fr n0 L ∧ h = h0
set_option maxRecDepth 65536 in
set_option maxHeartbeats 40000000 in
theorem rmC2 (l : Launch) (Z : State) (aw : Array Value) (hw : ∀ d ∈ tables_1, d.before aw Z = true) (ws : List Jvm.Cond) (a0 : Addr) (k : ClassId) (vs : List Value) (h0 : Heap) (n0 : Nat) (Z0 : n0 ≤ h0.size) (V0 : Arv Z h0 a0 k .byte (2 : Int32) vs (.int (0 : Int32))) :
    MetFree l (⟨"java/lang/StringUTF16", "coderFromArrayLen", "([BI)B"⟩ : MethodName) (head1 (Jvm.Cond.code (⟨"java/lang/StringUTF16", "coderFromArrayLen", "([BI)B"⟩ : MethodName) jdk_52_method_15_code 2 (some .byte) :: ws) ({ frames := 0, cells := 0, slots := 0, locals := 0 } : Room)) (fun a U => a = #[(.ref a0), (.int (2 : Int32))] ∧ Z.Warmed39 U.vm ∧ U.heap = h0) (fun _ _ _ _ _ => True) (fun _ U o U' => ∃ v L, o = .returned v ∧ QC2 Z a0 k vs h0 n0 v U'.heap L ∧ FrameEnd U o U' L ({ frames := 0, cells := 0, slots := 0, locals := 0 } : Room).cells ({ frames := 0, cells := 0, slots := 0, locals := 0 } : Room).slots) := by
  refine MetFree.of_bodySF (plainFor_of_name pn_0) hisR ?_
  intro p e s m args below meth c s₁ Bd hml0 hP hK
  obtain ⟨rfl, hZ, hh⟩ := hP
  have hx := Bd.exec
  have hby := Bd.bytes
  have hml : c.maxLocals = 2 := hml0
  have hown : s.vm.findClass "java/lang/StringUTF16" = some m.cls := findClass_of_methodNamed Bd.named
  have hnm := (name_of_methodNamed Bd.named Bd.method).1
  have hlk : meth.locks = false := BodyLoose.notSynchronized Bd
  have X0 : Stand p l e ({ frames := 0, cells := 0, slots := 0, locals := 0 } : Room) s m #[(.ref a0), (.int (2 : Int32))] below meth c s₁ [] 0 0 := Stand.of_body Bd
  have _u := trivial
  have eh0 : s₁.heap = h0 := by rw [← hh, Bd.state]; rfl
  have N0 := Fr.nil n0
  show Rest p.tables e below s (QC2 Z a0 k vs h0 n0) _ _ (s₁.setTop (entryFrame m #[(.ref a0), (.int (2 : Int32))] 2))
  refine Rest.via (fun t k => castTop (ef_C2 m a0) k) ?_
  show Rest p.tables e below s _ _ _ (s₁.setTop (mkF m 0 #[.val (.ref a0), .val (.int (2 : Int32))] []))
  refine Rest.via (fun t k => XS.iloadN X0.here hx rfl (hb hby d10_0) rfl k) ?_
  show Rest p.tables e below s _ _ _ (s₁.setTop (mkF m 1 #[.val (.ref a0), .val (.int (2 : Int32))] [(.int (2 : Int32))]))
  refine Rest.via (fun t k => XS.aloadN X0.here hx rfl (hb hby d10_1) rfl rfl k) ?_
  show Rest p.tables e below s _ _ _ (s₁.setTop (mkF m 2 #[.val (.ref a0), .val (.int (2 : Int32))] [(.ref a0), (.int (2 : Int32))]))
  obtain ⟨cl1, Ar1, -, S1, P1, -, -⟩ := id V0
  refine Rest.via (fun t k => X0.arraylength hx (by rw [eh0]; exact Ar1.1) (State.isArrayOf_alike hZ.alike Ar1.2.1) (g := (mkF m 2 #[.val (.ref a0), .val (.int (2 : Int32))] [(.ref a0), (.int (2 : Int32))])) rfl rfl (hb hby d10_2) t k) ?_
  rw [len_of S1 P1]
  show Rest p.tables e below s _ _ _ (s₁.setTop (mkF m 3 #[.val (.ref a0), .val (.int (2 : Int32))] [(.int (2 : Int32)), (.int (2 : Int32))]))
  refine Rest.via (fun t k => XS.isub X0.here hx rfl (hb hby d10_3) rfl k) ?_
  show Rest p.tables e below s _ _ _ (s₁.setTop (mkF m 4 #[.val (.ref a0), .val (.int (2 : Int32))] [(.int ((2 : Int32) - (2 : Int32)))]))
  rw [(by decide : ((2 : Int32) - (2 : Int32)) = (0 : Int32))]
  show Rest p.tables e below s _ _ _ (s₁.setTop (mkF m 4 #[.val (.ref a0), .val (.int (2 : Int32))] [(.int (0 : Int32))]))
  refine Rest.via (fun t k => XS.bipush X0.here hx rfl (hb hby d10_4) k) ?_
  show Rest p.tables e below s _ _ _ (s₁.setTop (mkF m 6 #[.val (.ref a0), .val (.int (2 : Int32))] [(.int (31 : Int32)), (.int (0 : Int32))]))
  refine Rest.via (fun t k => XS.iushr X0.here hx rfl (hb hby d10_6) rfl k) ?_
  show Rest p.tables e below s _ _ _ (s₁.setTop (mkF m 7 #[.val (.ref a0), .val (.int (2 : Int32))] [(.int (((0 : Int32).toUInt32 >>> ((31 : Int32) &&& 31).toUInt32).toInt32))]))
  rw [(by decide : (((0 : Int32).toUInt32 >>> ((31 : Int32) &&& 31).toUInt32).toInt32) = (0 : Int32))]
  show Rest p.tables e below s _ _ _ (s₁.setTop (mkF m 7 #[.val (.ref a0), .val (.int (2 : Int32))] [(.int (0 : Int32))]))
  refine Rest.via (fun t k => XS.i2b X0.here hx rfl (hb hby d10_7) rfl k) ?_
  show Rest p.tables e below s _ _ _ (s₁.setTop (mkF m 8 #[.val (.ref a0), .val (.int (2 : Int32))] [(.int ((0 : Int32).toInt8.toInt32))]))
  rw [(by decide : ((0 : Int32).toInt8.toInt32) = (0 : Int32))]
  show Rest p.tables e below s _ _ _ (s₁.setTop (mkF m 8 #[.val (.ref a0), .val (.int (2 : Int32))] [(.int (0 : Int32))]))
  refine Rest.ret X0 (v := some (.int (nar .byte (0 : Int32)))) (fun h => by rw [Bd.returns] at h; cases h) hlk (fun fs hr => retN X0 hx (t := .byte) Bd.returns (by simp) (hb hby d10_8) hr) ?_ (by decide) (by decide)
  rw [eh0]
  exact ⟨rfl, N0, rfl⟩
theorem ef_SJ2 (m : MethodId) (a0 : Addr) (a1 : Addr) : entryFrame m #[(.ref a0), (.ref a1), (.int (0 : Int32)), (.int (2 : Int32)), .null] 6 = mkF m 0 #[.val (.ref a0), .val (.ref a1), .val (.int (0 : Int32)), .val (.int (2 : Int32)), .val .null, .unset] [] := by first | (simp [entryFrame, mkF, argsToLocals, Value.category, maxLocals]; done) | rfl
def QSJ2 (Z : State) (a0 : Addr) (a1 : Addr) (kc : ClassId) (ic : Int32) (ca : Int32) (cb : Int32) (h0 : Heap) (n0 : Nat) (v : Option Value) (h : Heap) (L : List Loc) : Prop := v = none ∧ Fr n0 L ∧ Keep h0 h [a0] ∧ ∃ va kb, h0.size ≤ va ∧ Fld Z h a0 "java/lang/String" "value" "[B" (.ref va) ∧ Fld Z h a0 "java/lang/String" "coder" "B" (.int (0 : Int32)) ∧ Arv Z h va kb .byte (2 : Int32) [(.int (own_by ca)), (.int (own_by cb))] (.int (0 : Int32)) ∧ a0 ≠ va
set_option maxRecDepth 65536 in
set_option maxHeartbeats 40000000 in
theorem rmSJ2 (l : Launch) (Z : State) (aw : Array Value) (hw : ∀ d ∈ tables_1, d.before aw Z = true) (ws : List Jvm.Cond) (a0 : Addr) (a1 : Addr) (kc : ClassId) (ic : Int32) (ca : Int32) (cb : Int32) (h0 : Heap) (n0 : Nat) (Z0 : n0 ≤ h0.size) (E_a0 : Exa Z h0 a0 "java/lang/String") (F_v : Fld Z h0 a0 "java/lang/String" "value" "[B" .null) (F_c : Fld Z h0 a0 "java/lang/String" "coder" "B" (.int (0 : Int32))) (g_a0 : n0 ≤ a0) (V1 : Arv Z h0 a1 kc .char (2 : Int32) [(.int ca), (.int cb)] (.int (0 : Int32))) (hca : ¬ ((255 : Int32) < ca)) (hcb : ¬ ((255 : Int32) < cb)) (O : Old Z n0 h0) (CS : own_CS Z ic) :
    MetFree l (⟨"java/lang/String", "<init>", "([CIILjava/lang/Void;)V"⟩ : MethodName) (head1 (Jvm.Cond.code (⟨"java/lang/String", "<init>", "([CIILjava/lang/Void;)V"⟩ : MethodName) jdk_42_method_149_code 6 none :: ws) ({ frames := 2, cells := 1, slots := 2, locals := 35 } : Room)) (fun a U => a = #[(.ref a0), (.ref a1), (.int (0 : Int32)), (.int (2 : Int32)), .null] ∧ Z.Warmed39 U.vm ∧ U.heap = h0) (fun _ _ _ _ _ => True) (fun _ U o U' => ∃ v L, o = .returned v ∧ QSJ2 Z a0 a1 kc ic ca cb h0 n0 v U'.heap L ∧ FrameEnd U o U' L ({ frames := 2, cells := 1, slots := 2, locals := 35 } : Room).cells ({ frames := 2, cells := 1, slots := 2, locals := 35 } : Room).slots) := by
  refine MetFree.of_bodySF (plainFor_of_name pn_1) hisR ?_
  intro p e s m args below meth c s₁ Bd hml0 hP hK
  obtain ⟨rfl, hZ, hh⟩ := hP
  have hx := Bd.exec
  have hby := Bd.bytes
  have hml : c.maxLocals = 6 := hml0
  have hown : s.vm.findClass "java/lang/String" = some m.cls := findClass_of_methodNamed Bd.named
  have hnm := (name_of_methodNamed Bd.named Bd.method).1
  have hlk : meth.locks = false := BodyLoose.notSynchronized Bd
  have X0 : Stand p l e ({ frames := 2, cells := 1, slots := 2, locals := 35 } : Room) s m #[(.ref a0), (.ref a1), (.int (0 : Int32)), (.int (2 : Int32)), .null] below meth c s₁ [] 0 0 := Stand.of_body Bd
  have _u := trivial
  have eh0 : s₁.heap = h0 := by rw [← hh, Bd.state]; rfl
  have N0 := Fr.nil n0
  show Rest p.tables e below s (QSJ2 Z a0 a1 kc ic ca cb h0 n0) _ _ (s₁.setTop (entryFrame m #[(.ref a0), (.ref a1), (.int (0 : Int32)), (.int (2 : Int32)), .null] 6))
  refine Rest.via (fun t k => castTop (ef_SJ2 m a0 a1) k) ?_
  show Rest p.tables e below s _ _ _ (s₁.setTop (mkF m 0 #[.val (.ref a0), .val (.ref a1), .val (.int (0 : Int32)), .val (.int (2 : Int32)), .val .null, .unset] []))
  refine Rest.via (fun t k => XS.aloadN X0.here hx rfl (hb hby d3_0) rfl rfl k) ?_
  show Rest p.tables e below s _ _ _ (s₁.setTop (mkF m 1 #[.val (.ref a0), .val (.ref a1), .val (.int (0 : Int32)), .val (.int (2 : Int32)), .val .null, .unset] [(.ref a0)]))
  obtain ⟨T1, X1, e1, st1⟩ := initO X0 hx hZ hown (hw _ (List.mem_of_getElem? (i := 18) rfl)) (hw _ (List.mem_of_getElem? (i := 19) rfl)) (hw _ (List.mem_of_getElem? (i := 20) rfl)) eh0 (g := (mkF m 1 #[.val (.ref a0), .val (.ref a1), .val (.int (0 : Int32)), .val (.int (2 : Int32)), .val .null, .unset] [(.ref a0)])) rfl (by rw [hml]; rfl) rfl (hb hby d3_1) (by decide) (W := 0) (by show 2 * 0 + _ ≤ _; exact Nat.le_of_eq rfl) (by decide)
  refine Rest.via (fun t k => st1 t k) ?_
  show Rest p.tables e below s _ _ _ (T1.setTop (mkF m 4 #[.val (.ref a0), .val (.ref a1), .val (.int (0 : Int32)), .val (.int (2 : Int32)), .val .null, .unset] []))
  refine Rest.via (fun t k => XS.iloadN X1.here hx rfl (hb hby d3_4) rfl k) ?_
  show Rest p.tables e below s _ _ _ (T1.setTop (mkF m 5 #[.val (.ref a0), .val (.ref a1), .val (.int (0 : Int32)), .val (.int (2 : Int32)), .val .null, .unset] [(.int (2 : Int32))]))
  refine Rest.via (fun t k => XS.ifYes X1.here hx rfl (pc0 := 5) (pc' := 27) rfl (hb hby d3_5) rfl ((if0 _ _).trans (feq (by decide : ¬ ((2 : Int32) = (0 : Int32)))).2) (by decide) (by decide) k) ?_
  show Rest p.tables e below s _ _ _ (T1.setTop (mkF m 27 #[.val (.ref a0), .val (.ref a1), .val (.int (0 : Int32)), .val (.int (2 : Int32)), .val .null, .unset] []))
  obtain ⟨T2, X2, e2, st2⟩ := getS2 X1 hx hZ hown (host := "") (Or.inl (hw _ (List.mem_of_getElem? (i := 45) rfl))) Via.refl e1 (CS.1.ext (O.keep (Keep.refl h0 [a0]) (allS g_a0 all0)).2) (g := (mkF m 27 #[.val (.ref a0), .val (.ref a1), .val (.int (0 : Int32)), .val (.int (2 : Int32)), .val .null, .unset] [])) rfl (hb hby d3_27)
  refine Rest.via (fun t k => st2 t k) ?_
  show Rest p.tables e below s _ _ _ (T2.setTop (mkF m 30 #[.val (.ref a0), .val (.ref a1), .val (.int (0 : Int32)), .val (.int (2 : Int32)), .val .null, .unset] [(.int ic)]))
  refine Rest.via (fun t k => XS.ifNo X2.here hx rfl (hb hby d3_30) rfl ((if0 _ _).trans (feq (CS.2 : ¬ (ic = (0 : Int32)))).1) k) ?_
  show Rest p.tables e below s _ _ _ (T2.setTop (mkF m 33 #[.val (.ref a0), .val (.ref a1), .val (.int (0 : Int32)), .val (.int (2 : Int32)), .val .null, .unset] []))
  refine Rest.via (fun t k => XS.aloadN X2.here hx rfl (hb hby d3_33) rfl rfl k) ?_
  show Rest p.tables e below s _ _ _ (T2.setTop (mkF m 34 #[.val (.ref a0), .val (.ref a1), .val (.int (0 : Int32)), .val (.int (2 : Int32)), .val .null, .unset] [(.ref a1)]))
  refine Rest.via (fun t k => XS.iloadN X2.here hx rfl (hb hby d3_34) rfl k) ?_
  show Rest p.tables e below s _ _ _ (T2.setTop (mkF m 35 #[.val (.ref a0), .val (.ref a1), .val (.int (0 : Int32)), .val (.int (2 : Int32)), .val .null, .unset] [(.int (0 : Int32)), (.ref a1)]))
  refine Rest.via (fun t k => XS.iloadN X2.here hx rfl (hb hby d3_35) rfl k) ?_
  show Rest p.tables e below s _ _ _ (T2.setTop (mkF m 36 #[.val (.ref a0), .val (.ref a1), .val (.int (0 : Int32)), .val (.int (2 : Int32)), .val .null, .unset] [(.int (2 : Int32)), (.int (0 : Int32)), (.ref a1)]))
  obtain ⟨_, _, ⟨T3, L3, k3, n3⟩, -, X3, ⟨Lc3, hQ3, l3, y3, z3⟩, st3⟩ := Jvm.LawKit.callS X2 hx (y := (⟨"java/lang/StringUTF16", "compress", "([CII)[B"⟩ : MethodName)) hown (mvT hZ (hw _ (List.mem_of_getElem? (i := 46) rfl))) (mvT hZ (hw _ (List.mem_of_getElem? (i := 47) rfl))) (mvT hZ (hw _ (List.mem_of_getElem? (i := 48) rfl))) (mvT hZ (hw _ (List.mem_of_getElem? (i := 49) rfl))) (by decide) (backOf (W := 0) (rmW2 l Z aw hw [] a1 kc ca cb h0 n0 (Nat.le_trans Z0 (Keep.refl h0 [a0]).1) V1 hca hcb) hZ (hw _ (List.mem_of_getElem? (i := 49) rfl)) (hw _ (List.mem_of_getElem? (i := 48) rfl)) (by decide) (by decide)) (g := (mkF m 36 #[.val (.ref a0), .val (.ref a1), .val (.int (0 : Int32)), .val (.int (2 : Int32)), .val .null, .unset] [(.int (2 : Int32)), (.int (0 : Int32)), (.ref a1)])) rfl (by rw [hml]; rfl) (argsL := [(.ref a1), (.int (0 : Int32)), (.int (2 : Int32))]) (rest := []) (lenOf pd_1 rfl) rfl (by show 2 * 0 + _ ≤ _; exact Nat.le_of_eq rfl) (hb hby d3_36) (fun _ _ => ⟨rfl, e2, (by decide : 0 + 1 ≤ _), (by decide : 0 + 2 ≤ _)⟩)
  dsimp only [Pt.U, Pt.locs, Pt.cells, Pt.slots] at X3 l3 y3 z3 st3 hQ3
  subst l3 y3 z3
  obtain ⟨h3, e3⟩ : ∃ z, T3.heap = z := ⟨_, rfl⟩
  rw [e3] at hQ3
  obtain ⟨va3, kb3, rfl, Nq3, Kq3, sd3, Vq3⟩ := hQ3
  have N3 := Fr.app N0 Nq3
  have sz_va3 : h0.size ≤ va3 := Nat.le_trans (Keep.refl h0 [a0]).1 sd3
  have ne_a0_va3 : a0 ≠ va3 := Nat.ne_of_lt (Nat.lt_of_lt_of_le E_a0.lt sd3)
  have K3 : Keep h0 h3 [a0] := (Keep.refl h0 [a0]).trans Kq3 all0
  refine Rest.via (fun t k => st3 t k) ?_
  show Rest p.tables e below s _ _ _ (T3.setTop (mkF m 39 #[.val (.ref a0), .val (.ref a1), .val (.int (0 : Int32)), .val (.int (2 : Int32)), .val .null, .unset] [(.ref va3)]))
  refine Rest.via (fun t k => XS.astore X3.here hx rfl (hb hby d3_39) rfl rfl (l' := #[.val (.ref a0), .val (.ref a1), .val (.int (0 : Int32)), .val (.int (2 : Int32)), .val .null, .val (.ref va3)]) rfl k) ?_
  show Rest p.tables e below s _ _ _ (T3.setTop (mkF m 41 #[.val (.ref a0), .val (.ref a1), .val (.int (0 : Int32)), .val (.int (2 : Int32)), .val .null, .val (.ref va3)] []))
  refine Rest.via (fun t k => XS.aloadN X3.here hx rfl (hb hby d3_41) rfl rfl k) ?_
  show Rest p.tables e below s _ _ _ (T3.setTop (mkF m 42 #[.val (.ref a0), .val (.ref a1), .val (.int (0 : Int32)), .val (.int (2 : Int32)), .val .null, .val (.ref va3)] [(.ref a0)]))
  refine Rest.via (fun t k => XS.aload X3.here hx rfl (hb hby d3_42) rfl rfl k) ?_
  show Rest p.tables e below s _ _ _ (T3.setTop (mkF m 44 #[.val (.ref a0), .val (.ref a1), .val (.int (0 : Int32)), .val (.int (2 : Int32)), .val .null, .val (.ref va3)] [(.ref va3), (.ref a0)]))
  refine Rest.via (fun t k => XS.iloadN X3.here hx rfl (hb hby d3_44) rfl k) ?_
  show Rest p.tables e below s _ _ _ (T3.setTop (mkF m 45 #[.val (.ref a0), .val (.ref a1), .val (.int (0 : Int32)), .val (.int (2 : Int32)), .val .null, .val (.ref va3)] [(.int (2 : Int32)), (.ref va3), (.ref a0)]))
  obtain ⟨_, _, ⟨T4, L4, k4, n4⟩, -, X4, ⟨Lc4, hQ4, l4, y4, z4⟩, st4⟩ := Jvm.LawKit.callS X3 hx (y := (⟨"java/lang/StringUTF16", "coderFromArrayLen", "([BI)B"⟩ : MethodName)) hown (mvT hZ (hw _ (List.mem_of_getElem? (i := 53) rfl))) (mvT hZ (hw _ (List.mem_of_getElem? (i := 54) rfl))) (mvT hZ (hw _ (List.mem_of_getElem? (i := 48) rfl))) (mvT hZ (hw _ (List.mem_of_getElem? (i := 55) rfl))) (by decide) (backOf (W := 1) (rmC2 l Z aw hw [] va3 kb3 _ h3 n0 (Nat.le_trans Z0 K3.1) Vq3) hZ (hw _ (List.mem_of_getElem? (i := 55) rfl)) (hw _ (List.mem_of_getElem? (i := 48) rfl)) (by decide) (by decide)) (g := (mkF m 45 #[.val (.ref a0), .val (.ref a1), .val (.int (0 : Int32)), .val (.int (2 : Int32)), .val .null, .val (.ref va3)] [(.int (2 : Int32)), (.ref va3), (.ref a0)])) rfl (by rw [hml]; rfl) (argsL := [(.ref va3), (.int (2 : Int32))]) (rest := [(.ref a0)]) (lenOf pd_2 rfl) rfl (by show 2 * 0 + _ ≤ _; exact Nat.le_of_eq rfl) (hb hby d3_45) (fun _ _ => ⟨rfl, e3, (by decide : 1 + 0 ≤ _), (by decide : 2 + 0 ≤ _)⟩)
  dsimp only [Pt.U, Pt.locs, Pt.cells, Pt.slots] at X4 l4 y4 z4 st4 hQ4
  subst l4 y4 z4
  obtain ⟨rfl, Nq4, e4⟩ := hQ4
  have N4 := Fr.app N3 Nq4
  refine Rest.via (fun t k => st4 t k) ?_
  show Rest p.tables e below s _ _ _ (T4.setTop (mkF m 48 #[.val (.ref a0), .val (.ref a1), .val (.int (0 : Int32)), .val (.int (2 : Int32)), .val .null, .val (.ref va3)] [(.int (0 : Int32)), (.ref a0)]))
  have Fo5 := (F_c.keep Kq3 nin0)
  obtain ⟨T5, h5, X5, e5, W5, st5⟩ := putFN X4 hx hZ hown (hw _ (List.mem_of_getElem? (i := 28) rfl)) Via.refl e4 Fo5 (E_a0.keep Kq3) (Or.inr ⟨(hw _ (List.mem_of_getElem? (i := 24) rfl)), rfl, hnm⟩) (hw _ (List.mem_of_getElem? (i := 8) rfl)) (ty := .byte) (v' := (.int (0 : Int32))) (by decide) rfl (by decide) (g := (mkF m 48 #[.val (.ref a0), .val (.ref a1), .val (.int (0 : Int32)), .val (.int (2 : Int32)), .val .null, .val (.ref va3)] [(.int (0 : Int32)), (.ref a0)])) rfl rfl (hb hby d3_48)
  refine Rest.via (fun t k => st5 t k) ?_
  have N5 := Fr.snoc X5 N4 g_a0
  have K5 : Keep h0 h5 [a0] := K3.wr W5 (Or.inl (List.mem_of_getElem? (i := 0) rfl))
  have Fw5 := Fo5.same W5
  show Rest p.tables e below s _ _ _ (T5.setTop (mkF m 51 #[.val (.ref a0), .val (.ref a1), .val (.int (0 : Int32)), .val (.int (2 : Int32)), .val .null, .val (.ref va3)] []))
  refine Rest.via (fun t k => XS.aloadN X5.here hx rfl (hb hby d3_51) rfl rfl k) ?_
  show Rest p.tables e below s _ _ _ (T5.setTop (mkF m 52 #[.val (.ref a0), .val (.ref a1), .val (.int (0 : Int32)), .val (.int (2 : Int32)), .val .null, .val (.ref va3)] [(.ref a0)]))
  refine Rest.via (fun t k => XS.aload X5.here hx rfl (hb hby d3_52) rfl rfl k) ?_
  show Rest p.tables e below s _ _ _ (T5.setTop (mkF m 54 #[.val (.ref a0), .val (.ref a1), .val (.int (0 : Int32)), .val (.int (2 : Int32)), .val .null, .val (.ref va3)] [(.ref va3), (.ref a0)]))
  have Fo6 := ((F_v.keep Kq3 nin0).other W5 (Or.inr (slot_ne (Or.inr (hw _ (List.mem_of_getElem? (i := 23) rfl))) (Or.inr (hw _ (List.mem_of_getElem? (i := 24) rfl))) (by decide) (t := (.array .byte)) (t' := .byte) (by decide) (by decide))))
  obtain ⟨T6, h6, X6, e6, W6, st6⟩ := putF X5 hx hZ hown (host := "") (Or.inl (hw _ (List.mem_of_getElem? (i := 27) rfl))) Via.refl e5 Fo6 ((E_a0.keep Kq3).wr W5) (Or.inr ⟨(hw _ (List.mem_of_getElem? (i := 23) rfl)), rfl, hnm⟩) (hw _ (List.mem_of_getElem? (i := 8) rfl)) (ty := (.array .byte)) (by decide) rfl rfl (g := (mkF m 54 #[.val (.ref a0), .val (.ref a1), .val (.int (0 : Int32)), .val (.int (2 : Int32)), .val .null, .val (.ref va3)] [(.ref va3), (.ref a0)])) rfl rfl (hb hby d3_54)
  refine Rest.via (fun t k => st6 t k) ?_
  have N6 := Fr.snoc X6 N5 g_a0
  have K6 : Keep h0 h6 [a0] := K5.wr W6 (Or.inl (List.mem_of_getElem? (i := 0) rfl))
  have Fw6 := Fo6.same W6
  show Rest p.tables e below s _ _ _ (T6.setTop (mkF m 57 #[.val (.ref a0), .val (.ref a1), .val (.int (0 : Int32)), .val (.int (2 : Int32)), .val .null, .val (.ref va3)] []))
  refine Rest.ret X6 (v := none) (fun _ => rfl) hlk (fun fs hr => X6.returnOut hx Bd.returns (hb hby d3_57) hr) ?_ (by decide) (by decide)
  rw [e6]
  exact ⟨rfl, N6, K6, va3, kb3, sz_va3, Fw6, (Fw5.other W6 (Or.inr (slot_ne (Or.inr (hw _ (List.mem_of_getElem? (i := 24) rfl))) (Or.inr (hw _ (List.mem_of_getElem? (i := 23) rfl))) (by decide) (t := .byte) (t' := (.array .byte)) (by decide) (by decide)))), ((Vq3.other W5 (Ne.symm ne_a0_va3)).other W6 (Ne.symm ne_a0_va3)), ne_a0_va3⟩
theorem ef_SI2 (m : MethodId) (a0 : Addr) (a1 : Addr) : entryFrame m #[(.ref a0), (.ref a1)] 2 = mkF m 0 #[.val (.ref a0), .val (.ref a1)] [] := by first | (simp [entryFrame, mkF, argsToLocals, Value.category, maxLocals]; done) | rfl
def QSI2 (Z : State) (a0 : Addr) (a1 : Addr) (kc : ClassId) (ic : Int32) (ca : Int32) (cb : Int32) (h0 : Heap) (n0 : Nat) (v : Option Value) (h : Heap) (L : List Loc) : Prop := v = none ∧ Fr n0 L ∧ Keep h0 h [a0] ∧ ∃ va kb, h0.size ≤ va ∧ Fld Z h a0 "java/lang/String" "value" "[B" (.ref va) ∧ Fld Z h a0 "java/lang/String" "coder" "B" (.int (0 : Int32)) ∧ Arv Z h va kb .byte (2 : Int32) [(.int (own_by ca)), (.int (own_by cb))] (.int (0 : Int32)) ∧ a0 ≠ va
set_option maxRecDepth 65536 in
set_option maxHeartbeats 40000000 in
theorem rmSI2 (l : Launch) (Z : State) (aw : Array Value) (hw : ∀ d ∈ tables_1, d.before aw Z = true) (ws : List Jvm.Cond) (a0 : Addr) (a1 : Addr) (kc : ClassId) (ic : Int32) (ca : Int32) (cb : Int32) (h0 : Heap) (n0 : Nat) (Z0 : n0 ≤ h0.size) (E_a0 : Exa Z h0 a0 "java/lang/String") (F_v : Fld Z h0 a0 "java/lang/String" "value" "[B" .null) (F_c : Fld Z h0 a0 "java/lang/String" "coder" "B" (.int (0 : Int32))) (g_a0 : n0 ≤ a0) (V1 : Arv Z h0 a1 kc .char (2 : Int32) [(.int ca), (.int cb)] (.int (0 : Int32))) (hca : ¬ ((255 : Int32) < ca)) (hcb : ¬ ((255 : Int32) < cb)) (O : Old Z n0 h0) (CS : own_CS Z ic) :
    MetFree l (⟨"java/lang/String", "<init>", "([C)V"⟩ : MethodName) (head1 (Jvm.Cond.code (⟨"java/lang/String", "<init>", "([C)V"⟩ : MethodName) jdk_42_method_3_code 2 none :: ws) ({ frames := 3, cells := 1, slots := 2, locals := 52 } : Room)) (fun a U => a = #[(.ref a0), (.ref a1)] ∧ Z.Warmed39 U.vm ∧ U.heap = h0) (fun _ _ _ _ _ => True) (fun _ U o U' => ∃ v L, o = .returned v ∧ QSI2 Z a0 a1 kc ic ca cb h0 n0 v U'.heap L ∧ FrameEnd U o U' L ({ frames := 3, cells := 1, slots := 2, locals := 52 } : Room).cells ({ frames := 3, cells := 1, slots := 2, locals := 52 } : Room).slots) := by
  refine MetFree.of_bodySF (plainFor_of_name pn_1) hisR ?_
  intro p e s m args below meth c s₁ Bd hml0 hP hK
  obtain ⟨rfl, hZ, hh⟩ := hP
  have hx := Bd.exec
  have hby := Bd.bytes
  have hml : c.maxLocals = 2 := hml0
  have hown : s.vm.findClass "java/lang/String" = some m.cls := findClass_of_methodNamed Bd.named
  have hnm := (name_of_methodNamed Bd.named Bd.method).1
  have hlk : meth.locks = false := BodyLoose.notSynchronized Bd
  have X0 : Stand p l e ({ frames := 3, cells := 1, slots := 2, locals := 52 } : Room) s m #[(.ref a0), (.ref a1)] below meth c s₁ [] 0 0 := Stand.of_body Bd
  have _u := trivial
  have eh0 : s₁.heap = h0 := by rw [← hh, Bd.state]; rfl
  have N0 := Fr.nil n0
  show Rest p.tables e below s (QSI2 Z a0 a1 kc ic ca cb h0 n0) _ _ (s₁.setTop (entryFrame m #[(.ref a0), (.ref a1)] 2))
  refine Rest.via (fun t k => castTop (ef_SI2 m a0 a1) k) ?_
  show Rest p.tables e below s _ _ _ (s₁.setTop (mkF m 0 #[.val (.ref a0), .val (.ref a1)] []))
  refine Rest.via (fun t k => XS.aloadN X0.here hx rfl (hb hby d2_0) rfl rfl k) ?_
  show Rest p.tables e below s _ _ _ (s₁.setTop (mkF m 1 #[.val (.ref a0), .val (.ref a1)] [(.ref a0)]))
  refine Rest.via (fun t k => XS.aloadN X0.here hx rfl (hb hby d2_1) rfl rfl k) ?_
  show Rest p.tables e below s _ _ _ (s₁.setTop (mkF m 2 #[.val (.ref a0), .val (.ref a1)] [(.ref a1), (.ref a0)]))
  refine Rest.via (fun t k => XS.iconst X0.here hx rfl (hb hby d2_2) k) ?_
  show Rest p.tables e below s _ _ _ (s₁.setTop (mkF m 3 #[.val (.ref a0), .val (.ref a1)] [(.int (0 : Int32)), (.ref a1), (.ref a0)]))
  refine Rest.via (fun t k => XS.aloadN X0.here hx rfl (hb hby d2_3) rfl rfl k) ?_
  show Rest p.tables e below s _ _ _ (s₁.setTop (mkF m 4 #[.val (.ref a0), .val (.ref a1)] [(.ref a1), (.int (0 : Int32)), (.ref a1), (.ref a0)]))
  obtain ⟨cl1, Ar1, -, S1, P1, -, -⟩ := id V1
  refine Rest.via (fun t k => X0.arraylength hx (by rw [eh0]; exact Ar1.1) (State.isArrayOf_alike hZ.alike Ar1.2.1) (g := (mkF m 4 #[.val (.ref a0), .val (.ref a1)] [(.ref a1), (.int (0 : Int32)), (.ref a1), (.ref a0)])) rfl rfl (hb hby d2_4) t k) ?_
  rw [len_of S1 P1]
  show Rest p.tables e below s _ _ _ (s₁.setTop (mkF m 5 #[.val (.ref a0), .val (.ref a1)] [(.int (2 : Int32)), (.int (0 : Int32)), (.ref a1), (.ref a0)]))
  refine Rest.via (fun t k => XS.aconstNull X0.here hx rfl (hb hby d2_5) k) ?_
  show Rest p.tables e below s _ _ _ (s₁.setTop (mkF m 6 #[.val (.ref a0), .val (.ref a1)] [.null, (.int (2 : Int32)), (.int (0 : Int32)), (.ref a1), (.ref a0)]))
  obtain ⟨_, _, ⟨T2, L2, k2, n2⟩, -, X2, ⟨Lc2, hQ2, l2, y2, z2⟩, st2⟩ := X0.specialBack hx (y := (⟨"java/lang/String", "<init>", "([CIILjava/lang/Void;)V"⟩ : MethodName)) rfl hown (mvT hZ (hw _ (List.mem_of_getElem? (i := 14) rfl))) (mvT hZ (hw _ (List.mem_of_getElem? (i := 15) rfl))) (mvT hZ (hw _ (List.mem_of_getElem? (i := 17) rfl))) (by decide) (backOf (W := 0) (rmSJ2 l Z aw hw [] a0 a1 kc ic ca cb h0 n0 (Nat.le_trans Z0 (Keep.refl h0 [a0]).1) E_a0 F_v F_c g_a0 V1 hca hcb (O.keep (Keep.refl h0 [a0]) (allS g_a0 all0)) CS) hZ (hw _ (List.mem_of_getElem? (i := 17) rfl)) (hw _ (List.mem_of_getElem? (i := 9) rfl)) (by decide) (by decide)) (g := (mkF m 6 #[.val (.ref a0), .val (.ref a1)] [.null, (.int (2 : Int32)), (.int (0 : Int32)), (.ref a1), (.ref a0)])) rfl (by rw [hml]; rfl) (Steps.refl _) (a := a0) (argsL := [(.ref a1), (.int (0 : Int32)), (.int (2 : Int32)), .null]) (rest := []) (lenOf pd_3 rfl) rfl (by show 2 * 0 + _ ≤ _; exact Nat.le_of_eq rfl) (hb hby d2_6) (fun _ _ => ⟨rfl, eh0, (by decide : 0 + 1 ≤ _), (by decide : 0 + 2 ≤ _)⟩)
  dsimp only [Pt.U, Pt.locs, Pt.cells, Pt.slots] at X2 l2 y2 z2 st2 hQ2
  subst l2 y2 z2
  obtain ⟨h2, e2⟩ : ∃ z, T2.heap = z := ⟨_, rfl⟩
  rw [e2] at hQ2
  obtain ⟨rfl, Nq2, Kq2, va2, kb2, sd2, Fv2, Fc2, Vq2, nb2⟩ := hQ2
  have N2 := Fr.app N0 Nq2
  have K2 : Keep h0 h2 [a0] := (Keep.refl h0 [a0]).trans Kq2 (allS (Or.inl (List.mem_of_getElem? (i := 0) rfl)) all0)
  refine Rest.via (fun t k => st2.trans k) ?_
  show Rest p.tables e below s _ _ _ (T2.setTop (mkF m 9 #[.val (.ref a0), .val (.ref a1)] []))
  refine Rest.ret X2 (v := none) (fun _ => rfl) hlk (fun fs hr => X2.returnOut hx Bd.returns (hb hby d2_9) hr) ?_ (by decide) (by decide)
  rw [e2]
  exact ⟨rfl, N2, K2, va2, kb2, Nat.le_trans (Keep.refl h0 [a0]).1 sd2, Fv2, Fc2, Vq2, nb2⟩
theorem ef_U3 (m : MethodId) (a0 : Addr) (a2 : Addr) : entryFrame m #[(.ref a0), (.int (0 : Int32)), (.ref a2), (.int (0 : Int32)), (.int (3 : Int32))] 7 = mkF m 0 #[.val (.ref a0), .val (.int (0 : Int32)), .val (.ref a2), .val (.int (0 : Int32)), .val (.int (3 : Int32)), .unset, .unset] [] := by first | (simp [entryFrame, mkF, argsToLocals, Value.category, maxLocals]; done) | rfl
def QU3 (Z : State) (a0 : Addr) (a2 : Addr) (kc : ClassId) (kb : ClassId) (ca : Int32) (cb : Int32) (cc : Int32) (h0 : Heap) (n0 : Nat) (v : Option Value) (h : Heap) (L : List Loc) : Prop := v = some (.int (3 : Int32)) ∧ Fr n0 L ∧ Keep h0 h [a2] ∧ Arv Z h a2 kb .byte (3 : Int32) [(.int (own_by ca)), (.int (own_by cb)), (.int (own_by cc))] (.int (0 : Int32))
set_option maxRecDepth 65536 in
set_option maxHeartbeats 40000000 in
theorem rmU3 (l : Launch) (Z : State) (aw : Array Value) (hw : ∀ d ∈ tables_1, d.before aw Z = true) (ws : List Jvm.Cond) (a0 : Addr) (a2 : Addr) (kc : ClassId) (kb : ClassId) (ca : Int32) (cb : Int32) (cc : Int32) (h0 : Heap) (n0 : Nat) (Z0 : n0 ≤ h0.size) (V0 : Arv Z h0 a0 kc .char (3 : Int32) [(.int ca), (.int cb), (.int cc)] (.int (0 : Int32))) (V2 : Arv Z h0 a2 kb .byte (3 : Int32) [(.int (0 : Int32)), (.int (0 : Int32)), (.int (0 : Int32))] (.int (0 : Int32))) (n02 : a0 ≠ a2) (g_a2 : n0 ≤ a2) (hca : ¬ ((255 : Int32) < ca)) (hcb : ¬ ((255 : Int32) < cb)) (hcc : ¬ ((255 : Int32) < cc)) :
    MetFree l (⟨"java/lang/StringUTF16", "compress", "([CI[BII)I"⟩ : MethodName) (head1 (Jvm.Cond.code (⟨"java/lang/StringUTF16", "compress", "([CI[BII)I"⟩ : MethodName) jdk_52_method_21_code 7 (some .int) :: ws) ({ frames := 0, cells := 0, slots := 0, locals := 0 } : Room)) (fun a U => a = #[(.ref a0), (.int (0 : Int32)), (.ref a2), (.int (0 : Int32)), (.int (3 : Int32))] ∧ Z.Warmed39 U.vm ∧ U.heap = h0) (fun _ _ _ _ _ => True) (fun _ U o U' => ∃ v L, o = .returned v ∧ QU3 Z a0 a2 kc kb ca cb cc h0 n0 v U'.heap L ∧ FrameEnd U o U' L ({ frames := 0, cells := 0, slots := 0, locals := 0 } : Room).cells ({ frames := 0, cells := 0, slots := 0, locals := 0 } : Room).slots) := by
  refine MetFree.of_bodySF (plainFor_of_name pn_0) hisR ?_
  intro p e s m args below meth c s₁ Bd hml0 hP hK
  obtain ⟨rfl, hZ, hh⟩ := hP
  have hx := Bd.exec
  have hby := Bd.bytes
  have hml : c.maxLocals = 7 := hml0
  have hown : s.vm.findClass "java/lang/StringUTF16" = some m.cls := findClass_of_methodNamed Bd.named
  have hnm := (name_of_methodNamed Bd.named Bd.method).1
  have hlk : meth.locks = false := BodyLoose.notSynchronized Bd
  have X0 : Stand p l e ({ frames := 0, cells := 0, slots := 0, locals := 0 } : Room) s m #[(.ref a0), (.int (0 : Int32)), (.ref a2), (.int (0 : Int32)), (.int (3 : Int32))] below meth c s₁ [] 0 0 := Stand.of_body Bd
  have _u := trivial
  have eh0 : s₁.heap = h0 := by rw [← hh, Bd.state]; rfl
  have N0 := Fr.nil n0
  show Rest p.tables e below s (QU3 Z a0 a2 kc kb ca cb cc h0 n0) _ _ (s₁.setTop (entryFrame m #[(.ref a0), (.int (0 : Int32)), (.ref a2), (.int (0 : Int32)), (.int (3 : Int32))] 7))
  refine Rest.via (fun t k => castTop (ef_U3 m a0 a2) k) ?_
  show Rest p.tables e below s _ _ _ (s₁.setTop (mkF m 0 #[.val (.ref a0), .val (.int (0 : Int32)), .val (.ref a2), .val (.int (0 : Int32)), .val (.int (3 : Int32)), .unset, .unset] []))
  refine Rest.via (fun t k => XS.iconst X0.here hx rfl (hb hby d9_0) k) ?_
  show Rest p.tables e below s _ _ _ (s₁.setTop (mkF m 1 #[.val (.ref a0), .val (.int (0 : Int32)), .val (.ref a2), .val (.int (0 : Int32)), .val (.int (3 : Int32)), .unset, .unset] [(.int (0 : Int32))]))
  refine Rest.via (fun t k => XS.istore X0.here hx rfl (hb hby d9_1) rfl (l' := #[.val (.ref a0), .val (.int (0 : Int32)), .val (.ref a2), .val (.int (0 : Int32)), .val (.int (3 : Int32)), .val (.int (0 : Int32)), .unset]) rfl k) ?_
  show Rest p.tables e below s _ _ _ (s₁.setTop (mkF m 3 #[.val (.ref a0), .val (.int (0 : Int32)), .val (.ref a2), .val (.int (0 : Int32)), .val (.int (3 : Int32)), .val (.int (0 : Int32)), .unset] []))
  refine Rest.via (fun t k => XS.iload X0.here hx rfl (hb hby d9_3) rfl k) ?_
  show Rest p.tables e below s _ _ _ (s₁.setTop (mkF m 5 #[.val (.ref a0), .val (.int (0 : Int32)), .val (.ref a2), .val (.int (0 : Int32)), .val (.int (3 : Int32)), .val (.int (0 : Int32)), .unset] [(.int (0 : Int32))]))
  refine Rest.via (fun t k => XS.iload X0.here hx rfl (hb hby d9_5) rfl k) ?_
  show Rest p.tables e below s _ _ _ (s₁.setTop (mkF m 7 #[.val (.ref a0), .val (.int (0 : Int32)), .val (.ref a2), .val (.int (0 : Int32)), .val (.int (3 : Int32)), .val (.int (0 : Int32)), .unset] [(.int (3 : Int32)), (.int (0 : Int32))]))
  refine Rest.via (fun t k => XS.icmpNo X0.here hx rfl (hb hby d9_7) rfl (tlt (by decide : (0 : Int32) < (3 : Int32))).2.1 k) ?_
  show Rest p.tables e below s _ _ _ (s₁.setTop (mkF m 10 #[.val (.ref a0), .val (.int (0 : Int32)), .val (.ref a2), .val (.int (0 : Int32)), .val (.int (3 : Int32)), .val (.int (0 : Int32)), .unset] []))
  refine Rest.via (fun t k => XS.aloadN X0.here hx rfl (hb hby d9_10) rfl rfl k) ?_
  show Rest p.tables e below s _ _ _ (s₁.setTop (mkF m 11 #[.val (.ref a0), .val (.int (0 : Int32)), .val (.ref a2), .val (.int (0 : Int32)), .val (.int (3 : Int32)), .val (.int (0 : Int32)), .unset] [(.ref a0)]))
  refine Rest.via (fun t k => XS.iloadN X0.here hx rfl (hb hby d9_11) rfl k) ?_
  show Rest p.tables e below s _ _ _ (s₁.setTop (mkF m 12 #[.val (.ref a0), .val (.int (0 : Int32)), .val (.ref a2), .val (.int (0 : Int32)), .val (.int (3 : Int32)), .val (.int (0 : Int32)), .unset] [(.int (0 : Int32)), (.ref a0)]))
  obtain ⟨cl1, Ar1, qa1, Sa1, Pa1, Ha1, Ga1⟩ := id V0
  have hin1 := inb_of (j := (0 : Int32)) Sa1 ⟨by decide, by decide⟩
  have hat1 : cl1.slots[((0 : Int32)).toNatClampNeg]? = some (.int ca) := Has.at Ha1 hin1 rfl
  refine Rest.via (fun t k => X0.caload hx (j := (0 : Int32)) (v := (.int ca)) (by rw [eh0]; exact Ar1.1) (State.isArrayOf_alike hZ.alike Ar1.2.1) Ar1.2.2 hin1 hat1 (g := (mkF m 12 #[.val (.ref a0), .val (.int (0 : Int32)), .val (.ref a2), .val (.int (0 : Int32)), .val (.int (3 : Int32)), .val (.int (0 : Int32)), .unset] [(.int (0 : Int32)), (.ref a0)])) rfl rfl (hb hby d9_12) t k) ?_
  show Rest p.tables e below s _ _ _ (s₁.setTop (mkF m 13 #[.val (.ref a0), .val (.int (0 : Int32)), .val (.ref a2), .val (.int (0 : Int32)), .val (.int (3 : Int32)), .val (.int (0 : Int32)), .unset] [(.int ca)]))
  refine Rest.via (fun t k => XS.istore X0.here hx rfl (hb hby d9_13) rfl (l' := #[.val (.ref a0), .val (.int (0 : Int32)), .val (.ref a2), .val (.int (0 : Int32)), .val (.int (3 : Int32)), .val (.int (0 : Int32)), .val (.int ca)]) rfl k) ?_
  show Rest p.tables e below s _ _ _ (s₁.setTop (mkF m 15 #[.val (.ref a0), .val (.int (0 : Int32)), .val (.ref a2), .val (.int (0 : Int32)), .val (.int (3 : Int32)), .val (.int (0 : Int32)), .val (.int ca)] []))
  refine Rest.via (fun t k => XS.iload X0.here hx rfl (hb hby d9_15) rfl k) ?_
  show Rest p.tables e below s _ _ _ (s₁.setTop (mkF m 17 #[.val (.ref a0), .val (.int (0 : Int32)), .val (.ref a2), .val (.int (0 : Int32)), .val (.int (3 : Int32)), .val (.int (0 : Int32)), .val (.int ca)] [(.int ca)]))
  refine Rest.via (fun t k => XS.sipush X0.here hx rfl (hb hby d9_17) k) ?_
  show Rest p.tables e below s _ _ _ (s₁.setTop (mkF m 20 #[.val (.ref a0), .val (.int (0 : Int32)), .val (.ref a2), .val (.int (0 : Int32)), .val (.int (3 : Int32)), .val (.int (0 : Int32)), .val (.int ca)] [(.int (255 : Int32)), (.int ca)]))
  refine Rest.via (fun t k => XS.icmpYes X0.here hx rfl (pc0 := 20) (pc' := 26) rfl (hb hby d9_20) rfl (flt (hca : ¬ ((255 : Int32) < ca))).2.2.2 (by decide) (by decide) k) ?_
  show Rest p.tables e below s _ _ _ (s₁.setTop (mkF m 26 #[.val (.ref a0), .val (.int (0 : Int32)), .val (.ref a2), .val (.int (0 : Int32)), .val (.int (3 : Int32)), .val (.int (0 : Int32)), .val (.int ca)] []))
  refine Rest.via (fun t k => XS.aloadN X0.here hx rfl (hb hby d9_26) rfl rfl k) ?_
  show Rest p.tables e below s _ _ _ (s₁.setTop (mkF m 27 #[.val (.ref a0), .val (.int (0 : Int32)), .val (.ref a2), .val (.int (0 : Int32)), .val (.int (3 : Int32)), .val (.int (0 : Int32)), .val (.int ca)] [(.ref a2)]))
  refine Rest.via (fun t k => XS.iloadN X0.here hx rfl (hb hby d9_27) rfl k) ?_
  show Rest p.tables e below s _ _ _ (s₁.setTop (mkF m 28 #[.val (.ref a0), .val (.int (0 : Int32)), .val (.ref a2), .val (.int (0 : Int32)), .val (.int (3 : Int32)), .val (.int (0 : Int32)), .val (.int ca)] [(.int (0 : Int32)), (.ref a2)]))
  refine Rest.via (fun t k => XS.iload X0.here hx rfl (hb hby d9_28) rfl k) ?_
  show Rest p.tables e below s _ _ _ (s₁.setTop (mkF m 30 #[.val (.ref a0), .val (.int (0 : Int32)), .val (.ref a2), .val (.int (0 : Int32)), .val (.int (3 : Int32)), .val (.int (0 : Int32)), .val (.int ca)] [(.int ca), (.int (0 : Int32)), (.ref a2)]))
  refine Rest.via (fun t k => XS.i2b X0.here hx rfl (hb hby d9_30) rfl k) ?_
  show Rest p.tables e below s _ _ _ (s₁.setTop (mkF m 31 #[.val (.ref a0), .val (.int (0 : Int32)), .val (.ref a2), .val (.int (0 : Int32)), .val (.int (3 : Int32)), .val (.int (0 : Int32)), .val (.int ca)] [(.int (ca.toInt8.toInt32)), (.int (0 : Int32)), (.ref a2)]))
  obtain ⟨cl2, Ar2, qa2, Sa2, Pa2, Ha2, Ga2⟩ := id V2
  have hin2 := inb_of (j := (0 : Int32)) Sa2 ⟨by decide, by decide⟩
  obtain ⟨T2, h2, X2, e2, W2, st2⟩ := stB X0 hx hZ eh0 Ar2 (j := (0 : Int32)) hin2 (g := (mkF m 31 #[.val (.ref a0), .val (.int (0 : Int32)), .val (.ref a2), .val (.int (0 : Int32)), .val (.int (3 : Int32)), .val (.int (0 : Int32)), .val (.int ca)] [(.int (ca.toInt8.toInt32)), (.int (0 : Int32)), (.ref a2)])) rfl rfl (hb hby d9_31)
  refine Rest.via (fun t k => st2 t k) ?_
  have N2 := Fr.snoc X2 N0 g_a2
  have K2 : Keep h0 h2 [a2] := (Keep.refl h0 [a2]).wr W2 (Or.inl (List.mem_of_getElem? (i := 0) rfl))
  have V2 : Arv Z h2 a2 kb .byte (3 : Int32) [(.int (own_by ca)), (.int (0 : Int32)), (.int (0 : Int32))] (.int (0 : Int32)) := by have q := Arv.set Ar2 qa2 Sa2 Pa2 Ha2 Ga2 (fits_nar_byte _) W2 0 rfl (Nat.le_of_ble_eq_true rfl); rw [own_by_nar] at q; exact q
  show Rest p.tables e below s _ _ _ (T2.setTop (mkF m 32 #[.val (.ref a0), .val (.int (0 : Int32)), .val (.ref a2), .val (.int (0 : Int32)), .val (.int (3 : Int32)), .val (.int (0 : Int32)), .val (.int ca)] []))
  refine Rest.via (fun t k => XS.iinc X2.here hx rfl (hb hby d9_32) rfl (l' := #[.val (.ref a0), .val (.int ((0 : Int32) + (1 : Int32))), .val (.ref a2), .val (.int (0 : Int32)), .val (.int (3 : Int32)), .val (.int (0 : Int32)), .val (.int ca)]) rfl k) ?_
  show Rest p.tables e below s _ _ _ (T2.setTop (mkF m 35 #[.val (.ref a0), .val (.int ((0 : Int32) + (1 : Int32))), .val (.ref a2), .val (.int (0 : Int32)), .val (.int (3 : Int32)), .val (.int (0 : Int32)), .val (.int ca)] []))
  rw [(by decide : ((0 : Int32) + (1 : Int32)) = (1 : Int32))]
  show Rest p.tables e below s _ _ _ (T2.setTop (mkF m 35 #[.val (.ref a0), .val (.int (1 : Int32)), .val (.ref a2), .val (.int (0 : Int32)), .val (.int (3 : Int32)), .val (.int (0 : Int32)), .val (.int ca)] []))
  refine Rest.via (fun t k => XS.iinc X2.here hx rfl (hb hby d9_35) rfl (l' := #[.val (.ref a0), .val (.int (1 : Int32)), .val (.ref a2), .val (.int ((0 : Int32) + (1 : Int32))), .val (.int (3 : Int32)), .val (.int (0 : Int32)), .val (.int ca)]) rfl k) ?_
  show Rest p.tables e below s _ _ _ (T2.setTop (mkF m 38 #[.val (.ref a0), .val (.int (1 : Int32)), .val (.ref a2), .val (.int ((0 : Int32) + (1 : Int32))), .val (.int (3 : Int32)), .val (.int (0 : Int32)), .val (.int ca)] []))
  rw [(by decide : ((0 : Int32) + (1 : Int32)) = (1 : Int32))]
  show Rest p.tables e below s _ _ _ (T2.setTop (mkF m 38 #[.val (.ref a0), .val (.int (1 : Int32)), .val (.ref a2), .val (.int (1 : Int32)), .val (.int (3 : Int32)), .val (.int (0 : Int32)), .val (.int ca)] []))
  refine Rest.via (fun t k => XS.iinc X2.here hx rfl (hb hby d9_38) rfl (l' := #[.val (.ref a0), .val (.int (1 : Int32)), .val (.ref a2), .val (.int (1 : Int32)), .val (.int (3 : Int32)), .val (.int ((0 : Int32) + (1 : Int32))), .val (.int ca)]) rfl k) ?_
  show Rest p.tables e below s _ _ _ (T2.setTop (mkF m 41 #[.val (.ref a0), .val (.int (1 : Int32)), .val (.ref a2), .val (.int (1 : Int32)), .val (.int (3 : Int32)), .val (.int ((0 : Int32) + (1 : Int32))), .val (.int ca)] []))
  rw [(by decide : ((0 : Int32) + (1 : Int32)) = (1 : Int32))]
  show Rest p.tables e below s _ _ _ (T2.setTop (mkF m 41 #[.val (.ref a0), .val (.int (1 : Int32)), .val (.ref a2), .val (.int (1 : Int32)), .val (.int (3 : Int32)), .val (.int (1 : Int32)), .val (.int ca)] []))
  refine Rest.via (fun t k => XS.goto X2.here hx rfl (pc0 := 41) (pc' := 3) rfl (hb hby d9_41) (by decide) (by decide) k) ?_
  show Rest p.tables e below s _ _ _ (T2.setTop (mkF m 3 #[.val (.ref a0), .val (.int (1 : Int32)), .val (.ref a2), .val (.int (1 : Int32)), .val (.int (3 : Int32)), .val (.int (1 : Int32)), .val (.int ca)] []))
  refine Rest.via (fun t k => XS.iload X2.here hx rfl (hb hby d9_3) rfl k) ?_
  show Rest p.tables e below s _ _ _ (T2.setTop (mkF m 5 #[.val (.ref a0), .val (.int (1 : Int32)), .val (.ref a2), .val (.int (1 : Int32)), .val (.int (3 : Int32)), .val (.int (1 : Int32)), .val (.int ca)] [(.int (1 : Int32))]))
  refine Rest.via (fun t k => XS.iload X2.here hx rfl (hb hby d9_5) rfl k) ?_
  show Rest p.tables e below s _ _ _ (T2.setTop (mkF m 7 #[.val (.ref a0), .val (.int (1 : Int32)), .val (.ref a2), .val (.int (1 : Int32)), .val (.int (3 : Int32)), .val (.int (1 : Int32)), .val (.int ca)] [(.int (3 : Int32)), (.int (1 : Int32))]))
  refine Rest.via (fun t k => XS.icmpNo X2.here hx rfl (hb hby d9_7) rfl (tlt (by decide : (1 : Int32) < (3 : Int32))).2.1 k) ?_
  show Rest p.tables e below s _ _ _ (T2.setTop (mkF m 10 #[.val (.ref a0), .val (.int (1 : Int32)), .val (.ref a2), .val (.int (1 : Int32)), .val (.int (3 : Int32)), .val (.int (1 : Int32)), .val (.int ca)] []))
  refine Rest.via (fun t k => XS.aloadN X2.here hx rfl (hb hby d9_10) rfl rfl k) ?_
  show Rest p.tables e below s _ _ _ (T2.setTop (mkF m 11 #[.val (.ref a0), .val (.int (1 : Int32)), .val (.ref a2), .val (.int (1 : Int32)), .val (.int (3 : Int32)), .val (.int (1 : Int32)), .val (.int ca)] [(.ref a0)]))
  refine Rest.via (fun t k => XS.iloadN X2.here hx rfl (hb hby d9_11) rfl k) ?_
  show Rest p.tables e below s _ _ _ (T2.setTop (mkF m 12 #[.val (.ref a0), .val (.int (1 : Int32)), .val (.ref a2), .val (.int (1 : Int32)), .val (.int (3 : Int32)), .val (.int (1 : Int32)), .val (.int ca)] [(.int (1 : Int32)), (.ref a0)]))
  obtain ⟨cl3, Ar3, qa3, Sa3, Pa3, Ha3, Ga3⟩ := id (V0.other W2 n02)
  have hin3 := inb_of (j := (1 : Int32)) Sa3 ⟨by decide, by decide⟩
  have hat3 : cl3.slots[((1 : Int32)).toNatClampNeg]? = some (.int cb) := Has.at Ha3 hin3 rfl
  refine Rest.via (fun t k => X2.caload hx (j := (1 : Int32)) (v := (.int cb)) (by rw [e2]; exact Ar3.1) (State.isArrayOf_alike hZ.alike Ar3.2.1) Ar3.2.2 hin3 hat3 (g := (mkF m 12 #[.val (.ref a0), .val (.int (1 : Int32)), .val (.ref a2), .val (.int (1 : Int32)), .val (.int (3 : Int32)), .val (.int (1 : Int32)), .val (.int ca)] [(.int (1 : Int32)), (.ref a0)])) rfl rfl (hb hby d9_12) t k) ?_
  show Rest p.tables e below s _ _ _ (T2.setTop (mkF m 13 #[.val (.ref a0), .val (.int (1 : Int32)), .val (.ref a2), .val (.int (1 : Int32)), .val (.int (3 : Int32)), .val (.int (1 : Int32)), .val (.int ca)] [(.int cb)]))
  refine Rest.via (fun t k => XS.istore X2.here hx rfl (hb hby d9_13) rfl (l' := #[.val (.ref a0), .val (.int (1 : Int32)), .val (.ref a2), .val (.int (1 : Int32)), .val (.int (3 : Int32)), .val (.int (1 : Int32)), .val (.int cb)]) rfl k) ?_
  show Rest p.tables e below s _ _ _ (T2.setTop (mkF m 15 #[.val (.ref a0), .val (.int (1 : Int32)), .val (.ref a2), .val (.int (1 : Int32)), .val (.int (3 : Int32)), .val (.int (1 : Int32)), .val (.int cb)] []))
  refine Rest.via (fun t k => XS.iload X2.here hx rfl (hb hby d9_15) rfl k) ?_
  show Rest p.tables e below s _ _ _ (T2.setTop (mkF m 17 #[.val (.ref a0), .val (.int (1 : Int32)), .val (.ref a2), .val (.int (1 : Int32)), .val (.int (3 : Int32)), .val (.int (1 : Int32)), .val (.int cb)] [(.int cb)]))
  refine Rest.via (fun t k => XS.sipush X2.here hx rfl (hb hby d9_17) k) ?_
  show Rest p.tables e below s _ _ _ (T2.setTop (mkF m 20 #[.val (.ref a0), .val (.int (1 : Int32)), .val (.ref a2), .val (.int (1 : Int32)), .val (.int (3 : Int32)), .val (.int (1 : Int32)), .val (.int cb)] [(.int (255 : Int32)), (.int cb)]))
  refine Rest.via (fun t k => XS.icmpYes X2.here hx rfl (pc0 := 20) (pc' := 26) rfl (hb hby d9_20) rfl (flt (hcb : ¬ ((255 : Int32) < cb))).2.2.2 (by decide) (by decide) k) ?_
  show Rest p.tables e below s _ _ _ (T2.setTop (mkF m 26 #[.val (.ref a0), .val (.int (1 : Int32)), .val (.ref a2), .val (.int (1 : Int32)), .val (.int (3 : Int32)), .val (.int (1 : Int32)), .val (.int cb)] []))
  refine Rest.via (fun t k => XS.aloadN X2.here hx rfl (hb hby d9_26) rfl rfl k) ?_
  show Rest p.tables e below s _ _ _ (T2.setTop (mkF m 27 #[.val (.ref a0), .val (.int (1 : Int32)), .val (.ref a2), .val (.int (1 : Int32)), .val (.int (3 : Int32)), .val (.int (1 : Int32)), .val (.int cb)] [(.ref a2)]))
  refine Rest.via (fun t k => XS.iloadN X2.here hx rfl (hb hby d9_27) rfl k) ?_
  show Rest p.tables e below s _ _ _ (T2.setTop (mkF m 28 #[.val (.ref a0), .val (.int (1 : Int32)), .val (.ref a2), .val (.int (1 : Int32)), .val (.int (3 : Int32)), .val (.int (1 : Int32)), .val (.int cb)] [(.int (1 : Int32)), (.ref a2)]))
  refine Rest.via (fun t k => XS.iload X2.here hx rfl (hb hby d9_28) rfl k) ?_
  show Rest p.tables e below s _ _ _ (T2.setTop (mkF m 30 #[.val (.ref a0), .val (.int (1 : Int32)), .val (.ref a2), .val (.int (1 : Int32)), .val (.int (3 : Int32)), .val (.int (1 : Int32)), .val (.int cb)] [(.int cb), (.int (1 : Int32)), (.ref a2)]))
  refine Rest.via (fun t k => XS.i2b X2.here hx rfl (hb hby d9_30) rfl k) ?_
  show Rest p.tables e below s _ _ _ (T2.setTop (mkF m 31 #[.val (.ref a0), .val (.int (1 : Int32)), .val (.ref a2), .val (.int (1 : Int32)), .val (.int (3 : Int32)), .val (.int (1 : Int32)), .val (.int cb)] [(.int (cb.toInt8.toInt32)), (.int (1 : Int32)), (.ref a2)]))
  obtain ⟨cl4, Ar4, qa4, Sa4, Pa4, Ha4, Ga4⟩ := id V2
  have hin4 := inb_of (j := (1 : Int32)) Sa4 ⟨by decide, by decide⟩
  obtain ⟨T4, h4, X4, e4, W4, st4⟩ := stB X2 hx hZ e2 Ar4 (j := (1 : Int32)) hin4 (g := (mkF m 31 #[.val (.ref a0), .val (.int (1 : Int32)), .val (.ref a2), .val (.int (1 : Int32)), .val (.int (3 : Int32)), .val (.int (1 : Int32)), .val (.int cb)] [(.int (cb.toInt8.toInt32)), (.int (1 : Int32)), (.ref a2)])) rfl rfl (hb hby d9_31)
  refine Rest.via (fun t k => st4 t k) ?_
  have N4 := Fr.snoc X4 N2 g_a2
  have K4 : Keep h0 h4 [a2] := K2.wr W4 (Or.inl (List.mem_of_getElem? (i := 0) rfl))
  have V4 : Arv Z h4 a2 kb .byte (3 : Int32) [(.int (own_by ca)), (.int (own_by cb)), (.int (0 : Int32))] (.int (0 : Int32)) := by have q := Arv.set Ar4 qa4 Sa4 Pa4 Ha4 Ga4 (fits_nar_byte _) W4 1 rfl (Nat.le_of_ble_eq_true rfl); rw [own_by_nar] at q; exact q
  show Rest p.tables e below s _ _ _ (T4.setTop (mkF m 32 #[.val (.ref a0), .val (.int (1 : Int32)), .val (.ref a2), .val (.int (1 : Int32)), .val (.int (3 : Int32)), .val (.int (1 : Int32)), .val (.int cb)] []))
  refine Rest.via (fun t k => XS.iinc X4.here hx rfl (hb hby d9_32) rfl (l' := #[.val (.ref a0), .val (.int ((1 : Int32) + (1 : Int32))), .val (.ref a2), .val (.int (1 : Int32)), .val (.int (3 : Int32)), .val (.int (1 : Int32)), .val (.int cb)]) rfl k) ?_
  show Rest p.tables e below s _ _ _ (T4.setTop (mkF m 35 #[.val (.ref a0), .val (.int ((1 : Int32) + (1 : Int32))), .val (.ref a2), .val (.int (1 : Int32)), .val (.int (3 : Int32)), .val (.int (1 : Int32)), .val (.int cb)] []))
  rw [(by decide : ((1 : Int32) + (1 : Int32)) = (2 : Int32))]
  show Rest p.tables e below s _ _ _ (T4.setTop (mkF m 35 #[.val (.ref a0), .val (.int (2 : Int32)), .val (.ref a2), .val (.int (1 : Int32)), .val (.int (3 : Int32)), .val (.int (1 : Int32)), .val (.int cb)] []))
  refine Rest.via (fun t k => XS.iinc X4.here hx rfl (hb hby d9_35) rfl (l' := #[.val (.ref a0), .val (.int (2 : Int32)), .val (.ref a2), .val (.int ((1 : Int32) + (1 : Int32))), .val (.int (3 : Int32)), .val (.int (1 : Int32)), .val (.int cb)]) rfl k) ?_
  show Rest p.tables e below s _ _ _ (T4.setTop (mkF m 38 #[.val (.ref a0), .val (.int (2 : Int32)), .val (.ref a2), .val (.int ((1 : Int32) + (1 : Int32))), .val (.int (3 : Int32)), .val (.int (1 : Int32)), .val (.int cb)] []))
  rw [(by decide : ((1 : Int32) + (1 : Int32)) = (2 : Int32))]
  show Rest p.tables e below s _ _ _ (T4.setTop (mkF m 38 #[.val (.ref a0), .val (.int (2 : Int32)), .val (.ref a2), .val (.int (2 : Int32)), .val (.int (3 : Int32)), .val (.int (1 : Int32)), .val (.int cb)] []))
  refine Rest.via (fun t k => XS.iinc X4.here hx rfl (hb hby d9_38) rfl (l' := #[.val (.ref a0), .val (.int (2 : Int32)), .val (.ref a2), .val (.int (2 : Int32)), .val (.int (3 : Int32)), .val (.int ((1 : Int32) + (1 : Int32))), .val (.int cb)]) rfl k) ?_
  show Rest p.tables e below s _ _ _ (T4.setTop (mkF m 41 #[.val (.ref a0), .val (.int (2 : Int32)), .val (.ref a2), .val (.int (2 : Int32)), .val (.int (3 : Int32)), .val (.int ((1 : Int32) + (1 : Int32))), .val (.int cb)] []))
  rw [(by decide : ((1 : Int32) + (1 : Int32)) = (2 : Int32))]
  show Rest p.tables e below s _ _ _ (T4.setTop (mkF m 41 #[.val (.ref a0), .val (.int (2 : Int32)), .val (.ref a2), .val (.int (2 : Int32)), .val (.int (3 : Int32)), .val (.int (2 : Int32)), .val (.int cb)] []))
  refine Rest.via (fun t k => XS.goto X4.here hx rfl (pc0 := 41) (pc' := 3) rfl (hb hby d9_41) (by decide) (by decide) k) ?_
  show Rest p.tables e below s _ _ _ (T4.setTop (mkF m 3 #[.val (.ref a0), .val (.int (2 : Int32)), .val (.ref a2), .val (.int (2 : Int32)), .val (.int (3 : Int32)), .val (.int (2 : Int32)), .val (.int cb)] []))
  refine Rest.via (fun t k => XS.iload X4.here hx rfl (hb hby d9_3) rfl k) ?_
  show Rest p.tables e below s _ _ _ (T4.setTop (mkF m 5 #[.val (.ref a0), .val (.int (2 : Int32)), .val (.ref a2), .val (.int (2 : Int32)), .val (.int (3 : Int32)), .val (.int (2 : Int32)), .val (.int cb)] [(.int (2 : Int32))]))
  refine Rest.via (fun t k => XS.iload X4.here hx rfl (hb hby d9_5) rfl k) ?_
  show Rest p.tables e below s _ _ _ (T4.setTop (mkF m 7 #[.val (.ref a0), .val (.int (2 : Int32)), .val (.ref a2), .val (.int (2 : Int32)), .val (.int (3 : Int32)), .val (.int (2 : Int32)), .val (.int cb)] [(.int (3 : Int32)), (.int (2 : Int32))]))
  refine Rest.via (fun t k => XS.icmpNo X4.here hx rfl (hb hby d9_7) rfl (tlt (by decide : (2 : Int32) < (3 : Int32))).2.1 k) ?_
  show Rest p.tables e below s _ _ _ (T4.setTop (mkF m 10 #[.val (.ref a0), .val (.int (2 : Int32)), .val (.ref a2), .val (.int (2 : Int32)), .val (.int (3 : Int32)), .val (.int (2 : Int32)), .val (.int cb)] []))
  refine Rest.via (fun t k => XS.aloadN X4.here hx rfl (hb hby d9_10) rfl rfl k) ?_
  show Rest p.tables e below s _ _ _ (T4.setTop (mkF m 11 #[.val (.ref a0), .val (.int (2 : Int32)), .val (.ref a2), .val (.int (2 : Int32)), .val (.int (3 : Int32)), .val (.int (2 : Int32)), .val (.int cb)] [(.ref a0)]))
  refine Rest.via (fun t k => XS.iloadN X4.here hx rfl (hb hby d9_11) rfl k) ?_
  show Rest p.tables e below s _ _ _ (T4.setTop (mkF m 12 #[.val (.ref a0), .val (.int (2 : Int32)), .val (.ref a2), .val (.int (2 : Int32)), .val (.int (3 : Int32)), .val (.int (2 : Int32)), .val (.int cb)] [(.int (2 : Int32)), (.ref a0)]))
  obtain ⟨cl5, Ar5, qa5, Sa5, Pa5, Ha5, Ga5⟩ := id ((V0.other W2 n02).other W4 n02)
  have hin5 := inb_of (j := (2 : Int32)) Sa5 ⟨by decide, by decide⟩
  have hat5 : cl5.slots[((2 : Int32)).toNatClampNeg]? = some (.int cc) := Has.at Ha5 hin5 rfl
  refine Rest.via (fun t k => X4.caload hx (j := (2 : Int32)) (v := (.int cc)) (by rw [e4]; exact Ar5.1) (State.isArrayOf_alike hZ.alike Ar5.2.1) Ar5.2.2 hin5 hat5 (g := (mkF m 12 #[.val (.ref a0), .val (.int (2 : Int32)), .val (.ref a2), .val (.int (2 : Int32)), .val (.int (3 : Int32)), .val (.int (2 : Int32)), .val (.int cb)] [(.int (2 : Int32)), (.ref a0)])) rfl rfl (hb hby d9_12) t k) ?_
  show Rest p.tables e below s _ _ _ (T4.setTop (mkF m 13 #[.val (.ref a0), .val (.int (2 : Int32)), .val (.ref a2), .val (.int (2 : Int32)), .val (.int (3 : Int32)), .val (.int (2 : Int32)), .val (.int cb)] [(.int cc)]))
  refine Rest.via (fun t k => XS.istore X4.here hx rfl (hb hby d9_13) rfl (l' := #[.val (.ref a0), .val (.int (2 : Int32)), .val (.ref a2), .val (.int (2 : Int32)), .val (.int (3 : Int32)), .val (.int (2 : Int32)), .val (.int cc)]) rfl k) ?_
  show Rest p.tables e below s _ _ _ (T4.setTop (mkF m 15 #[.val (.ref a0), .val (.int (2 : Int32)), .val (.ref a2), .val (.int (2 : Int32)), .val (.int (3 : Int32)), .val (.int (2 : Int32)), .val (.int cc)] []))
  refine Rest.via (fun t k => XS.iload X4.here hx rfl (hb hby d9_15) rfl k) ?_
  show Rest p.tables e below s _ _ _ (T4.setTop (mkF m 17 #[.val (.ref a0), .val (.int (2 : Int32)), .val (.ref a2), .val (.int (2 : Int32)), .val (.int (3 : Int32)), .val (.int (2 : Int32)), .val (.int cc)] [(.int cc)]))
  refine Rest.via (fun t k => XS.sipush X4.here hx rfl (hb hby d9_17) k) ?_
  show Rest p.tables e below s _ _ _ (T4.setTop (mkF m 20 #[.val (.ref a0), .val (.int (2 : Int32)), .val (.ref a2), .val (.int (2 : Int32)), .val (.int (3 : Int32)), .val (.int (2 : Int32)), .val (.int cc)] [(.int (255 : Int32)), (.int cc)]))
  refine Rest.via (fun t k => XS.icmpYes X4.here hx rfl (pc0 := 20) (pc' := 26) rfl (hb hby d9_20) rfl (flt (hcc : ¬ ((255 : Int32) < cc))).2.2.2 (by decide) (by decide) k) ?_
  show Rest p.tables e below s _ _ _ (T4.setTop (mkF m 26 #[.val (.ref a0), .val (.int (2 : Int32)), .val (.ref a2), .val (.int (2 : Int32)), .val (.int (3 : Int32)), .val (.int (2 : Int32)), .val (.int cc)] []))
  refine Rest.via (fun t k => XS.aloadN X4.here hx rfl (hb hby d9_26) rfl rfl k) ?_
  show Rest p.tables e below s _ _ _ (T4.setTop (mkF m 27 #[.val (.ref a0), .val (.int (2 : Int32)), .val (.ref a2), .val (.int (2 : Int32)), .val (.int (3 : Int32)), .val (.int (2 : Int32)), .val (.int cc)] [(.ref a2)]))
  refine Rest.via (fun t k => XS.iloadN X4.here hx rfl (hb hby d9_27) rfl k) ?_
  show Rest p.tables e below s _ _ _ (T4.setTop (mkF m 28 #[.val (.ref a0), .val (.int (2 : Int32)), .val (.ref a2), .val (.int (2 : Int32)), .val (.int (3 : Int32)), .val (.int (2 : Int32)), .val (.int cc)] [(.int (2 : Int32)), (.ref a2)]))
  refine Rest.via (fun t k => XS.iload X4.here hx rfl (hb hby d9_28) rfl k) ?_
  show Rest p.tables e below s _ _ _ (T4.setTop (mkF m 30 #[.val (.ref a0), .val (.int (2 : Int32)), .val (.ref a2), .val (.int (2 : Int32)), .val (.int (3 : Int32)), .val (.int (2 : Int32)), .val (.int cc)] [(.int cc), (.int (2 : Int32)), (.ref a2)]))
  refine Rest.via (fun t k => XS.i2b X4.here hx rfl (hb hby d9_30) rfl k) ?_
  show Rest p.tables e below s _ _ _ (T4.setTop (mkF m 31 #[.val (.ref a0), .val (.int (2 : Int32)), .val (.ref a2), .val (.int (2 : Int32)), .val (.int (3 : Int32)), .val (.int (2 : Int32)), .val (.int cc)] [(.int (cc.toInt8.toInt32)), (.int (2 : Int32)), (.ref a2)]))
  obtain ⟨cl6, Ar6, qa6, Sa6, Pa6, Ha6, Ga6⟩ := id V4
  have hin6 := inb_of (j := (2 : Int32)) Sa6 ⟨by decide, by decide⟩
  obtain ⟨T6, h6, X6, e6, W6, st6⟩ := stB X4 hx hZ e4 Ar6 (j := (2 : Int32)) hin6 (g := (mkF m 31 #[.val (.ref a0), .val (.int (2 : Int32)), .val (.ref a2), .val (.int (2 : Int32)), .val (.int (3 : Int32)), .val (.int (2 : Int32)), .val (.int cc)] [(.int (cc.toInt8.toInt32)), (.int (2 : Int32)), (.ref a2)])) rfl rfl (hb hby d9_31)
  refine Rest.via (fun t k => st6 t k) ?_
  have N6 := Fr.snoc X6 N4 g_a2
  have K6 : Keep h0 h6 [a2] := K4.wr W6 (Or.inl (List.mem_of_getElem? (i := 0) rfl))
  have V6 : Arv Z h6 a2 kb .byte (3 : Int32) [(.int (own_by ca)), (.int (own_by cb)), (.int (own_by cc))] (.int (0 : Int32)) := by have q := Arv.set Ar6 qa6 Sa6 Pa6 Ha6 Ga6 (fits_nar_byte _) W6 2 rfl (Nat.le_of_ble_eq_true rfl); rw [own_by_nar] at q; exact q
  show Rest p.tables e below s _ _ _ (T6.setTop (mkF m 32 #[.val (.ref a0), .val (.int (2 : Int32)), .val (.ref a2), .val (.int (2 : Int32)), .val (.int (3 : Int32)), .val (.int (2 : Int32)), .val (.int cc)] []))
  refine Rest.via (fun t k => XS.iinc X6.here hx rfl (hb hby d9_32) rfl (l' := #[.val (.ref a0), .val (.int ((2 : Int32) + (1 : Int32))), .val (.ref a2), .val (.int (2 : Int32)), .val (.int (3 : Int32)), .val (.int (2 : Int32)), .val (.int cc)]) rfl k) ?_
  show Rest p.tables e below s _ _ _ (T6.setTop (mkF m 35 #[.val (.ref a0), .val (.int ((2 : Int32) + (1 : Int32))), .val (.ref a2), .val (.int (2 : Int32)), .val (.int (3 : Int32)), .val (.int (2 : Int32)), .val (.int cc)] []))
  rw [(by decide : ((2 : Int32) + (1 : Int32)) = (3 : Int32))]
  show Rest p.tables e below s _ _ _ (T6.setTop (mkF m 35 #[.val (.ref a0), .val (.int (3 : Int32)), .val (.ref a2), .val (.int (2 : Int32)), .val (.int (3 : Int32)), .val (.int (2 : Int32)), .val (.int cc)] []))
  refine Rest.via (fun t k => XS.iinc X6.here hx rfl (hb hby d9_35) rfl (l' := #[.val (.ref a0), .val (.int (3 : Int32)), .val (.ref a2), .val (.int ((2 : Int32) + (1 : Int32))), .val (.int (3 : Int32)), .val (.int (2 : Int32)), .val (.int cc)]) rfl k) ?_
  show Rest p.tables e below s _ _ _ (T6.setTop (mkF m 38 #[.val (.ref a0), .val (.int (3 : Int32)), .val (.ref a2), .val (.int ((2 : Int32) + (1 : Int32))), .val (.int (3 : Int32)), .val (.int (2 : Int32)), .val (.int cc)] []))
  rw [(by decide : ((2 : Int32) + (1 : Int32)) = (3 : Int32))]
  show Rest p.tables e below s _ _ _ (T6.setTop (mkF m 38 #[.val (.ref a0), .val (.int (3 : Int32)), .val (.ref a2), .val (.int (3 : Int32)), .val (.int (3 : Int32)), .val (.int (2 : Int32)), .val (.int cc)] []))
  refine Rest.via (fun t k => XS.iinc X6.here hx rfl (hb hby d9_38) rfl (l' := #[.val (.ref a0), .val (.int (3 : Int32)), .val (.ref a2), .val (.int (3 : Int32)), .val (.int (3 : Int32)), .val (.int ((2 : Int32) + (1 : Int32))), .val (.int cc)]) rfl k) ?_
  show Rest p.tables e below s _ _ _ (T6.setTop (mkF m 41 #[.val (.ref a0), .val (.int (3 : Int32)), .val (.ref a2), .val (.int (3 : Int32)), .val (.int (3 : Int32)), .val (.int ((2 : Int32) + (1 : Int32))), .val (.int cc)] []))
  rw [(by decide : ((2 : Int32) + (1 : Int32)) = (3 : Int32))]
  show Rest p.tables e below s _ _ _ (T6.setTop (mkF m 41 #[.val (.ref a0), .val (.int (3 : Int32)), .val (.ref a2), .val (.int (3 : Int32)), .val (.int (3 : Int32)), .val (.int (3 : Int32)), .val (.int cc)] []))
  refine Rest.via (fun t k => XS.goto X6.here hx rfl (pc0 := 41) (pc' := 3) rfl (hb hby d9_41) (by decide) (by decide) k) ?_
  show Rest p.tables e below s _ _ _ (T6.setTop (mkF m 3 #[.val (.ref a0), .val (.int (3 : Int32)), .val (.ref a2), .val (.int (3 : Int32)), .val (.int (3 : Int32)), .val (.int (3 : Int32)), .val (.int cc)] []))
  refine Rest.via (fun t k => XS.iload X6.here hx rfl (hb hby d9_3) rfl k) ?_
  show Rest p.tables e below s _ _ _ (T6.setTop (mkF m 5 #[.val (.ref a0), .val (.int (3 : Int32)), .val (.ref a2), .val (.int (3 : Int32)), .val (.int (3 : Int32)), .val (.int (3 : Int32)), .val (.int cc)] [(.int (3 : Int32))]))
  refine Rest.via (fun t k => XS.iload X6.here hx rfl (hb hby d9_5) rfl k) ?_
  show Rest p.tables e below s _ _ _ (T6.setTop (mkF m 7 #[.val (.ref a0), .val (.int (3 : Int32)), .val (.ref a2), .val (.int (3 : Int32)), .val (.int (3 : Int32)), .val (.int (3 : Int32)), .val (.int cc)] [(.int (3 : Int32)), (.int (3 : Int32))]))
  refine Rest.via (fun t k => XS.icmpYes X6.here hx rfl (pc0 := 7) (pc' := 44) rfl (hb hby d9_7) rfl (flt (by decide : ¬ ((3 : Int32) < (3 : Int32)))).2.1 (by decide) (by decide) k) ?_
  show Rest p.tables e below s _ _ _ (T6.setTop (mkF m 44 #[.val (.ref a0), .val (.int (3 : Int32)), .val (.ref a2), .val (.int (3 : Int32)), .val (.int (3 : Int32)), .val (.int (3 : Int32)), .val (.int cc)] []))
  refine Rest.via (fun t k => XS.iload X6.here hx rfl (hb hby d9_44) rfl k) ?_
  show Rest p.tables e below s _ _ _ (T6.setTop (mkF m 46 #[.val (.ref a0), .val (.int (3 : Int32)), .val (.ref a2), .val (.int (3 : Int32)), .val (.int (3 : Int32)), .val (.int (3 : Int32)), .val (.int cc)] [(.int (3 : Int32))]))
  refine Rest.ret X6 (v := some (.int (3 : Int32))) (fun h => by rw [Bd.returns] at h; cases h) hlk (fun fs hr => retOut X6 hx Bd.returns rfl (Or.inl ⟨rfl, Or.inl rfl, _, rfl⟩) (hb hby d9_46) hr) ?_ (by decide) (by decide)
  rw [e6]
  exact ⟨rfl, N6, K6, V6⟩
theorem ef_W3 (m : MethodId) (a0 : Addr) : entryFrame m #[(.ref a0), (.int (0 : Int32)), (.int (3 : Int32))] 6 = mkF m 0 #[.val (.ref a0), .val (.int (0 : Int32)), .val (.int (3 : Int32)), .unset, .unset, .unset] [] := by first | (simp [entryFrame, mkF, argsToLocals, Value.category, maxLocals]; done) | rfl
def QW3 (Z : State) (a0 : Addr) (kc : ClassId) (ca : Int32) (cb : Int32) (cc : Int32) (h0 : Heap) (n0 : Nat) (v : Option Value) (h : Heap) (L : List Loc) : Prop := ∃ va kb, v = some (.ref va) ∧ Fr n0 L ∧ Keep h0 h [] ∧ h0.size ≤ va ∧ Arv Z h va kb .byte (3 : Int32) [(.int (own_by ca)), (.int (own_by cb)), (.int (own_by cc))] (.int (0 : Int32))
set_option maxRecDepth 65536 in
set_option maxHeartbeats 40000000 in
theorem rmW3 (l : Launch) (Z : State) (aw : Array Value) (hw : ∀ d ∈ tables_1, d.before aw Z = true) (ws : List Jvm.Cond) (a0 : Addr) (kc : ClassId) (ca : Int32) (cb : Int32) (cc : Int32) (h0 : Heap) (n0 : Nat) (Z0 : n0 ≤ h0.size) (V0 : Arv Z h0 a0 kc .char (3 : Int32) [(.int ca), (.int cb), (.int cc)] (.int (0 : Int32))) (hca : ¬ ((255 : Int32) < ca)) (hcb : ¬ ((255 : Int32) < cb)) (hcc : ¬ ((255 : Int32) < cc)) :
    MetFree l (⟨"java/lang/StringUTF16", "compress", "([CII)[B"⟩ : MethodName) (head1 (Jvm.Cond.code (⟨"java/lang/StringUTF16", "compress", "([CII)[B"⟩ : MethodName) jdk_52_method_16_code 6 (some (.array .byte)) :: ws) ({ frames := 1, cells := 1, slots := 3, locals := 18 } : Room)) (fun a U => a = #[(.ref a0), (.int (0 : Int32)), (.int (3 : Int32))] ∧ Z.Warmed39 U.vm ∧ U.heap = h0) (fun _ _ _ _ _ => True) (fun _ U o U' => ∃ v L, o = .returned v ∧ QW3 Z a0 kc ca cb cc h0 n0 v U'.heap L ∧ FrameEnd U o U' L ({ frames := 1, cells := 1, slots := 3, locals := 18 } : Room).cells ({ frames := 1, cells := 1, slots := 3, locals := 18 } : Room).slots) := by
  refine MetFree.of_bodySF (plainFor_of_name pn_0) hisR ?_
  intro p e s m args below meth c s₁ Bd hml0 hP hK
  obtain ⟨rfl, hZ, hh⟩ := hP
  have hx := Bd.exec
  have hby := Bd.bytes
  have hml : c.maxLocals = 6 := hml0
  have hown : s.vm.findClass "java/lang/StringUTF16" = some m.cls := findClass_of_methodNamed Bd.named
  have hnm := (name_of_methodNamed Bd.named Bd.method).1
  have hlk : meth.locks = false := BodyLoose.notSynchronized Bd
  have X0 : Stand p l e ({ frames := 1, cells := 1, slots := 3, locals := 18 } : Room) s m #[(.ref a0), (.int (0 : Int32)), (.int (3 : Int32))] below meth c s₁ [] 0 0 := Stand.of_body Bd
  have _u := trivial
  have eh0 : s₁.heap = h0 := by rw [← hh, Bd.state]; rfl
  have N0 := Fr.nil n0
  show Rest p.tables e below s (QW3 Z a0 kc ca cb cc h0 n0) _ _ (s₁.setTop (entryFrame m #[(.ref a0), (.int (0 : Int32)), (.int (3 : Int32))] 6))
  refine Rest.via (fun t k => castTop (ef_W3 m a0) k) ?_
  show Rest p.tables e below s _ _ _ (s₁.setTop (mkF m 0 #[.val (.ref a0), .val (.int (0 : Int32)), .val (.int (3 : Int32)), .unset, .unset, .unset] []))
  refine Rest.via (fun t k => XS.iloadN X0.here hx rfl (hb hby d8_0) rfl k) ?_
  show Rest p.tables e below s _ _ _ (s₁.setTop (mkF m 1 #[.val (.ref a0), .val (.int (0 : Int32)), .val (.int (3 : Int32)), .unset, .unset, .unset] [(.int (3 : Int32))]))
  obtain ⟨T1, h1, k1, X1, e1, E1, A1, st1⟩ := newP X0 hx hZ (hw _ (List.mem_of_getElem? (i := 22) rfl)) eh0 (g := (mkF m 1 #[.val (.ref a0), .val (.int (0 : Int32)), .val (.int (3 : Int32)), .unset, .unset, .unset] [(.int (3 : Int32))])) rfl (hb hby d8_1) rfl (by decide) (cap := 3) (by decide) (by decide) (by decide) (by decide)
  obtain ⟨b1, gq1⟩ : ∃ z, z = h0.size := ⟨_, rfl⟩
  rw [← gq1] at A1 st1
  have sz_b1 : h0.size ≤ b1 := Nat.le_trans (Keep.refl h0 []).1 (Nat.le_of_eq gq1.symm)
  have g_b1 : n0 ≤ b1 := Nat.le_trans Z0 sz_b1
  have ne_a0_b1 : a0 ≠ b1 := Nat.ne_of_lt (Nat.lt_of_lt_of_le V0.lt (Nat.le_of_eq gq1.symm))
  have K1 : Keep h0 h1 [] := (Keep.refl h0 []).ext E1
  have V_b1 := Arv.new A1 (by decide)
  have V_b1 : Arv Z h1 b1 k1 .byte (3 : Int32) [(.int (0 : Int32)), (.int (0 : Int32)), (.int (0 : Int32))] (.int (0 : Int32)) := V_b1.pad (pad_rep [] (.int (0 : Int32)) 3)
  refine Rest.via (fun t k => st1 t k) ?_
  show Rest p.tables e below s _ _ _ (T1.setTop (mkF m 3 #[.val (.ref a0), .val (.int (0 : Int32)), .val (.int (3 : Int32)), .unset, .unset, .unset] [(.ref b1)]))
  refine Rest.via (fun t k => XS.astoreN X1.here hx rfl (hb hby d8_3) rfl rfl (l' := #[.val (.ref a0), .val (.int (0 : Int32)), .val (.int (3 : Int32)), .val (.ref b1), .unset, .unset]) rfl k) ?_
  show Rest p.tables e below s _ _ _ (T1.setTop (mkF m 4 #[.val (.ref a0), .val (.int (0 : Int32)), .val (.int (3 : Int32)), .val (.ref b1), .unset, .unset] []))
  refine Rest.via (fun t k => XS.aloadN X1.here hx rfl (hb hby d8_4) rfl rfl k) ?_
  show Rest p.tables e below s _ _ _ (T1.setTop (mkF m 5 #[.val (.ref a0), .val (.int (0 : Int32)), .val (.int (3 : Int32)), .val (.ref b1), .unset, .unset] [(.ref a0)]))
  refine Rest.via (fun t k => XS.iloadN X1.here hx rfl (hb hby d8_5) rfl k) ?_
  show Rest p.tables e below s _ _ _ (T1.setTop (mkF m 6 #[.val (.ref a0), .val (.int (0 : Int32)), .val (.int (3 : Int32)), .val (.ref b1), .unset, .unset] [(.int (0 : Int32)), (.ref a0)]))
  refine Rest.via (fun t k => XS.aloadN X1.here hx rfl (hb hby d8_6) rfl rfl k) ?_
  show Rest p.tables e below s _ _ _ (T1.setTop (mkF m 7 #[.val (.ref a0), .val (.int (0 : Int32)), .val (.int (3 : Int32)), .val (.ref b1), .unset, .unset] [(.ref b1), (.int (0 : Int32)), (.ref a0)]))
  refine Rest.via (fun t k => XS.iconst X1.here hx rfl (hb hby d8_7) k) ?_
  show Rest p.tables e below s _ _ _ (T1.setTop (mkF m 8 #[.val (.ref a0), .val (.int (0 : Int32)), .val (.int (3 : Int32)), .val (.ref b1), .unset, .unset] [(.int (0 : Int32)), (.ref b1), (.int (0 : Int32)), (.ref a0)]))
  refine Rest.via (fun t k => XS.iloadN X1.here hx rfl (hb hby d8_8) rfl k) ?_
  show Rest p.tables e below s _ _ _ (T1.setTop (mkF m 9 #[.val (.ref a0), .val (.int (0 : Int32)), .val (.int (3 : Int32)), .val (.ref b1), .unset, .unset] [(.int (3 : Int32)), (.int (0 : Int32)), (.ref b1), (.int (0 : Int32)), (.ref a0)]))
  obtain ⟨_, _, ⟨T2, L2, k2, n2⟩, -, X2, ⟨Lc2, hQ2, l2, y2, z2⟩, st2⟩ := Jvm.LawKit.callS X1 hx (y := (⟨"java/lang/StringUTF16", "compress", "([CI[BII)I"⟩ : MethodName)) hown (mvT hZ (hw _ (List.mem_of_getElem? (i := 50) rfl))) (mvT hZ (hw _ (List.mem_of_getElem? (i := 51) rfl))) (mvT hZ (hw _ (List.mem_of_getElem? (i := 48) rfl))) (mvT hZ (hw _ (List.mem_of_getElem? (i := 52) rfl))) (by decide) (backOf (W := 0) (rmU3 l Z aw hw [] a0 b1 kc k1 ca cb cc h1 n0 (Nat.le_trans Z0 K1.1) (V0.ext E1) V_b1 ne_a0_b1 g_b1 hca hcb hcc) hZ (hw _ (List.mem_of_getElem? (i := 52) rfl)) (hw _ (List.mem_of_getElem? (i := 48) rfl)) (by decide) (by decide)) (g := (mkF m 9 #[.val (.ref a0), .val (.int (0 : Int32)), .val (.int (3 : Int32)), .val (.ref b1), .unset, .unset] [(.int (3 : Int32)), (.int (0 : Int32)), (.ref b1), (.int (0 : Int32)), (.ref a0)])) rfl (by rw [hml]; rfl) (argsL := [(.ref a0), (.int (0 : Int32)), (.ref b1), (.int (0 : Int32)), (.int (3 : Int32))]) (rest := []) (lenOf pd_0 rfl) rfl (by show 2 * 0 + _ ≤ _; exact Nat.le_of_eq rfl) (hb hby d8_9) (fun _ _ => ⟨rfl, e1, (by decide : 1 + 0 ≤ _), (by decide : 3 + 0 ≤ _)⟩)
  dsimp only [Pt.U, Pt.locs, Pt.cells, Pt.slots] at X2 l2 y2 z2 st2 hQ2
  subst l2 y2 z2
  obtain ⟨h2, e2⟩ : ∃ z, T2.heap = z := ⟨_, rfl⟩
  rw [e2] at hQ2
  obtain ⟨rfl, Nq2, Kq2, Vq2⟩ := hQ2
  have N2 := Fr.app N0 Nq2
  have K2 : Keep h0 h2 [] := K1.trans Kq2 (allS (Or.inr sz_b1) all0)
  refine Rest.via (fun t k => st2 t k) ?_
  show Rest p.tables e below s _ _ _ (T2.setTop (mkF m 12 #[.val (.ref a0), .val (.int (0 : Int32)), .val (.int (3 : Int32)), .val (.ref b1), .unset, .unset] [(.int (3 : Int32))]))
  refine Rest.via (fun t k => XS.istore X2.here hx rfl (hb hby d8_12) rfl (l' := #[.val (.ref a0), .val (.int (0 : Int32)), .val (.int (3 : Int32)), .val (.ref b1), .val (.int (3 : Int32)), .unset]) rfl k) ?_
  show Rest p.tables e below s _ _ _ (T2.setTop (mkF m 14 #[.val (.ref a0), .val (.int (0 : Int32)), .val (.int (3 : Int32)), .val (.ref b1), .val (.int (3 : Int32)), .unset] []))
  refine Rest.via (fun t k => XS.iload X2.here hx rfl (hb hby d8_14) rfl k) ?_
  show Rest p.tables e below s _ _ _ (T2.setTop (mkF m 16 #[.val (.ref a0), .val (.int (0 : Int32)), .val (.int (3 : Int32)), .val (.ref b1), .val (.int (3 : Int32)), .unset] [(.int (3 : Int32))]))
  refine Rest.via (fun t k => XS.iloadN X2.here hx rfl (hb hby d8_16) rfl k) ?_
  show Rest p.tables e below s _ _ _ (T2.setTop (mkF m 17 #[.val (.ref a0), .val (.int (0 : Int32)), .val (.int (3 : Int32)), .val (.ref b1), .val (.int (3 : Int32)), .unset] [(.int (3 : Int32)), (.int (3 : Int32))]))
  refine Rest.via (fun t k => XS.icmpYes X2.here hx rfl (pc0 := 17) (pc' := 57) rfl (hb hby d8_17) rfl (teq (by decide : (3 : Int32) = (3 : Int32))).1 (by decide) (by decide) k) ?_
  show Rest p.tables e below s _ _ _ (T2.setTop (mkF m 57 #[.val (.ref a0), .val (.int (0 : Int32)), .val (.int (3 : Int32)), .val (.ref b1), .val (.int (3 : Int32)), .unset] []))
  refine Rest.via (fun t k => XS.aloadN X2.here hx rfl (hb hby d8_57) rfl rfl k) ?_
  show Rest p.tables e below s _ _ _ (T2.setTop (mkF m 58 #[.val (.ref a0), .val (.int (0 : Int32)), .val (.int (3 : Int32)), .val (.ref b1), .val (.int (3 : Int32)), .unset] [(.ref b1)]))
  refine Rest.ret X2 (v := some (.ref b1)) (fun h => by rw [Bd.returns] at h; cases h) hlk (fun fs hr => retOut X2 hx Bd.returns rfl (Or.inr (Or.inr (Or.inr (Or.inr ⟨rfl, rfl, rfl⟩)))) (hb hby d8_58) hr) ?_ (by decide) (by decide)
  rw [e2]
  exact ⟨b1, k1, rfl, N2, K2, sz_b1, Vq2⟩
theorem ef_C3 (m : MethodId) (a0 : Addr) : entryFrame m #[(.ref a0), (.int (3 : Int32))] 2 = mkF m 0 #[.val (.ref a0), .val (.int (3 : Int32))] [] := by first | (simp [entryFrame, mkF, argsToLocals, Value.category, maxLocals]; done) | rfl
def QC3 (Z : State) (a0 : Addr) (k : ClassId) (vs : List Value) (h0 : Heap) (n0 : Nat) (v : Option Value) (h : Heap) (L : List Loc) : Prop := v = some (.int (0 : Int32)) ∧ Fr n0 L ∧ h = h0
set_option maxRecDepth 65536 in
set_option maxHeartbeats 40000000 in
theorem rmC3 (l : Launch) (Z : State) (aw : Array Value) (hw : ∀ d ∈ tables_1, d.before aw Z = true) (ws : List Jvm.Cond) (a0 : Addr) (k : ClassId) (vs : List Value) (h0 : Heap) (n0 : Nat) (Z0 : n0 ≤ h0.size) (V0 : Arv Z h0 a0 k .byte (3 : Int32) vs (.int (0 : Int32))) :
    MetFree l (⟨"java/lang/StringUTF16", "coderFromArrayLen", "([BI)B"⟩ : MethodName) (head1 (Jvm.Cond.code (⟨"java/lang/StringUTF16", "coderFromArrayLen", "([BI)B"⟩ : MethodName) jdk_52_method_15_code 2 (some .byte) :: ws) ({ frames := 0, cells := 0, slots := 0, locals := 0 } : Room)) (fun a U => a = #[(.ref a0), (.int (3 : Int32))] ∧ Z.Warmed39 U.vm ∧ U.heap = h0) (fun _ _ _ _ _ => True) (fun _ U o U' => ∃ v L, o = .returned v ∧ QC3 Z a0 k vs h0 n0 v U'.heap L ∧ FrameEnd U o U' L ({ frames := 0, cells := 0, slots := 0, locals := 0 } : Room).cells ({ frames := 0, cells := 0, slots := 0, locals := 0 } : Room).slots) := by
  refine MetFree.of_bodySF (plainFor_of_name pn_0) hisR ?_
  intro p e s m args below meth c s₁ Bd hml0 hP hK
  obtain ⟨rfl, hZ, hh⟩ := hP
  have hx := Bd.exec
  have hby := Bd.bytes
  have hml : c.maxLocals = 2 := hml0
  have hown : s.vm.findClass "java/lang/StringUTF16" = some m.cls := findClass_of_methodNamed Bd.named
  have hnm := (name_of_methodNamed Bd.named Bd.method).1
  have hlk : meth.locks = false := BodyLoose.notSynchronized Bd
  have X0 : Stand p l e ({ frames := 0, cells := 0, slots := 0, locals := 0 } : Room) s m #[(.ref a0), (.int (3 : Int32))] below meth c s₁ [] 0 0 := Stand.of_body Bd
  have _u := trivial
  have eh0 : s₁.heap = h0 := by rw [← hh, Bd.state]; rfl
  have N0 := Fr.nil n0
  show Rest p.tables e below s (QC3 Z a0 k vs h0 n0) _ _ (s₁.setTop (entryFrame m #[(.ref a0), (.int (3 : Int32))] 2))
  refine Rest.via (fun t k => castTop (ef_C3 m a0) k) ?_
  show Rest p.tables e below s _ _ _ (s₁.setTop (mkF m 0 #[.val (.ref a0), .val (.int (3 : Int32))] []))
  refine Rest.via (fun t k => XS.iloadN X0.here hx rfl (hb hby d10_0) rfl k) ?_
  show Rest p.tables e below s _ _ _ (s₁.setTop (mkF m 1 #[.val (.ref a0), .val (.int (3 : Int32))] [(.int (3 : Int32))]))
  refine Rest.via (fun t k => XS.aloadN X0.here hx rfl (hb hby d10_1) rfl rfl k) ?_
  show Rest p.tables e below s _ _ _ (s₁.setTop (mkF m 2 #[.val (.ref a0), .val (.int (3 : Int32))] [(.ref a0), (.int (3 : Int32))]))
  obtain ⟨cl1, Ar1, -, S1, P1, -, -⟩ := id V0
  refine Rest.via (fun t k => X0.arraylength hx (by rw [eh0]; exact Ar1.1) (State.isArrayOf_alike hZ.alike Ar1.2.1) (g := (mkF m 2 #[.val (.ref a0), .val (.int (3 : Int32))] [(.ref a0), (.int (3 : Int32))])) rfl rfl (hb hby d10_2) t k) ?_
  rw [len_of S1 P1]
  show Rest p.tables e below s _ _ _ (s₁.setTop (mkF m 3 #[.val (.ref a0), .val (.int (3 : Int32))] [(.int (3 : Int32)), (.int (3 : Int32))]))
  refine Rest.via (fun t k => XS.isub X0.here hx rfl (hb hby d10_3) rfl k) ?_
  show Rest p.tables e below s _ _ _ (s₁.setTop (mkF m 4 #[.val (.ref a0), .val (.int (3 : Int32))] [(.int ((3 : Int32) - (3 : Int32)))]))
  rw [(by decide : ((3 : Int32) - (3 : Int32)) = (0 : Int32))]
  show Rest p.tables e below s _ _ _ (s₁.setTop (mkF m 4 #[.val (.ref a0), .val (.int (3 : Int32))] [(.int (0 : Int32))]))
  refine Rest.via (fun t k => XS.bipush X0.here hx rfl (hb hby d10_4) k) ?_
  show Rest p.tables e below s _ _ _ (s₁.setTop (mkF m 6 #[.val (.ref a0), .val (.int (3 : Int32))] [(.int (31 : Int32)), (.int (0 : Int32))]))
  refine Rest.via (fun t k => XS.iushr X0.here hx rfl (hb hby d10_6) rfl k) ?_
  show Rest p.tables e below s _ _ _ (s₁.setTop (mkF m 7 #[.val (.ref a0), .val (.int (3 : Int32))] [(.int (((0 : Int32).toUInt32 >>> ((31 : Int32) &&& 31).toUInt32).toInt32))]))
  rw [(by decide : (((0 : Int32).toUInt32 >>> ((31 : Int32) &&& 31).toUInt32).toInt32) = (0 : Int32))]
  show Rest p.tables e below s _ _ _ (s₁.setTop (mkF m 7 #[.val (.ref a0), .val (.int (3 : Int32))] [(.int (0 : Int32))]))
  refine Rest.via (fun t k => XS.i2b X0.here hx rfl (hb hby d10_7) rfl k) ?_
  show Rest p.tables e below s _ _ _ (s₁.setTop (mkF m 8 #[.val (.ref a0), .val (.int (3 : Int32))] [(.int ((0 : Int32).toInt8.toInt32))]))
  rw [(by decide : ((0 : Int32).toInt8.toInt32) = (0 : Int32))]
  show Rest p.tables e below s _ _ _ (s₁.setTop (mkF m 8 #[.val (.ref a0), .val (.int (3 : Int32))] [(.int (0 : Int32))]))
  refine Rest.ret X0 (v := some (.int (nar .byte (0 : Int32)))) (fun h => by rw [Bd.returns] at h; cases h) hlk (fun fs hr => retN X0 hx (t := .byte) Bd.returns (by simp) (hb hby d10_8) hr) ?_ (by decide) (by decide)
  rw [eh0]
  exact ⟨rfl, N0, rfl⟩
theorem ef_SJ3 (m : MethodId) (a0 : Addr) (a1 : Addr) : entryFrame m #[(.ref a0), (.ref a1), (.int (0 : Int32)), (.int (3 : Int32)), .null] 6 = mkF m 0 #[.val (.ref a0), .val (.ref a1), .val (.int (0 : Int32)), .val (.int (3 : Int32)), .val .null, .unset] [] := by first | (simp [entryFrame, mkF, argsToLocals, Value.category, maxLocals]; done) | rfl
def QSJ3 (Z : State) (a0 : Addr) (a1 : Addr) (kc : ClassId) (ic : Int32) (ca : Int32) (cb : Int32) (cc : Int32) (h0 : Heap) (n0 : Nat) (v : Option Value) (h : Heap) (L : List Loc) : Prop := v = none ∧ Fr n0 L ∧ Keep h0 h [a0] ∧ ∃ va kb, h0.size ≤ va ∧ Fld Z h a0 "java/lang/String" "value" "[B" (.ref va) ∧ Fld Z h a0 "java/lang/String" "coder" "B" (.int (0 : Int32)) ∧ Arv Z h va kb .byte (3 : Int32) [(.int (own_by ca)), (.int (own_by cb)), (.int (own_by cc))] (.int (0 : Int32)) ∧ a0 ≠ va
set_option maxRecDepth 65536 in
set_option maxHeartbeats 40000000 in
theorem rmSJ3 (l : Launch) (Z : State) (aw : Array Value) (hw : ∀ d ∈ tables_1, d.before aw Z = true) (ws : List Jvm.Cond) (a0 : Addr) (a1 : Addr) (kc : ClassId) (ic : Int32) (ca : Int32) (cb : Int32) (cc : Int32) (h0 : Heap) (n0 : Nat) (Z0 : n0 ≤ h0.size) (E_a0 : Exa Z h0 a0 "java/lang/String") (F_v : Fld Z h0 a0 "java/lang/String" "value" "[B" .null) (F_c : Fld Z h0 a0 "java/lang/String" "coder" "B" (.int (0 : Int32))) (g_a0 : n0 ≤ a0) (V1 : Arv Z h0 a1 kc .char (3 : Int32) [(.int ca), (.int cb), (.int cc)] (.int (0 : Int32))) (hca : ¬ ((255 : Int32) < ca)) (hcb : ¬ ((255 : Int32) < cb)) (hcc : ¬ ((255 : Int32) < cc)) (O : Old Z n0 h0) (CS : own_CS Z ic) :
    MetFree l (⟨"java/lang/String", "<init>", "([CIILjava/lang/Void;)V"⟩ : MethodName) (head1 (Jvm.Cond.code (⟨"java/lang/String", "<init>", "([CIILjava/lang/Void;)V"⟩ : MethodName) jdk_42_method_149_code 6 none :: ws) ({ frames := 2, cells := 1, slots := 3, locals := 35 } : Room)) (fun a U => a = #[(.ref a0), (.ref a1), (.int (0 : Int32)), (.int (3 : Int32)), .null] ∧ Z.Warmed39 U.vm ∧ U.heap = h0) (fun _ _ _ _ _ => True) (fun _ U o U' => ∃ v L, o = .returned v ∧ QSJ3 Z a0 a1 kc ic ca cb cc h0 n0 v U'.heap L ∧ FrameEnd U o U' L ({ frames := 2, cells := 1, slots := 3, locals := 35 } : Room).cells ({ frames := 2, cells := 1, slots := 3, locals := 35 } : Room).slots) := by
  refine MetFree.of_bodySF (plainFor_of_name pn_1) hisR ?_
  intro p e s m args below meth c s₁ Bd hml0 hP hK
  obtain ⟨rfl, hZ, hh⟩ := hP
  have hx := Bd.exec
  have hby := Bd.bytes
  have hml : c.maxLocals = 6 := hml0
  have hown : s.vm.findClass "java/lang/String" = some m.cls := findClass_of_methodNamed Bd.named
  have hnm := (name_of_methodNamed Bd.named Bd.method).1
  have hlk : meth.locks = false := BodyLoose.notSynchronized Bd
  have X0 : Stand p l e ({ frames := 2, cells := 1, slots := 3, locals := 35 } : Room) s m #[(.ref a0), (.ref a1), (.int (0 : Int32)), (.int (3 : Int32)), .null] below meth c s₁ [] 0 0 := Stand.of_body Bd
  have _u := trivial
  have eh0 : s₁.heap = h0 := by rw [← hh, Bd.state]; rfl
  have N0 := Fr.nil n0
  show Rest p.tables e below s (QSJ3 Z a0 a1 kc ic ca cb cc h0 n0) _ _ (s₁.setTop (entryFrame m #[(.ref a0), (.ref a1), (.int (0 : Int32)), (.int (3 : Int32)), .null] 6))
  refine Rest.via (fun t k => castTop (ef_SJ3 m a0 a1) k) ?_
  show Rest p.tables e below s _ _ _ (s₁.setTop (mkF m 0 #[.val (.ref a0), .val (.ref a1), .val (.int (0 : Int32)), .val (.int (3 : Int32)), .val .null, .unset] []))
  refine Rest.via (fun t k => XS.aloadN X0.here hx rfl (hb hby d3_0) rfl rfl k) ?_
  show Rest p.tables e below s _ _ _ (s₁.setTop (mkF m 1 #[.val (.ref a0), .val (.ref a1), .val (.int (0 : Int32)), .val (.int (3 : Int32)), .val .null, .unset] [(.ref a0)]))
  obtain ⟨T1, X1, e1, st1⟩ := initO X0 hx hZ hown (hw _ (List.mem_of_getElem? (i := 18) rfl)) (hw _ (List.mem_of_getElem? (i := 19) rfl)) (hw _ (List.mem_of_getElem? (i := 20) rfl)) eh0 (g := (mkF m 1 #[.val (.ref a0), .val (.ref a1), .val (.int (0 : Int32)), .val (.int (3 : Int32)), .val .null, .unset] [(.ref a0)])) rfl (by rw [hml]; rfl) rfl (hb hby d3_1) (by decide) (W := 0) (by show 2 * 0 + _ ≤ _; exact Nat.le_of_eq rfl) (by decide)
  refine Rest.via (fun t k => st1 t k) ?_
  show Rest p.tables e below s _ _ _ (T1.setTop (mkF m 4 #[.val (.ref a0), .val (.ref a1), .val (.int (0 : Int32)), .val (.int (3 : Int32)), .val .null, .unset] []))
  refine Rest.via (fun t k => XS.iloadN X1.here hx rfl (hb hby d3_4) rfl k) ?_
  show Rest p.tables e below s _ _ _ (T1.setTop (mkF m 5 #[.val (.ref a0), .val (.ref a1), .val (.int (0 : Int32)), .val (.int (3 : Int32)), .val .null, .unset] [(.int (3 : Int32))]))
  refine Rest.via (fun t k => XS.ifYes X1.here hx rfl (pc0 := 5) (pc' := 27) rfl (hb hby d3_5) rfl ((if0 _ _).trans (feq (by decide : ¬ ((3 : Int32) = (0 : Int32)))).2) (by decide) (by decide) k) ?_
  show Rest p.tables e below s _ _ _ (T1.setTop (mkF m 27 #[.val (.ref a0), .val (.ref a1), .val (.int (0 : Int32)), .val (.int (3 : Int32)), .val .null, .unset] []))
  obtain ⟨T2, X2, e2, st2⟩ := getS2 X1 hx hZ hown (host := "") (Or.inl (hw _ (List.mem_of_getElem? (i := 45) rfl))) Via.refl e1 (CS.1.ext (O.keep (Keep.refl h0 [a0]) (allS g_a0 all0)).2) (g := (mkF m 27 #[.val (.ref a0), .val (.ref a1), .val (.int (0 : Int32)), .val (.int (3 : Int32)), .val .null, .unset] [])) rfl (hb hby d3_27)
  refine Rest.via (fun t k => st2 t k) ?_
  show Rest p.tables e below s _ _ _ (T2.setTop (mkF m 30 #[.val (.ref a0), .val (.ref a1), .val (.int (0 : Int32)), .val (.int (3 : Int32)), .val .null, .unset] [(.int ic)]))
  refine Rest.via (fun t k => XS.ifNo X2.here hx rfl (hb hby d3_30) rfl ((if0 _ _).trans (feq (CS.2 : ¬ (ic = (0 : Int32)))).1) k) ?_
  show Rest p.tables e below s _ _ _ (T2.setTop (mkF m 33 #[.val (.ref a0), .val (.ref a1), .val (.int (0 : Int32)), .val (.int (3 : Int32)), .val .null, .unset] []))
  refine Rest.via (fun t k => XS.aloadN X2.here hx rfl (hb hby d3_33) rfl rfl k) ?_
  show Rest p.tables e below s _ _ _ (T2.setTop (mkF m 34 #[.val (.ref a0), .val (.ref a1), .val (.int (0 : Int32)), .val (.int (3 : Int32)), .val .null, .unset] [(.ref a1)]))
  refine Rest.via (fun t k => XS.iloadN X2.here hx rfl (hb hby d3_34) rfl k) ?_
  show Rest p.tables e below s _ _ _ (T2.setTop (mkF m 35 #[.val (.ref a0), .val (.ref a1), .val (.int (0 : Int32)), .val (.int (3 : Int32)), .val .null, .unset] [(.int (0 : Int32)), (.ref a1)]))
  refine Rest.via (fun t k => XS.iloadN X2.here hx rfl (hb hby d3_35) rfl k) ?_
  show Rest p.tables e below s _ _ _ (T2.setTop (mkF m 36 #[.val (.ref a0), .val (.ref a1), .val (.int (0 : Int32)), .val (.int (3 : Int32)), .val .null, .unset] [(.int (3 : Int32)), (.int (0 : Int32)), (.ref a1)]))
  obtain ⟨_, _, ⟨T3, L3, k3, n3⟩, -, X3, ⟨Lc3, hQ3, l3, y3, z3⟩, st3⟩ := Jvm.LawKit.callS X2 hx (y := (⟨"java/lang/StringUTF16", "compress", "([CII)[B"⟩ : MethodName)) hown (mvT hZ (hw _ (List.mem_of_getElem? (i := 46) rfl))) (mvT hZ (hw _ (List.mem_of_getElem? (i := 47) rfl))) (mvT hZ (hw _ (List.mem_of_getElem? (i := 48) rfl))) (mvT hZ (hw _ (List.mem_of_getElem? (i := 49) rfl))) (by decide) (backOf (W := 0) (rmW3 l Z aw hw [] a1 kc ca cb cc h0 n0 (Nat.le_trans Z0 (Keep.refl h0 [a0]).1) V1 hca hcb hcc) hZ (hw _ (List.mem_of_getElem? (i := 49) rfl)) (hw _ (List.mem_of_getElem? (i := 48) rfl)) (by decide) (by decide)) (g := (mkF m 36 #[.val (.ref a0), .val (.ref a1), .val (.int (0 : Int32)), .val (.int (3 : Int32)), .val .null, .unset] [(.int (3 : Int32)), (.int (0 : Int32)), (.ref a1)])) rfl (by rw [hml]; rfl) (argsL := [(.ref a1), (.int (0 : Int32)), (.int (3 : Int32))]) (rest := []) (lenOf pd_1 rfl) rfl (by show 2 * 0 + _ ≤ _; exact Nat.le_of_eq rfl) (hb hby d3_36) (fun _ _ => ⟨rfl, e2, (by decide : 0 + 1 ≤ _), (by decide : 0 + 3 ≤ _)⟩)
  dsimp only [Pt.U, Pt.locs, Pt.cells, Pt.slots] at X3 l3 y3 z3 st3 hQ3
  subst l3 y3 z3
  obtain ⟨h3, e3⟩ : ∃ z, T3.heap = z := ⟨_, rfl⟩
  rw [e3] at hQ3
  obtain ⟨va3, kb3, rfl, Nq3, Kq3, sd3, Vq3⟩ := hQ3
  have N3 := Fr.app N0 Nq3
  have sz_va3 : h0.size ≤ va3 := Nat.le_trans (Keep.refl h0 [a0]).1 sd3
  have ne_a0_va3 : a0 ≠ va3 := Nat.ne_of_lt (Nat.lt_of_lt_of_le E_a0.lt sd3)
  have K3 : Keep h0 h3 [a0] := (Keep.refl h0 [a0]).trans Kq3 all0
  refine Rest.via (fun t k => st3 t k) ?_
  show Rest p.tables e below s _ _ _ (T3.setTop (mkF m 39 #[.val (.ref a0), .val (.ref a1), .val (.int (0 : Int32)), .val (.int (3 : Int32)), .val .null, .unset] [(.ref va3)]))
  refine Rest.via (fun t k => XS.astore X3.here hx rfl (hb hby d3_39) rfl rfl (l' := #[.val (.ref a0), .val (.ref a1), .val (.int (0 : Int32)), .val (.int (3 : Int32)), .val .null, .val (.ref va3)]) rfl k) ?_
  show Rest p.tables e below s _ _ _ (T3.setTop (mkF m 41 #[.val (.ref a0), .val (.ref a1), .val (.int (0 : Int32)), .val (.int (3 : Int32)), .val .null, .val (.ref va3)] []))
  refine Rest.via (fun t k => XS.aloadN X3.here hx rfl (hb hby d3_41) rfl rfl k) ?_
  show Rest p.tables e below s _ _ _ (T3.setTop (mkF m 42 #[.val (.ref a0), .val (.ref a1), .val (.int (0 : Int32)), .val (.int (3 : Int32)), .val .null, .val (.ref va3)] [(.ref a0)]))
  refine Rest.via (fun t k => XS.aload X3.here hx rfl (hb hby d3_42) rfl rfl k) ?_
  show Rest p.tables e below s _ _ _ (T3.setTop (mkF m 44 #[.val (.ref a0), .val (.ref a1), .val (.int (0 : Int32)), .val (.int (3 : Int32)), .val .null, .val (.ref va3)] [(.ref va3), (.ref a0)]))
  refine Rest.via (fun t k => XS.iloadN X3.here hx rfl (hb hby d3_44) rfl k) ?_
  show Rest p.tables e below s _ _ _ (T3.setTop (mkF m 45 #[.val (.ref a0), .val (.ref a1), .val (.int (0 : Int32)), .val (.int (3 : Int32)), .val .null, .val (.ref va3)] [(.int (3 : Int32)), (.ref va3), (.ref a0)]))
  obtain ⟨_, _, ⟨T4, L4, k4, n4⟩, -, X4, ⟨Lc4, hQ4, l4, y4, z4⟩, st4⟩ := Jvm.LawKit.callS X3 hx (y := (⟨"java/lang/StringUTF16", "coderFromArrayLen", "([BI)B"⟩ : MethodName)) hown (mvT hZ (hw _ (List.mem_of_getElem? (i := 53) rfl))) (mvT hZ (hw _ (List.mem_of_getElem? (i := 54) rfl))) (mvT hZ (hw _ (List.mem_of_getElem? (i := 48) rfl))) (mvT hZ (hw _ (List.mem_of_getElem? (i := 55) rfl))) (by decide) (backOf (W := 1) (rmC3 l Z aw hw [] va3 kb3 _ h3 n0 (Nat.le_trans Z0 K3.1) Vq3) hZ (hw _ (List.mem_of_getElem? (i := 55) rfl)) (hw _ (List.mem_of_getElem? (i := 48) rfl)) (by decide) (by decide)) (g := (mkF m 45 #[.val (.ref a0), .val (.ref a1), .val (.int (0 : Int32)), .val (.int (3 : Int32)), .val .null, .val (.ref va3)] [(.int (3 : Int32)), (.ref va3), (.ref a0)])) rfl (by rw [hml]; rfl) (argsL := [(.ref va3), (.int (3 : Int32))]) (rest := [(.ref a0)]) (lenOf pd_2 rfl) rfl (by show 2 * 0 + _ ≤ _; exact Nat.le_of_eq rfl) (hb hby d3_45) (fun _ _ => ⟨rfl, e3, (by decide : 1 + 0 ≤ _), (by decide : 3 + 0 ≤ _)⟩)
  dsimp only [Pt.U, Pt.locs, Pt.cells, Pt.slots] at X4 l4 y4 z4 st4 hQ4
  subst l4 y4 z4
  obtain ⟨rfl, Nq4, e4⟩ := hQ4
  have N4 := Fr.app N3 Nq4
  refine Rest.via (fun t k => st4 t k) ?_
  show Rest p.tables e below s _ _ _ (T4.setTop (mkF m 48 #[.val (.ref a0), .val (.ref a1), .val (.int (0 : Int32)), .val (.int (3 : Int32)), .val .null, .val (.ref va3)] [(.int (0 : Int32)), (.ref a0)]))
  have Fo5 := (F_c.keep Kq3 nin0)
  obtain ⟨T5, h5, X5, e5, W5, st5⟩ := putFN X4 hx hZ hown (hw _ (List.mem_of_getElem? (i := 28) rfl)) Via.refl e4 Fo5 (E_a0.keep Kq3) (Or.inr ⟨(hw _ (List.mem_of_getElem? (i := 24) rfl)), rfl, hnm⟩) (hw _ (List.mem_of_getElem? (i := 8) rfl)) (ty := .byte) (v' := (.int (0 : Int32))) (by decide) rfl (by decide) (g := (mkF m 48 #[.val (.ref a0), .val (.ref a1), .val (.int (0 : Int32)), .val (.int (3 : Int32)), .val .null, .val (.ref va3)] [(.int (0 : Int32)), (.ref a0)])) rfl rfl (hb hby d3_48)
  refine Rest.via (fun t k => st5 t k) ?_
  have N5 := Fr.snoc X5 N4 g_a0
  have K5 : Keep h0 h5 [a0] := K3.wr W5 (Or.inl (List.mem_of_getElem? (i := 0) rfl))
  have Fw5 := Fo5.same W5
  show Rest p.tables e below s _ _ _ (T5.setTop (mkF m 51 #[.val (.ref a0), .val (.ref a1), .val (.int (0 : Int32)), .val (.int (3 : Int32)), .val .null, .val (.ref va3)] []))
  refine Rest.via (fun t k => XS.aloadN X5.here hx rfl (hb hby d3_51) rfl rfl k) ?_
  show Rest p.tables e below s _ _ _ (T5.setTop (mkF m 52 #[.val (.ref a0), .val (.ref a1), .val (.int (0 : Int32)), .val (.int (3 : Int32)), .val .null, .val (.ref va3)] [(.ref a0)]))
  refine Rest.via (fun t k => XS.aload X5.here hx rfl (hb hby d3_52) rfl rfl k) ?_
  show Rest p.tables e below s _ _ _ (T5.setTop (mkF m 54 #[.val (.ref a0), .val (.ref a1), .val (.int (0 : Int32)), .val (.int (3 : Int32)), .val .null, .val (.ref va3)] [(.ref va3), (.ref a0)]))
  have Fo6 := ((F_v.keep Kq3 nin0).other W5 (Or.inr (slot_ne (Or.inr (hw _ (List.mem_of_getElem? (i := 23) rfl))) (Or.inr (hw _ (List.mem_of_getElem? (i := 24) rfl))) (by decide) (t := (.array .byte)) (t' := .byte) (by decide) (by decide))))
  obtain ⟨T6, h6, X6, e6, W6, st6⟩ := putF X5 hx hZ hown (host := "") (Or.inl (hw _ (List.mem_of_getElem? (i := 27) rfl))) Via.refl e5 Fo6 ((E_a0.keep Kq3).wr W5) (Or.inr ⟨(hw _ (List.mem_of_getElem? (i := 23) rfl)), rfl, hnm⟩) (hw _ (List.mem_of_getElem? (i := 8) rfl)) (ty := (.array .byte)) (by decide) rfl rfl (g := (mkF m 54 #[.val (.ref a0), .val (.ref a1), .val (.int (0 : Int32)), .val (.int (3 : Int32)), .val .null, .val (.ref va3)] [(.ref va3), (.ref a0)])) rfl rfl (hb hby d3_54)
  refine Rest.via (fun t k => st6 t k) ?_
  have N6 := Fr.snoc X6 N5 g_a0
  have K6 : Keep h0 h6 [a0] := K5.wr W6 (Or.inl (List.mem_of_getElem? (i := 0) rfl))
  have Fw6 := Fo6.same W6
  show Rest p.tables e below s _ _ _ (T6.setTop (mkF m 57 #[.val (.ref a0), .val (.ref a1), .val (.int (0 : Int32)), .val (.int (3 : Int32)), .val .null, .val (.ref va3)] []))
  refine Rest.ret X6 (v := none) (fun _ => rfl) hlk (fun fs hr => X6.returnOut hx Bd.returns (hb hby d3_57) hr) ?_ (by decide) (by decide)
  rw [e6]
  exact ⟨rfl, N6, K6, va3, kb3, sz_va3, Fw6, (Fw5.other W6 (Or.inr (slot_ne (Or.inr (hw _ (List.mem_of_getElem? (i := 24) rfl))) (Or.inr (hw _ (List.mem_of_getElem? (i := 23) rfl))) (by decide) (t := .byte) (t' := (.array .byte)) (by decide) (by decide)))), ((Vq3.other W5 (Ne.symm ne_a0_va3)).other W6 (Ne.symm ne_a0_va3)), ne_a0_va3⟩
theorem ef_SI3 (m : MethodId) (a0 : Addr) (a1 : Addr) : entryFrame m #[(.ref a0), (.ref a1)] 2 = mkF m 0 #[.val (.ref a0), .val (.ref a1)] [] := by first | (simp [entryFrame, mkF, argsToLocals, Value.category, maxLocals]; done) | rfl
def QSI3 (Z : State) (a0 : Addr) (a1 : Addr) (kc : ClassId) (ic : Int32) (ca : Int32) (cb : Int32) (cc : Int32) (h0 : Heap) (n0 : Nat) (v : Option Value) (h : Heap) (L : List Loc) : Prop := v = none ∧ Fr n0 L ∧ Keep h0 h [a0] ∧ ∃ va kb, h0.size ≤ va ∧ Fld Z h a0 "java/lang/String" "value" "[B" (.ref va) ∧ Fld Z h a0 "java/lang/String" "coder" "B" (.int (0 : Int32)) ∧ Arv Z h va kb .byte (3 : Int32) [(.int (own_by ca)), (.int (own_by cb)), (.int (own_by cc))] (.int (0 : Int32)) ∧ a0 ≠ va
set_option maxRecDepth 65536 in
set_option maxHeartbeats 40000000 in
theorem rmSI3 (l : Launch) (Z : State) (aw : Array Value) (hw : ∀ d ∈ tables_1, d.before aw Z = true) (ws : List Jvm.Cond) (a0 : Addr) (a1 : Addr) (kc : ClassId) (ic : Int32) (ca : Int32) (cb : Int32) (cc : Int32) (h0 : Heap) (n0 : Nat) (Z0 : n0 ≤ h0.size) (E_a0 : Exa Z h0 a0 "java/lang/String") (F_v : Fld Z h0 a0 "java/lang/String" "value" "[B" .null) (F_c : Fld Z h0 a0 "java/lang/String" "coder" "B" (.int (0 : Int32))) (g_a0 : n0 ≤ a0) (V1 : Arv Z h0 a1 kc .char (3 : Int32) [(.int ca), (.int cb), (.int cc)] (.int (0 : Int32))) (hca : ¬ ((255 : Int32) < ca)) (hcb : ¬ ((255 : Int32) < cb)) (hcc : ¬ ((255 : Int32) < cc)) (O : Old Z n0 h0) (CS : own_CS Z ic) :
    MetFree l (⟨"java/lang/String", "<init>", "([C)V"⟩ : MethodName) (head1 (Jvm.Cond.code (⟨"java/lang/String", "<init>", "([C)V"⟩ : MethodName) jdk_42_method_3_code 2 none :: ws) ({ frames := 3, cells := 1, slots := 3, locals := 52 } : Room)) (fun a U => a = #[(.ref a0), (.ref a1)] ∧ Z.Warmed39 U.vm ∧ U.heap = h0) (fun _ _ _ _ _ => True) (fun _ U o U' => ∃ v L, o = .returned v ∧ QSI3 Z a0 a1 kc ic ca cb cc h0 n0 v U'.heap L ∧ FrameEnd U o U' L ({ frames := 3, cells := 1, slots := 3, locals := 52 } : Room).cells ({ frames := 3, cells := 1, slots := 3, locals := 52 } : Room).slots) := by
  refine MetFree.of_bodySF (plainFor_of_name pn_1) hisR ?_
  intro p e s m args below meth c s₁ Bd hml0 hP hK
  obtain ⟨rfl, hZ, hh⟩ := hP
  have hx := Bd.exec
  have hby := Bd.bytes
  have hml : c.maxLocals = 2 := hml0
  have hown : s.vm.findClass "java/lang/String" = some m.cls := findClass_of_methodNamed Bd.named
  have hnm := (name_of_methodNamed Bd.named Bd.method).1
  have hlk : meth.locks = false := BodyLoose.notSynchronized Bd
  have X0 : Stand p l e ({ frames := 3, cells := 1, slots := 3, locals := 52 } : Room) s m #[(.ref a0), (.ref a1)] below meth c s₁ [] 0 0 := Stand.of_body Bd
  have _u := trivial
  have eh0 : s₁.heap = h0 := by rw [← hh, Bd.state]; rfl
  have N0 := Fr.nil n0
  show Rest p.tables e below s (QSI3 Z a0 a1 kc ic ca cb cc h0 n0) _ _ (s₁.setTop (entryFrame m #[(.ref a0), (.ref a1)] 2))
  refine Rest.via (fun t k => castTop (ef_SI3 m a0 a1) k) ?_
  show Rest p.tables e below s _ _ _ (s₁.setTop (mkF m 0 #[.val (.ref a0), .val (.ref a1)] []))
  refine Rest.via (fun t k => XS.aloadN X0.here hx rfl (hb hby d2_0) rfl rfl k) ?_
  show Rest p.tables e below s _ _ _ (s₁.setTop (mkF m 1 #[.val (.ref a0), .val (.ref a1)] [(.ref a0)]))
  refine Rest.via (fun t k => XS.aloadN X0.here hx rfl (hb hby d2_1) rfl rfl k) ?_
  show Rest p.tables e below s _ _ _ (s₁.setTop (mkF m 2 #[.val (.ref a0), .val (.ref a1)] [(.ref a1), (.ref a0)]))
  refine Rest.via (fun t k => XS.iconst X0.here hx rfl (hb hby d2_2) k) ?_
  show Rest p.tables e below s _ _ _ (s₁.setTop (mkF m 3 #[.val (.ref a0), .val (.ref a1)] [(.int (0 : Int32)), (.ref a1), (.ref a0)]))
  refine Rest.via (fun t k => XS.aloadN X0.here hx rfl (hb hby d2_3) rfl rfl k) ?_
  show Rest p.tables e below s _ _ _ (s₁.setTop (mkF m 4 #[.val (.ref a0), .val (.ref a1)] [(.ref a1), (.int (0 : Int32)), (.ref a1), (.ref a0)]))
  obtain ⟨cl1, Ar1, -, S1, P1, -, -⟩ := id V1
  refine Rest.via (fun t k => X0.arraylength hx (by rw [eh0]; exact Ar1.1) (State.isArrayOf_alike hZ.alike Ar1.2.1) (g := (mkF m 4 #[.val (.ref a0), .val (.ref a1)] [(.ref a1), (.int (0 : Int32)), (.ref a1), (.ref a0)])) rfl rfl (hb hby d2_4) t k) ?_
  rw [len_of S1 P1]
  show Rest p.tables e below s _ _ _ (s₁.setTop (mkF m 5 #[.val (.ref a0), .val (.ref a1)] [(.int (3 : Int32)), (.int (0 : Int32)), (.ref a1), (.ref a0)]))
  refine Rest.via (fun t k => XS.aconstNull X0.here hx rfl (hb hby d2_5) k) ?_
  show Rest p.tables e below s _ _ _ (s₁.setTop (mkF m 6 #[.val (.ref a0), .val (.ref a1)] [.null, (.int (3 : Int32)), (.int (0 : Int32)), (.ref a1), (.ref a0)]))
  obtain ⟨_, _, ⟨T2, L2, k2, n2⟩, -, X2, ⟨Lc2, hQ2, l2, y2, z2⟩, st2⟩ := X0.specialBack hx (y := (⟨"java/lang/String", "<init>", "([CIILjava/lang/Void;)V"⟩ : MethodName)) rfl hown (mvT hZ (hw _ (List.mem_of_getElem? (i := 14) rfl))) (mvT hZ (hw _ (List.mem_of_getElem? (i := 15) rfl))) (mvT hZ (hw _ (List.mem_of_getElem? (i := 17) rfl))) (by decide) (backOf (W := 0) (rmSJ3 l Z aw hw [] a0 a1 kc ic ca cb cc h0 n0 (Nat.le_trans Z0 (Keep.refl h0 [a0]).1) E_a0 F_v F_c g_a0 V1 hca hcb hcc (O.keep (Keep.refl h0 [a0]) (allS g_a0 all0)) CS) hZ (hw _ (List.mem_of_getElem? (i := 17) rfl)) (hw _ (List.mem_of_getElem? (i := 9) rfl)) (by decide) (by decide)) (g := (mkF m 6 #[.val (.ref a0), .val (.ref a1)] [.null, (.int (3 : Int32)), (.int (0 : Int32)), (.ref a1), (.ref a0)])) rfl (by rw [hml]; rfl) (Steps.refl _) (a := a0) (argsL := [(.ref a1), (.int (0 : Int32)), (.int (3 : Int32)), .null]) (rest := []) (lenOf pd_3 rfl) rfl (by show 2 * 0 + _ ≤ _; exact Nat.le_of_eq rfl) (hb hby d2_6) (fun _ _ => ⟨rfl, eh0, (by decide : 0 + 1 ≤ _), (by decide : 0 + 3 ≤ _)⟩)
  dsimp only [Pt.U, Pt.locs, Pt.cells, Pt.slots] at X2 l2 y2 z2 st2 hQ2
  subst l2 y2 z2
  obtain ⟨h2, e2⟩ : ∃ z, T2.heap = z := ⟨_, rfl⟩
  rw [e2] at hQ2
  obtain ⟨rfl, Nq2, Kq2, va2, kb2, sd2, Fv2, Fc2, Vq2, nb2⟩ := hQ2
  have N2 := Fr.app N0 Nq2
  have K2 : Keep h0 h2 [a0] := (Keep.refl h0 [a0]).trans Kq2 (allS (Or.inl (List.mem_of_getElem? (i := 0) rfl)) all0)
  refine Rest.via (fun t k => st2.trans k) ?_
  show Rest p.tables e below s _ _ _ (T2.setTop (mkF m 9 #[.val (.ref a0), .val (.ref a1)] []))
  refine Rest.ret X2 (v := none) (fun _ => rfl) hlk (fun fs hr => X2.returnOut hx Bd.returns (hb hby d2_9) hr) ?_ (by decide) (by decide)
  rw [e2]
  exact ⟨rfl, N2, K2, va2, kb2, Nat.le_trans (Keep.refl h0 [a0]).1 sd2, Fv2, Fc2, Vq2, nb2⟩
theorem d14_0 : decode jdk_43_method_13_code 0 = .ok (.aload_n 0, 1) := by decide +kernel
theorem d14_1 : decode jdk_43_method_13_code 1 = .ok (.arraylength, 1) := by decide +kernel
theorem d14_2 : decode jdk_43_method_13_code 2 = .ok (.aload_n 1, 1) := by decide +kernel
theorem d14_3 : decode jdk_43_method_13_code 3 = .ok (.arraylength, 1) := by decide +kernel
theorem d14_4 : decode jdk_43_method_13_code 4 = .ok (.if_icmp .ne 30, 3) := by decide +kernel
theorem d14_7 : decode jdk_43_method_13_code 7 = .ok (.iconst 0, 1) := by decide +kernel
theorem d14_8 : decode jdk_43_method_13_code 8 = .ok (.istore_n 2, 1) := by decide +kernel
theorem d14_9 : decode jdk_43_method_13_code 9 = .ok (.iload_n 2, 1) := by decide +kernel
theorem d14_10 : decode jdk_43_method_13_code 10 = .ok (.aload_n 0, 1) := by decide +kernel
theorem d14_11 : decode jdk_43_method_13_code 11 = .ok (.arraylength, 1) := by decide +kernel
theorem d14_12 : decode jdk_43_method_13_code 12 = .ok (.if_icmp .ge 20, 3) := by decide +kernel
theorem d14_32 : decode jdk_43_method_13_code 32 = .ok (.iconst 1, 1) := by decide +kernel
theorem d14_33 : decode jdk_43_method_13_code 33 = .ok (.ireturn, 1) := by decide +kernel
theorem pn_2 : plainName "java/lang/StringLatin1" = true := by first | (simp [plainName, overriddenIn]; done) | decide +kernel
theorem ef_LE0_0 (m : MethodId) (a0 : Addr) (a1 : Addr) : entryFrame m #[(.ref a0), (.ref a1)] 3 = mkF m 0 #[.val (.ref a0), .val (.ref a1), .unset] [] := by first | (simp [entryFrame, mkF, argsToLocals, Value.category, maxLocals]; done) | rfl
def QLE0_0 (Z : State) (a0 : Addr) (a1 : Addr) (k0 : ClassId) (k1 : ClassId) (h0 : Heap) (n0 : Nat) (v : Option Value) (h : Heap) (L : List Loc) : Prop := v = some (.int (if ([] : List Int32) = [] then (1 : Int32) else 0)) ∧ Fr n0 L ∧ h = h0
set_option maxRecDepth 65536 in
set_option maxHeartbeats 40000000 in
theorem rmLE0_0 (l : Launch) (Z : State) (aw : Array Value) (hw : ∀ d ∈ tables_1, d.before aw Z = true) (ws : List Jvm.Cond) (a0 : Addr) (a1 : Addr) (k0 : ClassId) (k1 : ClassId) (h0 : Heap) (n0 : Nat) (Z0 : n0 ≤ h0.size) (V0 : Arv Z h0 a0 k0 .byte (0 : Int32) [] (.int (0 : Int32))) (V1 : Arv Z h0 a1 k1 .byte (0 : Int32) [] (.int (0 : Int32))) :
    MetFree l (⟨"java/lang/StringLatin1", "equals", "([B[B)Z"⟩ : MethodName) (head1 (Jvm.Cond.code (⟨"java/lang/StringLatin1", "equals", "([B[B)Z"⟩ : MethodName) jdk_43_method_13_code 3 (some .boolean) :: ws) ({ frames := 0, cells := 0, slots := 0, locals := 0 } : Room)) (fun a U => a = #[(.ref a0), (.ref a1)] ∧ Z.Warmed39 U.vm ∧ U.heap = h0) (fun _ _ _ _ _ => True) (fun _ U o U' => ∃ v L, o = .returned v ∧ QLE0_0 Z a0 a1 k0 k1 h0 n0 v U'.heap L ∧ FrameEnd U o U' L ({ frames := 0, cells := 0, slots := 0, locals := 0 } : Room).cells ({ frames := 0, cells := 0, slots := 0, locals := 0 } : Room).slots) := by
  refine MetFree.of_bodySF (plainFor_of_name pn_2) hisR ?_
  intro p e s m args below meth c s₁ Bd hml0 hP hK
  obtain ⟨rfl, hZ, hh⟩ := hP
  have hx := Bd.exec
  have hby := Bd.bytes
  have hml : c.maxLocals = 3 := hml0
  have hown : s.vm.findClass "java/lang/StringLatin1" = some m.cls := findClass_of_methodNamed Bd.named
  have hnm := (name_of_methodNamed Bd.named Bd.method).1
  have hlk : meth.locks = false := BodyLoose.notSynchronized Bd
  have X0 : Stand p l e ({ frames := 0, cells := 0, slots := 0, locals := 0 } : Room) s m #[(.ref a0), (.ref a1)] below meth c s₁ [] 0 0 := Stand.of_body Bd
  have _u := trivial
  have eh0 : s₁.heap = h0 := by rw [← hh, Bd.state]; rfl
  have N0 := Fr.nil n0
  show Rest p.tables e below s (QLE0_0 Z a0 a1 k0 k1 h0 n0) _ _ (s₁.setTop (entryFrame m #[(.ref a0), (.ref a1)] 3))
  refine Rest.via (fun t k => castTop (ef_LE0_0 m a0 a1) k) ?_
  show Rest p.tables e below s _ _ _ (s₁.setTop (mkF m 0 #[.val (.ref a0), .val (.ref a1), .unset] []))
  refine Rest.via (fun t k => XS.aloadN X0.here hx rfl (hb hby d14_0) rfl rfl k) ?_
  show Rest p.tables e below s _ _ _ (s₁.setTop (mkF m 1 #[.val (.ref a0), .val (.ref a1), .unset] [(.ref a0)]))
  obtain ⟨cl1, Ar1, -, S1, P1, -, -⟩ := id V0
  refine Rest.via (fun t k => X0.arraylength hx (by rw [eh0]; exact Ar1.1) (State.isArrayOf_alike hZ.alike Ar1.2.1) (g := (mkF m 1 #[.val (.ref a0), .val (.ref a1), .unset] [(.ref a0)])) rfl rfl (hb hby d14_1) t k) ?_
  rw [len_of S1 P1]
  show Rest p.tables e below s _ _ _ (s₁.setTop (mkF m 2 #[.val (.ref a0), .val (.ref a1), .unset] [(.int (0 : Int32))]))
  refine Rest.via (fun t k => XS.aloadN X0.here hx rfl (hb hby d14_2) rfl rfl k) ?_
  show Rest p.tables e below s _ _ _ (s₁.setTop (mkF m 3 #[.val (.ref a0), .val (.ref a1), .unset] [(.ref a1), (.int (0 : Int32))]))
  obtain ⟨cl2, Ar2, -, S2, P2, -, -⟩ := id V1
  refine Rest.via (fun t k => X0.arraylength hx (by rw [eh0]; exact Ar2.1) (State.isArrayOf_alike hZ.alike Ar2.2.1) (g := (mkF m 3 #[.val (.ref a0), .val (.ref a1), .unset] [(.ref a1), (.int (0 : Int32))])) rfl rfl (hb hby d14_3) t k) ?_
  rw [len_of S2 P2]
  show Rest p.tables e below s _ _ _ (s₁.setTop (mkF m 4 #[.val (.ref a0), .val (.ref a1), .unset] [(.int (0 : Int32)), (.int (0 : Int32))]))
  refine Rest.via (fun t k => XS.icmpNo X0.here hx rfl (hb hby d14_4) rfl (teq (by decide : (0 : Int32) = (0 : Int32))).2 k) ?_
  show Rest p.tables e below s _ _ _ (s₁.setTop (mkF m 7 #[.val (.ref a0), .val (.ref a1), .unset] []))
  refine Rest.via (fun t k => XS.iconst X0.here hx rfl (hb hby d14_7) k) ?_
  show Rest p.tables e below s _ _ _ (s₁.setTop (mkF m 8 #[.val (.ref a0), .val (.ref a1), .unset] [(.int (0 : Int32))]))
  refine Rest.via (fun t k => XS.istoreN X0.here hx rfl (hb hby d14_8) rfl (l' := #[.val (.ref a0), .val (.ref a1), .val (.int (0 : Int32))]) rfl k) ?_
  show Rest p.tables e below s _ _ _ (s₁.setTop (mkF m 9 #[.val (.ref a0), .val (.ref a1), .val (.int (0 : Int32))] []))
  refine Rest.via (fun t k => XS.iloadN X0.here hx rfl (hb hby d14_9) rfl k) ?_
  show Rest p.tables e below s _ _ _ (s₁.setTop (mkF m 10 #[.val (.ref a0), .val (.ref a1), .val (.int (0 : Int32))] [(.int (0 : Int32))]))
  refine Rest.via (fun t k => XS.aloadN X0.here hx rfl (hb hby d14_10) rfl rfl k) ?_
  show Rest p.tables e below s _ _ _ (s₁.setTop (mkF m 11 #[.val (.ref a0), .val (.ref a1), .val (.int (0 : Int32))] [(.ref a0), (.int (0 : Int32))]))
  obtain ⟨cl3, Ar3, -, S3, P3, -, -⟩ := id V0
  refine Rest.via (fun t k => X0.arraylength hx (by rw [eh0]; exact Ar3.1) (State.isArrayOf_alike hZ.alike Ar3.2.1) (g := (mkF m 11 #[.val (.ref a0), .val (.ref a1), .val (.int (0 : Int32))] [(.ref a0), (.int (0 : Int32))])) rfl rfl (hb hby d14_11) t k) ?_
  rw [len_of S3 P3]
  show Rest p.tables e below s _ _ _ (s₁.setTop (mkF m 12 #[.val (.ref a0), .val (.ref a1), .val (.int (0 : Int32))] [(.int (0 : Int32)), (.int (0 : Int32))]))
  refine Rest.via (fun t k => XS.icmpYes X0.here hx rfl (pc0 := 12) (pc' := 32) rfl (hb hby d14_12) rfl (flt (by decide : ¬ ((0 : Int32) < (0 : Int32)))).2.1 (by decide) (by decide) k) ?_
  show Rest p.tables e below s _ _ _ (s₁.setTop (mkF m 32 #[.val (.ref a0), .val (.ref a1), .val (.int (0 : Int32))] []))
  refine Rest.via (fun t k => XS.iconst X0.here hx rfl (hb hby d14_32) k) ?_
  show Rest p.tables e below s _ _ _ (s₁.setTop (mkF m 33 #[.val (.ref a0), .val (.ref a1), .val (.int (0 : Int32))] [(.int (1 : Int32))]))
  refine Rest.ret X0 (v := some (.int (nar .boolean (1 : Int32)))) (fun h => by rw [Bd.returns] at h; cases h) hlk (fun fs hr => retN X0 hx (t := .boolean) Bd.returns (by simp) (hb hby d14_33) hr) ?_ (by decide) (by decide)
  rw [eh0]
  exact ⟨by show some (Value.int (1 : Int32)) = _; rw [if_pos (by rfl)], N0, rfl⟩
theorem pd_4 : parseMethodDescriptor "([B[B)Z" = some ⟨[(.array .byte), (.array .byte)], some .boolean⟩ := by decide +kernel
theorem d13_0 : decode jdk_42_method_66_code 0 = .ok (.aload_n 0, 1) := by decide +kernel
theorem d13_1 : decode jdk_42_method_66_code 1 = .ok (.aload_n 1, 1) := by decide +kernel
theorem d13_2 : decode jdk_42_method_66_code 2 = .ok (.if_acmp .ne 5, 3) := by decide +kernel
theorem d13_7 : decode jdk_42_method_66_code 7 = .ok (.aload_n 1, 1) := by decide +kernel
theorem d13_8 : decode jdk_42_method_66_code 8 = .ok (.instanceof 10, 3) := by decide +kernel
theorem d13_11 : decode jdk_42_method_66_code 11 = .ok (.ifCond .eq 43, 3) := by decide +kernel
theorem d13_14 : decode jdk_42_method_66_code 14 = .ok (.aload_n 1, 1) := by decide +kernel
theorem d13_15 : decode jdk_42_method_66_code 15 = .ok (.checkcast 10, 3) := by decide +kernel
theorem d13_18 : decode jdk_42_method_66_code 18 = .ok (.astore_n 2, 1) := by decide +kernel
theorem d13_19 : decode jdk_42_method_66_code 19 = .ok (.getstatic 38, 3) := by decide +kernel
theorem d13_22 : decode jdk_42_method_66_code 22 = .ok (.ifCond .eq 14, 3) := by decide +kernel
theorem d13_25 : decode jdk_42_method_66_code 25 = .ok (.aload_n 0, 1) := by decide +kernel
theorem d13_26 : decode jdk_42_method_66_code 26 = .ok (.getfield 15, 3) := by decide +kernel
theorem d13_29 : decode jdk_42_method_66_code 29 = .ok (.aload_n 2, 1) := by decide +kernel
theorem d13_30 : decode jdk_42_method_66_code 30 = .ok (.getfield 15, 3) := by decide +kernel
theorem d13_33 : decode jdk_42_method_66_code 33 = .ok (.if_icmp .ne 21, 3) := by decide +kernel
theorem d13_36 : decode jdk_42_method_66_code 36 = .ok (.aload_n 0, 1) := by decide +kernel
theorem d13_37 : decode jdk_42_method_66_code 37 = .ok (.getfield 9, 3) := by decide +kernel
theorem d13_40 : decode jdk_42_method_66_code 40 = .ok (.aload_n 2, 1) := by decide +kernel
theorem d13_41 : decode jdk_42_method_66_code 41 = .ok (.getfield 9, 3) := by decide +kernel
theorem d13_44 : decode jdk_42_method_66_code 44 = .ok (.invokestatic 541, 3) := by decide +kernel
theorem d13_47 : decode jdk_42_method_66_code 47 = .ok (.ifCond .eq 7, 3) := by decide +kernel
theorem d13_50 : decode jdk_42_method_66_code 50 = .ok (.iconst 1, 1) := by decide +kernel
theorem d13_51 : decode jdk_42_method_66_code 51 = .ok (.goto 4, 3) := by decide +kernel
theorem d13_54 : decode jdk_42_method_66_code 54 = .ok (.iconst 0, 1) := by decide +kernel
theorem d13_55 : decode jdk_42_method_66_code 55 = .ok (.ireturn, 1) := by decide +kernel
theorem ef_SE0_0 (m : MethodId) (a0 : Addr) (a1 : Addr) : entryFrame m #[(.ref a0), (.ref a1)] 3 = mkF m 0 #[.val (.ref a0), .val (.ref a1), .unset] [] := by first | (simp [entryFrame, mkF, argsToLocals, Value.category, maxLocals]; done) | rfl
def QSE0_0 (Z : State) (a0 : Addr) (a1 : Addr) (va0 : Addr) (k0 : ClassId) (va1 : Addr) (k1 : ClassId) (ic : Int32) (h0 : Heap) (n0 : Nat) (v : Option Value) (h : Heap) (L : List Loc) : Prop := v = some (.int (if ([] : List Int32) = [] then (1 : Int32) else 0)) ∧ Fr n0 L ∧ h = h0
set_option maxRecDepth 65536 in
set_option maxHeartbeats 40000000 in
theorem rmSE0_0 (l : Launch) (Z : State) (aw : Array Value) (hw : ∀ d ∈ tables_1, d.before aw Z = true) (ws : List Jvm.Cond) (a0 : Addr) (a1 : Addr) (va0 : Addr) (k0 : ClassId) (va1 : Addr) (k1 : ClassId) (ic : Int32) (h0 : Heap) (n0 : Nat) (Z0 : n0 ≤ h0.size) (S0 : own_St Z h0 a0 va0 k0 (0 : Int32) []) (S1 : own_St Z h0 a1 va1 k1 (0 : Int32) []) (n01 : a0 ≠ a1) (O : Old Z n0 h0) (CS : own_CS Z ic) :
    MetFree l (⟨"java/lang/String", "equals", "(Ljava/lang/Object;)Z"⟩ : MethodName) (head1 (Jvm.Cond.code (⟨"java/lang/String", "equals", "(Ljava/lang/Object;)Z"⟩ : MethodName) jdk_42_method_66_code 3 (some .boolean) :: ws) ({ frames := 1, cells := 0, slots := 0, locals := 14 } : Room)) (fun a U => a = #[(.ref a0), (.ref a1)] ∧ Z.Warmed39 U.vm ∧ U.heap = h0) (fun _ _ _ _ _ => True) (fun _ U o U' => ∃ v L, o = .returned v ∧ QSE0_0 Z a0 a1 va0 k0 va1 k1 ic h0 n0 v U'.heap L ∧ FrameEnd U o U' L ({ frames := 1, cells := 0, slots := 0, locals := 14 } : Room).cells ({ frames := 1, cells := 0, slots := 0, locals := 14 } : Room).slots) := by
  refine MetFree.of_bodySF (plainFor_of_name pn_1) hisR ?_
  intro p e s m args below meth c s₁ Bd hml0 hP hK
  obtain ⟨rfl, hZ, hh⟩ := hP
  have hx := Bd.exec
  have hby := Bd.bytes
  have hml : c.maxLocals = 3 := hml0
  have hown : s.vm.findClass "java/lang/String" = some m.cls := findClass_of_methodNamed Bd.named
  have hnm := (name_of_methodNamed Bd.named Bd.method).1
  have hlk : meth.locks = false := BodyLoose.notSynchronized Bd
  have X0 : Stand p l e ({ frames := 1, cells := 0, slots := 0, locals := 14 } : Room) s m #[(.ref a0), (.ref a1)] below meth c s₁ [] 0 0 := Stand.of_body Bd
  have _u := trivial
  have eh0 : s₁.heap = h0 := by rw [← hh, Bd.state]; rfl
  have N0 := Fr.nil n0
  show Rest p.tables e below s (QSE0_0 Z a0 a1 va0 k0 va1 k1 ic h0 n0) _ _ (s₁.setTop (entryFrame m #[(.ref a0), (.ref a1)] 3))
  refine Rest.via (fun t k => castTop (ef_SE0_0 m a0 a1) k) ?_
  obtain ⟨E_a0, Fv_a0, Fc_a0, V_a0⟩ := id S0
  obtain ⟨E_a1, Fv_a1, Fc_a1, V_a1⟩ := id S1
  show Rest p.tables e below s _ _ _ (s₁.setTop (mkF m 0 #[.val (.ref a0), .val (.ref a1), .unset] []))
  refine Rest.via (fun t k => XS.aloadN X0.here hx rfl (hb hby d13_0) rfl rfl k) ?_
  show Rest p.tables e below s _ _ _ (s₁.setTop (mkF m 1 #[.val (.ref a0), .val (.ref a1), .unset] [(.ref a0)]))
  refine Rest.via (fun t k => XS.aloadN X0.here hx rfl (hb hby d13_1) rfl rfl k) ?_
  show Rest p.tables e below s _ _ _ (s₁.setTop (mkF m 2 #[.val (.ref a0), .val (.ref a1), .unset] [(.ref a1), (.ref a0)]))
  refine Rest.via (fun t k => Jvm.RoadKit.acmp (g := (mkF m 2 #[.val (.ref a0), .val (.ref a1), .unset] [(.ref a1), (.ref a0)])) X0 hx rfl rfl rfl (pc0 := 2) (pc' := 7) (same := false) rfl (hb hby d13_2) rfl (decide_eq_false fun q => n01 (Value.ref.inj q)) (by decide) (by decide) k) ?_
  show Rest p.tables e below s _ _ _ (s₁.setTop (mkF m 7 #[.val (.ref a0), .val (.ref a1), .unset] []))
  refine Rest.via (fun t k => XS.aloadN X0.here hx rfl (hb hby d13_7) rfl rfl k) ?_
  show Rest p.tables e below s _ _ _ (s₁.setTop (mkF m 8 #[.val (.ref a0), .val (.ref a1), .unset] [(.ref a1)]))
  obtain ⟨T1, X1, e1, st1⟩ := instY X0 hx hZ hown (hw _ (List.mem_of_getElem? (i := 71) rfl)) eh0 (Ins.self E_a1) (g := (mkF m 8 #[.val (.ref a0), .val (.ref a1), .unset] [(.ref a1)])) rfl rfl (hb hby d13_8)
  refine Rest.via (fun t k => st1 t k) ?_
  show Rest p.tables e below s _ _ _ (T1.setTop (mkF m 11 #[.val (.ref a0), .val (.ref a1), .unset] [(.int (1 : Int32))]))
  refine Rest.via (fun t k => XS.ifNo X1.here hx rfl (hb hby d13_11) rfl ((if0 _ _).trans (feq (by decide : ¬ ((1 : Int32) = (0 : Int32)))).1) k) ?_
  show Rest p.tables e below s _ _ _ (T1.setTop (mkF m 14 #[.val (.ref a0), .val (.ref a1), .unset] []))
  refine Rest.via (fun t k => XS.aloadN X1.here hx rfl (hb hby d13_14) rfl rfl k) ?_
  show Rest p.tables e below s _ _ _ (T1.setTop (mkF m 15 #[.val (.ref a0), .val (.ref a1), .unset] [(.ref a1)]))
  obtain ⟨T2, X2, e2, st2⟩ := castY X1 hx hZ hown (hw _ (List.mem_of_getElem? (i := 71) rfl)) e1 (Ins.self E_a1) (g := (mkF m 15 #[.val (.ref a0), .val (.ref a1), .unset] [(.ref a1)])) rfl rfl (hb hby d13_15)
  refine Rest.via (fun t k => st2 t k) ?_
  show Rest p.tables e below s _ _ _ (T2.setTop (mkF m 18 #[.val (.ref a0), .val (.ref a1), .unset] [(.ref a1)]))
  refine Rest.via (fun t k => XS.astoreN X2.here hx rfl (hb hby d13_18) rfl rfl (l' := #[.val (.ref a0), .val (.ref a1), .val (.ref a1)]) rfl k) ?_
  show Rest p.tables e below s _ _ _ (T2.setTop (mkF m 19 #[.val (.ref a0), .val (.ref a1), .val (.ref a1)] []))
  obtain ⟨T3, X3, e3, st3⟩ := getS2 X2 hx hZ hown (host := "") (Or.inl (hw _ (List.mem_of_getElem? (i := 45) rfl))) Via.refl e2 (CS.1.ext (O.keep (Keep.refl h0 []) all0).2) (g := (mkF m 19 #[.val (.ref a0), .val (.ref a1), .val (.ref a1)] [])) rfl (hb hby d13_19)
  refine Rest.via (fun t k => st3 t k) ?_
  show Rest p.tables e below s _ _ _ (T3.setTop (mkF m 22 #[.val (.ref a0), .val (.ref a1), .val (.ref a1)] [(.int ic)]))
  refine Rest.via (fun t k => XS.ifNo X3.here hx rfl (hb hby d13_22) rfl ((if0 _ _).trans (feq (CS.2 : ¬ (ic = (0 : Int32)))).1) k) ?_
  show Rest p.tables e below s _ _ _ (T3.setTop (mkF m 25 #[.val (.ref a0), .val (.ref a1), .val (.ref a1)] []))
  refine Rest.via (fun t k => XS.aloadN X3.here hx rfl (hb hby d13_25) rfl rfl k) ?_
  show Rest p.tables e below s _ _ _ (T3.setTop (mkF m 26 #[.val (.ref a0), .val (.ref a1), .val (.ref a1)] [(.ref a0)]))
  obtain ⟨T4, X4, e4, st4⟩ := getF X3 hx hZ hown (host := "") (Or.inl (hw _ (List.mem_of_getElem? (i := 28) rfl))) Via.refl e3 Fc_a0 (g := (mkF m 26 #[.val (.ref a0), .val (.ref a1), .val (.ref a1)] [(.ref a0)])) rfl rfl (hb hby d13_26)
  refine Rest.via (fun t k => st4 t k) ?_
  show Rest p.tables e below s _ _ _ (T4.setTop (mkF m 29 #[.val (.ref a0), .val (.ref a1), .val (.ref a1)] [(.int (0 : Int32))]))
  refine Rest.via (fun t k => XS.aloadN X4.here hx rfl (hb hby d13_29) rfl rfl k) ?_
  show Rest p.tables e below s _ _ _ (T4.setTop (mkF m 30 #[.val (.ref a0), .val (.ref a1), .val (.ref a1)] [(.ref a1), (.int (0 : Int32))]))
  obtain ⟨T5, X5, e5, st5⟩ := getF X4 hx hZ hown (host := "") (Or.inl (hw _ (List.mem_of_getElem? (i := 28) rfl))) Via.refl e4 Fc_a1 (g := (mkF m 30 #[.val (.ref a0), .val (.ref a1), .val (.ref a1)] [(.ref a1), (.int (0 : Int32))])) rfl rfl (hb hby d13_30)
  refine Rest.via (fun t k => st5 t k) ?_
  show Rest p.tables e below s _ _ _ (T5.setTop (mkF m 33 #[.val (.ref a0), .val (.ref a1), .val (.ref a1)] [(.int (0 : Int32)), (.int (0 : Int32))]))
  refine Rest.via (fun t k => XS.icmpNo X5.here hx rfl (hb hby d13_33) rfl (teq (by decide : (0 : Int32) = (0 : Int32))).2 k) ?_
  show Rest p.tables e below s _ _ _ (T5.setTop (mkF m 36 #[.val (.ref a0), .val (.ref a1), .val (.ref a1)] []))
  refine Rest.via (fun t k => XS.aloadN X5.here hx rfl (hb hby d13_36) rfl rfl k) ?_
  show Rest p.tables e below s _ _ _ (T5.setTop (mkF m 37 #[.val (.ref a0), .val (.ref a1), .val (.ref a1)] [(.ref a0)]))
  obtain ⟨T6, X6, e6, st6⟩ := getF X5 hx hZ hown (host := "") (Or.inl (hw _ (List.mem_of_getElem? (i := 27) rfl))) Via.refl e5 Fv_a0 (g := (mkF m 37 #[.val (.ref a0), .val (.ref a1), .val (.ref a1)] [(.ref a0)])) rfl rfl (hb hby d13_37)
  refine Rest.via (fun t k => st6 t k) ?_
  show Rest p.tables e below s _ _ _ (T6.setTop (mkF m 40 #[.val (.ref a0), .val (.ref a1), .val (.ref a1)] [(.ref va0)]))
  refine Rest.via (fun t k => XS.aloadN X6.here hx rfl (hb hby d13_40) rfl rfl k) ?_
  show Rest p.tables e below s _ _ _ (T6.setTop (mkF m 41 #[.val (.ref a0), .val (.ref a1), .val (.ref a1)] [(.ref a1), (.ref va0)]))
  obtain ⟨T7, X7, e7, st7⟩ := getF X6 hx hZ hown (host := "") (Or.inl (hw _ (List.mem_of_getElem? (i := 27) rfl))) Via.refl e6 Fv_a1 (g := (mkF m 41 #[.val (.ref a0), .val (.ref a1), .val (.ref a1)] [(.ref a1), (.ref va0)])) rfl rfl (hb hby d13_41)
  refine Rest.via (fun t k => st7 t k) ?_
  show Rest p.tables e below s _ _ _ (T7.setTop (mkF m 44 #[.val (.ref a0), .val (.ref a1), .val (.ref a1)] [(.ref va1), (.ref va0)]))
  obtain ⟨_, _, ⟨T8, L8, k8, n8⟩, -, X8, ⟨Lc8, hQ8, l8, y8, z8⟩, st8⟩ := Jvm.LawKit.callS X7 hx (y := (⟨"java/lang/StringLatin1", "equals", "([B[B)Z"⟩ : MethodName)) hown (mvT hZ (hw _ (List.mem_of_getElem? (i := 72) rfl))) (mvT hZ (hw _ (List.mem_of_getElem? (i := 73) rfl))) (mvT hZ (hw _ (List.mem_of_getElem? (i := 74) rfl))) (mvT hZ (hw _ (List.mem_of_getElem? (i := 75) rfl))) (by decide) (backOf (W := 0) (rmLE0_0 l Z aw hw [] va0 va1 k0 k1  h0 n0 (Nat.le_trans Z0 (Keep.refl h0 []).1) V_a0 V_a1) hZ (hw _ (List.mem_of_getElem? (i := 75) rfl)) (hw _ (List.mem_of_getElem? (i := 74) rfl)) (by decide) (by decide)) (g := (mkF m 44 #[.val (.ref a0), .val (.ref a1), .val (.ref a1)] [(.ref va1), (.ref va0)])) rfl (by rw [hml]; rfl) (argsL := [(.ref va0), (.ref va1)]) (rest := []) (lenOf pd_4 rfl) rfl (by show 2 * 0 + _ ≤ _; exact Nat.le_of_eq rfl) (hb hby d13_44) (fun _ _ => ⟨rfl, e7, (by decide : 0 + 0 ≤ _), (by decide : 0 + 0 ≤ _)⟩)
  dsimp only [Pt.U, Pt.locs, Pt.cells, Pt.slots] at X8 l8 y8 z8 st8 hQ8
  subst l8 y8 z8
  obtain ⟨rfl, Nq8, e8⟩ := hQ8
  have N8 := Fr.app N0 Nq8
  refine Rest.via (fun t k => st8 t k) ?_
  show Rest p.tables e below s _ _ _ (T8.setTop (mkF m 47 #[.val (.ref a0), .val (.ref a1), .val (.ref a1)] [(.int (if ([] : List Int32) = [] then (1 : Int32) else 0))]))
  by_cases hz : (if ([] : List Int32) = [] then (1 : Int32) else 0) = (0 : Int32)
  · refine Rest.via (fun t k => XS.ifYes X8.here hx rfl (pc0 := 47) (pc' := 54) rfl (hb hby d13_47) rfl ((if0 _ _).trans (teq hz).1) (by decide) (by decide) k) ?_
    show Rest p.tables e below s _ _ _ (T8.setTop (mkF m 54 #[.val (.ref a0), .val (.ref a1), .val (.ref a1)] []))
    refine Rest.via (fun t k => XS.iconst X8.here hx rfl (hb hby d13_54) k) ?_
    show Rest p.tables e below s _ _ _ (T8.setTop (mkF m 55 #[.val (.ref a0), .val (.ref a1), .val (.ref a1)] [(.int (0 : Int32))]))
    refine Rest.ret X8 (v := some (.int (nar .boolean (0 : Int32)))) (fun h => by rw [Bd.returns] at h; cases h) hlk (fun fs hr => retN X8 hx (t := .boolean) Bd.returns (by simp) (hb hby d13_55) hr) ?_ (by decide) (by decide)
    rw [e8]
    exact ⟨by show some (Value.int (0 : Int32)) = _; rw [hz], N8, rfl⟩
  · refine Rest.via (fun t k => XS.ifNo X8.here hx rfl (hb hby d13_47) rfl ((if0 _ _).trans (feq hz).1) k) ?_
    show Rest p.tables e below s _ _ _ (T8.setTop (mkF m 50 #[.val (.ref a0), .val (.ref a1), .val (.ref a1)] []))
    refine Rest.via (fun t k => XS.iconst X8.here hx rfl (hb hby d13_50) k) ?_
    show Rest p.tables e below s _ _ _ (T8.setTop (mkF m 51 #[.val (.ref a0), .val (.ref a1), .val (.ref a1)] [(.int (1 : Int32))]))
    refine Rest.via (fun t k => XS.goto X8.here hx rfl (pc0 := 51) (pc' := 55) rfl (hb hby d13_51) (by decide) (by decide) k) ?_
    show Rest p.tables e below s _ _ _ (T8.setTop (mkF m 55 #[.val (.ref a0), .val (.ref a1), .val (.ref a1)] [(.int (1 : Int32))]))
    refine Rest.ret X8 (v := some (.int (nar .boolean (1 : Int32)))) (fun h => by rw [Bd.returns] at h; cases h) hlk (fun fs hr => retN X8 hx (t := .boolean) Bd.returns (by simp) (hb hby d13_55) hr) ?_ (by decide) (by decide)
    rw [e8]
    exact ⟨by show some (Value.int (1 : Int32)) = _; rw [own_ite1 hz], N8, rfl⟩
theorem d14_34 : decode jdk_43_method_13_code 34 = .ok (.iconst 0, 1) := by decide +kernel
theorem d14_35 : decode jdk_43_method_13_code 35 = .ok (.ireturn, 1) := by decide +kernel
theorem ef_LE0_1 (m : MethodId) (a0 : Addr) (a1 : Addr) : entryFrame m #[(.ref a0), (.ref a1)] 3 = mkF m 0 #[.val (.ref a0), .val (.ref a1), .unset] [] := by first | (simp [entryFrame, mkF, argsToLocals, Value.category, maxLocals]; done) | rfl
def QLE0_1 (Z : State) (a0 : Addr) (a1 : Addr) (k0 : ClassId) (k1 : ClassId) (ya : Int32) (h0 : Heap) (n0 : Nat) (v : Option Value) (h : Heap) (L : List Loc) : Prop := v = some (.int (if ([] : List Int32) = [ya] then (1 : Int32) else 0)) ∧ Fr n0 L ∧ h = h0
set_option maxRecDepth 65536 in
set_option maxHeartbeats 40000000 in
theorem rmLE0_1 (l : Launch) (Z : State) (aw : Array Value) (hw : ∀ d ∈ tables_1, d.before aw Z = true) (ws : List Jvm.Cond) (a0 : Addr) (a1 : Addr) (k0 : ClassId) (k1 : ClassId) (ya : Int32) (h0 : Heap) (n0 : Nat) (Z0 : n0 ≤ h0.size) (V0 : Arv Z h0 a0 k0 .byte (0 : Int32) [] (.int (0 : Int32))) (V1 : Arv Z h0 a1 k1 .byte (1 : Int32) [(.int ya)] (.int (0 : Int32))) :
    MetFree l (⟨"java/lang/StringLatin1", "equals", "([B[B)Z"⟩ : MethodName) (head1 (Jvm.Cond.code (⟨"java/lang/StringLatin1", "equals", "([B[B)Z"⟩ : MethodName) jdk_43_method_13_code 3 (some .boolean) :: ws) ({ frames := 0, cells := 0, slots := 0, locals := 0 } : Room)) (fun a U => a = #[(.ref a0), (.ref a1)] ∧ Z.Warmed39 U.vm ∧ U.heap = h0) (fun _ _ _ _ _ => True) (fun _ U o U' => ∃ v L, o = .returned v ∧ QLE0_1 Z a0 a1 k0 k1 ya h0 n0 v U'.heap L ∧ FrameEnd U o U' L ({ frames := 0, cells := 0, slots := 0, locals := 0 } : Room).cells ({ frames := 0, cells := 0, slots := 0, locals := 0 } : Room).slots) := by
  refine MetFree.of_bodySF (plainFor_of_name pn_2) hisR ?_
  intro p e s m args below meth c s₁ Bd hml0 hP hK
  obtain ⟨rfl, hZ, hh⟩ := hP
  have hx := Bd.exec
  have hby := Bd.bytes
  have hml : c.maxLocals = 3 := hml0
  have hown : s.vm.findClass "java/lang/StringLatin1" = some m.cls := findClass_of_methodNamed Bd.named
  have hnm := (name_of_methodNamed Bd.named Bd.method).1
  have hlk : meth.locks = false := BodyLoose.notSynchronized Bd
  have X0 : Stand p l e ({ frames := 0, cells := 0, slots := 0, locals := 0 } : Room) s m #[(.ref a0), (.ref a1)] below meth c s₁ [] 0 0 := Stand.of_body Bd
  have _u := trivial
  have eh0 : s₁.heap = h0 := by rw [← hh, Bd.state]; rfl
  have N0 := Fr.nil n0
  show Rest p.tables e below s (QLE0_1 Z a0 a1 k0 k1 ya h0 n0) _ _ (s₁.setTop (entryFrame m #[(.ref a0), (.ref a1)] 3))
  refine Rest.via (fun t k => castTop (ef_LE0_1 m a0 a1) k) ?_
  show Rest p.tables e below s _ _ _ (s₁.setTop (mkF m 0 #[.val (.ref a0), .val (.ref a1), .unset] []))
  refine Rest.via (fun t k => XS.aloadN X0.here hx rfl (hb hby d14_0) rfl rfl k) ?_
  show Rest p.tables e below s _ _ _ (s₁.setTop (mkF m 1 #[.val (.ref a0), .val (.ref a1), .unset] [(.ref a0)]))
  obtain ⟨cl1, Ar1, -, S1, P1, -, -⟩ := id V0
  refine Rest.via (fun t k => X0.arraylength hx (by rw [eh0]; exact Ar1.1) (State.isArrayOf_alike hZ.alike Ar1.2.1) (g := (mkF m 1 #[.val (.ref a0), .val (.ref a1), .unset] [(.ref a0)])) rfl rfl (hb hby d14_1) t k) ?_
  rw [len_of S1 P1]
  show Rest p.tables e below s _ _ _ (s₁.setTop (mkF m 2 #[.val (.ref a0), .val (.ref a1), .unset] [(.int (0 : Int32))]))
  refine Rest.via (fun t k => XS.aloadN X0.here hx rfl (hb hby d14_2) rfl rfl k) ?_
  show Rest p.tables e below s _ _ _ (s₁.setTop (mkF m 3 #[.val (.ref a0), .val (.ref a1), .unset] [(.ref a1), (.int (0 : Int32))]))
  obtain ⟨cl2, Ar2, -, S2, P2, -, -⟩ := id V1
  refine Rest.via (fun t k => X0.arraylength hx (by rw [eh0]; exact Ar2.1) (State.isArrayOf_alike hZ.alike Ar2.2.1) (g := (mkF m 3 #[.val (.ref a0), .val (.ref a1), .unset] [(.ref a1), (.int (0 : Int32))])) rfl rfl (hb hby d14_3) t k) ?_
  rw [len_of S2 P2]
  show Rest p.tables e below s _ _ _ (s₁.setTop (mkF m 4 #[.val (.ref a0), .val (.ref a1), .unset] [(.int (1 : Int32)), (.int (0 : Int32))]))
  refine Rest.via (fun t k => XS.icmpYes X0.here hx rfl (pc0 := 4) (pc' := 34) rfl (hb hby d14_4) rfl (feq (by decide : ¬ ((0 : Int32) = (1 : Int32)))).2 (by decide) (by decide) k) ?_
  show Rest p.tables e below s _ _ _ (s₁.setTop (mkF m 34 #[.val (.ref a0), .val (.ref a1), .unset] []))
  refine Rest.via (fun t k => XS.iconst X0.here hx rfl (hb hby d14_34) k) ?_
  show Rest p.tables e below s _ _ _ (s₁.setTop (mkF m 35 #[.val (.ref a0), .val (.ref a1), .unset] [(.int (0 : Int32))]))
  refine Rest.ret X0 (v := some (.int (nar .boolean (0 : Int32)))) (fun h => by rw [Bd.returns] at h; cases h) hlk (fun fs hr => retN X0 hx (t := .boolean) Bd.returns (by simp) (hb hby d14_35) hr) ?_ (by decide) (by decide)
  rw [eh0]
  exact ⟨by show some (Value.int (0 : Int32)) = _; rw [if_neg (by simp)], N0, rfl⟩
theorem ef_SE0_1 (m : MethodId) (a0 : Addr) (a1 : Addr) : entryFrame m #[(.ref a0), (.ref a1)] 3 = mkF m 0 #[.val (.ref a0), .val (.ref a1), .unset] [] := by first | (simp [entryFrame, mkF, argsToLocals, Value.category, maxLocals]; done) | rfl
def QSE0_1 (Z : State) (a0 : Addr) (a1 : Addr) (va0 : Addr) (k0 : ClassId) (va1 : Addr) (k1 : ClassId) (ic : Int32) (ya : Int32) (h0 : Heap) (n0 : Nat) (v : Option Value) (h : Heap) (L : List Loc) : Prop := v = some (.int (if ([] : List Int32) = [ya] then (1 : Int32) else 0)) ∧ Fr n0 L ∧ h = h0
set_option maxRecDepth 65536 in
set_option maxHeartbeats 40000000 in
theorem rmSE0_1 (l : Launch) (Z : State) (aw : Array Value) (hw : ∀ d ∈ tables_1, d.before aw Z = true) (ws : List Jvm.Cond) (a0 : Addr) (a1 : Addr) (va0 : Addr) (k0 : ClassId) (va1 : Addr) (k1 : ClassId) (ic : Int32) (ya : Int32) (h0 : Heap) (n0 : Nat) (Z0 : n0 ≤ h0.size) (S0 : own_St Z h0 a0 va0 k0 (0 : Int32) []) (S1 : own_St Z h0 a1 va1 k1 (1 : Int32) [(.int ya)]) (n01 : a0 ≠ a1) (O : Old Z n0 h0) (CS : own_CS Z ic) :
    MetFree l (⟨"java/lang/String", "equals", "(Ljava/lang/Object;)Z"⟩ : MethodName) (head1 (Jvm.Cond.code (⟨"java/lang/String", "equals", "(Ljava/lang/Object;)Z"⟩ : MethodName) jdk_42_method_66_code 3 (some .boolean) :: ws) ({ frames := 1, cells := 0, slots := 0, locals := 14 } : Room)) (fun a U => a = #[(.ref a0), (.ref a1)] ∧ Z.Warmed39 U.vm ∧ U.heap = h0) (fun _ _ _ _ _ => True) (fun _ U o U' => ∃ v L, o = .returned v ∧ QSE0_1 Z a0 a1 va0 k0 va1 k1 ic ya h0 n0 v U'.heap L ∧ FrameEnd U o U' L ({ frames := 1, cells := 0, slots := 0, locals := 14 } : Room).cells ({ frames := 1, cells := 0, slots := 0, locals := 14 } : Room).slots) := by
  refine MetFree.of_bodySF (plainFor_of_name pn_1) hisR ?_
  intro p e s m args below meth c s₁ Bd hml0 hP hK
  obtain ⟨rfl, hZ, hh⟩ := hP
  have hx := Bd.exec
  have hby := Bd.bytes
  have hml : c.maxLocals = 3 := hml0
  have hown : s.vm.findClass "java/lang/String" = some m.cls := findClass_of_methodNamed Bd.named
  have hnm := (name_of_methodNamed Bd.named Bd.method).1
  have hlk : meth.locks = false := BodyLoose.notSynchronized Bd
  have X0 : Stand p l e ({ frames := 1, cells := 0, slots := 0, locals := 14 } : Room) s m #[(.ref a0), (.ref a1)] below meth c s₁ [] 0 0 := Stand.of_body Bd
  have _u := trivial
  have eh0 : s₁.heap = h0 := by rw [← hh, Bd.state]; rfl
  have N0 := Fr.nil n0
  show Rest p.tables e below s (QSE0_1 Z a0 a1 va0 k0 va1 k1 ic ya h0 n0) _ _ (s₁.setTop (entryFrame m #[(.ref a0), (.ref a1)] 3))
  refine Rest.via (fun t k => castTop (ef_SE0_1 m a0 a1) k) ?_
  obtain ⟨E_a0, Fv_a0, Fc_a0, V_a0⟩ := id S0
  obtain ⟨E_a1, Fv_a1, Fc_a1, V_a1⟩ := id S1
  show Rest p.tables e below s _ _ _ (s₁.setTop (mkF m 0 #[.val (.ref a0), .val (.ref a1), .unset] []))
  refine Rest.via (fun t k => XS.aloadN X0.here hx rfl (hb hby d13_0) rfl rfl k) ?_
  show Rest p.tables e below s _ _ _ (s₁.setTop (mkF m 1 #[.val (.ref a0), .val (.ref a1), .unset] [(.ref a0)]))
  refine Rest.via (fun t k => XS.aloadN X0.here hx rfl (hb hby d13_1) rfl rfl k) ?_
  show Rest p.tables e below s _ _ _ (s₁.setTop (mkF m 2 #[.val (.ref a0), .val (.ref a1), .unset] [(.ref a1), (.ref a0)]))
  refine Rest.via (fun t k => Jvm.RoadKit.acmp (g := (mkF m 2 #[.val (.ref a0), .val (.ref a1), .unset] [(.ref a1), (.ref a0)])) X0 hx rfl rfl rfl (pc0 := 2) (pc' := 7) (same := false) rfl (hb hby d13_2) rfl (decide_eq_false fun q => n01 (Value.ref.inj q)) (by decide) (by decide) k) ?_
  show Rest p.tables e below s _ _ _ (s₁.setTop (mkF m 7 #[.val (.ref a0), .val (.ref a1), .unset] []))
  refine Rest.via (fun t k => XS.aloadN X0.here hx rfl (hb hby d13_7) rfl rfl k) ?_
  show Rest p.tables e below s _ _ _ (s₁.setTop (mkF m 8 #[.val (.ref a0), .val (.ref a1), .unset] [(.ref a1)]))
  obtain ⟨T1, X1, e1, st1⟩ := instY X0 hx hZ hown (hw _ (List.mem_of_getElem? (i := 71) rfl)) eh0 (Ins.self E_a1) (g := (mkF m 8 #[.val (.ref a0), .val (.ref a1), .unset] [(.ref a1)])) rfl rfl (hb hby d13_8)
  refine Rest.via (fun t k => st1 t k) ?_
  show Rest p.tables e below s _ _ _ (T1.setTop (mkF m 11 #[.val (.ref a0), .val (.ref a1), .unset] [(.int (1 : Int32))]))
  refine Rest.via (fun t k => XS.ifNo X1.here hx rfl (hb hby d13_11) rfl ((if0 _ _).trans (feq (by decide : ¬ ((1 : Int32) = (0 : Int32)))).1) k) ?_
  show Rest p.tables e below s _ _ _ (T1.setTop (mkF m 14 #[.val (.ref a0), .val (.ref a1), .unset] []))
  refine Rest.via (fun t k => XS.aloadN X1.here hx rfl (hb hby d13_14) rfl rfl k) ?_
  show Rest p.tables e below s _ _ _ (T1.setTop (mkF m 15 #[.val (.ref a0), .val (.ref a1), .unset] [(.ref a1)]))
  obtain ⟨T2, X2, e2, st2⟩ := castY X1 hx hZ hown (hw _ (List.mem_of_getElem? (i := 71) rfl)) e1 (Ins.self E_a1) (g := (mkF m 15 #[.val (.ref a0), .val (.ref a1), .unset] [(.ref a1)])) rfl rfl (hb hby d13_15)
  refine Rest.via (fun t k => st2 t k) ?_
  show Rest p.tables e below s _ _ _ (T2.setTop (mkF m 18 #[.val (.ref a0), .val (.ref a1), .unset] [(.ref a1)]))
  refine Rest.via (fun t k => XS.astoreN X2.here hx rfl (hb hby d13_18) rfl rfl (l' := #[.val (.ref a0), .val (.ref a1), .val (.ref a1)]) rfl k) ?_
  show Rest p.tables e below s _ _ _ (T2.setTop (mkF m 19 #[.val (.ref a0), .val (.ref a1), .val (.ref a1)] []))
  obtain ⟨T3, X3, e3, st3⟩ := getS2 X2 hx hZ hown (host := "") (Or.inl (hw _ (List.mem_of_getElem? (i := 45) rfl))) Via.refl e2 (CS.1.ext (O.keep (Keep.refl h0 []) all0).2) (g := (mkF m 19 #[.val (.ref a0), .val (.ref a1), .val (.ref a1)] [])) rfl (hb hby d13_19)
  refine Rest.via (fun t k => st3 t k) ?_
  show Rest p.tables e below s _ _ _ (T3.setTop (mkF m 22 #[.val (.ref a0), .val (.ref a1), .val (.ref a1)] [(.int ic)]))
  refine Rest.via (fun t k => XS.ifNo X3.here hx rfl (hb hby d13_22) rfl ((if0 _ _).trans (feq (CS.2 : ¬ (ic = (0 : Int32)))).1) k) ?_
  show Rest p.tables e below s _ _ _ (T3.setTop (mkF m 25 #[.val (.ref a0), .val (.ref a1), .val (.ref a1)] []))
  refine Rest.via (fun t k => XS.aloadN X3.here hx rfl (hb hby d13_25) rfl rfl k) ?_
  show Rest p.tables e below s _ _ _ (T3.setTop (mkF m 26 #[.val (.ref a0), .val (.ref a1), .val (.ref a1)] [(.ref a0)]))
  obtain ⟨T4, X4, e4, st4⟩ := getF X3 hx hZ hown (host := "") (Or.inl (hw _ (List.mem_of_getElem? (i := 28) rfl))) Via.refl e3 Fc_a0 (g := (mkF m 26 #[.val (.ref a0), .val (.ref a1), .val (.ref a1)] [(.ref a0)])) rfl rfl (hb hby d13_26)
  refine Rest.via (fun t k => st4 t k) ?_
  show Rest p.tables e below s _ _ _ (T4.setTop (mkF m 29 #[.val (.ref a0), .val (.ref a1), .val (.ref a1)] [(.int (0 : Int32))]))
  refine Rest.via (fun t k => XS.aloadN X4.here hx rfl (hb hby d13_29) rfl rfl k) ?_
  show Rest p.tables e below s _ _ _ (T4.setTop (mkF m 30 #[.val (.ref a0), .val (.ref a1), .val (.ref a1)] [(.ref a1), (.int (0 : Int32))]))
  obtain ⟨T5, X5, e5, st5⟩ := getF X4 hx hZ hown (host := "") (Or.inl (hw _ (List.mem_of_getElem? (i := 28) rfl))) Via.refl e4 Fc_a1 (g := (mkF m 30 #[.val (.ref a0), .val (.ref a1), .val (.ref a1)] [(.ref a1), (.int (0 : Int32))])) rfl rfl (hb hby d13_30)
  refine Rest.via (fun t k => st5 t k) ?_
  show Rest p.tables e below s _ _ _ (T5.setTop (mkF m 33 #[.val (.ref a0), .val (.ref a1), .val (.ref a1)] [(.int (0 : Int32)), (.int (0 : Int32))]))
  refine Rest.via (fun t k => XS.icmpNo X5.here hx rfl (hb hby d13_33) rfl (teq (by decide : (0 : Int32) = (0 : Int32))).2 k) ?_
  show Rest p.tables e below s _ _ _ (T5.setTop (mkF m 36 #[.val (.ref a0), .val (.ref a1), .val (.ref a1)] []))
  refine Rest.via (fun t k => XS.aloadN X5.here hx rfl (hb hby d13_36) rfl rfl k) ?_
  show Rest p.tables e below s _ _ _ (T5.setTop (mkF m 37 #[.val (.ref a0), .val (.ref a1), .val (.ref a1)] [(.ref a0)]))
  obtain ⟨T6, X6, e6, st6⟩ := getF X5 hx hZ hown (host := "") (Or.inl (hw _ (List.mem_of_getElem? (i := 27) rfl))) Via.refl e5 Fv_a0 (g := (mkF m 37 #[.val (.ref a0), .val (.ref a1), .val (.ref a1)] [(.ref a0)])) rfl rfl (hb hby d13_37)
  refine Rest.via (fun t k => st6 t k) ?_
  show Rest p.tables e below s _ _ _ (T6.setTop (mkF m 40 #[.val (.ref a0), .val (.ref a1), .val (.ref a1)] [(.ref va0)]))
  refine Rest.via (fun t k => XS.aloadN X6.here hx rfl (hb hby d13_40) rfl rfl k) ?_
  show Rest p.tables e below s _ _ _ (T6.setTop (mkF m 41 #[.val (.ref a0), .val (.ref a1), .val (.ref a1)] [(.ref a1), (.ref va0)]))
  obtain ⟨T7, X7, e7, st7⟩ := getF X6 hx hZ hown (host := "") (Or.inl (hw _ (List.mem_of_getElem? (i := 27) rfl))) Via.refl e6 Fv_a1 (g := (mkF m 41 #[.val (.ref a0), .val (.ref a1), .val (.ref a1)] [(.ref a1), (.ref va0)])) rfl rfl (hb hby d13_41)
  refine Rest.via (fun t k => st7 t k) ?_
  show Rest p.tables e below s _ _ _ (T7.setTop (mkF m 44 #[.val (.ref a0), .val (.ref a1), .val (.ref a1)] [(.ref va1), (.ref va0)]))
  obtain ⟨_, _, ⟨T8, L8, k8, n8⟩, -, X8, ⟨Lc8, hQ8, l8, y8, z8⟩, st8⟩ := Jvm.LawKit.callS X7 hx (y := (⟨"java/lang/StringLatin1", "equals", "([B[B)Z"⟩ : MethodName)) hown (mvT hZ (hw _ (List.mem_of_getElem? (i := 72) rfl))) (mvT hZ (hw _ (List.mem_of_getElem? (i := 73) rfl))) (mvT hZ (hw _ (List.mem_of_getElem? (i := 74) rfl))) (mvT hZ (hw _ (List.mem_of_getElem? (i := 75) rfl))) (by decide) (backOf (W := 0) (rmLE0_1 l Z aw hw [] va0 va1 k0 k1 ya h0 n0 (Nat.le_trans Z0 (Keep.refl h0 []).1) V_a0 V_a1) hZ (hw _ (List.mem_of_getElem? (i := 75) rfl)) (hw _ (List.mem_of_getElem? (i := 74) rfl)) (by decide) (by decide)) (g := (mkF m 44 #[.val (.ref a0), .val (.ref a1), .val (.ref a1)] [(.ref va1), (.ref va0)])) rfl (by rw [hml]; rfl) (argsL := [(.ref va0), (.ref va1)]) (rest := []) (lenOf pd_4 rfl) rfl (by show 2 * 0 + _ ≤ _; exact Nat.le_of_eq rfl) (hb hby d13_44) (fun _ _ => ⟨rfl, e7, (by decide : 0 + 0 ≤ _), (by decide : 0 + 0 ≤ _)⟩)
  dsimp only [Pt.U, Pt.locs, Pt.cells, Pt.slots] at X8 l8 y8 z8 st8 hQ8
  subst l8 y8 z8
  obtain ⟨rfl, Nq8, e8⟩ := hQ8
  have N8 := Fr.app N0 Nq8
  refine Rest.via (fun t k => st8 t k) ?_
  show Rest p.tables e below s _ _ _ (T8.setTop (mkF m 47 #[.val (.ref a0), .val (.ref a1), .val (.ref a1)] [(.int (if ([] : List Int32) = [ya] then (1 : Int32) else 0))]))
  by_cases hz : (if ([] : List Int32) = [ya] then (1 : Int32) else 0) = (0 : Int32)
  · refine Rest.via (fun t k => XS.ifYes X8.here hx rfl (pc0 := 47) (pc' := 54) rfl (hb hby d13_47) rfl ((if0 _ _).trans (teq hz).1) (by decide) (by decide) k) ?_
    show Rest p.tables e below s _ _ _ (T8.setTop (mkF m 54 #[.val (.ref a0), .val (.ref a1), .val (.ref a1)] []))
    refine Rest.via (fun t k => XS.iconst X8.here hx rfl (hb hby d13_54) k) ?_
    show Rest p.tables e below s _ _ _ (T8.setTop (mkF m 55 #[.val (.ref a0), .val (.ref a1), .val (.ref a1)] [(.int (0 : Int32))]))
    refine Rest.ret X8 (v := some (.int (nar .boolean (0 : Int32)))) (fun h => by rw [Bd.returns] at h; cases h) hlk (fun fs hr => retN X8 hx (t := .boolean) Bd.returns (by simp) (hb hby d13_55) hr) ?_ (by decide) (by decide)
    rw [e8]
    exact ⟨by show some (Value.int (0 : Int32)) = _; rw [hz], N8, rfl⟩
  · refine Rest.via (fun t k => XS.ifNo X8.here hx rfl (hb hby d13_47) rfl ((if0 _ _).trans (feq hz).1) k) ?_
    show Rest p.tables e below s _ _ _ (T8.setTop (mkF m 50 #[.val (.ref a0), .val (.ref a1), .val (.ref a1)] []))
    refine Rest.via (fun t k => XS.iconst X8.here hx rfl (hb hby d13_50) k) ?_
    show Rest p.tables e below s _ _ _ (T8.setTop (mkF m 51 #[.val (.ref a0), .val (.ref a1), .val (.ref a1)] [(.int (1 : Int32))]))
    refine Rest.via (fun t k => XS.goto X8.here hx rfl (pc0 := 51) (pc' := 55) rfl (hb hby d13_51) (by decide) (by decide) k) ?_
    show Rest p.tables e below s _ _ _ (T8.setTop (mkF m 55 #[.val (.ref a0), .val (.ref a1), .val (.ref a1)] [(.int (1 : Int32))]))
    refine Rest.ret X8 (v := some (.int (nar .boolean (1 : Int32)))) (fun h => by rw [Bd.returns] at h; cases h) hlk (fun fs hr => retN X8 hx (t := .boolean) Bd.returns (by simp) (hb hby d13_55) hr) ?_ (by decide) (by decide)
    rw [e8]
    exact ⟨by show some (Value.int (1 : Int32)) = _; rw [own_ite1 hz], N8, rfl⟩
theorem ef_LE0_2 (m : MethodId) (a0 : Addr) (a1 : Addr) : entryFrame m #[(.ref a0), (.ref a1)] 3 = mkF m 0 #[.val (.ref a0), .val (.ref a1), .unset] [] := by first | (simp [entryFrame, mkF, argsToLocals, Value.category, maxLocals]; done) | rfl
def QLE0_2 (Z : State) (a0 : Addr) (a1 : Addr) (k0 : ClassId) (k1 : ClassId) (ya : Int32) (yb : Int32) (h0 : Heap) (n0 : Nat) (v : Option Value) (h : Heap) (L : List Loc) : Prop := v = some (.int (if ([] : List Int32) = [ya, yb] then (1 : Int32) else 0)) ∧ Fr n0 L ∧ h = h0
set_option maxRecDepth 65536 in
set_option maxHeartbeats 40000000 in
theorem rmLE0_2 (l : Launch) (Z : State) (aw : Array Value) (hw : ∀ d ∈ tables_1, d.before aw Z = true) (ws : List Jvm.Cond) (a0 : Addr) (a1 : Addr) (k0 : ClassId) (k1 : ClassId) (ya : Int32) (yb : Int32) (h0 : Heap) (n0 : Nat) (Z0 : n0 ≤ h0.size) (V0 : Arv Z h0 a0 k0 .byte (0 : Int32) [] (.int (0 : Int32))) (V1 : Arv Z h0 a1 k1 .byte (2 : Int32) [(.int ya), (.int yb)] (.int (0 : Int32))) :
    MetFree l (⟨"java/lang/StringLatin1", "equals", "([B[B)Z"⟩ : MethodName) (head1 (Jvm.Cond.code (⟨"java/lang/StringLatin1", "equals", "([B[B)Z"⟩ : MethodName) jdk_43_method_13_code 3 (some .boolean) :: ws) ({ frames := 0, cells := 0, slots := 0, locals := 0 } : Room)) (fun a U => a = #[(.ref a0), (.ref a1)] ∧ Z.Warmed39 U.vm ∧ U.heap = h0) (fun _ _ _ _ _ => True) (fun _ U o U' => ∃ v L, o = .returned v ∧ QLE0_2 Z a0 a1 k0 k1 ya yb h0 n0 v U'.heap L ∧ FrameEnd U o U' L ({ frames := 0, cells := 0, slots := 0, locals := 0 } : Room).cells ({ frames := 0, cells := 0, slots := 0, locals := 0 } : Room).slots) := by
  refine MetFree.of_bodySF (plainFor_of_name pn_2) hisR ?_
  intro p e s m args below meth c s₁ Bd hml0 hP hK
  obtain ⟨rfl, hZ, hh⟩ := hP
  have hx := Bd.exec
  have hby := Bd.bytes
  have hml : c.maxLocals = 3 := hml0
  have hown : s.vm.findClass "java/lang/StringLatin1" = some m.cls := findClass_of_methodNamed Bd.named
  have hnm := (name_of_methodNamed Bd.named Bd.method).1
  have hlk : meth.locks = false := BodyLoose.notSynchronized Bd
  have X0 : Stand p l e ({ frames := 0, cells := 0, slots := 0, locals := 0 } : Room) s m #[(.ref a0), (.ref a1)] below meth c s₁ [] 0 0 := Stand.of_body Bd
  have _u := trivial
  have eh0 : s₁.heap = h0 := by rw [← hh, Bd.state]; rfl
  have N0 := Fr.nil n0
  show Rest p.tables e below s (QLE0_2 Z a0 a1 k0 k1 ya yb h0 n0) _ _ (s₁.setTop (entryFrame m #[(.ref a0), (.ref a1)] 3))
  refine Rest.via (fun t k => castTop (ef_LE0_2 m a0 a1) k) ?_
  show Rest p.tables e below s _ _ _ (s₁.setTop (mkF m 0 #[.val (.ref a0), .val (.ref a1), .unset] []))
  refine Rest.via (fun t k => XS.aloadN X0.here hx rfl (hb hby d14_0) rfl rfl k) ?_
  show Rest p.tables e below s _ _ _ (s₁.setTop (mkF m 1 #[.val (.ref a0), .val (.ref a1), .unset] [(.ref a0)]))
  obtain ⟨cl1, Ar1, -, S1, P1, -, -⟩ := id V0
  refine Rest.via (fun t k => X0.arraylength hx (by rw [eh0]; exact Ar1.1) (State.isArrayOf_alike hZ.alike Ar1.2.1) (g := (mkF m 1 #[.val (.ref a0), .val (.ref a1), .unset] [(.ref a0)])) rfl rfl (hb hby d14_1) t k) ?_
  rw [len_of S1 P1]
  show Rest p.tables e below s _ _ _ (s₁.setTop (mkF m 2 #[.val (.ref a0), .val (.ref a1), .unset] [(.int (0 : Int32))]))
  refine Rest.via (fun t k => XS.aloadN X0.here hx rfl (hb hby d14_2) rfl rfl k) ?_
  show Rest p.tables e below s _ _ _ (s₁.setTop (mkF m 3 #[.val (.ref a0), .val (.ref a1), .unset] [(.ref a1), (.int (0 : Int32))]))
  obtain ⟨cl2, Ar2, -, S2, P2, -, -⟩ := id V1
  refine Rest.via (fun t k => X0.arraylength hx (by rw [eh0]; exact Ar2.1) (State.isArrayOf_alike hZ.alike Ar2.2.1) (g := (mkF m 3 #[.val (.ref a0), .val (.ref a1), .unset] [(.ref a1), (.int (0 : Int32))])) rfl rfl (hb hby d14_3) t k) ?_
  rw [len_of S2 P2]
  show Rest p.tables e below s _ _ _ (s₁.setTop (mkF m 4 #[.val (.ref a0), .val (.ref a1), .unset] [(.int (2 : Int32)), (.int (0 : Int32))]))
  refine Rest.via (fun t k => XS.icmpYes X0.here hx rfl (pc0 := 4) (pc' := 34) rfl (hb hby d14_4) rfl (feq (by decide : ¬ ((0 : Int32) = (2 : Int32)))).2 (by decide) (by decide) k) ?_
  show Rest p.tables e below s _ _ _ (s₁.setTop (mkF m 34 #[.val (.ref a0), .val (.ref a1), .unset] []))
  refine Rest.via (fun t k => XS.iconst X0.here hx rfl (hb hby d14_34) k) ?_
  show Rest p.tables e below s _ _ _ (s₁.setTop (mkF m 35 #[.val (.ref a0), .val (.ref a1), .unset] [(.int (0 : Int32))]))
  refine Rest.ret X0 (v := some (.int (nar .boolean (0 : Int32)))) (fun h => by rw [Bd.returns] at h; cases h) hlk (fun fs hr => retN X0 hx (t := .boolean) Bd.returns (by simp) (hb hby d14_35) hr) ?_ (by decide) (by decide)
  rw [eh0]
  exact ⟨by show some (Value.int (0 : Int32)) = _; rw [if_neg (by simp)], N0, rfl⟩
theorem ef_SE0_2 (m : MethodId) (a0 : Addr) (a1 : Addr) : entryFrame m #[(.ref a0), (.ref a1)] 3 = mkF m 0 #[.val (.ref a0), .val (.ref a1), .unset] [] := by first | (simp [entryFrame, mkF, argsToLocals, Value.category, maxLocals]; done) | rfl
def QSE0_2 (Z : State) (a0 : Addr) (a1 : Addr) (va0 : Addr) (k0 : ClassId) (va1 : Addr) (k1 : ClassId) (ic : Int32) (ya : Int32) (yb : Int32) (h0 : Heap) (n0 : Nat) (v : Option Value) (h : Heap) (L : List Loc) : Prop := v = some (.int (if ([] : List Int32) = [ya, yb] then (1 : Int32) else 0)) ∧ Fr n0 L ∧ h = h0
set_option maxRecDepth 65536 in
set_option maxHeartbeats 40000000 in
theorem rmSE0_2 (l : Launch) (Z : State) (aw : Array Value) (hw : ∀ d ∈ tables_1, d.before aw Z = true) (ws : List Jvm.Cond) (a0 : Addr) (a1 : Addr) (va0 : Addr) (k0 : ClassId) (va1 : Addr) (k1 : ClassId) (ic : Int32) (ya : Int32) (yb : Int32) (h0 : Heap) (n0 : Nat) (Z0 : n0 ≤ h0.size) (S0 : own_St Z h0 a0 va0 k0 (0 : Int32) []) (S1 : own_St Z h0 a1 va1 k1 (2 : Int32) [(.int ya), (.int yb)]) (n01 : a0 ≠ a1) (O : Old Z n0 h0) (CS : own_CS Z ic) :
    MetFree l (⟨"java/lang/String", "equals", "(Ljava/lang/Object;)Z"⟩ : MethodName) (head1 (Jvm.Cond.code (⟨"java/lang/String", "equals", "(Ljava/lang/Object;)Z"⟩ : MethodName) jdk_42_method_66_code 3 (some .boolean) :: ws) ({ frames := 1, cells := 0, slots := 0, locals := 14 } : Room)) (fun a U => a = #[(.ref a0), (.ref a1)] ∧ Z.Warmed39 U.vm ∧ U.heap = h0) (fun _ _ _ _ _ => True) (fun _ U o U' => ∃ v L, o = .returned v ∧ QSE0_2 Z a0 a1 va0 k0 va1 k1 ic ya yb h0 n0 v U'.heap L ∧ FrameEnd U o U' L ({ frames := 1, cells := 0, slots := 0, locals := 14 } : Room).cells ({ frames := 1, cells := 0, slots := 0, locals := 14 } : Room).slots) := by
  refine MetFree.of_bodySF (plainFor_of_name pn_1) hisR ?_
  intro p e s m args below meth c s₁ Bd hml0 hP hK
  obtain ⟨rfl, hZ, hh⟩ := hP
  have hx := Bd.exec
  have hby := Bd.bytes
  have hml : c.maxLocals = 3 := hml0
  have hown : s.vm.findClass "java/lang/String" = some m.cls := findClass_of_methodNamed Bd.named
  have hnm := (name_of_methodNamed Bd.named Bd.method).1
  have hlk : meth.locks = false := BodyLoose.notSynchronized Bd
  have X0 : Stand p l e ({ frames := 1, cells := 0, slots := 0, locals := 14 } : Room) s m #[(.ref a0), (.ref a1)] below meth c s₁ [] 0 0 := Stand.of_body Bd
  have _u := trivial
  have eh0 : s₁.heap = h0 := by rw [← hh, Bd.state]; rfl
  have N0 := Fr.nil n0
  show Rest p.tables e below s (QSE0_2 Z a0 a1 va0 k0 va1 k1 ic ya yb h0 n0) _ _ (s₁.setTop (entryFrame m #[(.ref a0), (.ref a1)] 3))
  refine Rest.via (fun t k => castTop (ef_SE0_2 m a0 a1) k) ?_
  obtain ⟨E_a0, Fv_a0, Fc_a0, V_a0⟩ := id S0
  obtain ⟨E_a1, Fv_a1, Fc_a1, V_a1⟩ := id S1
  show Rest p.tables e below s _ _ _ (s₁.setTop (mkF m 0 #[.val (.ref a0), .val (.ref a1), .unset] []))
  refine Rest.via (fun t k => XS.aloadN X0.here hx rfl (hb hby d13_0) rfl rfl k) ?_
  show Rest p.tables e below s _ _ _ (s₁.setTop (mkF m 1 #[.val (.ref a0), .val (.ref a1), .unset] [(.ref a0)]))
  refine Rest.via (fun t k => XS.aloadN X0.here hx rfl (hb hby d13_1) rfl rfl k) ?_
  show Rest p.tables e below s _ _ _ (s₁.setTop (mkF m 2 #[.val (.ref a0), .val (.ref a1), .unset] [(.ref a1), (.ref a0)]))
  refine Rest.via (fun t k => Jvm.RoadKit.acmp (g := (mkF m 2 #[.val (.ref a0), .val (.ref a1), .unset] [(.ref a1), (.ref a0)])) X0 hx rfl rfl rfl (pc0 := 2) (pc' := 7) (same := false) rfl (hb hby d13_2) rfl (decide_eq_false fun q => n01 (Value.ref.inj q)) (by decide) (by decide) k) ?_
  show Rest p.tables e below s _ _ _ (s₁.setTop (mkF m 7 #[.val (.ref a0), .val (.ref a1), .unset] []))
  refine Rest.via (fun t k => XS.aloadN X0.here hx rfl (hb hby d13_7) rfl rfl k) ?_
  show Rest p.tables e below s _ _ _ (s₁.setTop (mkF m 8 #[.val (.ref a0), .val (.ref a1), .unset] [(.ref a1)]))
  obtain ⟨T1, X1, e1, st1⟩ := instY X0 hx hZ hown (hw _ (List.mem_of_getElem? (i := 71) rfl)) eh0 (Ins.self E_a1) (g := (mkF m 8 #[.val (.ref a0), .val (.ref a1), .unset] [(.ref a1)])) rfl rfl (hb hby d13_8)
  refine Rest.via (fun t k => st1 t k) ?_
  show Rest p.tables e below s _ _ _ (T1.setTop (mkF m 11 #[.val (.ref a0), .val (.ref a1), .unset] [(.int (1 : Int32))]))
  refine Rest.via (fun t k => XS.ifNo X1.here hx rfl (hb hby d13_11) rfl ((if0 _ _).trans (feq (by decide : ¬ ((1 : Int32) = (0 : Int32)))).1) k) ?_
  show Rest p.tables e below s _ _ _ (T1.setTop (mkF m 14 #[.val (.ref a0), .val (.ref a1), .unset] []))
  refine Rest.via (fun t k => XS.aloadN X1.here hx rfl (hb hby d13_14) rfl rfl k) ?_
  show Rest p.tables e below s _ _ _ (T1.setTop (mkF m 15 #[.val (.ref a0), .val (.ref a1), .unset] [(.ref a1)]))
  obtain ⟨T2, X2, e2, st2⟩ := castY X1 hx hZ hown (hw _ (List.mem_of_getElem? (i := 71) rfl)) e1 (Ins.self E_a1) (g := (mkF m 15 #[.val (.ref a0), .val (.ref a1), .unset] [(.ref a1)])) rfl rfl (hb hby d13_15)
  refine Rest.via (fun t k => st2 t k) ?_
  show Rest p.tables e below s _ _ _ (T2.setTop (mkF m 18 #[.val (.ref a0), .val (.ref a1), .unset] [(.ref a1)]))
  refine Rest.via (fun t k => XS.astoreN X2.here hx rfl (hb hby d13_18) rfl rfl (l' := #[.val (.ref a0), .val (.ref a1), .val (.ref a1)]) rfl k) ?_
  show Rest p.tables e below s _ _ _ (T2.setTop (mkF m 19 #[.val (.ref a0), .val (.ref a1), .val (.ref a1)] []))
  obtain ⟨T3, X3, e3, st3⟩ := getS2 X2 hx hZ hown (host := "") (Or.inl (hw _ (List.mem_of_getElem? (i := 45) rfl))) Via.refl e2 (CS.1.ext (O.keep (Keep.refl h0 []) all0).2) (g := (mkF m 19 #[.val (.ref a0), .val (.ref a1), .val (.ref a1)] [])) rfl (hb hby d13_19)
  refine Rest.via (fun t k => st3 t k) ?_
  show Rest p.tables e below s _ _ _ (T3.setTop (mkF m 22 #[.val (.ref a0), .val (.ref a1), .val (.ref a1)] [(.int ic)]))
  refine Rest.via (fun t k => XS.ifNo X3.here hx rfl (hb hby d13_22) rfl ((if0 _ _).trans (feq (CS.2 : ¬ (ic = (0 : Int32)))).1) k) ?_
  show Rest p.tables e below s _ _ _ (T3.setTop (mkF m 25 #[.val (.ref a0), .val (.ref a1), .val (.ref a1)] []))
  refine Rest.via (fun t k => XS.aloadN X3.here hx rfl (hb hby d13_25) rfl rfl k) ?_
  show Rest p.tables e below s _ _ _ (T3.setTop (mkF m 26 #[.val (.ref a0), .val (.ref a1), .val (.ref a1)] [(.ref a0)]))
  obtain ⟨T4, X4, e4, st4⟩ := getF X3 hx hZ hown (host := "") (Or.inl (hw _ (List.mem_of_getElem? (i := 28) rfl))) Via.refl e3 Fc_a0 (g := (mkF m 26 #[.val (.ref a0), .val (.ref a1), .val (.ref a1)] [(.ref a0)])) rfl rfl (hb hby d13_26)
  refine Rest.via (fun t k => st4 t k) ?_
  show Rest p.tables e below s _ _ _ (T4.setTop (mkF m 29 #[.val (.ref a0), .val (.ref a1), .val (.ref a1)] [(.int (0 : Int32))]))
  refine Rest.via (fun t k => XS.aloadN X4.here hx rfl (hb hby d13_29) rfl rfl k) ?_
  show Rest p.tables e below s _ _ _ (T4.setTop (mkF m 30 #[.val (.ref a0), .val (.ref a1), .val (.ref a1)] [(.ref a1), (.int (0 : Int32))]))
  obtain ⟨T5, X5, e5, st5⟩ := getF X4 hx hZ hown (host := "") (Or.inl (hw _ (List.mem_of_getElem? (i := 28) rfl))) Via.refl e4 Fc_a1 (g := (mkF m 30 #[.val (.ref a0), .val (.ref a1), .val (.ref a1)] [(.ref a1), (.int (0 : Int32))])) rfl rfl (hb hby d13_30)
  refine Rest.via (fun t k => st5 t k) ?_
  show Rest p.tables e below s _ _ _ (T5.setTop (mkF m 33 #[.val (.ref a0), .val (.ref a1), .val (.ref a1)] [(.int (0 : Int32)), (.int (0 : Int32))]))
  refine Rest.via (fun t k => XS.icmpNo X5.here hx rfl (hb hby d13_33) rfl (teq (by decide : (0 : Int32) = (0 : Int32))).2 k) ?_
  show Rest p.tables e below s _ _ _ (T5.setTop (mkF m 36 #[.val (.ref a0), .val (.ref a1), .val (.ref a1)] []))
  refine Rest.via (fun t k => XS.aloadN X5.here hx rfl (hb hby d13_36) rfl rfl k) ?_
  show Rest p.tables e below s _ _ _ (T5.setTop (mkF m 37 #[.val (.ref a0), .val (.ref a1), .val (.ref a1)] [(.ref a0)]))
  obtain ⟨T6, X6, e6, st6⟩ := getF X5 hx hZ hown (host := "") (Or.inl (hw _ (List.mem_of_getElem? (i := 27) rfl))) Via.refl e5 Fv_a0 (g := (mkF m 37 #[.val (.ref a0), .val (.ref a1), .val (.ref a1)] [(.ref a0)])) rfl rfl (hb hby d13_37)
  refine Rest.via (fun t k => st6 t k) ?_
  show Rest p.tables e below s _ _ _ (T6.setTop (mkF m 40 #[.val (.ref a0), .val (.ref a1), .val (.ref a1)] [(.ref va0)]))
  refine Rest.via (fun t k => XS.aloadN X6.here hx rfl (hb hby d13_40) rfl rfl k) ?_
  show Rest p.tables e below s _ _ _ (T6.setTop (mkF m 41 #[.val (.ref a0), .val (.ref a1), .val (.ref a1)] [(.ref a1), (.ref va0)]))
  obtain ⟨T7, X7, e7, st7⟩ := getF X6 hx hZ hown (host := "") (Or.inl (hw _ (List.mem_of_getElem? (i := 27) rfl))) Via.refl e6 Fv_a1 (g := (mkF m 41 #[.val (.ref a0), .val (.ref a1), .val (.ref a1)] [(.ref a1), (.ref va0)])) rfl rfl (hb hby d13_41)
  refine Rest.via (fun t k => st7 t k) ?_
  show Rest p.tables e below s _ _ _ (T7.setTop (mkF m 44 #[.val (.ref a0), .val (.ref a1), .val (.ref a1)] [(.ref va1), (.ref va0)]))
  obtain ⟨_, _, ⟨T8, L8, k8, n8⟩, -, X8, ⟨Lc8, hQ8, l8, y8, z8⟩, st8⟩ := Jvm.LawKit.callS X7 hx (y := (⟨"java/lang/StringLatin1", "equals", "([B[B)Z"⟩ : MethodName)) hown (mvT hZ (hw _ (List.mem_of_getElem? (i := 72) rfl))) (mvT hZ (hw _ (List.mem_of_getElem? (i := 73) rfl))) (mvT hZ (hw _ (List.mem_of_getElem? (i := 74) rfl))) (mvT hZ (hw _ (List.mem_of_getElem? (i := 75) rfl))) (by decide) (backOf (W := 0) (rmLE0_2 l Z aw hw [] va0 va1 k0 k1 ya yb h0 n0 (Nat.le_trans Z0 (Keep.refl h0 []).1) V_a0 V_a1) hZ (hw _ (List.mem_of_getElem? (i := 75) rfl)) (hw _ (List.mem_of_getElem? (i := 74) rfl)) (by decide) (by decide)) (g := (mkF m 44 #[.val (.ref a0), .val (.ref a1), .val (.ref a1)] [(.ref va1), (.ref va0)])) rfl (by rw [hml]; rfl) (argsL := [(.ref va0), (.ref va1)]) (rest := []) (lenOf pd_4 rfl) rfl (by show 2 * 0 + _ ≤ _; exact Nat.le_of_eq rfl) (hb hby d13_44) (fun _ _ => ⟨rfl, e7, (by decide : 0 + 0 ≤ _), (by decide : 0 + 0 ≤ _)⟩)
  dsimp only [Pt.U, Pt.locs, Pt.cells, Pt.slots] at X8 l8 y8 z8 st8 hQ8
  subst l8 y8 z8
  obtain ⟨rfl, Nq8, e8⟩ := hQ8
  have N8 := Fr.app N0 Nq8
  refine Rest.via (fun t k => st8 t k) ?_
  show Rest p.tables e below s _ _ _ (T8.setTop (mkF m 47 #[.val (.ref a0), .val (.ref a1), .val (.ref a1)] [(.int (if ([] : List Int32) = [ya, yb] then (1 : Int32) else 0))]))
  by_cases hz : (if ([] : List Int32) = [ya, yb] then (1 : Int32) else 0) = (0 : Int32)
  · refine Rest.via (fun t k => XS.ifYes X8.here hx rfl (pc0 := 47) (pc' := 54) rfl (hb hby d13_47) rfl ((if0 _ _).trans (teq hz).1) (by decide) (by decide) k) ?_
    show Rest p.tables e below s _ _ _ (T8.setTop (mkF m 54 #[.val (.ref a0), .val (.ref a1), .val (.ref a1)] []))
    refine Rest.via (fun t k => XS.iconst X8.here hx rfl (hb hby d13_54) k) ?_
    show Rest p.tables e below s _ _ _ (T8.setTop (mkF m 55 #[.val (.ref a0), .val (.ref a1), .val (.ref a1)] [(.int (0 : Int32))]))
    refine Rest.ret X8 (v := some (.int (nar .boolean (0 : Int32)))) (fun h => by rw [Bd.returns] at h; cases h) hlk (fun fs hr => retN X8 hx (t := .boolean) Bd.returns (by simp) (hb hby d13_55) hr) ?_ (by decide) (by decide)
    rw [e8]
    exact ⟨by show some (Value.int (0 : Int32)) = _; rw [hz], N8, rfl⟩
  · refine Rest.via (fun t k => XS.ifNo X8.here hx rfl (hb hby d13_47) rfl ((if0 _ _).trans (feq hz).1) k) ?_
    show Rest p.tables e below s _ _ _ (T8.setTop (mkF m 50 #[.val (.ref a0), .val (.ref a1), .val (.ref a1)] []))
    refine Rest.via (fun t k => XS.iconst X8.here hx rfl (hb hby d13_50) k) ?_
    show Rest p.tables e below s _ _ _ (T8.setTop (mkF m 51 #[.val (.ref a0), .val (.ref a1), .val (.ref a1)] [(.int (1 : Int32))]))
    refine Rest.via (fun t k => XS.goto X8.here hx rfl (pc0 := 51) (pc' := 55) rfl (hb hby d13_51) (by decide) (by decide) k) ?_
    show Rest p.tables e below s _ _ _ (T8.setTop (mkF m 55 #[.val (.ref a0), .val (.ref a1), .val (.ref a1)] [(.int (1 : Int32))]))
    refine Rest.ret X8 (v := some (.int (nar .boolean (1 : Int32)))) (fun h => by rw [Bd.returns] at h; cases h) hlk (fun fs hr => retN X8 hx (t := .boolean) Bd.returns (by simp) (hb hby d13_55) hr) ?_ (by decide) (by decide)
    rw [e8]
    exact ⟨by show some (Value.int (1 : Int32)) = _; rw [own_ite1 hz], N8, rfl⟩
theorem ef_LE0_3 (m : MethodId) (a0 : Addr) (a1 : Addr) : entryFrame m #[(.ref a0), (.ref a1)] 3 = mkF m 0 #[.val (.ref a0), .val (.ref a1), .unset] [] := by first | (simp [entryFrame, mkF, argsToLocals, Value.category, maxLocals]; done) | rfl
def QLE0_3 (Z : State) (a0 : Addr) (a1 : Addr) (k0 : ClassId) (k1 : ClassId) (ya : Int32) (yb : Int32) (yc : Int32) (h0 : Heap) (n0 : Nat) (v : Option Value) (h : Heap) (L : List Loc) : Prop := v = some (.int (if ([] : List Int32) = [ya, yb, yc] then (1 : Int32) else 0)) ∧ Fr n0 L ∧ h = h0
set_option maxRecDepth 65536 in
set_option maxHeartbeats 40000000 in
theorem rmLE0_3 (l : Launch) (Z : State) (aw : Array Value) (hw : ∀ d ∈ tables_1, d.before aw Z = true) (ws : List Jvm.Cond) (a0 : Addr) (a1 : Addr) (k0 : ClassId) (k1 : ClassId) (ya : Int32) (yb : Int32) (yc : Int32) (h0 : Heap) (n0 : Nat) (Z0 : n0 ≤ h0.size) (V0 : Arv Z h0 a0 k0 .byte (0 : Int32) [] (.int (0 : Int32))) (V1 : Arv Z h0 a1 k1 .byte (3 : Int32) [(.int ya), (.int yb), (.int yc)] (.int (0 : Int32))) :
    MetFree l (⟨"java/lang/StringLatin1", "equals", "([B[B)Z"⟩ : MethodName) (head1 (Jvm.Cond.code (⟨"java/lang/StringLatin1", "equals", "([B[B)Z"⟩ : MethodName) jdk_43_method_13_code 3 (some .boolean) :: ws) ({ frames := 0, cells := 0, slots := 0, locals := 0 } : Room)) (fun a U => a = #[(.ref a0), (.ref a1)] ∧ Z.Warmed39 U.vm ∧ U.heap = h0) (fun _ _ _ _ _ => True) (fun _ U o U' => ∃ v L, o = .returned v ∧ QLE0_3 Z a0 a1 k0 k1 ya yb yc h0 n0 v U'.heap L ∧ FrameEnd U o U' L ({ frames := 0, cells := 0, slots := 0, locals := 0 } : Room).cells ({ frames := 0, cells := 0, slots := 0, locals := 0 } : Room).slots) := by
  refine MetFree.of_bodySF (plainFor_of_name pn_2) hisR ?_
  intro p e s m args below meth c s₁ Bd hml0 hP hK
  obtain ⟨rfl, hZ, hh⟩ := hP
  have hx := Bd.exec
  have hby := Bd.bytes
  have hml : c.maxLocals = 3 := hml0
  have hown : s.vm.findClass "java/lang/StringLatin1" = some m.cls := findClass_of_methodNamed Bd.named
  have hnm := (name_of_methodNamed Bd.named Bd.method).1
  have hlk : meth.locks = false := BodyLoose.notSynchronized Bd
  have X0 : Stand p l e ({ frames := 0, cells := 0, slots := 0, locals := 0 } : Room) s m #[(.ref a0), (.ref a1)] below meth c s₁ [] 0 0 := Stand.of_body Bd
  have _u := trivial
  have eh0 : s₁.heap = h0 := by rw [← hh, Bd.state]; rfl
  have N0 := Fr.nil n0
  show Rest p.tables e below s (QLE0_3 Z a0 a1 k0 k1 ya yb yc h0 n0) _ _ (s₁.setTop (entryFrame m #[(.ref a0), (.ref a1)] 3))
  refine Rest.via (fun t k => castTop (ef_LE0_3 m a0 a1) k) ?_
  show Rest p.tables e below s _ _ _ (s₁.setTop (mkF m 0 #[.val (.ref a0), .val (.ref a1), .unset] []))
  refine Rest.via (fun t k => XS.aloadN X0.here hx rfl (hb hby d14_0) rfl rfl k) ?_
  show Rest p.tables e below s _ _ _ (s₁.setTop (mkF m 1 #[.val (.ref a0), .val (.ref a1), .unset] [(.ref a0)]))
  obtain ⟨cl1, Ar1, -, S1, P1, -, -⟩ := id V0
  refine Rest.via (fun t k => X0.arraylength hx (by rw [eh0]; exact Ar1.1) (State.isArrayOf_alike hZ.alike Ar1.2.1) (g := (mkF m 1 #[.val (.ref a0), .val (.ref a1), .unset] [(.ref a0)])) rfl rfl (hb hby d14_1) t k) ?_
  rw [len_of S1 P1]
  show Rest p.tables e below s _ _ _ (s₁.setTop (mkF m 2 #[.val (.ref a0), .val (.ref a1), .unset] [(.int (0 : Int32))]))
  refine Rest.via (fun t k => XS.aloadN X0.here hx rfl (hb hby d14_2) rfl rfl k) ?_
  show Rest p.tables e below s _ _ _ (s₁.setTop (mkF m 3 #[.val (.ref a0), .val (.ref a1), .unset] [(.ref a1), (.int (0 : Int32))]))
  obtain ⟨cl2, Ar2, -, S2, P2, -, -⟩ := id V1
  refine Rest.via (fun t k => X0.arraylength hx (by rw [eh0]; exact Ar2.1) (State.isArrayOf_alike hZ.alike Ar2.2.1) (g := (mkF m 3 #[.val (.ref a0), .val (.ref a1), .unset] [(.ref a1), (.int (0 : Int32))])) rfl rfl (hb hby d14_3) t k) ?_
  rw [len_of S2 P2]
  show Rest p.tables e below s _ _ _ (s₁.setTop (mkF m 4 #[.val (.ref a0), .val (.ref a1), .unset] [(.int (3 : Int32)), (.int (0 : Int32))]))
  refine Rest.via (fun t k => XS.icmpYes X0.here hx rfl (pc0 := 4) (pc' := 34) rfl (hb hby d14_4) rfl (feq (by decide : ¬ ((0 : Int32) = (3 : Int32)))).2 (by decide) (by decide) k) ?_
  show Rest p.tables e below s _ _ _ (s₁.setTop (mkF m 34 #[.val (.ref a0), .val (.ref a1), .unset] []))
  refine Rest.via (fun t k => XS.iconst X0.here hx rfl (hb hby d14_34) k) ?_
  show Rest p.tables e below s _ _ _ (s₁.setTop (mkF m 35 #[.val (.ref a0), .val (.ref a1), .unset] [(.int (0 : Int32))]))
  refine Rest.ret X0 (v := some (.int (nar .boolean (0 : Int32)))) (fun h => by rw [Bd.returns] at h; cases h) hlk (fun fs hr => retN X0 hx (t := .boolean) Bd.returns (by simp) (hb hby d14_35) hr) ?_ (by decide) (by decide)
  rw [eh0]
  exact ⟨by show some (Value.int (0 : Int32)) = _; rw [if_neg (by simp)], N0, rfl⟩
theorem ef_SE0_3 (m : MethodId) (a0 : Addr) (a1 : Addr) : entryFrame m #[(.ref a0), (.ref a1)] 3 = mkF m 0 #[.val (.ref a0), .val (.ref a1), .unset] [] := by first | (simp [entryFrame, mkF, argsToLocals, Value.category, maxLocals]; done) | rfl
def QSE0_3 (Z : State) (a0 : Addr) (a1 : Addr) (va0 : Addr) (k0 : ClassId) (va1 : Addr) (k1 : ClassId) (ic : Int32) (ya : Int32) (yb : Int32) (yc : Int32) (h0 : Heap) (n0 : Nat) (v : Option Value) (h : Heap) (L : List Loc) : Prop := v = some (.int (if ([] : List Int32) = [ya, yb, yc] then (1 : Int32) else 0)) ∧ Fr n0 L ∧ h = h0
set_option maxRecDepth 65536 in
set_option maxHeartbeats 40000000 in
theorem rmSE0_3 (l : Launch) (Z : State) (aw : Array Value) (hw : ∀ d ∈ tables_1, d.before aw Z = true) (ws : List Jvm.Cond) (a0 : Addr) (a1 : Addr) (va0 : Addr) (k0 : ClassId) (va1 : Addr) (k1 : ClassId) (ic : Int32) (ya : Int32) (yb : Int32) (yc : Int32) (h0 : Heap) (n0 : Nat) (Z0 : n0 ≤ h0.size) (S0 : own_St Z h0 a0 va0 k0 (0 : Int32) []) (S1 : own_St Z h0 a1 va1 k1 (3 : Int32) [(.int ya), (.int yb), (.int yc)]) (n01 : a0 ≠ a1) (O : Old Z n0 h0) (CS : own_CS Z ic) :
    MetFree l (⟨"java/lang/String", "equals", "(Ljava/lang/Object;)Z"⟩ : MethodName) (head1 (Jvm.Cond.code (⟨"java/lang/String", "equals", "(Ljava/lang/Object;)Z"⟩ : MethodName) jdk_42_method_66_code 3 (some .boolean) :: ws) ({ frames := 1, cells := 0, slots := 0, locals := 14 } : Room)) (fun a U => a = #[(.ref a0), (.ref a1)] ∧ Z.Warmed39 U.vm ∧ U.heap = h0) (fun _ _ _ _ _ => True) (fun _ U o U' => ∃ v L, o = .returned v ∧ QSE0_3 Z a0 a1 va0 k0 va1 k1 ic ya yb yc h0 n0 v U'.heap L ∧ FrameEnd U o U' L ({ frames := 1, cells := 0, slots := 0, locals := 14 } : Room).cells ({ frames := 1, cells := 0, slots := 0, locals := 14 } : Room).slots) := by
  refine MetFree.of_bodySF (plainFor_of_name pn_1) hisR ?_
  intro p e s m args below meth c s₁ Bd hml0 hP hK
  obtain ⟨rfl, hZ, hh⟩ := hP
  have hx := Bd.exec
  have hby := Bd.bytes
  have hml : c.maxLocals = 3 := hml0
  have hown : s.vm.findClass "java/lang/String" = some m.cls := findClass_of_methodNamed Bd.named
  have hnm := (name_of_methodNamed Bd.named Bd.method).1
  have hlk : meth.locks = false := BodyLoose.notSynchronized Bd
  have X0 : Stand p l e ({ frames := 1, cells := 0, slots := 0, locals := 14 } : Room) s m #[(.ref a0), (.ref a1)] below meth c s₁ [] 0 0 := Stand.of_body Bd
  have _u := trivial
  have eh0 : s₁.heap = h0 := by rw [← hh, Bd.state]; rfl
  have N0 := Fr.nil n0
  show Rest p.tables e below s (QSE0_3 Z a0 a1 va0 k0 va1 k1 ic ya yb yc h0 n0) _ _ (s₁.setTop (entryFrame m #[(.ref a0), (.ref a1)] 3))
  refine Rest.via (fun t k => castTop (ef_SE0_3 m a0 a1) k) ?_
  obtain ⟨E_a0, Fv_a0, Fc_a0, V_a0⟩ := id S0
  obtain ⟨E_a1, Fv_a1, Fc_a1, V_a1⟩ := id S1
  show Rest p.tables e below s _ _ _ (s₁.setTop (mkF m 0 #[.val (.ref a0), .val (.ref a1), .unset] []))
  refine Rest.via (fun t k => XS.aloadN X0.here hx rfl (hb hby d13_0) rfl rfl k) ?_
  show Rest p.tables e below s _ _ _ (s₁.setTop (mkF m 1 #[.val (.ref a0), .val (.ref a1), .unset] [(.ref a0)]))
  refine Rest.via (fun t k => XS.aloadN X0.here hx rfl (hb hby d13_1) rfl rfl k) ?_
  show Rest p.tables e below s _ _ _ (s₁.setTop (mkF m 2 #[.val (.ref a0), .val (.ref a1), .unset] [(.ref a1), (.ref a0)]))
  refine Rest.via (fun t k => Jvm.RoadKit.acmp (g := (mkF m 2 #[.val (.ref a0), .val (.ref a1), .unset] [(.ref a1), (.ref a0)])) X0 hx rfl rfl rfl (pc0 := 2) (pc' := 7) (same := false) rfl (hb hby d13_2) rfl (decide_eq_false fun q => n01 (Value.ref.inj q)) (by decide) (by decide) k) ?_
  show Rest p.tables e below s _ _ _ (s₁.setTop (mkF m 7 #[.val (.ref a0), .val (.ref a1), .unset] []))
  refine Rest.via (fun t k => XS.aloadN X0.here hx rfl (hb hby d13_7) rfl rfl k) ?_
  show Rest p.tables e below s _ _ _ (s₁.setTop (mkF m 8 #[.val (.ref a0), .val (.ref a1), .unset] [(.ref a1)]))
  obtain ⟨T1, X1, e1, st1⟩ := instY X0 hx hZ hown (hw _ (List.mem_of_getElem? (i := 71) rfl)) eh0 (Ins.self E_a1) (g := (mkF m 8 #[.val (.ref a0), .val (.ref a1), .unset] [(.ref a1)])) rfl rfl (hb hby d13_8)
  refine Rest.via (fun t k => st1 t k) ?_
  show Rest p.tables e below s _ _ _ (T1.setTop (mkF m 11 #[.val (.ref a0), .val (.ref a1), .unset] [(.int (1 : Int32))]))
  refine Rest.via (fun t k => XS.ifNo X1.here hx rfl (hb hby d13_11) rfl ((if0 _ _).trans (feq (by decide : ¬ ((1 : Int32) = (0 : Int32)))).1) k) ?_
  show Rest p.tables e below s _ _ _ (T1.setTop (mkF m 14 #[.val (.ref a0), .val (.ref a1), .unset] []))
  refine Rest.via (fun t k => XS.aloadN X1.here hx rfl (hb hby d13_14) rfl rfl k) ?_
  show Rest p.tables e below s _ _ _ (T1.setTop (mkF m 15 #[.val (.ref a0), .val (.ref a1), .unset] [(.ref a1)]))
  obtain ⟨T2, X2, e2, st2⟩ := castY X1 hx hZ hown (hw _ (List.mem_of_getElem? (i := 71) rfl)) e1 (Ins.self E_a1) (g := (mkF m 15 #[.val (.ref a0), .val (.ref a1), .unset] [(.ref a1)])) rfl rfl (hb hby d13_15)
  refine Rest.via (fun t k => st2 t k) ?_
  show Rest p.tables e below s _ _ _ (T2.setTop (mkF m 18 #[.val (.ref a0), .val (.ref a1), .unset] [(.ref a1)]))
  refine Rest.via (fun t k => XS.astoreN X2.here hx rfl (hb hby d13_18) rfl rfl (l' := #[.val (.ref a0), .val (.ref a1), .val (.ref a1)]) rfl k) ?_
  show Rest p.tables e below s _ _ _ (T2.setTop (mkF m 19 #[.val (.ref a0), .val (.ref a1), .val (.ref a1)] []))
  obtain ⟨T3, X3, e3, st3⟩ := getS2 X2 hx hZ hown (host := "") (Or.inl (hw _ (List.mem_of_getElem? (i := 45) rfl))) Via.refl e2 (CS.1.ext (O.keep (Keep.refl h0 []) all0).2) (g := (mkF m 19 #[.val (.ref a0), .val (.ref a1), .val (.ref a1)] [])) rfl (hb hby d13_19)
  refine Rest.via (fun t k => st3 t k) ?_
  show Rest p.tables e below s _ _ _ (T3.setTop (mkF m 22 #[.val (.ref a0), .val (.ref a1), .val (.ref a1)] [(.int ic)]))
  refine Rest.via (fun t k => XS.ifNo X3.here hx rfl (hb hby d13_22) rfl ((if0 _ _).trans (feq (CS.2 : ¬ (ic = (0 : Int32)))).1) k) ?_
  show Rest p.tables e below s _ _ _ (T3.setTop (mkF m 25 #[.val (.ref a0), .val (.ref a1), .val (.ref a1)] []))
  refine Rest.via (fun t k => XS.aloadN X3.here hx rfl (hb hby d13_25) rfl rfl k) ?_
  show Rest p.tables e below s _ _ _ (T3.setTop (mkF m 26 #[.val (.ref a0), .val (.ref a1), .val (.ref a1)] [(.ref a0)]))
  obtain ⟨T4, X4, e4, st4⟩ := getF X3 hx hZ hown (host := "") (Or.inl (hw _ (List.mem_of_getElem? (i := 28) rfl))) Via.refl e3 Fc_a0 (g := (mkF m 26 #[.val (.ref a0), .val (.ref a1), .val (.ref a1)] [(.ref a0)])) rfl rfl (hb hby d13_26)
  refine Rest.via (fun t k => st4 t k) ?_
  show Rest p.tables e below s _ _ _ (T4.setTop (mkF m 29 #[.val (.ref a0), .val (.ref a1), .val (.ref a1)] [(.int (0 : Int32))]))
  refine Rest.via (fun t k => XS.aloadN X4.here hx rfl (hb hby d13_29) rfl rfl k) ?_
  show Rest p.tables e below s _ _ _ (T4.setTop (mkF m 30 #[.val (.ref a0), .val (.ref a1), .val (.ref a1)] [(.ref a1), (.int (0 : Int32))]))
  obtain ⟨T5, X5, e5, st5⟩ := getF X4 hx hZ hown (host := "") (Or.inl (hw _ (List.mem_of_getElem? (i := 28) rfl))) Via.refl e4 Fc_a1 (g := (mkF m 30 #[.val (.ref a0), .val (.ref a1), .val (.ref a1)] [(.ref a1), (.int (0 : Int32))])) rfl rfl (hb hby d13_30)
  refine Rest.via (fun t k => st5 t k) ?_
  show Rest p.tables e below s _ _ _ (T5.setTop (mkF m 33 #[.val (.ref a0), .val (.ref a1), .val (.ref a1)] [(.int (0 : Int32)), (.int (0 : Int32))]))
  refine Rest.via (fun t k => XS.icmpNo X5.here hx rfl (hb hby d13_33) rfl (teq (by decide : (0 : Int32) = (0 : Int32))).2 k) ?_
  show Rest p.tables e below s _ _ _ (T5.setTop (mkF m 36 #[.val (.ref a0), .val (.ref a1), .val (.ref a1)] []))
  refine Rest.via (fun t k => XS.aloadN X5.here hx rfl (hb hby d13_36) rfl rfl k) ?_
  show Rest p.tables e below s _ _ _ (T5.setTop (mkF m 37 #[.val (.ref a0), .val (.ref a1), .val (.ref a1)] [(.ref a0)]))
  obtain ⟨T6, X6, e6, st6⟩ := getF X5 hx hZ hown (host := "") (Or.inl (hw _ (List.mem_of_getElem? (i := 27) rfl))) Via.refl e5 Fv_a0 (g := (mkF m 37 #[.val (.ref a0), .val (.ref a1), .val (.ref a1)] [(.ref a0)])) rfl rfl (hb hby d13_37)
  refine Rest.via (fun t k => st6 t k) ?_
  show Rest p.tables e below s _ _ _ (T6.setTop (mkF m 40 #[.val (.ref a0), .val (.ref a1), .val (.ref a1)] [(.ref va0)]))
  refine Rest.via (fun t k => XS.aloadN X6.here hx rfl (hb hby d13_40) rfl rfl k) ?_
  show Rest p.tables e below s _ _ _ (T6.setTop (mkF m 41 #[.val (.ref a0), .val (.ref a1), .val (.ref a1)] [(.ref a1), (.ref va0)]))
  obtain ⟨T7, X7, e7, st7⟩ := getF X6 hx hZ hown (host := "") (Or.inl (hw _ (List.mem_of_getElem? (i := 27) rfl))) Via.refl e6 Fv_a1 (g := (mkF m 41 #[.val (.ref a0), .val (.ref a1), .val (.ref a1)] [(.ref a1), (.ref va0)])) rfl rfl (hb hby d13_41)
  refine Rest.via (fun t k => st7 t k) ?_
  show Rest p.tables e below s _ _ _ (T7.setTop (mkF m 44 #[.val (.ref a0), .val (.ref a1), .val (.ref a1)] [(.ref va1), (.ref va0)]))
  obtain ⟨_, _, ⟨T8, L8, k8, n8⟩, -, X8, ⟨Lc8, hQ8, l8, y8, z8⟩, st8⟩ := Jvm.LawKit.callS X7 hx (y := (⟨"java/lang/StringLatin1", "equals", "([B[B)Z"⟩ : MethodName)) hown (mvT hZ (hw _ (List.mem_of_getElem? (i := 72) rfl))) (mvT hZ (hw _ (List.mem_of_getElem? (i := 73) rfl))) (mvT hZ (hw _ (List.mem_of_getElem? (i := 74) rfl))) (mvT hZ (hw _ (List.mem_of_getElem? (i := 75) rfl))) (by decide) (backOf (W := 0) (rmLE0_3 l Z aw hw [] va0 va1 k0 k1 ya yb yc h0 n0 (Nat.le_trans Z0 (Keep.refl h0 []).1) V_a0 V_a1) hZ (hw _ (List.mem_of_getElem? (i := 75) rfl)) (hw _ (List.mem_of_getElem? (i := 74) rfl)) (by decide) (by decide)) (g := (mkF m 44 #[.val (.ref a0), .val (.ref a1), .val (.ref a1)] [(.ref va1), (.ref va0)])) rfl (by rw [hml]; rfl) (argsL := [(.ref va0), (.ref va1)]) (rest := []) (lenOf pd_4 rfl) rfl (by show 2 * 0 + _ ≤ _; exact Nat.le_of_eq rfl) (hb hby d13_44) (fun _ _ => ⟨rfl, e7, (by decide : 0 + 0 ≤ _), (by decide : 0 + 0 ≤ _)⟩)
  dsimp only [Pt.U, Pt.locs, Pt.cells, Pt.slots] at X8 l8 y8 z8 st8 hQ8
  subst l8 y8 z8
  obtain ⟨rfl, Nq8, e8⟩ := hQ8
  have N8 := Fr.app N0 Nq8
  refine Rest.via (fun t k => st8 t k) ?_
  show Rest p.tables e below s _ _ _ (T8.setTop (mkF m 47 #[.val (.ref a0), .val (.ref a1), .val (.ref a1)] [(.int (if ([] : List Int32) = [ya, yb, yc] then (1 : Int32) else 0))]))
  by_cases hz : (if ([] : List Int32) = [ya, yb, yc] then (1 : Int32) else 0) = (0 : Int32)
  · refine Rest.via (fun t k => XS.ifYes X8.here hx rfl (pc0 := 47) (pc' := 54) rfl (hb hby d13_47) rfl ((if0 _ _).trans (teq hz).1) (by decide) (by decide) k) ?_
    show Rest p.tables e below s _ _ _ (T8.setTop (mkF m 54 #[.val (.ref a0), .val (.ref a1), .val (.ref a1)] []))
    refine Rest.via (fun t k => XS.iconst X8.here hx rfl (hb hby d13_54) k) ?_
    show Rest p.tables e below s _ _ _ (T8.setTop (mkF m 55 #[.val (.ref a0), .val (.ref a1), .val (.ref a1)] [(.int (0 : Int32))]))
    refine Rest.ret X8 (v := some (.int (nar .boolean (0 : Int32)))) (fun h => by rw [Bd.returns] at h; cases h) hlk (fun fs hr => retN X8 hx (t := .boolean) Bd.returns (by simp) (hb hby d13_55) hr) ?_ (by decide) (by decide)
    rw [e8]
    exact ⟨by show some (Value.int (0 : Int32)) = _; rw [hz], N8, rfl⟩
  · refine Rest.via (fun t k => XS.ifNo X8.here hx rfl (hb hby d13_47) rfl ((if0 _ _).trans (feq hz).1) k) ?_
    show Rest p.tables e below s _ _ _ (T8.setTop (mkF m 50 #[.val (.ref a0), .val (.ref a1), .val (.ref a1)] []))
    refine Rest.via (fun t k => XS.iconst X8.here hx rfl (hb hby d13_50) k) ?_
    show Rest p.tables e below s _ _ _ (T8.setTop (mkF m 51 #[.val (.ref a0), .val (.ref a1), .val (.ref a1)] [(.int (1 : Int32))]))
    refine Rest.via (fun t k => XS.goto X8.here hx rfl (pc0 := 51) (pc' := 55) rfl (hb hby d13_51) (by decide) (by decide) k) ?_
    show Rest p.tables e below s _ _ _ (T8.setTop (mkF m 55 #[.val (.ref a0), .val (.ref a1), .val (.ref a1)] [(.int (1 : Int32))]))
    refine Rest.ret X8 (v := some (.int (nar .boolean (1 : Int32)))) (fun h => by rw [Bd.returns] at h; cases h) hlk (fun fs hr => retN X8 hx (t := .boolean) Bd.returns (by simp) (hb hby d13_55) hr) ?_ (by decide) (by decide)
    rw [e8]
    exact ⟨by show some (Value.int (1 : Int32)) = _; rw [own_ite1 hz], N8, rfl⟩
theorem ef_LE1_0 (m : MethodId) (a0 : Addr) (a1 : Addr) : entryFrame m #[(.ref a0), (.ref a1)] 3 = mkF m 0 #[.val (.ref a0), .val (.ref a1), .unset] [] := by first | (simp [entryFrame, mkF, argsToLocals, Value.category, maxLocals]; done) | rfl
def QLE1_0 (Z : State) (a0 : Addr) (a1 : Addr) (k0 : ClassId) (k1 : ClassId) (xa : Int32) (h0 : Heap) (n0 : Nat) (v : Option Value) (h : Heap) (L : List Loc) : Prop := v = some (.int (if ([xa] : List Int32) = [] then (1 : Int32) else 0)) ∧ Fr n0 L ∧ h = h0
set_option maxRecDepth 65536 in
set_option maxHeartbeats 40000000 in
theorem rmLE1_0 (l : Launch) (Z : State) (aw : Array Value) (hw : ∀ d ∈ tables_1, d.before aw Z = true) (ws : List Jvm.Cond) (a0 : Addr) (a1 : Addr) (k0 : ClassId) (k1 : ClassId) (xa : Int32) (h0 : Heap) (n0 : Nat) (Z0 : n0 ≤ h0.size) (V0 : Arv Z h0 a0 k0 .byte (1 : Int32) [(.int xa)] (.int (0 : Int32))) (V1 : Arv Z h0 a1 k1 .byte (0 : Int32) [] (.int (0 : Int32))) :
    MetFree l (⟨"java/lang/StringLatin1", "equals", "([B[B)Z"⟩ : MethodName) (head1 (Jvm.Cond.code (⟨"java/lang/StringLatin1", "equals", "([B[B)Z"⟩ : MethodName) jdk_43_method_13_code 3 (some .boolean) :: ws) ({ frames := 0, cells := 0, slots := 0, locals := 0 } : Room)) (fun a U => a = #[(.ref a0), (.ref a1)] ∧ Z.Warmed39 U.vm ∧ U.heap = h0) (fun _ _ _ _ _ => True) (fun _ U o U' => ∃ v L, o = .returned v ∧ QLE1_0 Z a0 a1 k0 k1 xa h0 n0 v U'.heap L ∧ FrameEnd U o U' L ({ frames := 0, cells := 0, slots := 0, locals := 0 } : Room).cells ({ frames := 0, cells := 0, slots := 0, locals := 0 } : Room).slots) := by
  refine MetFree.of_bodySF (plainFor_of_name pn_2) hisR ?_
  intro p e s m args below meth c s₁ Bd hml0 hP hK
  obtain ⟨rfl, hZ, hh⟩ := hP
  have hx := Bd.exec
  have hby := Bd.bytes
  have hml : c.maxLocals = 3 := hml0
  have hown : s.vm.findClass "java/lang/StringLatin1" = some m.cls := findClass_of_methodNamed Bd.named
  have hnm := (name_of_methodNamed Bd.named Bd.method).1
  have hlk : meth.locks = false := BodyLoose.notSynchronized Bd
  have X0 : Stand p l e ({ frames := 0, cells := 0, slots := 0, locals := 0 } : Room) s m #[(.ref a0), (.ref a1)] below meth c s₁ [] 0 0 := Stand.of_body Bd
  have _u := trivial
  have eh0 : s₁.heap = h0 := by rw [← hh, Bd.state]; rfl
  have N0 := Fr.nil n0
  show Rest p.tables e below s (QLE1_0 Z a0 a1 k0 k1 xa h0 n0) _ _ (s₁.setTop (entryFrame m #[(.ref a0), (.ref a1)] 3))
  refine Rest.via (fun t k => castTop (ef_LE1_0 m a0 a1) k) ?_
  show Rest p.tables e below s _ _ _ (s₁.setTop (mkF m 0 #[.val (.ref a0), .val (.ref a1), .unset] []))
  refine Rest.via (fun t k => XS.aloadN X0.here hx rfl (hb hby d14_0) rfl rfl k) ?_
  show Rest p.tables e below s _ _ _ (s₁.setTop (mkF m 1 #[.val (.ref a0), .val (.ref a1), .unset] [(.ref a0)]))
  obtain ⟨cl1, Ar1, -, S1, P1, -, -⟩ := id V0
  refine Rest.via (fun t k => X0.arraylength hx (by rw [eh0]; exact Ar1.1) (State.isArrayOf_alike hZ.alike Ar1.2.1) (g := (mkF m 1 #[.val (.ref a0), .val (.ref a1), .unset] [(.ref a0)])) rfl rfl (hb hby d14_1) t k) ?_
  rw [len_of S1 P1]
  show Rest p.tables e below s _ _ _ (s₁.setTop (mkF m 2 #[.val (.ref a0), .val (.ref a1), .unset] [(.int (1 : Int32))]))
  refine Rest.via (fun t k => XS.aloadN X0.here hx rfl (hb hby d14_2) rfl rfl k) ?_
  show Rest p.tables e below s _ _ _ (s₁.setTop (mkF m 3 #[.val (.ref a0), .val (.ref a1), .unset] [(.ref a1), (.int (1 : Int32))]))
  obtain ⟨cl2, Ar2, -, S2, P2, -, -⟩ := id V1
  refine Rest.via (fun t k => X0.arraylength hx (by rw [eh0]; exact Ar2.1) (State.isArrayOf_alike hZ.alike Ar2.2.1) (g := (mkF m 3 #[.val (.ref a0), .val (.ref a1), .unset] [(.ref a1), (.int (1 : Int32))])) rfl rfl (hb hby d14_3) t k) ?_
  rw [len_of S2 P2]
  show Rest p.tables e below s _ _ _ (s₁.setTop (mkF m 4 #[.val (.ref a0), .val (.ref a1), .unset] [(.int (0 : Int32)), (.int (1 : Int32))]))
  refine Rest.via (fun t k => XS.icmpYes X0.here hx rfl (pc0 := 4) (pc' := 34) rfl (hb hby d14_4) rfl (feq (by decide : ¬ ((1 : Int32) = (0 : Int32)))).2 (by decide) (by decide) k) ?_
  show Rest p.tables e below s _ _ _ (s₁.setTop (mkF m 34 #[.val (.ref a0), .val (.ref a1), .unset] []))
  refine Rest.via (fun t k => XS.iconst X0.here hx rfl (hb hby d14_34) k) ?_
  show Rest p.tables e below s _ _ _ (s₁.setTop (mkF m 35 #[.val (.ref a0), .val (.ref a1), .unset] [(.int (0 : Int32))]))
  refine Rest.ret X0 (v := some (.int (nar .boolean (0 : Int32)))) (fun h => by rw [Bd.returns] at h; cases h) hlk (fun fs hr => retN X0 hx (t := .boolean) Bd.returns (by simp) (hb hby d14_35) hr) ?_ (by decide) (by decide)
  rw [eh0]
  exact ⟨by show some (Value.int (0 : Int32)) = _; rw [if_neg (by simp)], N0, rfl⟩
theorem ef_SE1_0 (m : MethodId) (a0 : Addr) (a1 : Addr) : entryFrame m #[(.ref a0), (.ref a1)] 3 = mkF m 0 #[.val (.ref a0), .val (.ref a1), .unset] [] := by first | (simp [entryFrame, mkF, argsToLocals, Value.category, maxLocals]; done) | rfl
def QSE1_0 (Z : State) (a0 : Addr) (a1 : Addr) (va0 : Addr) (k0 : ClassId) (va1 : Addr) (k1 : ClassId) (ic : Int32) (xa : Int32) (h0 : Heap) (n0 : Nat) (v : Option Value) (h : Heap) (L : List Loc) : Prop := v = some (.int (if ([xa] : List Int32) = [] then (1 : Int32) else 0)) ∧ Fr n0 L ∧ h = h0
set_option maxRecDepth 65536 in
set_option maxHeartbeats 40000000 in
theorem rmSE1_0 (l : Launch) (Z : State) (aw : Array Value) (hw : ∀ d ∈ tables_1, d.before aw Z = true) (ws : List Jvm.Cond) (a0 : Addr) (a1 : Addr) (va0 : Addr) (k0 : ClassId) (va1 : Addr) (k1 : ClassId) (ic : Int32) (xa : Int32) (h0 : Heap) (n0 : Nat) (Z0 : n0 ≤ h0.size) (S0 : own_St Z h0 a0 va0 k0 (1 : Int32) [(.int xa)]) (S1 : own_St Z h0 a1 va1 k1 (0 : Int32) []) (n01 : a0 ≠ a1) (O : Old Z n0 h0) (CS : own_CS Z ic) :
    MetFree l (⟨"java/lang/String", "equals", "(Ljava/lang/Object;)Z"⟩ : MethodName) (head1 (Jvm.Cond.code (⟨"java/lang/String", "equals", "(Ljava/lang/Object;)Z"⟩ : MethodName) jdk_42_method_66_code 3 (some .boolean) :: ws) ({ frames := 1, cells := 0, slots := 0, locals := 14 } : Room)) (fun a U => a = #[(.ref a0), (.ref a1)] ∧ Z.Warmed39 U.vm ∧ U.heap = h0) (fun _ _ _ _ _ => True) (fun _ U o U' => ∃ v L, o = .returned v ∧ QSE1_0 Z a0 a1 va0 k0 va1 k1 ic xa h0 n0 v U'.heap L ∧ FrameEnd U o U' L ({ frames := 1, cells := 0, slots := 0, locals := 14 } : Room).cells ({ frames := 1, cells := 0, slots := 0, locals := 14 } : Room).slots) := by
  refine MetFree.of_bodySF (plainFor_of_name pn_1) hisR ?_
  intro p e s m args below meth c s₁ Bd hml0 hP hK
  obtain ⟨rfl, hZ, hh⟩ := hP
  have hx := Bd.exec
  have hby := Bd.bytes
  have hml : c.maxLocals = 3 := hml0
  have hown : s.vm.findClass "java/lang/String" = some m.cls := findClass_of_methodNamed Bd.named
  have hnm := (name_of_methodNamed Bd.named Bd.method).1
  have hlk : meth.locks = false := BodyLoose.notSynchronized Bd
  have X0 : Stand p l e ({ frames := 1, cells := 0, slots := 0, locals := 14 } : Room) s m #[(.ref a0), (.ref a1)] below meth c s₁ [] 0 0 := Stand.of_body Bd
  have _u := trivial
  have eh0 : s₁.heap = h0 := by rw [← hh, Bd.state]; rfl
  have N0 := Fr.nil n0
  show Rest p.tables e below s (QSE1_0 Z a0 a1 va0 k0 va1 k1 ic xa h0 n0) _ _ (s₁.setTop (entryFrame m #[(.ref a0), (.ref a1)] 3))
  refine Rest.via (fun t k => castTop (ef_SE1_0 m a0 a1) k) ?_
  obtain ⟨E_a0, Fv_a0, Fc_a0, V_a0⟩ := id S0
  obtain ⟨E_a1, Fv_a1, Fc_a1, V_a1⟩ := id S1
  show Rest p.tables e below s _ _ _ (s₁.setTop (mkF m 0 #[.val (.ref a0), .val (.ref a1), .unset] []))
  refine Rest.via (fun t k => XS.aloadN X0.here hx rfl (hb hby d13_0) rfl rfl k) ?_
  show Rest p.tables e below s _ _ _ (s₁.setTop (mkF m 1 #[.val (.ref a0), .val (.ref a1), .unset] [(.ref a0)]))
  refine Rest.via (fun t k => XS.aloadN X0.here hx rfl (hb hby d13_1) rfl rfl k) ?_
  show Rest p.tables e below s _ _ _ (s₁.setTop (mkF m 2 #[.val (.ref a0), .val (.ref a1), .unset] [(.ref a1), (.ref a0)]))
  refine Rest.via (fun t k => Jvm.RoadKit.acmp (g := (mkF m 2 #[.val (.ref a0), .val (.ref a1), .unset] [(.ref a1), (.ref a0)])) X0 hx rfl rfl rfl (pc0 := 2) (pc' := 7) (same := false) rfl (hb hby d13_2) rfl (decide_eq_false fun q => n01 (Value.ref.inj q)) (by decide) (by decide) k) ?_
  show Rest p.tables e below s _ _ _ (s₁.setTop (mkF m 7 #[.val (.ref a0), .val (.ref a1), .unset] []))
  refine Rest.via (fun t k => XS.aloadN X0.here hx rfl (hb hby d13_7) rfl rfl k) ?_
  show Rest p.tables e below s _ _ _ (s₁.setTop (mkF m 8 #[.val (.ref a0), .val (.ref a1), .unset] [(.ref a1)]))
  obtain ⟨T1, X1, e1, st1⟩ := instY X0 hx hZ hown (hw _ (List.mem_of_getElem? (i := 71) rfl)) eh0 (Ins.self E_a1) (g := (mkF m 8 #[.val (.ref a0), .val (.ref a1), .unset] [(.ref a1)])) rfl rfl (hb hby d13_8)
  refine Rest.via (fun t k => st1 t k) ?_
  show Rest p.tables e below s _ _ _ (T1.setTop (mkF m 11 #[.val (.ref a0), .val (.ref a1), .unset] [(.int (1 : Int32))]))
  refine Rest.via (fun t k => XS.ifNo X1.here hx rfl (hb hby d13_11) rfl ((if0 _ _).trans (feq (by decide : ¬ ((1 : Int32) = (0 : Int32)))).1) k) ?_
  show Rest p.tables e below s _ _ _ (T1.setTop (mkF m 14 #[.val (.ref a0), .val (.ref a1), .unset] []))
  refine Rest.via (fun t k => XS.aloadN X1.here hx rfl (hb hby d13_14) rfl rfl k) ?_
  show Rest p.tables e below s _ _ _ (T1.setTop (mkF m 15 #[.val (.ref a0), .val (.ref a1), .unset] [(.ref a1)]))
  obtain ⟨T2, X2, e2, st2⟩ := castY X1 hx hZ hown (hw _ (List.mem_of_getElem? (i := 71) rfl)) e1 (Ins.self E_a1) (g := (mkF m 15 #[.val (.ref a0), .val (.ref a1), .unset] [(.ref a1)])) rfl rfl (hb hby d13_15)
  refine Rest.via (fun t k => st2 t k) ?_
  show Rest p.tables e below s _ _ _ (T2.setTop (mkF m 18 #[.val (.ref a0), .val (.ref a1), .unset] [(.ref a1)]))
  refine Rest.via (fun t k => XS.astoreN X2.here hx rfl (hb hby d13_18) rfl rfl (l' := #[.val (.ref a0), .val (.ref a1), .val (.ref a1)]) rfl k) ?_
  show Rest p.tables e below s _ _ _ (T2.setTop (mkF m 19 #[.val (.ref a0), .val (.ref a1), .val (.ref a1)] []))
  obtain ⟨T3, X3, e3, st3⟩ := getS2 X2 hx hZ hown (host := "") (Or.inl (hw _ (List.mem_of_getElem? (i := 45) rfl))) Via.refl e2 (CS.1.ext (O.keep (Keep.refl h0 []) all0).2) (g := (mkF m 19 #[.val (.ref a0), .val (.ref a1), .val (.ref a1)] [])) rfl (hb hby d13_19)
  refine Rest.via (fun t k => st3 t k) ?_
  show Rest p.tables e below s _ _ _ (T3.setTop (mkF m 22 #[.val (.ref a0), .val (.ref a1), .val (.ref a1)] [(.int ic)]))
  refine Rest.via (fun t k => XS.ifNo X3.here hx rfl (hb hby d13_22) rfl ((if0 _ _).trans (feq (CS.2 : ¬ (ic = (0 : Int32)))).1) k) ?_
  show Rest p.tables e below s _ _ _ (T3.setTop (mkF m 25 #[.val (.ref a0), .val (.ref a1), .val (.ref a1)] []))
  refine Rest.via (fun t k => XS.aloadN X3.here hx rfl (hb hby d13_25) rfl rfl k) ?_
  show Rest p.tables e below s _ _ _ (T3.setTop (mkF m 26 #[.val (.ref a0), .val (.ref a1), .val (.ref a1)] [(.ref a0)]))
  obtain ⟨T4, X4, e4, st4⟩ := getF X3 hx hZ hown (host := "") (Or.inl (hw _ (List.mem_of_getElem? (i := 28) rfl))) Via.refl e3 Fc_a0 (g := (mkF m 26 #[.val (.ref a0), .val (.ref a1), .val (.ref a1)] [(.ref a0)])) rfl rfl (hb hby d13_26)
  refine Rest.via (fun t k => st4 t k) ?_
  show Rest p.tables e below s _ _ _ (T4.setTop (mkF m 29 #[.val (.ref a0), .val (.ref a1), .val (.ref a1)] [(.int (0 : Int32))]))
  refine Rest.via (fun t k => XS.aloadN X4.here hx rfl (hb hby d13_29) rfl rfl k) ?_
  show Rest p.tables e below s _ _ _ (T4.setTop (mkF m 30 #[.val (.ref a0), .val (.ref a1), .val (.ref a1)] [(.ref a1), (.int (0 : Int32))]))
  obtain ⟨T5, X5, e5, st5⟩ := getF X4 hx hZ hown (host := "") (Or.inl (hw _ (List.mem_of_getElem? (i := 28) rfl))) Via.refl e4 Fc_a1 (g := (mkF m 30 #[.val (.ref a0), .val (.ref a1), .val (.ref a1)] [(.ref a1), (.int (0 : Int32))])) rfl rfl (hb hby d13_30)
  refine Rest.via (fun t k => st5 t k) ?_
  show Rest p.tables e below s _ _ _ (T5.setTop (mkF m 33 #[.val (.ref a0), .val (.ref a1), .val (.ref a1)] [(.int (0 : Int32)), (.int (0 : Int32))]))
  refine Rest.via (fun t k => XS.icmpNo X5.here hx rfl (hb hby d13_33) rfl (teq (by decide : (0 : Int32) = (0 : Int32))).2 k) ?_
  show Rest p.tables e below s _ _ _ (T5.setTop (mkF m 36 #[.val (.ref a0), .val (.ref a1), .val (.ref a1)] []))
  refine Rest.via (fun t k => XS.aloadN X5.here hx rfl (hb hby d13_36) rfl rfl k) ?_
  show Rest p.tables e below s _ _ _ (T5.setTop (mkF m 37 #[.val (.ref a0), .val (.ref a1), .val (.ref a1)] [(.ref a0)]))
  obtain ⟨T6, X6, e6, st6⟩ := getF X5 hx hZ hown (host := "") (Or.inl (hw _ (List.mem_of_getElem? (i := 27) rfl))) Via.refl e5 Fv_a0 (g := (mkF m 37 #[.val (.ref a0), .val (.ref a1), .val (.ref a1)] [(.ref a0)])) rfl rfl (hb hby d13_37)
  refine Rest.via (fun t k => st6 t k) ?_
  show Rest p.tables e below s _ _ _ (T6.setTop (mkF m 40 #[.val (.ref a0), .val (.ref a1), .val (.ref a1)] [(.ref va0)]))
  refine Rest.via (fun t k => XS.aloadN X6.here hx rfl (hb hby d13_40) rfl rfl k) ?_
  show Rest p.tables e below s _ _ _ (T6.setTop (mkF m 41 #[.val (.ref a0), .val (.ref a1), .val (.ref a1)] [(.ref a1), (.ref va0)]))
  obtain ⟨T7, X7, e7, st7⟩ := getF X6 hx hZ hown (host := "") (Or.inl (hw _ (List.mem_of_getElem? (i := 27) rfl))) Via.refl e6 Fv_a1 (g := (mkF m 41 #[.val (.ref a0), .val (.ref a1), .val (.ref a1)] [(.ref a1), (.ref va0)])) rfl rfl (hb hby d13_41)
  refine Rest.via (fun t k => st7 t k) ?_
  show Rest p.tables e below s _ _ _ (T7.setTop (mkF m 44 #[.val (.ref a0), .val (.ref a1), .val (.ref a1)] [(.ref va1), (.ref va0)]))
  obtain ⟨_, _, ⟨T8, L8, k8, n8⟩, -, X8, ⟨Lc8, hQ8, l8, y8, z8⟩, st8⟩ := Jvm.LawKit.callS X7 hx (y := (⟨"java/lang/StringLatin1", "equals", "([B[B)Z"⟩ : MethodName)) hown (mvT hZ (hw _ (List.mem_of_getElem? (i := 72) rfl))) (mvT hZ (hw _ (List.mem_of_getElem? (i := 73) rfl))) (mvT hZ (hw _ (List.mem_of_getElem? (i := 74) rfl))) (mvT hZ (hw _ (List.mem_of_getElem? (i := 75) rfl))) (by decide) (backOf (W := 0) (rmLE1_0 l Z aw hw [] va0 va1 k0 k1 xa h0 n0 (Nat.le_trans Z0 (Keep.refl h0 []).1) V_a0 V_a1) hZ (hw _ (List.mem_of_getElem? (i := 75) rfl)) (hw _ (List.mem_of_getElem? (i := 74) rfl)) (by decide) (by decide)) (g := (mkF m 44 #[.val (.ref a0), .val (.ref a1), .val (.ref a1)] [(.ref va1), (.ref va0)])) rfl (by rw [hml]; rfl) (argsL := [(.ref va0), (.ref va1)]) (rest := []) (lenOf pd_4 rfl) rfl (by show 2 * 0 + _ ≤ _; exact Nat.le_of_eq rfl) (hb hby d13_44) (fun _ _ => ⟨rfl, e7, (by decide : 0 + 0 ≤ _), (by decide : 0 + 0 ≤ _)⟩)
  dsimp only [Pt.U, Pt.locs, Pt.cells, Pt.slots] at X8 l8 y8 z8 st8 hQ8
  subst l8 y8 z8
  obtain ⟨rfl, Nq8, e8⟩ := hQ8
  have N8 := Fr.app N0 Nq8
  refine Rest.via (fun t k => st8 t k) ?_
  show Rest p.tables e below s _ _ _ (T8.setTop (mkF m 47 #[.val (.ref a0), .val (.ref a1), .val (.ref a1)] [(.int (if ([xa] : List Int32) = [] then (1 : Int32) else 0))]))
  by_cases hz : (if ([xa] : List Int32) = [] then (1 : Int32) else 0) = (0 : Int32)
  · refine Rest.via (fun t k => XS.ifYes X8.here hx rfl (pc0 := 47) (pc' := 54) rfl (hb hby d13_47) rfl ((if0 _ _).trans (teq hz).1) (by decide) (by decide) k) ?_
    show Rest p.tables e below s _ _ _ (T8.setTop (mkF m 54 #[.val (.ref a0), .val (.ref a1), .val (.ref a1)] []))
    refine Rest.via (fun t k => XS.iconst X8.here hx rfl (hb hby d13_54) k) ?_
    show Rest p.tables e below s _ _ _ (T8.setTop (mkF m 55 #[.val (.ref a0), .val (.ref a1), .val (.ref a1)] [(.int (0 : Int32))]))
    refine Rest.ret X8 (v := some (.int (nar .boolean (0 : Int32)))) (fun h => by rw [Bd.returns] at h; cases h) hlk (fun fs hr => retN X8 hx (t := .boolean) Bd.returns (by simp) (hb hby d13_55) hr) ?_ (by decide) (by decide)
    rw [e8]
    exact ⟨by show some (Value.int (0 : Int32)) = _; rw [hz], N8, rfl⟩
  · refine Rest.via (fun t k => XS.ifNo X8.here hx rfl (hb hby d13_47) rfl ((if0 _ _).trans (feq hz).1) k) ?_
    show Rest p.tables e below s _ _ _ (T8.setTop (mkF m 50 #[.val (.ref a0), .val (.ref a1), .val (.ref a1)] []))
    refine Rest.via (fun t k => XS.iconst X8.here hx rfl (hb hby d13_50) k) ?_
    show Rest p.tables e below s _ _ _ (T8.setTop (mkF m 51 #[.val (.ref a0), .val (.ref a1), .val (.ref a1)] [(.int (1 : Int32))]))
    refine Rest.via (fun t k => XS.goto X8.here hx rfl (pc0 := 51) (pc' := 55) rfl (hb hby d13_51) (by decide) (by decide) k) ?_
    show Rest p.tables e below s _ _ _ (T8.setTop (mkF m 55 #[.val (.ref a0), .val (.ref a1), .val (.ref a1)] [(.int (1 : Int32))]))
    refine Rest.ret X8 (v := some (.int (nar .boolean (1 : Int32)))) (fun h => by rw [Bd.returns] at h; cases h) hlk (fun fs hr => retN X8 hx (t := .boolean) Bd.returns (by simp) (hb hby d13_55) hr) ?_ (by decide) (by decide)
    rw [e8]
    exact ⟨by show some (Value.int (1 : Int32)) = _; rw [own_ite1 hz], N8, rfl⟩
theorem d14_15 : decode jdk_43_method_13_code 15 = .ok (.aload_n 0, 1) := by decide +kernel
theorem d14_16 : decode jdk_43_method_13_code 16 = .ok (.iload_n 2, 1) := by decide +kernel
theorem d14_17 : decode jdk_43_method_13_code 17 = .ok (.baload, 1) := by decide +kernel
theorem d14_18 : decode jdk_43_method_13_code 18 = .ok (.aload_n 1, 1) := by decide +kernel
theorem d14_19 : decode jdk_43_method_13_code 19 = .ok (.iload_n 2, 1) := by decide +kernel
theorem d14_20 : decode jdk_43_method_13_code 20 = .ok (.baload, 1) := by decide +kernel
theorem d14_21 : decode jdk_43_method_13_code 21 = .ok (.if_icmp .eq 5, 3) := by decide +kernel
theorem d14_24 : decode jdk_43_method_13_code 24 = .ok (.iconst 0, 1) := by decide +kernel
theorem d14_25 : decode jdk_43_method_13_code 25 = .ok (.ireturn, 1) := by decide +kernel
theorem d14_26 : decode jdk_43_method_13_code 26 = .ok (.iinc 2 1, 3) := by decide +kernel
theorem d14_29 : decode jdk_43_method_13_code 29 = .ok (.goto (-20), 3) := by decide +kernel
theorem ef_LE1_1 (m : MethodId) (a0 : Addr) (a1 : Addr) : entryFrame m #[(.ref a0), (.ref a1)] 3 = mkF m 0 #[.val (.ref a0), .val (.ref a1), .unset] [] := by first | (simp [entryFrame, mkF, argsToLocals, Value.category, maxLocals]; done) | rfl
def QLE1_1 (Z : State) (a0 : Addr) (a1 : Addr) (k0 : ClassId) (k1 : ClassId) (xa : Int32) (ya : Int32) (h0 : Heap) (n0 : Nat) (v : Option Value) (h : Heap) (L : List Loc) : Prop := v = some (.int (if ([xa] : List Int32) = [ya] then (1 : Int32) else 0)) ∧ Fr n0 L ∧ h = h0
set_option maxRecDepth 65536 in
set_option maxHeartbeats 40000000 in
theorem rmLE1_1 (l : Launch) (Z : State) (aw : Array Value) (hw : ∀ d ∈ tables_1, d.before aw Z = true) (ws : List Jvm.Cond) (a0 : Addr) (a1 : Addr) (k0 : ClassId) (k1 : ClassId) (xa : Int32) (ya : Int32) (h0 : Heap) (n0 : Nat) (Z0 : n0 ≤ h0.size) (V0 : Arv Z h0 a0 k0 .byte (1 : Int32) [(.int xa)] (.int (0 : Int32))) (V1 : Arv Z h0 a1 k1 .byte (1 : Int32) [(.int ya)] (.int (0 : Int32))) :
    MetFree l (⟨"java/lang/StringLatin1", "equals", "([B[B)Z"⟩ : MethodName) (head1 (Jvm.Cond.code (⟨"java/lang/StringLatin1", "equals", "([B[B)Z"⟩ : MethodName) jdk_43_method_13_code 3 (some .boolean) :: ws) ({ frames := 0, cells := 0, slots := 0, locals := 0 } : Room)) (fun a U => a = #[(.ref a0), (.ref a1)] ∧ Z.Warmed39 U.vm ∧ U.heap = h0) (fun _ _ _ _ _ => True) (fun _ U o U' => ∃ v L, o = .returned v ∧ QLE1_1 Z a0 a1 k0 k1 xa ya h0 n0 v U'.heap L ∧ FrameEnd U o U' L ({ frames := 0, cells := 0, slots := 0, locals := 0 } : Room).cells ({ frames := 0, cells := 0, slots := 0, locals := 0 } : Room).slots) := by
  refine MetFree.of_bodySF (plainFor_of_name pn_2) hisR ?_
  intro p e s m args below meth c s₁ Bd hml0 hP hK
  obtain ⟨rfl, hZ, hh⟩ := hP
  have hx := Bd.exec
  have hby := Bd.bytes
  have hml : c.maxLocals = 3 := hml0
  have hown : s.vm.findClass "java/lang/StringLatin1" = some m.cls := findClass_of_methodNamed Bd.named
  have hnm := (name_of_methodNamed Bd.named Bd.method).1
  have hlk : meth.locks = false := BodyLoose.notSynchronized Bd
  have X0 : Stand p l e ({ frames := 0, cells := 0, slots := 0, locals := 0 } : Room) s m #[(.ref a0), (.ref a1)] below meth c s₁ [] 0 0 := Stand.of_body Bd
  have _u := trivial
  have eh0 : s₁.heap = h0 := by rw [← hh, Bd.state]; rfl
  have N0 := Fr.nil n0
  show Rest p.tables e below s (QLE1_1 Z a0 a1 k0 k1 xa ya h0 n0) _ _ (s₁.setTop (entryFrame m #[(.ref a0), (.ref a1)] 3))
  refine Rest.via (fun t k => castTop (ef_LE1_1 m a0 a1) k) ?_
  show Rest p.tables e below s _ _ _ (s₁.setTop (mkF m 0 #[.val (.ref a0), .val (.ref a1), .unset] []))
  refine Rest.via (fun t k => XS.aloadN X0.here hx rfl (hb hby d14_0) rfl rfl k) ?_
  show Rest p.tables e below s _ _ _ (s₁.setTop (mkF m 1 #[.val (.ref a0), .val (.ref a1), .unset] [(.ref a0)]))
  obtain ⟨cl1, Ar1, -, S1, P1, -, -⟩ := id V0
  refine Rest.via (fun t k => X0.arraylength hx (by rw [eh0]; exact Ar1.1) (State.isArrayOf_alike hZ.alike Ar1.2.1) (g := (mkF m 1 #[.val (.ref a0), .val (.ref a1), .unset] [(.ref a0)])) rfl rfl (hb hby d14_1) t k) ?_
  rw [len_of S1 P1]
  show Rest p.tables e below s _ _ _ (s₁.setTop (mkF m 2 #[.val (.ref a0), .val (.ref a1), .unset] [(.int (1 : Int32))]))
  refine Rest.via (fun t k => XS.aloadN X0.here hx rfl (hb hby d14_2) rfl rfl k) ?_
  show Rest p.tables e below s _ _ _ (s₁.setTop (mkF m 3 #[.val (.ref a0), .val (.ref a1), .unset] [(.ref a1), (.int (1 : Int32))]))
  obtain ⟨cl2, Ar2, -, S2, P2, -, -⟩ := id V1
  refine Rest.via (fun t k => X0.arraylength hx (by rw [eh0]; exact Ar2.1) (State.isArrayOf_alike hZ.alike Ar2.2.1) (g := (mkF m 3 #[.val (.ref a0), .val (.ref a1), .unset] [(.ref a1), (.int (1 : Int32))])) rfl rfl (hb hby d14_3) t k) ?_
  rw [len_of S2 P2]
  show Rest p.tables e below s _ _ _ (s₁.setTop (mkF m 4 #[.val (.ref a0), .val (.ref a1), .unset] [(.int (1 : Int32)), (.int (1 : Int32))]))
  refine Rest.via (fun t k => XS.icmpNo X0.here hx rfl (hb hby d14_4) rfl (teq (by decide : (1 : Int32) = (1 : Int32))).2 k) ?_
  show Rest p.tables e below s _ _ _ (s₁.setTop (mkF m 7 #[.val (.ref a0), .val (.ref a1), .unset] []))
  refine Rest.via (fun t k => XS.iconst X0.here hx rfl (hb hby d14_7) k) ?_
  show Rest p.tables e below s _ _ _ (s₁.setTop (mkF m 8 #[.val (.ref a0), .val (.ref a1), .unset] [(.int (0 : Int32))]))
  refine Rest.via (fun t k => XS.istoreN X0.here hx rfl (hb hby d14_8) rfl (l' := #[.val (.ref a0), .val (.ref a1), .val (.int (0 : Int32))]) rfl k) ?_
  show Rest p.tables e below s _ _ _ (s₁.setTop (mkF m 9 #[.val (.ref a0), .val (.ref a1), .val (.int (0 : Int32))] []))
  refine Rest.via (fun t k => XS.iloadN X0.here hx rfl (hb hby d14_9) rfl k) ?_
  show Rest p.tables e below s _ _ _ (s₁.setTop (mkF m 10 #[.val (.ref a0), .val (.ref a1), .val (.int (0 : Int32))] [(.int (0 : Int32))]))
  refine Rest.via (fun t k => XS.aloadN X0.here hx rfl (hb hby d14_10) rfl rfl k) ?_
  show Rest p.tables e below s _ _ _ (s₁.setTop (mkF m 11 #[.val (.ref a0), .val (.ref a1), .val (.int (0 : Int32))] [(.ref a0), (.int (0 : Int32))]))
  obtain ⟨cl3, Ar3, -, S3, P3, -, -⟩ := id V0
  refine Rest.via (fun t k => X0.arraylength hx (by rw [eh0]; exact Ar3.1) (State.isArrayOf_alike hZ.alike Ar3.2.1) (g := (mkF m 11 #[.val (.ref a0), .val (.ref a1), .val (.int (0 : Int32))] [(.ref a0), (.int (0 : Int32))])) rfl rfl (hb hby d14_11) t k) ?_
  rw [len_of S3 P3]
  show Rest p.tables e below s _ _ _ (s₁.setTop (mkF m 12 #[.val (.ref a0), .val (.ref a1), .val (.int (0 : Int32))] [(.int (1 : Int32)), (.int (0 : Int32))]))
  refine Rest.via (fun t k => XS.icmpNo X0.here hx rfl (hb hby d14_12) rfl (tlt (by decide : (0 : Int32) < (1 : Int32))).2.1 k) ?_
  show Rest p.tables e below s _ _ _ (s₁.setTop (mkF m 15 #[.val (.ref a0), .val (.ref a1), .val (.int (0 : Int32))] []))
  refine Rest.via (fun t k => XS.aloadN X0.here hx rfl (hb hby d14_15) rfl rfl k) ?_
  show Rest p.tables e below s _ _ _ (s₁.setTop (mkF m 16 #[.val (.ref a0), .val (.ref a1), .val (.int (0 : Int32))] [(.ref a0)]))
  refine Rest.via (fun t k => XS.iloadN X0.here hx rfl (hb hby d14_16) rfl k) ?_
  show Rest p.tables e below s _ _ _ (s₁.setTop (mkF m 17 #[.val (.ref a0), .val (.ref a1), .val (.int (0 : Int32))] [(.int (0 : Int32)), (.ref a0)]))
  obtain ⟨cl4, Ar4, qa4, Sa4, Pa4, Ha4, Ga4⟩ := id V0
  have hin4 := inb_of (j := (0 : Int32)) Sa4 ⟨by decide, by decide⟩
  have hat4 : cl4.slots[((0 : Int32)).toNatClampNeg]? = some (.int xa) := Has.at Ha4 hin4 rfl
  refine Rest.via (fun t k => X0.baloadBytes hx (j := (0 : Int32)) (v := (.int xa)) (by rw [eh0]; exact Ar4.1) (State.isArrayOf_alike hZ.alike Ar4.2.1) Ar4.2.2 hin4 hat4 (g := (mkF m 17 #[.val (.ref a0), .val (.ref a1), .val (.int (0 : Int32))] [(.int (0 : Int32)), (.ref a0)])) rfl rfl (hb hby d14_17) t k) ?_
  show Rest p.tables e below s _ _ _ (s₁.setTop (mkF m 18 #[.val (.ref a0), .val (.ref a1), .val (.int (0 : Int32))] [(.int xa)]))
  refine Rest.via (fun t k => XS.aloadN X0.here hx rfl (hb hby d14_18) rfl rfl k) ?_
  show Rest p.tables e below s _ _ _ (s₁.setTop (mkF m 19 #[.val (.ref a0), .val (.ref a1), .val (.int (0 : Int32))] [(.ref a1), (.int xa)]))
  refine Rest.via (fun t k => XS.iloadN X0.here hx rfl (hb hby d14_19) rfl k) ?_
  show Rest p.tables e below s _ _ _ (s₁.setTop (mkF m 20 #[.val (.ref a0), .val (.ref a1), .val (.int (0 : Int32))] [(.int (0 : Int32)), (.ref a1), (.int xa)]))
  obtain ⟨cl5, Ar5, qa5, Sa5, Pa5, Ha5, Ga5⟩ := id V1
  have hin5 := inb_of (j := (0 : Int32)) Sa5 ⟨by decide, by decide⟩
  have hat5 : cl5.slots[((0 : Int32)).toNatClampNeg]? = some (.int ya) := Has.at Ha5 hin5 rfl
  refine Rest.via (fun t k => X0.baloadBytes hx (j := (0 : Int32)) (v := (.int ya)) (by rw [eh0]; exact Ar5.1) (State.isArrayOf_alike hZ.alike Ar5.2.1) Ar5.2.2 hin5 hat5 (g := (mkF m 20 #[.val (.ref a0), .val (.ref a1), .val (.int (0 : Int32))] [(.int (0 : Int32)), (.ref a1), (.int xa)])) rfl rfl (hb hby d14_20) t k) ?_
  show Rest p.tables e below s _ _ _ (s₁.setTop (mkF m 21 #[.val (.ref a0), .val (.ref a1), .val (.int (0 : Int32))] [(.int ya), (.int xa)]))
  by_cases hq0 : xa = ya
  · refine Rest.via (fun t k => XS.icmpYes X0.here hx rfl (pc0 := 21) (pc' := 26) rfl (hb hby d14_21) rfl (teq hq0).1 (by decide) (by decide) k) ?_
    show Rest p.tables e below s _ _ _ (s₁.setTop (mkF m 26 #[.val (.ref a0), .val (.ref a1), .val (.int (0 : Int32))] []))
    refine Rest.via (fun t k => XS.iinc X0.here hx rfl (hb hby d14_26) rfl (l' := #[.val (.ref a0), .val (.ref a1), .val (.int ((0 : Int32) + (1 : Int32)))]) rfl k) ?_
    show Rest p.tables e below s _ _ _ (s₁.setTop (mkF m 29 #[.val (.ref a0), .val (.ref a1), .val (.int ((0 : Int32) + (1 : Int32)))] []))
    rw [(by decide : ((0 : Int32) + (1 : Int32)) = (1 : Int32))]
    show Rest p.tables e below s _ _ _ (s₁.setTop (mkF m 29 #[.val (.ref a0), .val (.ref a1), .val (.int (1 : Int32))] []))
    refine Rest.via (fun t k => XS.goto X0.here hx rfl (pc0 := 29) (pc' := 9) rfl (hb hby d14_29) (by decide) (by decide) k) ?_
    show Rest p.tables e below s _ _ _ (s₁.setTop (mkF m 9 #[.val (.ref a0), .val (.ref a1), .val (.int (1 : Int32))] []))
    refine Rest.via (fun t k => XS.iloadN X0.here hx rfl (hb hby d14_9) rfl k) ?_
    show Rest p.tables e below s _ _ _ (s₁.setTop (mkF m 10 #[.val (.ref a0), .val (.ref a1), .val (.int (1 : Int32))] [(.int (1 : Int32))]))
    refine Rest.via (fun t k => XS.aloadN X0.here hx rfl (hb hby d14_10) rfl rfl k) ?_
    show Rest p.tables e below s _ _ _ (s₁.setTop (mkF m 11 #[.val (.ref a0), .val (.ref a1), .val (.int (1 : Int32))] [(.ref a0), (.int (1 : Int32))]))
    obtain ⟨cl6, Ar6, -, S6, P6, -, -⟩ := id V0
    refine Rest.via (fun t k => X0.arraylength hx (by rw [eh0]; exact Ar6.1) (State.isArrayOf_alike hZ.alike Ar6.2.1) (g := (mkF m 11 #[.val (.ref a0), .val (.ref a1), .val (.int (1 : Int32))] [(.ref a0), (.int (1 : Int32))])) rfl rfl (hb hby d14_11) t k) ?_
    rw [len_of S6 P6]
    show Rest p.tables e below s _ _ _ (s₁.setTop (mkF m 12 #[.val (.ref a0), .val (.ref a1), .val (.int (1 : Int32))] [(.int (1 : Int32)), (.int (1 : Int32))]))
    refine Rest.via (fun t k => XS.icmpYes X0.here hx rfl (pc0 := 12) (pc' := 32) rfl (hb hby d14_12) rfl (flt (by decide : ¬ ((1 : Int32) < (1 : Int32)))).2.1 (by decide) (by decide) k) ?_
    show Rest p.tables e below s _ _ _ (s₁.setTop (mkF m 32 #[.val (.ref a0), .val (.ref a1), .val (.int (1 : Int32))] []))
    refine Rest.via (fun t k => XS.iconst X0.here hx rfl (hb hby d14_32) k) ?_
    show Rest p.tables e below s _ _ _ (s₁.setTop (mkF m 33 #[.val (.ref a0), .val (.ref a1), .val (.int (1 : Int32))] [(.int (1 : Int32))]))
    refine Rest.ret X0 (v := some (.int (nar .boolean (1 : Int32)))) (fun h => by rw [Bd.returns] at h; cases h) hlk (fun fs hr => retN X0 hx (t := .boolean) Bd.returns (by simp) (hb hby d14_33) hr) ?_ (by decide) (by decide)
    rw [eh0]
    exact ⟨by show some (Value.int (1 : Int32)) = _; rw [if_pos (by rw [hq0])], N0, rfl⟩
  · refine Rest.via (fun t k => XS.icmpNo X0.here hx rfl (hb hby d14_21) rfl (feq hq0).1 k) ?_
    show Rest p.tables e below s _ _ _ (s₁.setTop (mkF m 24 #[.val (.ref a0), .val (.ref a1), .val (.int (0 : Int32))] []))
    refine Rest.via (fun t k => XS.iconst X0.here hx rfl (hb hby d14_24) k) ?_
    show Rest p.tables e below s _ _ _ (s₁.setTop (mkF m 25 #[.val (.ref a0), .val (.ref a1), .val (.int (0 : Int32))] [(.int (0 : Int32))]))
    refine Rest.ret X0 (v := some (.int (nar .boolean (0 : Int32)))) (fun h => by rw [Bd.returns] at h; cases h) hlk (fun fs hr => retN X0 hx (t := .boolean) Bd.returns (by simp) (hb hby d14_25) hr) ?_ (by decide) (by decide)
    rw [eh0]
    exact ⟨by show some (Value.int (0 : Int32)) = _; rw [if_neg (by simp [hq0])], N0, rfl⟩
theorem ef_SE1_1 (m : MethodId) (a0 : Addr) (a1 : Addr) : entryFrame m #[(.ref a0), (.ref a1)] 3 = mkF m 0 #[.val (.ref a0), .val (.ref a1), .unset] [] := by first | (simp [entryFrame, mkF, argsToLocals, Value.category, maxLocals]; done) | rfl
def QSE1_1 (Z : State) (a0 : Addr) (a1 : Addr) (va0 : Addr) (k0 : ClassId) (va1 : Addr) (k1 : ClassId) (ic : Int32) (xa : Int32) (ya : Int32) (h0 : Heap) (n0 : Nat) (v : Option Value) (h : Heap) (L : List Loc) : Prop := v = some (.int (if ([xa] : List Int32) = [ya] then (1 : Int32) else 0)) ∧ Fr n0 L ∧ h = h0
set_option maxRecDepth 65536 in
set_option maxHeartbeats 40000000 in
theorem rmSE1_1 (l : Launch) (Z : State) (aw : Array Value) (hw : ∀ d ∈ tables_1, d.before aw Z = true) (ws : List Jvm.Cond) (a0 : Addr) (a1 : Addr) (va0 : Addr) (k0 : ClassId) (va1 : Addr) (k1 : ClassId) (ic : Int32) (xa : Int32) (ya : Int32) (h0 : Heap) (n0 : Nat) (Z0 : n0 ≤ h0.size) (S0 : own_St Z h0 a0 va0 k0 (1 : Int32) [(.int xa)]) (S1 : own_St Z h0 a1 va1 k1 (1 : Int32) [(.int ya)]) (n01 : a0 ≠ a1) (O : Old Z n0 h0) (CS : own_CS Z ic) :
    MetFree l (⟨"java/lang/String", "equals", "(Ljava/lang/Object;)Z"⟩ : MethodName) (head1 (Jvm.Cond.code (⟨"java/lang/String", "equals", "(Ljava/lang/Object;)Z"⟩ : MethodName) jdk_42_method_66_code 3 (some .boolean) :: ws) ({ frames := 1, cells := 0, slots := 0, locals := 14 } : Room)) (fun a U => a = #[(.ref a0), (.ref a1)] ∧ Z.Warmed39 U.vm ∧ U.heap = h0) (fun _ _ _ _ _ => True) (fun _ U o U' => ∃ v L, o = .returned v ∧ QSE1_1 Z a0 a1 va0 k0 va1 k1 ic xa ya h0 n0 v U'.heap L ∧ FrameEnd U o U' L ({ frames := 1, cells := 0, slots := 0, locals := 14 } : Room).cells ({ frames := 1, cells := 0, slots := 0, locals := 14 } : Room).slots) := by
  refine MetFree.of_bodySF (plainFor_of_name pn_1) hisR ?_
  intro p e s m args below meth c s₁ Bd hml0 hP hK
  obtain ⟨rfl, hZ, hh⟩ := hP
  have hx := Bd.exec
  have hby := Bd.bytes
  have hml : c.maxLocals = 3 := hml0
  have hown : s.vm.findClass "java/lang/String" = some m.cls := findClass_of_methodNamed Bd.named
  have hnm := (name_of_methodNamed Bd.named Bd.method).1
  have hlk : meth.locks = false := BodyLoose.notSynchronized Bd
  have X0 : Stand p l e ({ frames := 1, cells := 0, slots := 0, locals := 14 } : Room) s m #[(.ref a0), (.ref a1)] below meth c s₁ [] 0 0 := Stand.of_body Bd
  have _u := trivial
  have eh0 : s₁.heap = h0 := by rw [← hh, Bd.state]; rfl
  have N0 := Fr.nil n0
  show Rest p.tables e below s (QSE1_1 Z a0 a1 va0 k0 va1 k1 ic xa ya h0 n0) _ _ (s₁.setTop (entryFrame m #[(.ref a0), (.ref a1)] 3))
  refine Rest.via (fun t k => castTop (ef_SE1_1 m a0 a1) k) ?_
  obtain ⟨E_a0, Fv_a0, Fc_a0, V_a0⟩ := id S0
  obtain ⟨E_a1, Fv_a1, Fc_a1, V_a1⟩ := id S1
  show Rest p.tables e below s _ _ _ (s₁.setTop (mkF m 0 #[.val (.ref a0), .val (.ref a1), .unset] []))
  refine Rest.via (fun t k => XS.aloadN X0.here hx rfl (hb hby d13_0) rfl rfl k) ?_
  show Rest p.tables e below s _ _ _ (s₁.setTop (mkF m 1 #[.val (.ref a0), .val (.ref a1), .unset] [(.ref a0)]))
  refine Rest.via (fun t k => XS.aloadN X0.here hx rfl (hb hby d13_1) rfl rfl k) ?_
  show Rest p.tables e below s _ _ _ (s₁.setTop (mkF m 2 #[.val (.ref a0), .val (.ref a1), .unset] [(.ref a1), (.ref a0)]))
  refine Rest.via (fun t k => Jvm.RoadKit.acmp (g := (mkF m 2 #[.val (.ref a0), .val (.ref a1), .unset] [(.ref a1), (.ref a0)])) X0 hx rfl rfl rfl (pc0 := 2) (pc' := 7) (same := false) rfl (hb hby d13_2) rfl (decide_eq_false fun q => n01 (Value.ref.inj q)) (by decide) (by decide) k) ?_
  show Rest p.tables e below s _ _ _ (s₁.setTop (mkF m 7 #[.val (.ref a0), .val (.ref a1), .unset] []))
  refine Rest.via (fun t k => XS.aloadN X0.here hx rfl (hb hby d13_7) rfl rfl k) ?_
  show Rest p.tables e below s _ _ _ (s₁.setTop (mkF m 8 #[.val (.ref a0), .val (.ref a1), .unset] [(.ref a1)]))
  obtain ⟨T1, X1, e1, st1⟩ := instY X0 hx hZ hown (hw _ (List.mem_of_getElem? (i := 71) rfl)) eh0 (Ins.self E_a1) (g := (mkF m 8 #[.val (.ref a0), .val (.ref a1), .unset] [(.ref a1)])) rfl rfl (hb hby d13_8)
  refine Rest.via (fun t k => st1 t k) ?_
  show Rest p.tables e below s _ _ _ (T1.setTop (mkF m 11 #[.val (.ref a0), .val (.ref a1), .unset] [(.int (1 : Int32))]))
  refine Rest.via (fun t k => XS.ifNo X1.here hx rfl (hb hby d13_11) rfl ((if0 _ _).trans (feq (by decide : ¬ ((1 : Int32) = (0 : Int32)))).1) k) ?_
  show Rest p.tables e below s _ _ _ (T1.setTop (mkF m 14 #[.val (.ref a0), .val (.ref a1), .unset] []))
  refine Rest.via (fun t k => XS.aloadN X1.here hx rfl (hb hby d13_14) rfl rfl k) ?_
  show Rest p.tables e below s _ _ _ (T1.setTop (mkF m 15 #[.val (.ref a0), .val (.ref a1), .unset] [(.ref a1)]))
  obtain ⟨T2, X2, e2, st2⟩ := castY X1 hx hZ hown (hw _ (List.mem_of_getElem? (i := 71) rfl)) e1 (Ins.self E_a1) (g := (mkF m 15 #[.val (.ref a0), .val (.ref a1), .unset] [(.ref a1)])) rfl rfl (hb hby d13_15)
  refine Rest.via (fun t k => st2 t k) ?_
  show Rest p.tables e below s _ _ _ (T2.setTop (mkF m 18 #[.val (.ref a0), .val (.ref a1), .unset] [(.ref a1)]))
  refine Rest.via (fun t k => XS.astoreN X2.here hx rfl (hb hby d13_18) rfl rfl (l' := #[.val (.ref a0), .val (.ref a1), .val (.ref a1)]) rfl k) ?_
  show Rest p.tables e below s _ _ _ (T2.setTop (mkF m 19 #[.val (.ref a0), .val (.ref a1), .val (.ref a1)] []))
  obtain ⟨T3, X3, e3, st3⟩ := getS2 X2 hx hZ hown (host := "") (Or.inl (hw _ (List.mem_of_getElem? (i := 45) rfl))) Via.refl e2 (CS.1.ext (O.keep (Keep.refl h0 []) all0).2) (g := (mkF m 19 #[.val (.ref a0), .val (.ref a1), .val (.ref a1)] [])) rfl (hb hby d13_19)
  refine Rest.via (fun t k => st3 t k) ?_
  show Rest p.tables e below s _ _ _ (T3.setTop (mkF m 22 #[.val (.ref a0), .val (.ref a1), .val (.ref a1)] [(.int ic)]))
  refine Rest.via (fun t k => XS.ifNo X3.here hx rfl (hb hby d13_22) rfl ((if0 _ _).trans (feq (CS.2 : ¬ (ic = (0 : Int32)))).1) k) ?_
  show Rest p.tables e below s _ _ _ (T3.setTop (mkF m 25 #[.val (.ref a0), .val (.ref a1), .val (.ref a1)] []))
  refine Rest.via (fun t k => XS.aloadN X3.here hx rfl (hb hby d13_25) rfl rfl k) ?_
  show Rest p.tables e below s _ _ _ (T3.setTop (mkF m 26 #[.val (.ref a0), .val (.ref a1), .val (.ref a1)] [(.ref a0)]))
  obtain ⟨T4, X4, e4, st4⟩ := getF X3 hx hZ hown (host := "") (Or.inl (hw _ (List.mem_of_getElem? (i := 28) rfl))) Via.refl e3 Fc_a0 (g := (mkF m 26 #[.val (.ref a0), .val (.ref a1), .val (.ref a1)] [(.ref a0)])) rfl rfl (hb hby d13_26)
  refine Rest.via (fun t k => st4 t k) ?_
  show Rest p.tables e below s _ _ _ (T4.setTop (mkF m 29 #[.val (.ref a0), .val (.ref a1), .val (.ref a1)] [(.int (0 : Int32))]))
  refine Rest.via (fun t k => XS.aloadN X4.here hx rfl (hb hby d13_29) rfl rfl k) ?_
  show Rest p.tables e below s _ _ _ (T4.setTop (mkF m 30 #[.val (.ref a0), .val (.ref a1), .val (.ref a1)] [(.ref a1), (.int (0 : Int32))]))
  obtain ⟨T5, X5, e5, st5⟩ := getF X4 hx hZ hown (host := "") (Or.inl (hw _ (List.mem_of_getElem? (i := 28) rfl))) Via.refl e4 Fc_a1 (g := (mkF m 30 #[.val (.ref a0), .val (.ref a1), .val (.ref a1)] [(.ref a1), (.int (0 : Int32))])) rfl rfl (hb hby d13_30)
  refine Rest.via (fun t k => st5 t k) ?_
  show Rest p.tables e below s _ _ _ (T5.setTop (mkF m 33 #[.val (.ref a0), .val (.ref a1), .val (.ref a1)] [(.int (0 : Int32)), (.int (0 : Int32))]))
  refine Rest.via (fun t k => XS.icmpNo X5.here hx rfl (hb hby d13_33) rfl (teq (by decide : (0 : Int32) = (0 : Int32))).2 k) ?_
  show Rest p.tables e below s _ _ _ (T5.setTop (mkF m 36 #[.val (.ref a0), .val (.ref a1), .val (.ref a1)] []))
  refine Rest.via (fun t k => XS.aloadN X5.here hx rfl (hb hby d13_36) rfl rfl k) ?_
  show Rest p.tables e below s _ _ _ (T5.setTop (mkF m 37 #[.val (.ref a0), .val (.ref a1), .val (.ref a1)] [(.ref a0)]))
  obtain ⟨T6, X6, e6, st6⟩ := getF X5 hx hZ hown (host := "") (Or.inl (hw _ (List.mem_of_getElem? (i := 27) rfl))) Via.refl e5 Fv_a0 (g := (mkF m 37 #[.val (.ref a0), .val (.ref a1), .val (.ref a1)] [(.ref a0)])) rfl rfl (hb hby d13_37)
  refine Rest.via (fun t k => st6 t k) ?_
  show Rest p.tables e below s _ _ _ (T6.setTop (mkF m 40 #[.val (.ref a0), .val (.ref a1), .val (.ref a1)] [(.ref va0)]))
  refine Rest.via (fun t k => XS.aloadN X6.here hx rfl (hb hby d13_40) rfl rfl k) ?_
  show Rest p.tables e below s _ _ _ (T6.setTop (mkF m 41 #[.val (.ref a0), .val (.ref a1), .val (.ref a1)] [(.ref a1), (.ref va0)]))
  obtain ⟨T7, X7, e7, st7⟩ := getF X6 hx hZ hown (host := "") (Or.inl (hw _ (List.mem_of_getElem? (i := 27) rfl))) Via.refl e6 Fv_a1 (g := (mkF m 41 #[.val (.ref a0), .val (.ref a1), .val (.ref a1)] [(.ref a1), (.ref va0)])) rfl rfl (hb hby d13_41)
  refine Rest.via (fun t k => st7 t k) ?_
  show Rest p.tables e below s _ _ _ (T7.setTop (mkF m 44 #[.val (.ref a0), .val (.ref a1), .val (.ref a1)] [(.ref va1), (.ref va0)]))
  obtain ⟨_, _, ⟨T8, L8, k8, n8⟩, -, X8, ⟨Lc8, hQ8, l8, y8, z8⟩, st8⟩ := Jvm.LawKit.callS X7 hx (y := (⟨"java/lang/StringLatin1", "equals", "([B[B)Z"⟩ : MethodName)) hown (mvT hZ (hw _ (List.mem_of_getElem? (i := 72) rfl))) (mvT hZ (hw _ (List.mem_of_getElem? (i := 73) rfl))) (mvT hZ (hw _ (List.mem_of_getElem? (i := 74) rfl))) (mvT hZ (hw _ (List.mem_of_getElem? (i := 75) rfl))) (by decide) (backOf (W := 0) (rmLE1_1 l Z aw hw [] va0 va1 k0 k1 xa ya h0 n0 (Nat.le_trans Z0 (Keep.refl h0 []).1) V_a0 V_a1) hZ (hw _ (List.mem_of_getElem? (i := 75) rfl)) (hw _ (List.mem_of_getElem? (i := 74) rfl)) (by decide) (by decide)) (g := (mkF m 44 #[.val (.ref a0), .val (.ref a1), .val (.ref a1)] [(.ref va1), (.ref va0)])) rfl (by rw [hml]; rfl) (argsL := [(.ref va0), (.ref va1)]) (rest := []) (lenOf pd_4 rfl) rfl (by show 2 * 0 + _ ≤ _; exact Nat.le_of_eq rfl) (hb hby d13_44) (fun _ _ => ⟨rfl, e7, (by decide : 0 + 0 ≤ _), (by decide : 0 + 0 ≤ _)⟩)
  dsimp only [Pt.U, Pt.locs, Pt.cells, Pt.slots] at X8 l8 y8 z8 st8 hQ8
  subst l8 y8 z8
  obtain ⟨rfl, Nq8, e8⟩ := hQ8
  have N8 := Fr.app N0 Nq8
  refine Rest.via (fun t k => st8 t k) ?_
  show Rest p.tables e below s _ _ _ (T8.setTop (mkF m 47 #[.val (.ref a0), .val (.ref a1), .val (.ref a1)] [(.int (if ([xa] : List Int32) = [ya] then (1 : Int32) else 0))]))
  by_cases hz : (if ([xa] : List Int32) = [ya] then (1 : Int32) else 0) = (0 : Int32)
  · refine Rest.via (fun t k => XS.ifYes X8.here hx rfl (pc0 := 47) (pc' := 54) rfl (hb hby d13_47) rfl ((if0 _ _).trans (teq hz).1) (by decide) (by decide) k) ?_
    show Rest p.tables e below s _ _ _ (T8.setTop (mkF m 54 #[.val (.ref a0), .val (.ref a1), .val (.ref a1)] []))
    refine Rest.via (fun t k => XS.iconst X8.here hx rfl (hb hby d13_54) k) ?_
    show Rest p.tables e below s _ _ _ (T8.setTop (mkF m 55 #[.val (.ref a0), .val (.ref a1), .val (.ref a1)] [(.int (0 : Int32))]))
    refine Rest.ret X8 (v := some (.int (nar .boolean (0 : Int32)))) (fun h => by rw [Bd.returns] at h; cases h) hlk (fun fs hr => retN X8 hx (t := .boolean) Bd.returns (by simp) (hb hby d13_55) hr) ?_ (by decide) (by decide)
    rw [e8]
    exact ⟨by show some (Value.int (0 : Int32)) = _; rw [hz], N8, rfl⟩
  · refine Rest.via (fun t k => XS.ifNo X8.here hx rfl (hb hby d13_47) rfl ((if0 _ _).trans (feq hz).1) k) ?_
    show Rest p.tables e below s _ _ _ (T8.setTop (mkF m 50 #[.val (.ref a0), .val (.ref a1), .val (.ref a1)] []))
    refine Rest.via (fun t k => XS.iconst X8.here hx rfl (hb hby d13_50) k) ?_
    show Rest p.tables e below s _ _ _ (T8.setTop (mkF m 51 #[.val (.ref a0), .val (.ref a1), .val (.ref a1)] [(.int (1 : Int32))]))
    refine Rest.via (fun t k => XS.goto X8.here hx rfl (pc0 := 51) (pc' := 55) rfl (hb hby d13_51) (by decide) (by decide) k) ?_
    show Rest p.tables e below s _ _ _ (T8.setTop (mkF m 55 #[.val (.ref a0), .val (.ref a1), .val (.ref a1)] [(.int (1 : Int32))]))
    refine Rest.ret X8 (v := some (.int (nar .boolean (1 : Int32)))) (fun h => by rw [Bd.returns] at h; cases h) hlk (fun fs hr => retN X8 hx (t := .boolean) Bd.returns (by simp) (hb hby d13_55) hr) ?_ (by decide) (by decide)
    rw [e8]
    exact ⟨by show some (Value.int (1 : Int32)) = _; rw [own_ite1 hz], N8, rfl⟩
theorem ef_LE1_2 (m : MethodId) (a0 : Addr) (a1 : Addr) : entryFrame m #[(.ref a0), (.ref a1)] 3 = mkF m 0 #[.val (.ref a0), .val (.ref a1), .unset] [] := by first | (simp [entryFrame, mkF, argsToLocals, Value.category, maxLocals]; done) | rfl
def QLE1_2 (Z : State) (a0 : Addr) (a1 : Addr) (k0 : ClassId) (k1 : ClassId) (xa : Int32) (ya : Int32) (yb : Int32) (h0 : Heap) (n0 : Nat) (v : Option Value) (h : Heap) (L : List Loc) : Prop := v = some (.int (if ([xa] : List Int32) = [ya, yb] then (1 : Int32) else 0)) ∧ Fr n0 L ∧ h = h0
set_option maxRecDepth 65536 in
set_option maxHeartbeats 40000000 in
theorem rmLE1_2 (l : Launch) (Z : State) (aw : Array Value) (hw : ∀ d ∈ tables_1, d.before aw Z = true) (ws : List Jvm.Cond) (a0 : Addr) (a1 : Addr) (k0 : ClassId) (k1 : ClassId) (xa : Int32) (ya : Int32) (yb : Int32) (h0 : Heap) (n0 : Nat) (Z0 : n0 ≤ h0.size) (V0 : Arv Z h0 a0 k0 .byte (1 : Int32) [(.int xa)] (.int (0 : Int32))) (V1 : Arv Z h0 a1 k1 .byte (2 : Int32) [(.int ya), (.int yb)] (.int (0 : Int32))) :
    MetFree l (⟨"java/lang/StringLatin1", "equals", "([B[B)Z"⟩ : MethodName) (head1 (Jvm.Cond.code (⟨"java/lang/StringLatin1", "equals", "([B[B)Z"⟩ : MethodName) jdk_43_method_13_code 3 (some .boolean) :: ws) ({ frames := 0, cells := 0, slots := 0, locals := 0 } : Room)) (fun a U => a = #[(.ref a0), (.ref a1)] ∧ Z.Warmed39 U.vm ∧ U.heap = h0) (fun _ _ _ _ _ => True) (fun _ U o U' => ∃ v L, o = .returned v ∧ QLE1_2 Z a0 a1 k0 k1 xa ya yb h0 n0 v U'.heap L ∧ FrameEnd U o U' L ({ frames := 0, cells := 0, slots := 0, locals := 0 } : Room).cells ({ frames := 0, cells := 0, slots := 0, locals := 0 } : Room).slots) := by
  refine MetFree.of_bodySF (plainFor_of_name pn_2) hisR ?_
  intro p e s m args below meth c s₁ Bd hml0 hP hK
  obtain ⟨rfl, hZ, hh⟩ := hP
  have hx := Bd.exec
  have hby := Bd.bytes
  have hml : c.maxLocals = 3 := hml0
  have hown : s.vm.findClass "java/lang/StringLatin1" = some m.cls := findClass_of_methodNamed Bd.named
  have hnm := (name_of_methodNamed Bd.named Bd.method).1
  have hlk : meth.locks = false := BodyLoose.notSynchronized Bd
  have X0 : Stand p l e ({ frames := 0, cells := 0, slots := 0, locals := 0 } : Room) s m #[(.ref a0), (.ref a1)] below meth c s₁ [] 0 0 := Stand.of_body Bd
  have _u := trivial
  have eh0 : s₁.heap = h0 := by rw [← hh, Bd.state]; rfl
  have N0 := Fr.nil n0
  show Rest p.tables e below s (QLE1_2 Z a0 a1 k0 k1 xa ya yb h0 n0) _ _ (s₁.setTop (entryFrame m #[(.ref a0), (.ref a1)] 3))
  refine Rest.via (fun t k => castTop (ef_LE1_2 m a0 a1) k) ?_
  show Rest p.tables e below s _ _ _ (s₁.setTop (mkF m 0 #[.val (.ref a0), .val (.ref a1), .unset] []))
  refine Rest.via (fun t k => XS.aloadN X0.here hx rfl (hb hby d14_0) rfl rfl k) ?_
  show Rest p.tables e below s _ _ _ (s₁.setTop (mkF m 1 #[.val (.ref a0), .val (.ref a1), .unset] [(.ref a0)]))
  obtain ⟨cl1, Ar1, -, S1, P1, -, -⟩ := id V0
  refine Rest.via (fun t k => X0.arraylength hx (by rw [eh0]; exact Ar1.1) (State.isArrayOf_alike hZ.alike Ar1.2.1) (g := (mkF m 1 #[.val (.ref a0), .val (.ref a1), .unset] [(.ref a0)])) rfl rfl (hb hby d14_1) t k) ?_
  rw [len_of S1 P1]
  show Rest p.tables e below s _ _ _ (s₁.setTop (mkF m 2 #[.val (.ref a0), .val (.ref a1), .unset] [(.int (1 : Int32))]))
  refine Rest.via (fun t k => XS.aloadN X0.here hx rfl (hb hby d14_2) rfl rfl k) ?_
  show Rest p.tables e below s _ _ _ (s₁.setTop (mkF m 3 #[.val (.ref a0), .val (.ref a1), .unset] [(.ref a1), (.int (1 : Int32))]))
  obtain ⟨cl2, Ar2, -, S2, P2, -, -⟩ := id V1
  refine Rest.via (fun t k => X0.arraylength hx (by rw [eh0]; exact Ar2.1) (State.isArrayOf_alike hZ.alike Ar2.2.1) (g := (mkF m 3 #[.val (.ref a0), .val (.ref a1), .unset] [(.ref a1), (.int (1 : Int32))])) rfl rfl (hb hby d14_3) t k) ?_
  rw [len_of S2 P2]
  show Rest p.tables e below s _ _ _ (s₁.setTop (mkF m 4 #[.val (.ref a0), .val (.ref a1), .unset] [(.int (2 : Int32)), (.int (1 : Int32))]))
  refine Rest.via (fun t k => XS.icmpYes X0.here hx rfl (pc0 := 4) (pc' := 34) rfl (hb hby d14_4) rfl (feq (by decide : ¬ ((1 : Int32) = (2 : Int32)))).2 (by decide) (by decide) k) ?_
  show Rest p.tables e below s _ _ _ (s₁.setTop (mkF m 34 #[.val (.ref a0), .val (.ref a1), .unset] []))
  refine Rest.via (fun t k => XS.iconst X0.here hx rfl (hb hby d14_34) k) ?_
  show Rest p.tables e below s _ _ _ (s₁.setTop (mkF m 35 #[.val (.ref a0), .val (.ref a1), .unset] [(.int (0 : Int32))]))
  refine Rest.ret X0 (v := some (.int (nar .boolean (0 : Int32)))) (fun h => by rw [Bd.returns] at h; cases h) hlk (fun fs hr => retN X0 hx (t := .boolean) Bd.returns (by simp) (hb hby d14_35) hr) ?_ (by decide) (by decide)
  rw [eh0]
  exact ⟨by show some (Value.int (0 : Int32)) = _; rw [if_neg (by simp)], N0, rfl⟩
theorem ef_SE1_2 (m : MethodId) (a0 : Addr) (a1 : Addr) : entryFrame m #[(.ref a0), (.ref a1)] 3 = mkF m 0 #[.val (.ref a0), .val (.ref a1), .unset] [] := by first | (simp [entryFrame, mkF, argsToLocals, Value.category, maxLocals]; done) | rfl
def QSE1_2 (Z : State) (a0 : Addr) (a1 : Addr) (va0 : Addr) (k0 : ClassId) (va1 : Addr) (k1 : ClassId) (ic : Int32) (xa : Int32) (ya : Int32) (yb : Int32) (h0 : Heap) (n0 : Nat) (v : Option Value) (h : Heap) (L : List Loc) : Prop := v = some (.int (if ([xa] : List Int32) = [ya, yb] then (1 : Int32) else 0)) ∧ Fr n0 L ∧ h = h0
set_option maxRecDepth 65536 in
set_option maxHeartbeats 40000000 in
theorem rmSE1_2 (l : Launch) (Z : State) (aw : Array Value) (hw : ∀ d ∈ tables_1, d.before aw Z = true) (ws : List Jvm.Cond) (a0 : Addr) (a1 : Addr) (va0 : Addr) (k0 : ClassId) (va1 : Addr) (k1 : ClassId) (ic : Int32) (xa : Int32) (ya : Int32) (yb : Int32) (h0 : Heap) (n0 : Nat) (Z0 : n0 ≤ h0.size) (S0 : own_St Z h0 a0 va0 k0 (1 : Int32) [(.int xa)]) (S1 : own_St Z h0 a1 va1 k1 (2 : Int32) [(.int ya), (.int yb)]) (n01 : a0 ≠ a1) (O : Old Z n0 h0) (CS : own_CS Z ic) :
    MetFree l (⟨"java/lang/String", "equals", "(Ljava/lang/Object;)Z"⟩ : MethodName) (head1 (Jvm.Cond.code (⟨"java/lang/String", "equals", "(Ljava/lang/Object;)Z"⟩ : MethodName) jdk_42_method_66_code 3 (some .boolean) :: ws) ({ frames := 1, cells := 0, slots := 0, locals := 14 } : Room)) (fun a U => a = #[(.ref a0), (.ref a1)] ∧ Z.Warmed39 U.vm ∧ U.heap = h0) (fun _ _ _ _ _ => True) (fun _ U o U' => ∃ v L, o = .returned v ∧ QSE1_2 Z a0 a1 va0 k0 va1 k1 ic xa ya yb h0 n0 v U'.heap L ∧ FrameEnd U o U' L ({ frames := 1, cells := 0, slots := 0, locals := 14 } : Room).cells ({ frames := 1, cells := 0, slots := 0, locals := 14 } : Room).slots) := by
  refine MetFree.of_bodySF (plainFor_of_name pn_1) hisR ?_
  intro p e s m args below meth c s₁ Bd hml0 hP hK
  obtain ⟨rfl, hZ, hh⟩ := hP
  have hx := Bd.exec
  have hby := Bd.bytes
  have hml : c.maxLocals = 3 := hml0
  have hown : s.vm.findClass "java/lang/String" = some m.cls := findClass_of_methodNamed Bd.named
  have hnm := (name_of_methodNamed Bd.named Bd.method).1
  have hlk : meth.locks = false := BodyLoose.notSynchronized Bd
  have X0 : Stand p l e ({ frames := 1, cells := 0, slots := 0, locals := 14 } : Room) s m #[(.ref a0), (.ref a1)] below meth c s₁ [] 0 0 := Stand.of_body Bd
  have _u := trivial
  have eh0 : s₁.heap = h0 := by rw [← hh, Bd.state]; rfl
  have N0 := Fr.nil n0
  show Rest p.tables e below s (QSE1_2 Z a0 a1 va0 k0 va1 k1 ic xa ya yb h0 n0) _ _ (s₁.setTop (entryFrame m #[(.ref a0), (.ref a1)] 3))
  refine Rest.via (fun t k => castTop (ef_SE1_2 m a0 a1) k) ?_
  obtain ⟨E_a0, Fv_a0, Fc_a0, V_a0⟩ := id S0
  obtain ⟨E_a1, Fv_a1, Fc_a1, V_a1⟩ := id S1
  show Rest p.tables e below s _ _ _ (s₁.setTop (mkF m 0 #[.val (.ref a0), .val (.ref a1), .unset] []))
  refine Rest.via (fun t k => XS.aloadN X0.here hx rfl (hb hby d13_0) rfl rfl k) ?_
  show Rest p.tables e below s _ _ _ (s₁.setTop (mkF m 1 #[.val (.ref a0), .val (.ref a1), .unset] [(.ref a0)]))
  refine Rest.via (fun t k => XS.aloadN X0.here hx rfl (hb hby d13_1) rfl rfl k) ?_
  show Rest p.tables e below s _ _ _ (s₁.setTop (mkF m 2 #[.val (.ref a0), .val (.ref a1), .unset] [(.ref a1), (.ref a0)]))
  refine Rest.via (fun t k => Jvm.RoadKit.acmp (g := (mkF m 2 #[.val (.ref a0), .val (.ref a1), .unset] [(.ref a1), (.ref a0)])) X0 hx rfl rfl rfl (pc0 := 2) (pc' := 7) (same := false) rfl (hb hby d13_2) rfl (decide_eq_false fun q => n01 (Value.ref.inj q)) (by decide) (by decide) k) ?_
  show Rest p.tables e below s _ _ _ (s₁.setTop (mkF m 7 #[.val (.ref a0), .val (.ref a1), .unset] []))
  refine Rest.via (fun t k => XS.aloadN X0.here hx rfl (hb hby d13_7) rfl rfl k) ?_
  show Rest p.tables e below s _ _ _ (s₁.setTop (mkF m 8 #[.val (.ref a0), .val (.ref a1), .unset] [(.ref a1)]))
  obtain ⟨T1, X1, e1, st1⟩ := instY X0 hx hZ hown (hw _ (List.mem_of_getElem? (i := 71) rfl)) eh0 (Ins.self E_a1) (g := (mkF m 8 #[.val (.ref a0), .val (.ref a1), .unset] [(.ref a1)])) rfl rfl (hb hby d13_8)
  refine Rest.via (fun t k => st1 t k) ?_
  show Rest p.tables e below s _ _ _ (T1.setTop (mkF m 11 #[.val (.ref a0), .val (.ref a1), .unset] [(.int (1 : Int32))]))
  refine Rest.via (fun t k => XS.ifNo X1.here hx rfl (hb hby d13_11) rfl ((if0 _ _).trans (feq (by decide : ¬ ((1 : Int32) = (0 : Int32)))).1) k) ?_
  show Rest p.tables e below s _ _ _ (T1.setTop (mkF m 14 #[.val (.ref a0), .val (.ref a1), .unset] []))
  refine Rest.via (fun t k => XS.aloadN X1.here hx rfl (hb hby d13_14) rfl rfl k) ?_
  show Rest p.tables e below s _ _ _ (T1.setTop (mkF m 15 #[.val (.ref a0), .val (.ref a1), .unset] [(.ref a1)]))
  obtain ⟨T2, X2, e2, st2⟩ := castY X1 hx hZ hown (hw _ (List.mem_of_getElem? (i := 71) rfl)) e1 (Ins.self E_a1) (g := (mkF m 15 #[.val (.ref a0), .val (.ref a1), .unset] [(.ref a1)])) rfl rfl (hb hby d13_15)
  refine Rest.via (fun t k => st2 t k) ?_
  show Rest p.tables e below s _ _ _ (T2.setTop (mkF m 18 #[.val (.ref a0), .val (.ref a1), .unset] [(.ref a1)]))
  refine Rest.via (fun t k => XS.astoreN X2.here hx rfl (hb hby d13_18) rfl rfl (l' := #[.val (.ref a0), .val (.ref a1), .val (.ref a1)]) rfl k) ?_
  show Rest p.tables e below s _ _ _ (T2.setTop (mkF m 19 #[.val (.ref a0), .val (.ref a1), .val (.ref a1)] []))
  obtain ⟨T3, X3, e3, st3⟩ := getS2 X2 hx hZ hown (host := "") (Or.inl (hw _ (List.mem_of_getElem? (i := 45) rfl))) Via.refl e2 (CS.1.ext (O.keep (Keep.refl h0 []) all0).2) (g := (mkF m 19 #[.val (.ref a0), .val (.ref a1), .val (.ref a1)] [])) rfl (hb hby d13_19)
  refine Rest.via (fun t k => st3 t k) ?_
  show Rest p.tables e below s _ _ _ (T3.setTop (mkF m 22 #[.val (.ref a0), .val (.ref a1), .val (.ref a1)] [(.int ic)]))
  refine Rest.via (fun t k => XS.ifNo X3.here hx rfl (hb hby d13_22) rfl ((if0 _ _).trans (feq (CS.2 : ¬ (ic = (0 : Int32)))).1) k) ?_
  show Rest p.tables e below s _ _ _ (T3.setTop (mkF m 25 #[.val (.ref a0), .val (.ref a1), .val (.ref a1)] []))
  refine Rest.via (fun t k => XS.aloadN X3.here hx rfl (hb hby d13_25) rfl rfl k) ?_
  show Rest p.tables e below s _ _ _ (T3.setTop (mkF m 26 #[.val (.ref a0), .val (.ref a1), .val (.ref a1)] [(.ref a0)]))
  obtain ⟨T4, X4, e4, st4⟩ := getF X3 hx hZ hown (host := "") (Or.inl (hw _ (List.mem_of_getElem? (i := 28) rfl))) Via.refl e3 Fc_a0 (g := (mkF m 26 #[.val (.ref a0), .val (.ref a1), .val (.ref a1)] [(.ref a0)])) rfl rfl (hb hby d13_26)
  refine Rest.via (fun t k => st4 t k) ?_
  show Rest p.tables e below s _ _ _ (T4.setTop (mkF m 29 #[.val (.ref a0), .val (.ref a1), .val (.ref a1)] [(.int (0 : Int32))]))
  refine Rest.via (fun t k => XS.aloadN X4.here hx rfl (hb hby d13_29) rfl rfl k) ?_
  show Rest p.tables e below s _ _ _ (T4.setTop (mkF m 30 #[.val (.ref a0), .val (.ref a1), .val (.ref a1)] [(.ref a1), (.int (0 : Int32))]))
  obtain ⟨T5, X5, e5, st5⟩ := getF X4 hx hZ hown (host := "") (Or.inl (hw _ (List.mem_of_getElem? (i := 28) rfl))) Via.refl e4 Fc_a1 (g := (mkF m 30 #[.val (.ref a0), .val (.ref a1), .val (.ref a1)] [(.ref a1), (.int (0 : Int32))])) rfl rfl (hb hby d13_30)
  refine Rest.via (fun t k => st5 t k) ?_
  show Rest p.tables e below s _ _ _ (T5.setTop (mkF m 33 #[.val (.ref a0), .val (.ref a1), .val (.ref a1)] [(.int (0 : Int32)), (.int (0 : Int32))]))
  refine Rest.via (fun t k => XS.icmpNo X5.here hx rfl (hb hby d13_33) rfl (teq (by decide : (0 : Int32) = (0 : Int32))).2 k) ?_
  show Rest p.tables e below s _ _ _ (T5.setTop (mkF m 36 #[.val (.ref a0), .val (.ref a1), .val (.ref a1)] []))
  refine Rest.via (fun t k => XS.aloadN X5.here hx rfl (hb hby d13_36) rfl rfl k) ?_
  show Rest p.tables e below s _ _ _ (T5.setTop (mkF m 37 #[.val (.ref a0), .val (.ref a1), .val (.ref a1)] [(.ref a0)]))
  obtain ⟨T6, X6, e6, st6⟩ := getF X5 hx hZ hown (host := "") (Or.inl (hw _ (List.mem_of_getElem? (i := 27) rfl))) Via.refl e5 Fv_a0 (g := (mkF m 37 #[.val (.ref a0), .val (.ref a1), .val (.ref a1)] [(.ref a0)])) rfl rfl (hb hby d13_37)
  refine Rest.via (fun t k => st6 t k) ?_
  show Rest p.tables e below s _ _ _ (T6.setTop (mkF m 40 #[.val (.ref a0), .val (.ref a1), .val (.ref a1)] [(.ref va0)]))
  refine Rest.via (fun t k => XS.aloadN X6.here hx rfl (hb hby d13_40) rfl rfl k) ?_
  show Rest p.tables e below s _ _ _ (T6.setTop (mkF m 41 #[.val (.ref a0), .val (.ref a1), .val (.ref a1)] [(.ref a1), (.ref va0)]))
  obtain ⟨T7, X7, e7, st7⟩ := getF X6 hx hZ hown (host := "") (Or.inl (hw _ (List.mem_of_getElem? (i := 27) rfl))) Via.refl e6 Fv_a1 (g := (mkF m 41 #[.val (.ref a0), .val (.ref a1), .val (.ref a1)] [(.ref a1), (.ref va0)])) rfl rfl (hb hby d13_41)
  refine Rest.via (fun t k => st7 t k) ?_
  show Rest p.tables e below s _ _ _ (T7.setTop (mkF m 44 #[.val (.ref a0), .val (.ref a1), .val (.ref a1)] [(.ref va1), (.ref va0)]))
  obtain ⟨_, _, ⟨T8, L8, k8, n8⟩, -, X8, ⟨Lc8, hQ8, l8, y8, z8⟩, st8⟩ := Jvm.LawKit.callS X7 hx (y := (⟨"java/lang/StringLatin1", "equals", "([B[B)Z"⟩ : MethodName)) hown (mvT hZ (hw _ (List.mem_of_getElem? (i := 72) rfl))) (mvT hZ (hw _ (List.mem_of_getElem? (i := 73) rfl))) (mvT hZ (hw _ (List.mem_of_getElem? (i := 74) rfl))) (mvT hZ (hw _ (List.mem_of_getElem? (i := 75) rfl))) (by decide) (backOf (W := 0) (rmLE1_2 l Z aw hw [] va0 va1 k0 k1 xa ya yb h0 n0 (Nat.le_trans Z0 (Keep.refl h0 []).1) V_a0 V_a1) hZ (hw _ (List.mem_of_getElem? (i := 75) rfl)) (hw _ (List.mem_of_getElem? (i := 74) rfl)) (by decide) (by decide)) (g := (mkF m 44 #[.val (.ref a0), .val (.ref a1), .val (.ref a1)] [(.ref va1), (.ref va0)])) rfl (by rw [hml]; rfl) (argsL := [(.ref va0), (.ref va1)]) (rest := []) (lenOf pd_4 rfl) rfl (by show 2 * 0 + _ ≤ _; exact Nat.le_of_eq rfl) (hb hby d13_44) (fun _ _ => ⟨rfl, e7, (by decide : 0 + 0 ≤ _), (by decide : 0 + 0 ≤ _)⟩)
  dsimp only [Pt.U, Pt.locs, Pt.cells, Pt.slots] at X8 l8 y8 z8 st8 hQ8
  subst l8 y8 z8
  obtain ⟨rfl, Nq8, e8⟩ := hQ8
  have N8 := Fr.app N0 Nq8
  refine Rest.via (fun t k => st8 t k) ?_
  show Rest p.tables e below s _ _ _ (T8.setTop (mkF m 47 #[.val (.ref a0), .val (.ref a1), .val (.ref a1)] [(.int (if ([xa] : List Int32) = [ya, yb] then (1 : Int32) else 0))]))
  by_cases hz : (if ([xa] : List Int32) = [ya, yb] then (1 : Int32) else 0) = (0 : Int32)
  · refine Rest.via (fun t k => XS.ifYes X8.here hx rfl (pc0 := 47) (pc' := 54) rfl (hb hby d13_47) rfl ((if0 _ _).trans (teq hz).1) (by decide) (by decide) k) ?_
    show Rest p.tables e below s _ _ _ (T8.setTop (mkF m 54 #[.val (.ref a0), .val (.ref a1), .val (.ref a1)] []))
    refine Rest.via (fun t k => XS.iconst X8.here hx rfl (hb hby d13_54) k) ?_
    show Rest p.tables e below s _ _ _ (T8.setTop (mkF m 55 #[.val (.ref a0), .val (.ref a1), .val (.ref a1)] [(.int (0 : Int32))]))
    refine Rest.ret X8 (v := some (.int (nar .boolean (0 : Int32)))) (fun h => by rw [Bd.returns] at h; cases h) hlk (fun fs hr => retN X8 hx (t := .boolean) Bd.returns (by simp) (hb hby d13_55) hr) ?_ (by decide) (by decide)
    rw [e8]
    exact ⟨by show some (Value.int (0 : Int32)) = _; rw [hz], N8, rfl⟩
  · refine Rest.via (fun t k => XS.ifNo X8.here hx rfl (hb hby d13_47) rfl ((if0 _ _).trans (feq hz).1) k) ?_
    show Rest p.tables e below s _ _ _ (T8.setTop (mkF m 50 #[.val (.ref a0), .val (.ref a1), .val (.ref a1)] []))
    refine Rest.via (fun t k => XS.iconst X8.here hx rfl (hb hby d13_50) k) ?_
    show Rest p.tables e below s _ _ _ (T8.setTop (mkF m 51 #[.val (.ref a0), .val (.ref a1), .val (.ref a1)] [(.int (1 : Int32))]))
    refine Rest.via (fun t k => XS.goto X8.here hx rfl (pc0 := 51) (pc' := 55) rfl (hb hby d13_51) (by decide) (by decide) k) ?_
    show Rest p.tables e below s _ _ _ (T8.setTop (mkF m 55 #[.val (.ref a0), .val (.ref a1), .val (.ref a1)] [(.int (1 : Int32))]))
    refine Rest.ret X8 (v := some (.int (nar .boolean (1 : Int32)))) (fun h => by rw [Bd.returns] at h; cases h) hlk (fun fs hr => retN X8 hx (t := .boolean) Bd.returns (by simp) (hb hby d13_55) hr) ?_ (by decide) (by decide)
    rw [e8]
    exact ⟨by show some (Value.int (1 : Int32)) = _; rw [own_ite1 hz], N8, rfl⟩
theorem ef_LE1_3 (m : MethodId) (a0 : Addr) (a1 : Addr) : entryFrame m #[(.ref a0), (.ref a1)] 3 = mkF m 0 #[.val (.ref a0), .val (.ref a1), .unset] [] := by first | (simp [entryFrame, mkF, argsToLocals, Value.category, maxLocals]; done) | rfl
def QLE1_3 (Z : State) (a0 : Addr) (a1 : Addr) (k0 : ClassId) (k1 : ClassId) (xa : Int32) (ya : Int32) (yb : Int32) (yc : Int32) (h0 : Heap) (n0 : Nat) (v : Option Value) (h : Heap) (L : List Loc) : Prop := v = some (.int (if ([xa] : List Int32) = [ya, yb, yc] then (1 : Int32) else 0)) ∧ Fr n0 L ∧ h = h0
set_option maxRecDepth 65536 in
set_option maxHeartbeats 40000000 in
theorem rmLE1_3 (l : Launch) (Z : State) (aw : Array Value) (hw : ∀ d ∈ tables_1, d.before aw Z = true) (ws : List Jvm.Cond) (a0 : Addr) (a1 : Addr) (k0 : ClassId) (k1 : ClassId) (xa : Int32) (ya : Int32) (yb : Int32) (yc : Int32) (h0 : Heap) (n0 : Nat) (Z0 : n0 ≤ h0.size) (V0 : Arv Z h0 a0 k0 .byte (1 : Int32) [(.int xa)] (.int (0 : Int32))) (V1 : Arv Z h0 a1 k1 .byte (3 : Int32) [(.int ya), (.int yb), (.int yc)] (.int (0 : Int32))) :
    MetFree l (⟨"java/lang/StringLatin1", "equals", "([B[B)Z"⟩ : MethodName) (head1 (Jvm.Cond.code (⟨"java/lang/StringLatin1", "equals", "([B[B)Z"⟩ : MethodName) jdk_43_method_13_code 3 (some .boolean) :: ws) ({ frames := 0, cells := 0, slots := 0, locals := 0 } : Room)) (fun a U => a = #[(.ref a0), (.ref a1)] ∧ Z.Warmed39 U.vm ∧ U.heap = h0) (fun _ _ _ _ _ => True) (fun _ U o U' => ∃ v L, o = .returned v ∧ QLE1_3 Z a0 a1 k0 k1 xa ya yb yc h0 n0 v U'.heap L ∧ FrameEnd U o U' L ({ frames := 0, cells := 0, slots := 0, locals := 0 } : Room).cells ({ frames := 0, cells := 0, slots := 0, locals := 0 } : Room).slots) := by
  refine MetFree.of_bodySF (plainFor_of_name pn_2) hisR ?_
  intro p e s m args below meth c s₁ Bd hml0 hP hK
  obtain ⟨rfl, hZ, hh⟩ := hP
  have hx := Bd.exec
  have hby := Bd.bytes
  have hml : c.maxLocals = 3 := hml0
  have hown : s.vm.findClass "java/lang/StringLatin1" = some m.cls := findClass_of_methodNamed Bd.named
  have hnm := (name_of_methodNamed Bd.named Bd.method).1
  have hlk : meth.locks = false := BodyLoose.notSynchronized Bd
  have X0 : Stand p l e ({ frames := 0, cells := 0, slots := 0, locals := 0 } : Room) s m #[(.ref a0), (.ref a1)] below meth c s₁ [] 0 0 := Stand.of_body Bd
  have _u := trivial
  have eh0 : s₁.heap = h0 := by rw [← hh, Bd.state]; rfl
  have N0 := Fr.nil n0
  show Rest p.tables e below s (QLE1_3 Z a0 a1 k0 k1 xa ya yb yc h0 n0) _ _ (s₁.setTop (entryFrame m #[(.ref a0), (.ref a1)] 3))
  refine Rest.via (fun t k => castTop (ef_LE1_3 m a0 a1) k) ?_
  show Rest p.tables e below s _ _ _ (s₁.setTop (mkF m 0 #[.val (.ref a0), .val (.ref a1), .unset] []))
  refine Rest.via (fun t k => XS.aloadN X0.here hx rfl (hb hby d14_0) rfl rfl k) ?_
  show Rest p.tables e below s _ _ _ (s₁.setTop (mkF m 1 #[.val (.ref a0), .val (.ref a1), .unset] [(.ref a0)]))
  obtain ⟨cl1, Ar1, -, S1, P1, -, -⟩ := id V0
  refine Rest.via (fun t k => X0.arraylength hx (by rw [eh0]; exact Ar1.1) (State.isArrayOf_alike hZ.alike Ar1.2.1) (g := (mkF m 1 #[.val (.ref a0), .val (.ref a1), .unset] [(.ref a0)])) rfl rfl (hb hby d14_1) t k) ?_
  rw [len_of S1 P1]
  show Rest p.tables e below s _ _ _ (s₁.setTop (mkF m 2 #[.val (.ref a0), .val (.ref a1), .unset] [(.int (1 : Int32))]))
  refine Rest.via (fun t k => XS.aloadN X0.here hx rfl (hb hby d14_2) rfl rfl k) ?_
  show Rest p.tables e below s _ _ _ (s₁.setTop (mkF m 3 #[.val (.ref a0), .val (.ref a1), .unset] [(.ref a1), (.int (1 : Int32))]))
  obtain ⟨cl2, Ar2, -, S2, P2, -, -⟩ := id V1
  refine Rest.via (fun t k => X0.arraylength hx (by rw [eh0]; exact Ar2.1) (State.isArrayOf_alike hZ.alike Ar2.2.1) (g := (mkF m 3 #[.val (.ref a0), .val (.ref a1), .unset] [(.ref a1), (.int (1 : Int32))])) rfl rfl (hb hby d14_3) t k) ?_
  rw [len_of S2 P2]
  show Rest p.tables e below s _ _ _ (s₁.setTop (mkF m 4 #[.val (.ref a0), .val (.ref a1), .unset] [(.int (3 : Int32)), (.int (1 : Int32))]))
  refine Rest.via (fun t k => XS.icmpYes X0.here hx rfl (pc0 := 4) (pc' := 34) rfl (hb hby d14_4) rfl (feq (by decide : ¬ ((1 : Int32) = (3 : Int32)))).2 (by decide) (by decide) k) ?_
  show Rest p.tables e below s _ _ _ (s₁.setTop (mkF m 34 #[.val (.ref a0), .val (.ref a1), .unset] []))
  refine Rest.via (fun t k => XS.iconst X0.here hx rfl (hb hby d14_34) k) ?_
  show Rest p.tables e below s _ _ _ (s₁.setTop (mkF m 35 #[.val (.ref a0), .val (.ref a1), .unset] [(.int (0 : Int32))]))
  refine Rest.ret X0 (v := some (.int (nar .boolean (0 : Int32)))) (fun h => by rw [Bd.returns] at h; cases h) hlk (fun fs hr => retN X0 hx (t := .boolean) Bd.returns (by simp) (hb hby d14_35) hr) ?_ (by decide) (by decide)
  rw [eh0]
  exact ⟨by show some (Value.int (0 : Int32)) = _; rw [if_neg (by simp)], N0, rfl⟩
theorem ef_SE1_3 (m : MethodId) (a0 : Addr) (a1 : Addr) : entryFrame m #[(.ref a0), (.ref a1)] 3 = mkF m 0 #[.val (.ref a0), .val (.ref a1), .unset] [] := by first | (simp [entryFrame, mkF, argsToLocals, Value.category, maxLocals]; done) | rfl
def QSE1_3 (Z : State) (a0 : Addr) (a1 : Addr) (va0 : Addr) (k0 : ClassId) (va1 : Addr) (k1 : ClassId) (ic : Int32) (xa : Int32) (ya : Int32) (yb : Int32) (yc : Int32) (h0 : Heap) (n0 : Nat) (v : Option Value) (h : Heap) (L : List Loc) : Prop := v = some (.int (if ([xa] : List Int32) = [ya, yb, yc] then (1 : Int32) else 0)) ∧ Fr n0 L ∧ h = h0
set_option maxRecDepth 65536 in
set_option maxHeartbeats 40000000 in
theorem rmSE1_3 (l : Launch) (Z : State) (aw : Array Value) (hw : ∀ d ∈ tables_1, d.before aw Z = true) (ws : List Jvm.Cond) (a0 : Addr) (a1 : Addr) (va0 : Addr) (k0 : ClassId) (va1 : Addr) (k1 : ClassId) (ic : Int32) (xa : Int32) (ya : Int32) (yb : Int32) (yc : Int32) (h0 : Heap) (n0 : Nat) (Z0 : n0 ≤ h0.size) (S0 : own_St Z h0 a0 va0 k0 (1 : Int32) [(.int xa)]) (S1 : own_St Z h0 a1 va1 k1 (3 : Int32) [(.int ya), (.int yb), (.int yc)]) (n01 : a0 ≠ a1) (O : Old Z n0 h0) (CS : own_CS Z ic) :
    MetFree l (⟨"java/lang/String", "equals", "(Ljava/lang/Object;)Z"⟩ : MethodName) (head1 (Jvm.Cond.code (⟨"java/lang/String", "equals", "(Ljava/lang/Object;)Z"⟩ : MethodName) jdk_42_method_66_code 3 (some .boolean) :: ws) ({ frames := 1, cells := 0, slots := 0, locals := 14 } : Room)) (fun a U => a = #[(.ref a0), (.ref a1)] ∧ Z.Warmed39 U.vm ∧ U.heap = h0) (fun _ _ _ _ _ => True) (fun _ U o U' => ∃ v L, o = .returned v ∧ QSE1_3 Z a0 a1 va0 k0 va1 k1 ic xa ya yb yc h0 n0 v U'.heap L ∧ FrameEnd U o U' L ({ frames := 1, cells := 0, slots := 0, locals := 14 } : Room).cells ({ frames := 1, cells := 0, slots := 0, locals := 14 } : Room).slots) := by
  refine MetFree.of_bodySF (plainFor_of_name pn_1) hisR ?_
  intro p e s m args below meth c s₁ Bd hml0 hP hK
  obtain ⟨rfl, hZ, hh⟩ := hP
  have hx := Bd.exec
  have hby := Bd.bytes
  have hml : c.maxLocals = 3 := hml0
  have hown : s.vm.findClass "java/lang/String" = some m.cls := findClass_of_methodNamed Bd.named
  have hnm := (name_of_methodNamed Bd.named Bd.method).1
  have hlk : meth.locks = false := BodyLoose.notSynchronized Bd
  have X0 : Stand p l e ({ frames := 1, cells := 0, slots := 0, locals := 14 } : Room) s m #[(.ref a0), (.ref a1)] below meth c s₁ [] 0 0 := Stand.of_body Bd
  have _u := trivial
  have eh0 : s₁.heap = h0 := by rw [← hh, Bd.state]; rfl
  have N0 := Fr.nil n0
  show Rest p.tables e below s (QSE1_3 Z a0 a1 va0 k0 va1 k1 ic xa ya yb yc h0 n0) _ _ (s₁.setTop (entryFrame m #[(.ref a0), (.ref a1)] 3))
  refine Rest.via (fun t k => castTop (ef_SE1_3 m a0 a1) k) ?_
  obtain ⟨E_a0, Fv_a0, Fc_a0, V_a0⟩ := id S0
  obtain ⟨E_a1, Fv_a1, Fc_a1, V_a1⟩ := id S1
  show Rest p.tables e below s _ _ _ (s₁.setTop (mkF m 0 #[.val (.ref a0), .val (.ref a1), .unset] []))
  refine Rest.via (fun t k => XS.aloadN X0.here hx rfl (hb hby d13_0) rfl rfl k) ?_
  show Rest p.tables e below s _ _ _ (s₁.setTop (mkF m 1 #[.val (.ref a0), .val (.ref a1), .unset] [(.ref a0)]))
  refine Rest.via (fun t k => XS.aloadN X0.here hx rfl (hb hby d13_1) rfl rfl k) ?_
  show Rest p.tables e below s _ _ _ (s₁.setTop (mkF m 2 #[.val (.ref a0), .val (.ref a1), .unset] [(.ref a1), (.ref a0)]))
  refine Rest.via (fun t k => Jvm.RoadKit.acmp (g := (mkF m 2 #[.val (.ref a0), .val (.ref a1), .unset] [(.ref a1), (.ref a0)])) X0 hx rfl rfl rfl (pc0 := 2) (pc' := 7) (same := false) rfl (hb hby d13_2) rfl (decide_eq_false fun q => n01 (Value.ref.inj q)) (by decide) (by decide) k) ?_
  show Rest p.tables e below s _ _ _ (s₁.setTop (mkF m 7 #[.val (.ref a0), .val (.ref a1), .unset] []))
  refine Rest.via (fun t k => XS.aloadN X0.here hx rfl (hb hby d13_7) rfl rfl k) ?_
  show Rest p.tables e below s _ _ _ (s₁.setTop (mkF m 8 #[.val (.ref a0), .val (.ref a1), .unset] [(.ref a1)]))
  obtain ⟨T1, X1, e1, st1⟩ := instY X0 hx hZ hown (hw _ (List.mem_of_getElem? (i := 71) rfl)) eh0 (Ins.self E_a1) (g := (mkF m 8 #[.val (.ref a0), .val (.ref a1), .unset] [(.ref a1)])) rfl rfl (hb hby d13_8)
  refine Rest.via (fun t k => st1 t k) ?_
  show Rest p.tables e below s _ _ _ (T1.setTop (mkF m 11 #[.val (.ref a0), .val (.ref a1), .unset] [(.int (1 : Int32))]))
  refine Rest.via (fun t k => XS.ifNo X1.here hx rfl (hb hby d13_11) rfl ((if0 _ _).trans (feq (by decide : ¬ ((1 : Int32) = (0 : Int32)))).1) k) ?_
  show Rest p.tables e below s _ _ _ (T1.setTop (mkF m 14 #[.val (.ref a0), .val (.ref a1), .unset] []))
  refine Rest.via (fun t k => XS.aloadN X1.here hx rfl (hb hby d13_14) rfl rfl k) ?_
  show Rest p.tables e below s _ _ _ (T1.setTop (mkF m 15 #[.val (.ref a0), .val (.ref a1), .unset] [(.ref a1)]))
  obtain ⟨T2, X2, e2, st2⟩ := castY X1 hx hZ hown (hw _ (List.mem_of_getElem? (i := 71) rfl)) e1 (Ins.self E_a1) (g := (mkF m 15 #[.val (.ref a0), .val (.ref a1), .unset] [(.ref a1)])) rfl rfl (hb hby d13_15)
  refine Rest.via (fun t k => st2 t k) ?_
  show Rest p.tables e below s _ _ _ (T2.setTop (mkF m 18 #[.val (.ref a0), .val (.ref a1), .unset] [(.ref a1)]))
  refine Rest.via (fun t k => XS.astoreN X2.here hx rfl (hb hby d13_18) rfl rfl (l' := #[.val (.ref a0), .val (.ref a1), .val (.ref a1)]) rfl k) ?_
  show Rest p.tables e below s _ _ _ (T2.setTop (mkF m 19 #[.val (.ref a0), .val (.ref a1), .val (.ref a1)] []))
  obtain ⟨T3, X3, e3, st3⟩ := getS2 X2 hx hZ hown (host := "") (Or.inl (hw _ (List.mem_of_getElem? (i := 45) rfl))) Via.refl e2 (CS.1.ext (O.keep (Keep.refl h0 []) all0).2) (g := (mkF m 19 #[.val (.ref a0), .val (.ref a1), .val (.ref a1)] [])) rfl (hb hby d13_19)
  refine Rest.via (fun t k => st3 t k) ?_
  show Rest p.tables e below s _ _ _ (T3.setTop (mkF m 22 #[.val (.ref a0), .val (.ref a1), .val (.ref a1)] [(.int ic)]))
  refine Rest.via (fun t k => XS.ifNo X3.here hx rfl (hb hby d13_22) rfl ((if0 _ _).trans (feq (CS.2 : ¬ (ic = (0 : Int32)))).1) k) ?_
  show Rest p.tables e below s _ _ _ (T3.setTop (mkF m 25 #[.val (.ref a0), .val (.ref a1), .val (.ref a1)] []))
  refine Rest.via (fun t k => XS.aloadN X3.here hx rfl (hb hby d13_25) rfl rfl k) ?_
  show Rest p.tables e below s _ _ _ (T3.setTop (mkF m 26 #[.val (.ref a0), .val (.ref a1), .val (.ref a1)] [(.ref a0)]))
  obtain ⟨T4, X4, e4, st4⟩ := getF X3 hx hZ hown (host := "") (Or.inl (hw _ (List.mem_of_getElem? (i := 28) rfl))) Via.refl e3 Fc_a0 (g := (mkF m 26 #[.val (.ref a0), .val (.ref a1), .val (.ref a1)] [(.ref a0)])) rfl rfl (hb hby d13_26)
  refine Rest.via (fun t k => st4 t k) ?_
  show Rest p.tables e below s _ _ _ (T4.setTop (mkF m 29 #[.val (.ref a0), .val (.ref a1), .val (.ref a1)] [(.int (0 : Int32))]))
  refine Rest.via (fun t k => XS.aloadN X4.here hx rfl (hb hby d13_29) rfl rfl k) ?_
  show Rest p.tables e below s _ _ _ (T4.setTop (mkF m 30 #[.val (.ref a0), .val (.ref a1), .val (.ref a1)] [(.ref a1), (.int (0 : Int32))]))
  obtain ⟨T5, X5, e5, st5⟩ := getF X4 hx hZ hown (host := "") (Or.inl (hw _ (List.mem_of_getElem? (i := 28) rfl))) Via.refl e4 Fc_a1 (g := (mkF m 30 #[.val (.ref a0), .val (.ref a1), .val (.ref a1)] [(.ref a1), (.int (0 : Int32))])) rfl rfl (hb hby d13_30)
  refine Rest.via (fun t k => st5 t k) ?_
  show Rest p.tables e below s _ _ _ (T5.setTop (mkF m 33 #[.val (.ref a0), .val (.ref a1), .val (.ref a1)] [(.int (0 : Int32)), (.int (0 : Int32))]))
  refine Rest.via (fun t k => XS.icmpNo X5.here hx rfl (hb hby d13_33) rfl (teq (by decide : (0 : Int32) = (0 : Int32))).2 k) ?_
  show Rest p.tables e below s _ _ _ (T5.setTop (mkF m 36 #[.val (.ref a0), .val (.ref a1), .val (.ref a1)] []))
  refine Rest.via (fun t k => XS.aloadN X5.here hx rfl (hb hby d13_36) rfl rfl k) ?_
  show Rest p.tables e below s _ _ _ (T5.setTop (mkF m 37 #[.val (.ref a0), .val (.ref a1), .val (.ref a1)] [(.ref a0)]))
  obtain ⟨T6, X6, e6, st6⟩ := getF X5 hx hZ hown (host := "") (Or.inl (hw _ (List.mem_of_getElem? (i := 27) rfl))) Via.refl e5 Fv_a0 (g := (mkF m 37 #[.val (.ref a0), .val (.ref a1), .val (.ref a1)] [(.ref a0)])) rfl rfl (hb hby d13_37)
  refine Rest.via (fun t k => st6 t k) ?_
  show Rest p.tables e below s _ _ _ (T6.setTop (mkF m 40 #[.val (.ref a0), .val (.ref a1), .val (.ref a1)] [(.ref va0)]))
  refine Rest.via (fun t k => XS.aloadN X6.here hx rfl (hb hby d13_40) rfl rfl k) ?_
  show Rest p.tables e below s _ _ _ (T6.setTop (mkF m 41 #[.val (.ref a0), .val (.ref a1), .val (.ref a1)] [(.ref a1), (.ref va0)]))
  obtain ⟨T7, X7, e7, st7⟩ := getF X6 hx hZ hown (host := "") (Or.inl (hw _ (List.mem_of_getElem? (i := 27) rfl))) Via.refl e6 Fv_a1 (g := (mkF m 41 #[.val (.ref a0), .val (.ref a1), .val (.ref a1)] [(.ref a1), (.ref va0)])) rfl rfl (hb hby d13_41)
  refine Rest.via (fun t k => st7 t k) ?_
  show Rest p.tables e below s _ _ _ (T7.setTop (mkF m 44 #[.val (.ref a0), .val (.ref a1), .val (.ref a1)] [(.ref va1), (.ref va0)]))
  obtain ⟨_, _, ⟨T8, L8, k8, n8⟩, -, X8, ⟨Lc8, hQ8, l8, y8, z8⟩, st8⟩ := Jvm.LawKit.callS X7 hx (y := (⟨"java/lang/StringLatin1", "equals", "([B[B)Z"⟩ : MethodName)) hown (mvT hZ (hw _ (List.mem_of_getElem? (i := 72) rfl))) (mvT hZ (hw _ (List.mem_of_getElem? (i := 73) rfl))) (mvT hZ (hw _ (List.mem_of_getElem? (i := 74) rfl))) (mvT hZ (hw _ (List.mem_of_getElem? (i := 75) rfl))) (by decide) (backOf (W := 0) (rmLE1_3 l Z aw hw [] va0 va1 k0 k1 xa ya yb yc h0 n0 (Nat.le_trans Z0 (Keep.refl h0 []).1) V_a0 V_a1) hZ (hw _ (List.mem_of_getElem? (i := 75) rfl)) (hw _ (List.mem_of_getElem? (i := 74) rfl)) (by decide) (by decide)) (g := (mkF m 44 #[.val (.ref a0), .val (.ref a1), .val (.ref a1)] [(.ref va1), (.ref va0)])) rfl (by rw [hml]; rfl) (argsL := [(.ref va0), (.ref va1)]) (rest := []) (lenOf pd_4 rfl) rfl (by show 2 * 0 + _ ≤ _; exact Nat.le_of_eq rfl) (hb hby d13_44) (fun _ _ => ⟨rfl, e7, (by decide : 0 + 0 ≤ _), (by decide : 0 + 0 ≤ _)⟩)
  dsimp only [Pt.U, Pt.locs, Pt.cells, Pt.slots] at X8 l8 y8 z8 st8 hQ8
  subst l8 y8 z8
  obtain ⟨rfl, Nq8, e8⟩ := hQ8
  have N8 := Fr.app N0 Nq8
  refine Rest.via (fun t k => st8 t k) ?_
  show Rest p.tables e below s _ _ _ (T8.setTop (mkF m 47 #[.val (.ref a0), .val (.ref a1), .val (.ref a1)] [(.int (if ([xa] : List Int32) = [ya, yb, yc] then (1 : Int32) else 0))]))
  by_cases hz : (if ([xa] : List Int32) = [ya, yb, yc] then (1 : Int32) else 0) = (0 : Int32)
  · refine Rest.via (fun t k => XS.ifYes X8.here hx rfl (pc0 := 47) (pc' := 54) rfl (hb hby d13_47) rfl ((if0 _ _).trans (teq hz).1) (by decide) (by decide) k) ?_
    show Rest p.tables e below s _ _ _ (T8.setTop (mkF m 54 #[.val (.ref a0), .val (.ref a1), .val (.ref a1)] []))
    refine Rest.via (fun t k => XS.iconst X8.here hx rfl (hb hby d13_54) k) ?_
    show Rest p.tables e below s _ _ _ (T8.setTop (mkF m 55 #[.val (.ref a0), .val (.ref a1), .val (.ref a1)] [(.int (0 : Int32))]))
    refine Rest.ret X8 (v := some (.int (nar .boolean (0 : Int32)))) (fun h => by rw [Bd.returns] at h; cases h) hlk (fun fs hr => retN X8 hx (t := .boolean) Bd.returns (by simp) (hb hby d13_55) hr) ?_ (by decide) (by decide)
    rw [e8]
    exact ⟨by show some (Value.int (0 : Int32)) = _; rw [hz], N8, rfl⟩
  · refine Rest.via (fun t k => XS.ifNo X8.here hx rfl (hb hby d13_47) rfl ((if0 _ _).trans (feq hz).1) k) ?_
    show Rest p.tables e below s _ _ _ (T8.setTop (mkF m 50 #[.val (.ref a0), .val (.ref a1), .val (.ref a1)] []))
    refine Rest.via (fun t k => XS.iconst X8.here hx rfl (hb hby d13_50) k) ?_
    show Rest p.tables e below s _ _ _ (T8.setTop (mkF m 51 #[.val (.ref a0), .val (.ref a1), .val (.ref a1)] [(.int (1 : Int32))]))
    refine Rest.via (fun t k => XS.goto X8.here hx rfl (pc0 := 51) (pc' := 55) rfl (hb hby d13_51) (by decide) (by decide) k) ?_
    show Rest p.tables e below s _ _ _ (T8.setTop (mkF m 55 #[.val (.ref a0), .val (.ref a1), .val (.ref a1)] [(.int (1 : Int32))]))
    refine Rest.ret X8 (v := some (.int (nar .boolean (1 : Int32)))) (fun h => by rw [Bd.returns] at h; cases h) hlk (fun fs hr => retN X8 hx (t := .boolean) Bd.returns (by simp) (hb hby d13_55) hr) ?_ (by decide) (by decide)
    rw [e8]
    exact ⟨by show some (Value.int (1 : Int32)) = _; rw [own_ite1 hz], N8, rfl⟩
theorem ef_LE2_0 (m : MethodId) (a0 : Addr) (a1 : Addr) : entryFrame m #[(.ref a0), (.ref a1)] 3 = mkF m 0 #[.val (.ref a0), .val (.ref a1), .unset] [] := by first | (simp [entryFrame, mkF, argsToLocals, Value.category, maxLocals]; done) | rfl
def QLE2_0 (Z : State) (a0 : Addr) (a1 : Addr) (k0 : ClassId) (k1 : ClassId) (xa : Int32) (xb : Int32) (h0 : Heap) (n0 : Nat) (v : Option Value) (h : Heap) (L : List Loc) : Prop := v = some (.int (if ([xa, xb] : List Int32) = [] then (1 : Int32) else 0)) ∧ Fr n0 L ∧ h = h0
set_option maxRecDepth 65536 in
set_option maxHeartbeats 40000000 in
theorem rmLE2_0 (l : Launch) (Z : State) (aw : Array Value) (hw : ∀ d ∈ tables_1, d.before aw Z = true) (ws : List Jvm.Cond) (a0 : Addr) (a1 : Addr) (k0 : ClassId) (k1 : ClassId) (xa : Int32) (xb : Int32) (h0 : Heap) (n0 : Nat) (Z0 : n0 ≤ h0.size) (V0 : Arv Z h0 a0 k0 .byte (2 : Int32) [(.int xa), (.int xb)] (.int (0 : Int32))) (V1 : Arv Z h0 a1 k1 .byte (0 : Int32) [] (.int (0 : Int32))) :
    MetFree l (⟨"java/lang/StringLatin1", "equals", "([B[B)Z"⟩ : MethodName) (head1 (Jvm.Cond.code (⟨"java/lang/StringLatin1", "equals", "([B[B)Z"⟩ : MethodName) jdk_43_method_13_code 3 (some .boolean) :: ws) ({ frames := 0, cells := 0, slots := 0, locals := 0 } : Room)) (fun a U => a = #[(.ref a0), (.ref a1)] ∧ Z.Warmed39 U.vm ∧ U.heap = h0) (fun _ _ _ _ _ => True) (fun _ U o U' => ∃ v L, o = .returned v ∧ QLE2_0 Z a0 a1 k0 k1 xa xb h0 n0 v U'.heap L ∧ FrameEnd U o U' L ({ frames := 0, cells := 0, slots := 0, locals := 0 } : Room).cells ({ frames := 0, cells := 0, slots := 0, locals := 0 } : Room).slots) := by
  refine MetFree.of_bodySF (plainFor_of_name pn_2) hisR ?_
  intro p e s m args below meth c s₁ Bd hml0 hP hK
  obtain ⟨rfl, hZ, hh⟩ := hP
  have hx := Bd.exec
  have hby := Bd.bytes
  have hml : c.maxLocals = 3 := hml0
  have hown : s.vm.findClass "java/lang/StringLatin1" = some m.cls := findClass_of_methodNamed Bd.named
  have hnm := (name_of_methodNamed Bd.named Bd.method).1
  have hlk : meth.locks = false := BodyLoose.notSynchronized Bd
  have X0 : Stand p l e ({ frames := 0, cells := 0, slots := 0, locals := 0 } : Room) s m #[(.ref a0), (.ref a1)] below meth c s₁ [] 0 0 := Stand.of_body Bd
  have _u := trivial
  have eh0 : s₁.heap = h0 := by rw [← hh, Bd.state]; rfl
  have N0 := Fr.nil n0
  show Rest p.tables e below s (QLE2_0 Z a0 a1 k0 k1 xa xb h0 n0) _ _ (s₁.setTop (entryFrame m #[(.ref a0), (.ref a1)] 3))
  refine Rest.via (fun t k => castTop (ef_LE2_0 m a0 a1) k) ?_
  show Rest p.tables e below s _ _ _ (s₁.setTop (mkF m 0 #[.val (.ref a0), .val (.ref a1), .unset] []))
  refine Rest.via (fun t k => XS.aloadN X0.here hx rfl (hb hby d14_0) rfl rfl k) ?_
  show Rest p.tables e below s _ _ _ (s₁.setTop (mkF m 1 #[.val (.ref a0), .val (.ref a1), .unset] [(.ref a0)]))
  obtain ⟨cl1, Ar1, -, S1, P1, -, -⟩ := id V0
  refine Rest.via (fun t k => X0.arraylength hx (by rw [eh0]; exact Ar1.1) (State.isArrayOf_alike hZ.alike Ar1.2.1) (g := (mkF m 1 #[.val (.ref a0), .val (.ref a1), .unset] [(.ref a0)])) rfl rfl (hb hby d14_1) t k) ?_
  rw [len_of S1 P1]
  show Rest p.tables e below s _ _ _ (s₁.setTop (mkF m 2 #[.val (.ref a0), .val (.ref a1), .unset] [(.int (2 : Int32))]))
  refine Rest.via (fun t k => XS.aloadN X0.here hx rfl (hb hby d14_2) rfl rfl k) ?_
  show Rest p.tables e below s _ _ _ (s₁.setTop (mkF m 3 #[.val (.ref a0), .val (.ref a1), .unset] [(.ref a1), (.int (2 : Int32))]))
  obtain ⟨cl2, Ar2, -, S2, P2, -, -⟩ := id V1
  refine Rest.via (fun t k => X0.arraylength hx (by rw [eh0]; exact Ar2.1) (State.isArrayOf_alike hZ.alike Ar2.2.1) (g := (mkF m 3 #[.val (.ref a0), .val (.ref a1), .unset] [(.ref a1), (.int (2 : Int32))])) rfl rfl (hb hby d14_3) t k) ?_
  rw [len_of S2 P2]
  show Rest p.tables e below s _ _ _ (s₁.setTop (mkF m 4 #[.val (.ref a0), .val (.ref a1), .unset] [(.int (0 : Int32)), (.int (2 : Int32))]))
  refine Rest.via (fun t k => XS.icmpYes X0.here hx rfl (pc0 := 4) (pc' := 34) rfl (hb hby d14_4) rfl (feq (by decide : ¬ ((2 : Int32) = (0 : Int32)))).2 (by decide) (by decide) k) ?_
  show Rest p.tables e below s _ _ _ (s₁.setTop (mkF m 34 #[.val (.ref a0), .val (.ref a1), .unset] []))
  refine Rest.via (fun t k => XS.iconst X0.here hx rfl (hb hby d14_34) k) ?_
  show Rest p.tables e below s _ _ _ (s₁.setTop (mkF m 35 #[.val (.ref a0), .val (.ref a1), .unset] [(.int (0 : Int32))]))
  refine Rest.ret X0 (v := some (.int (nar .boolean (0 : Int32)))) (fun h => by rw [Bd.returns] at h; cases h) hlk (fun fs hr => retN X0 hx (t := .boolean) Bd.returns (by simp) (hb hby d14_35) hr) ?_ (by decide) (by decide)
  rw [eh0]
  exact ⟨by show some (Value.int (0 : Int32)) = _; rw [if_neg (by simp)], N0, rfl⟩
theorem ef_SE2_0 (m : MethodId) (a0 : Addr) (a1 : Addr) : entryFrame m #[(.ref a0), (.ref a1)] 3 = mkF m 0 #[.val (.ref a0), .val (.ref a1), .unset] [] := by first | (simp [entryFrame, mkF, argsToLocals, Value.category, maxLocals]; done) | rfl
def QSE2_0 (Z : State) (a0 : Addr) (a1 : Addr) (va0 : Addr) (k0 : ClassId) (va1 : Addr) (k1 : ClassId) (ic : Int32) (xa : Int32) (xb : Int32) (h0 : Heap) (n0 : Nat) (v : Option Value) (h : Heap) (L : List Loc) : Prop := v = some (.int (if ([xa, xb] : List Int32) = [] then (1 : Int32) else 0)) ∧ Fr n0 L ∧ h = h0
set_option maxRecDepth 65536 in
set_option maxHeartbeats 40000000 in
theorem rmSE2_0 (l : Launch) (Z : State) (aw : Array Value) (hw : ∀ d ∈ tables_1, d.before aw Z = true) (ws : List Jvm.Cond) (a0 : Addr) (a1 : Addr) (va0 : Addr) (k0 : ClassId) (va1 : Addr) (k1 : ClassId) (ic : Int32) (xa : Int32) (xb : Int32) (h0 : Heap) (n0 : Nat) (Z0 : n0 ≤ h0.size) (S0 : own_St Z h0 a0 va0 k0 (2 : Int32) [(.int xa), (.int xb)]) (S1 : own_St Z h0 a1 va1 k1 (0 : Int32) []) (n01 : a0 ≠ a1) (O : Old Z n0 h0) (CS : own_CS Z ic) :
    MetFree l (⟨"java/lang/String", "equals", "(Ljava/lang/Object;)Z"⟩ : MethodName) (head1 (Jvm.Cond.code (⟨"java/lang/String", "equals", "(Ljava/lang/Object;)Z"⟩ : MethodName) jdk_42_method_66_code 3 (some .boolean) :: ws) ({ frames := 1, cells := 0, slots := 0, locals := 14 } : Room)) (fun a U => a = #[(.ref a0), (.ref a1)] ∧ Z.Warmed39 U.vm ∧ U.heap = h0) (fun _ _ _ _ _ => True) (fun _ U o U' => ∃ v L, o = .returned v ∧ QSE2_0 Z a0 a1 va0 k0 va1 k1 ic xa xb h0 n0 v U'.heap L ∧ FrameEnd U o U' L ({ frames := 1, cells := 0, slots := 0, locals := 14 } : Room).cells ({ frames := 1, cells := 0, slots := 0, locals := 14 } : Room).slots) := by
  refine MetFree.of_bodySF (plainFor_of_name pn_1) hisR ?_
  intro p e s m args below meth c s₁ Bd hml0 hP hK
  obtain ⟨rfl, hZ, hh⟩ := hP
  have hx := Bd.exec
  have hby := Bd.bytes
  have hml : c.maxLocals = 3 := hml0
  have hown : s.vm.findClass "java/lang/String" = some m.cls := findClass_of_methodNamed Bd.named
  have hnm := (name_of_methodNamed Bd.named Bd.method).1
  have hlk : meth.locks = false := BodyLoose.notSynchronized Bd
  have X0 : Stand p l e ({ frames := 1, cells := 0, slots := 0, locals := 14 } : Room) s m #[(.ref a0), (.ref a1)] below meth c s₁ [] 0 0 := Stand.of_body Bd
  have _u := trivial
  have eh0 : s₁.heap = h0 := by rw [← hh, Bd.state]; rfl
  have N0 := Fr.nil n0
  show Rest p.tables e below s (QSE2_0 Z a0 a1 va0 k0 va1 k1 ic xa xb h0 n0) _ _ (s₁.setTop (entryFrame m #[(.ref a0), (.ref a1)] 3))
  refine Rest.via (fun t k => castTop (ef_SE2_0 m a0 a1) k) ?_
  obtain ⟨E_a0, Fv_a0, Fc_a0, V_a0⟩ := id S0
  obtain ⟨E_a1, Fv_a1, Fc_a1, V_a1⟩ := id S1
  show Rest p.tables e below s _ _ _ (s₁.setTop (mkF m 0 #[.val (.ref a0), .val (.ref a1), .unset] []))
  refine Rest.via (fun t k => XS.aloadN X0.here hx rfl (hb hby d13_0) rfl rfl k) ?_
  show Rest p.tables e below s _ _ _ (s₁.setTop (mkF m 1 #[.val (.ref a0), .val (.ref a1), .unset] [(.ref a0)]))
  refine Rest.via (fun t k => XS.aloadN X0.here hx rfl (hb hby d13_1) rfl rfl k) ?_
  show Rest p.tables e below s _ _ _ (s₁.setTop (mkF m 2 #[.val (.ref a0), .val (.ref a1), .unset] [(.ref a1), (.ref a0)]))
  refine Rest.via (fun t k => Jvm.RoadKit.acmp (g := (mkF m 2 #[.val (.ref a0), .val (.ref a1), .unset] [(.ref a1), (.ref a0)])) X0 hx rfl rfl rfl (pc0 := 2) (pc' := 7) (same := false) rfl (hb hby d13_2) rfl (decide_eq_false fun q => n01 (Value.ref.inj q)) (by decide) (by decide) k) ?_
  show Rest p.tables e below s _ _ _ (s₁.setTop (mkF m 7 #[.val (.ref a0), .val (.ref a1), .unset] []))
  refine Rest.via (fun t k => XS.aloadN X0.here hx rfl (hb hby d13_7) rfl rfl k) ?_
  show Rest p.tables e below s _ _ _ (s₁.setTop (mkF m 8 #[.val (.ref a0), .val (.ref a1), .unset] [(.ref a1)]))
  obtain ⟨T1, X1, e1, st1⟩ := instY X0 hx hZ hown (hw _ (List.mem_of_getElem? (i := 71) rfl)) eh0 (Ins.self E_a1) (g := (mkF m 8 #[.val (.ref a0), .val (.ref a1), .unset] [(.ref a1)])) rfl rfl (hb hby d13_8)
  refine Rest.via (fun t k => st1 t k) ?_
  show Rest p.tables e below s _ _ _ (T1.setTop (mkF m 11 #[.val (.ref a0), .val (.ref a1), .unset] [(.int (1 : Int32))]))
  refine Rest.via (fun t k => XS.ifNo X1.here hx rfl (hb hby d13_11) rfl ((if0 _ _).trans (feq (by decide : ¬ ((1 : Int32) = (0 : Int32)))).1) k) ?_
  show Rest p.tables e below s _ _ _ (T1.setTop (mkF m 14 #[.val (.ref a0), .val (.ref a1), .unset] []))
  refine Rest.via (fun t k => XS.aloadN X1.here hx rfl (hb hby d13_14) rfl rfl k) ?_
  show Rest p.tables e below s _ _ _ (T1.setTop (mkF m 15 #[.val (.ref a0), .val (.ref a1), .unset] [(.ref a1)]))
  obtain ⟨T2, X2, e2, st2⟩ := castY X1 hx hZ hown (hw _ (List.mem_of_getElem? (i := 71) rfl)) e1 (Ins.self E_a1) (g := (mkF m 15 #[.val (.ref a0), .val (.ref a1), .unset] [(.ref a1)])) rfl rfl (hb hby d13_15)
  refine Rest.via (fun t k => st2 t k) ?_
  show Rest p.tables e below s _ _ _ (T2.setTop (mkF m 18 #[.val (.ref a0), .val (.ref a1), .unset] [(.ref a1)]))
  refine Rest.via (fun t k => XS.astoreN X2.here hx rfl (hb hby d13_18) rfl rfl (l' := #[.val (.ref a0), .val (.ref a1), .val (.ref a1)]) rfl k) ?_
  show Rest p.tables e below s _ _ _ (T2.setTop (mkF m 19 #[.val (.ref a0), .val (.ref a1), .val (.ref a1)] []))
  obtain ⟨T3, X3, e3, st3⟩ := getS2 X2 hx hZ hown (host := "") (Or.inl (hw _ (List.mem_of_getElem? (i := 45) rfl))) Via.refl e2 (CS.1.ext (O.keep (Keep.refl h0 []) all0).2) (g := (mkF m 19 #[.val (.ref a0), .val (.ref a1), .val (.ref a1)] [])) rfl (hb hby d13_19)
  refine Rest.via (fun t k => st3 t k) ?_
  show Rest p.tables e below s _ _ _ (T3.setTop (mkF m 22 #[.val (.ref a0), .val (.ref a1), .val (.ref a1)] [(.int ic)]))
  refine Rest.via (fun t k => XS.ifNo X3.here hx rfl (hb hby d13_22) rfl ((if0 _ _).trans (feq (CS.2 : ¬ (ic = (0 : Int32)))).1) k) ?_
  show Rest p.tables e below s _ _ _ (T3.setTop (mkF m 25 #[.val (.ref a0), .val (.ref a1), .val (.ref a1)] []))
  refine Rest.via (fun t k => XS.aloadN X3.here hx rfl (hb hby d13_25) rfl rfl k) ?_
  show Rest p.tables e below s _ _ _ (T3.setTop (mkF m 26 #[.val (.ref a0), .val (.ref a1), .val (.ref a1)] [(.ref a0)]))
  obtain ⟨T4, X4, e4, st4⟩ := getF X3 hx hZ hown (host := "") (Or.inl (hw _ (List.mem_of_getElem? (i := 28) rfl))) Via.refl e3 Fc_a0 (g := (mkF m 26 #[.val (.ref a0), .val (.ref a1), .val (.ref a1)] [(.ref a0)])) rfl rfl (hb hby d13_26)
  refine Rest.via (fun t k => st4 t k) ?_
  show Rest p.tables e below s _ _ _ (T4.setTop (mkF m 29 #[.val (.ref a0), .val (.ref a1), .val (.ref a1)] [(.int (0 : Int32))]))
  refine Rest.via (fun t k => XS.aloadN X4.here hx rfl (hb hby d13_29) rfl rfl k) ?_
  show Rest p.tables e below s _ _ _ (T4.setTop (mkF m 30 #[.val (.ref a0), .val (.ref a1), .val (.ref a1)] [(.ref a1), (.int (0 : Int32))]))
  obtain ⟨T5, X5, e5, st5⟩ := getF X4 hx hZ hown (host := "") (Or.inl (hw _ (List.mem_of_getElem? (i := 28) rfl))) Via.refl e4 Fc_a1 (g := (mkF m 30 #[.val (.ref a0), .val (.ref a1), .val (.ref a1)] [(.ref a1), (.int (0 : Int32))])) rfl rfl (hb hby d13_30)
  refine Rest.via (fun t k => st5 t k) ?_
  show Rest p.tables e below s _ _ _ (T5.setTop (mkF m 33 #[.val (.ref a0), .val (.ref a1), .val (.ref a1)] [(.int (0 : Int32)), (.int (0 : Int32))]))
  refine Rest.via (fun t k => XS.icmpNo X5.here hx rfl (hb hby d13_33) rfl (teq (by decide : (0 : Int32) = (0 : Int32))).2 k) ?_
  show Rest p.tables e below s _ _ _ (T5.setTop (mkF m 36 #[.val (.ref a0), .val (.ref a1), .val (.ref a1)] []))
  refine Rest.via (fun t k => XS.aloadN X5.here hx rfl (hb hby d13_36) rfl rfl k) ?_
  show Rest p.tables e below s _ _ _ (T5.setTop (mkF m 37 #[.val (.ref a0), .val (.ref a1), .val (.ref a1)] [(.ref a0)]))
  obtain ⟨T6, X6, e6, st6⟩ := getF X5 hx hZ hown (host := "") (Or.inl (hw _ (List.mem_of_getElem? (i := 27) rfl))) Via.refl e5 Fv_a0 (g := (mkF m 37 #[.val (.ref a0), .val (.ref a1), .val (.ref a1)] [(.ref a0)])) rfl rfl (hb hby d13_37)
  refine Rest.via (fun t k => st6 t k) ?_
  show Rest p.tables e below s _ _ _ (T6.setTop (mkF m 40 #[.val (.ref a0), .val (.ref a1), .val (.ref a1)] [(.ref va0)]))
  refine Rest.via (fun t k => XS.aloadN X6.here hx rfl (hb hby d13_40) rfl rfl k) ?_
  show Rest p.tables e below s _ _ _ (T6.setTop (mkF m 41 #[.val (.ref a0), .val (.ref a1), .val (.ref a1)] [(.ref a1), (.ref va0)]))
  obtain ⟨T7, X7, e7, st7⟩ := getF X6 hx hZ hown (host := "") (Or.inl (hw _ (List.mem_of_getElem? (i := 27) rfl))) Via.refl e6 Fv_a1 (g := (mkF m 41 #[.val (.ref a0), .val (.ref a1), .val (.ref a1)] [(.ref a1), (.ref va0)])) rfl rfl (hb hby d13_41)
  refine Rest.via (fun t k => st7 t k) ?_
  show Rest p.tables e below s _ _ _ (T7.setTop (mkF m 44 #[.val (.ref a0), .val (.ref a1), .val (.ref a1)] [(.ref va1), (.ref va0)]))
  obtain ⟨_, _, ⟨T8, L8, k8, n8⟩, -, X8, ⟨Lc8, hQ8, l8, y8, z8⟩, st8⟩ := Jvm.LawKit.callS X7 hx (y := (⟨"java/lang/StringLatin1", "equals", "([B[B)Z"⟩ : MethodName)) hown (mvT hZ (hw _ (List.mem_of_getElem? (i := 72) rfl))) (mvT hZ (hw _ (List.mem_of_getElem? (i := 73) rfl))) (mvT hZ (hw _ (List.mem_of_getElem? (i := 74) rfl))) (mvT hZ (hw _ (List.mem_of_getElem? (i := 75) rfl))) (by decide) (backOf (W := 0) (rmLE2_0 l Z aw hw [] va0 va1 k0 k1 xa xb h0 n0 (Nat.le_trans Z0 (Keep.refl h0 []).1) V_a0 V_a1) hZ (hw _ (List.mem_of_getElem? (i := 75) rfl)) (hw _ (List.mem_of_getElem? (i := 74) rfl)) (by decide) (by decide)) (g := (mkF m 44 #[.val (.ref a0), .val (.ref a1), .val (.ref a1)] [(.ref va1), (.ref va0)])) rfl (by rw [hml]; rfl) (argsL := [(.ref va0), (.ref va1)]) (rest := []) (lenOf pd_4 rfl) rfl (by show 2 * 0 + _ ≤ _; exact Nat.le_of_eq rfl) (hb hby d13_44) (fun _ _ => ⟨rfl, e7, (by decide : 0 + 0 ≤ _), (by decide : 0 + 0 ≤ _)⟩)
  dsimp only [Pt.U, Pt.locs, Pt.cells, Pt.slots] at X8 l8 y8 z8 st8 hQ8
  subst l8 y8 z8
  obtain ⟨rfl, Nq8, e8⟩ := hQ8
  have N8 := Fr.app N0 Nq8
  refine Rest.via (fun t k => st8 t k) ?_
  show Rest p.tables e below s _ _ _ (T8.setTop (mkF m 47 #[.val (.ref a0), .val (.ref a1), .val (.ref a1)] [(.int (if ([xa, xb] : List Int32) = [] then (1 : Int32) else 0))]))
  by_cases hz : (if ([xa, xb] : List Int32) = [] then (1 : Int32) else 0) = (0 : Int32)
  · refine Rest.via (fun t k => XS.ifYes X8.here hx rfl (pc0 := 47) (pc' := 54) rfl (hb hby d13_47) rfl ((if0 _ _).trans (teq hz).1) (by decide) (by decide) k) ?_
    show Rest p.tables e below s _ _ _ (T8.setTop (mkF m 54 #[.val (.ref a0), .val (.ref a1), .val (.ref a1)] []))
    refine Rest.via (fun t k => XS.iconst X8.here hx rfl (hb hby d13_54) k) ?_
    show Rest p.tables e below s _ _ _ (T8.setTop (mkF m 55 #[.val (.ref a0), .val (.ref a1), .val (.ref a1)] [(.int (0 : Int32))]))
    refine Rest.ret X8 (v := some (.int (nar .boolean (0 : Int32)))) (fun h => by rw [Bd.returns] at h; cases h) hlk (fun fs hr => retN X8 hx (t := .boolean) Bd.returns (by simp) (hb hby d13_55) hr) ?_ (by decide) (by decide)
    rw [e8]
    exact ⟨by show some (Value.int (0 : Int32)) = _; rw [hz], N8, rfl⟩
  · refine Rest.via (fun t k => XS.ifNo X8.here hx rfl (hb hby d13_47) rfl ((if0 _ _).trans (feq hz).1) k) ?_
    show Rest p.tables e below s _ _ _ (T8.setTop (mkF m 50 #[.val (.ref a0), .val (.ref a1), .val (.ref a1)] []))
    refine Rest.via (fun t k => XS.iconst X8.here hx rfl (hb hby d13_50) k) ?_
    show Rest p.tables e below s _ _ _ (T8.setTop (mkF m 51 #[.val (.ref a0), .val (.ref a1), .val (.ref a1)] [(.int (1 : Int32))]))
    refine Rest.via (fun t k => XS.goto X8.here hx rfl (pc0 := 51) (pc' := 55) rfl (hb hby d13_51) (by decide) (by decide) k) ?_
    show Rest p.tables e below s _ _ _ (T8.setTop (mkF m 55 #[.val (.ref a0), .val (.ref a1), .val (.ref a1)] [(.int (1 : Int32))]))
    refine Rest.ret X8 (v := some (.int (nar .boolean (1 : Int32)))) (fun h => by rw [Bd.returns] at h; cases h) hlk (fun fs hr => retN X8 hx (t := .boolean) Bd.returns (by simp) (hb hby d13_55) hr) ?_ (by decide) (by decide)
    rw [e8]
    exact ⟨by show some (Value.int (1 : Int32)) = _; rw [own_ite1 hz], N8, rfl⟩
theorem ef_LE2_1 (m : MethodId) (a0 : Addr) (a1 : Addr) : entryFrame m #[(.ref a0), (.ref a1)] 3 = mkF m 0 #[.val (.ref a0), .val (.ref a1), .unset] [] := by first | (simp [entryFrame, mkF, argsToLocals, Value.category, maxLocals]; done) | rfl
def QLE2_1 (Z : State) (a0 : Addr) (a1 : Addr) (k0 : ClassId) (k1 : ClassId) (xa : Int32) (xb : Int32) (ya : Int32) (h0 : Heap) (n0 : Nat) (v : Option Value) (h : Heap) (L : List Loc) : Prop := v = some (.int (if ([xa, xb] : List Int32) = [ya] then (1 : Int32) else 0)) ∧ Fr n0 L ∧ h = h0
set_option maxRecDepth 65536 in
set_option maxHeartbeats 40000000 in
theorem rmLE2_1 (l : Launch) (Z : State) (aw : Array Value) (hw : ∀ d ∈ tables_1, d.before aw Z = true) (ws : List Jvm.Cond) (a0 : Addr) (a1 : Addr) (k0 : ClassId) (k1 : ClassId) (xa : Int32) (xb : Int32) (ya : Int32) (h0 : Heap) (n0 : Nat) (Z0 : n0 ≤ h0.size) (V0 : Arv Z h0 a0 k0 .byte (2 : Int32) [(.int xa), (.int xb)] (.int (0 : Int32))) (V1 : Arv Z h0 a1 k1 .byte (1 : Int32) [(.int ya)] (.int (0 : Int32))) :
    MetFree l (⟨"java/lang/StringLatin1", "equals", "([B[B)Z"⟩ : MethodName) (head1 (Jvm.Cond.code (⟨"java/lang/StringLatin1", "equals", "([B[B)Z"⟩ : MethodName) jdk_43_method_13_code 3 (some .boolean) :: ws) ({ frames := 0, cells := 0, slots := 0, locals := 0 } : Room)) (fun a U => a = #[(.ref a0), (.ref a1)] ∧ Z.Warmed39 U.vm ∧ U.heap = h0) (fun _ _ _ _ _ => True) (fun _ U o U' => ∃ v L, o = .returned v ∧ QLE2_1 Z a0 a1 k0 k1 xa xb ya h0 n0 v U'.heap L ∧ FrameEnd U o U' L ({ frames := 0, cells := 0, slots := 0, locals := 0 } : Room).cells ({ frames := 0, cells := 0, slots := 0, locals := 0 } : Room).slots) := by
  refine MetFree.of_bodySF (plainFor_of_name pn_2) hisR ?_
  intro p e s m args below meth c s₁ Bd hml0 hP hK
  obtain ⟨rfl, hZ, hh⟩ := hP
  have hx := Bd.exec
  have hby := Bd.bytes
  have hml : c.maxLocals = 3 := hml0
  have hown : s.vm.findClass "java/lang/StringLatin1" = some m.cls := findClass_of_methodNamed Bd.named
  have hnm := (name_of_methodNamed Bd.named Bd.method).1
  have hlk : meth.locks = false := BodyLoose.notSynchronized Bd
  have X0 : Stand p l e ({ frames := 0, cells := 0, slots := 0, locals := 0 } : Room) s m #[(.ref a0), (.ref a1)] below meth c s₁ [] 0 0 := Stand.of_body Bd
  have _u := trivial
  have eh0 : s₁.heap = h0 := by rw [← hh, Bd.state]; rfl
  have N0 := Fr.nil n0
  show Rest p.tables e below s (QLE2_1 Z a0 a1 k0 k1 xa xb ya h0 n0) _ _ (s₁.setTop (entryFrame m #[(.ref a0), (.ref a1)] 3))
  refine Rest.via (fun t k => castTop (ef_LE2_1 m a0 a1) k) ?_
  show Rest p.tables e below s _ _ _ (s₁.setTop (mkF m 0 #[.val (.ref a0), .val (.ref a1), .unset] []))
  refine Rest.via (fun t k => XS.aloadN X0.here hx rfl (hb hby d14_0) rfl rfl k) ?_
  show Rest p.tables e below s _ _ _ (s₁.setTop (mkF m 1 #[.val (.ref a0), .val (.ref a1), .unset] [(.ref a0)]))
  obtain ⟨cl1, Ar1, -, S1, P1, -, -⟩ := id V0
  refine Rest.via (fun t k => X0.arraylength hx (by rw [eh0]; exact Ar1.1) (State.isArrayOf_alike hZ.alike Ar1.2.1) (g := (mkF m 1 #[.val (.ref a0), .val (.ref a1), .unset] [(.ref a0)])) rfl rfl (hb hby d14_1) t k) ?_
  rw [len_of S1 P1]
  show Rest p.tables e below s _ _ _ (s₁.setTop (mkF m 2 #[.val (.ref a0), .val (.ref a1), .unset] [(.int (2 : Int32))]))
  refine Rest.via (fun t k => XS.aloadN X0.here hx rfl (hb hby d14_2) rfl rfl k) ?_
  show Rest p.tables e below s _ _ _ (s₁.setTop (mkF m 3 #[.val (.ref a0), .val (.ref a1), .unset] [(.ref a1), (.int (2 : Int32))]))
  obtain ⟨cl2, Ar2, -, S2, P2, -, -⟩ := id V1
  refine Rest.via (fun t k => X0.arraylength hx (by rw [eh0]; exact Ar2.1) (State.isArrayOf_alike hZ.alike Ar2.2.1) (g := (mkF m 3 #[.val (.ref a0), .val (.ref a1), .unset] [(.ref a1), (.int (2 : Int32))])) rfl rfl (hb hby d14_3) t k) ?_
  rw [len_of S2 P2]
  show Rest p.tables e below s _ _ _ (s₁.setTop (mkF m 4 #[.val (.ref a0), .val (.ref a1), .unset] [(.int (1 : Int32)), (.int (2 : Int32))]))
  refine Rest.via (fun t k => XS.icmpYes X0.here hx rfl (pc0 := 4) (pc' := 34) rfl (hb hby d14_4) rfl (feq (by decide : ¬ ((2 : Int32) = (1 : Int32)))).2 (by decide) (by decide) k) ?_
  show Rest p.tables e below s _ _ _ (s₁.setTop (mkF m 34 #[.val (.ref a0), .val (.ref a1), .unset] []))
  refine Rest.via (fun t k => XS.iconst X0.here hx rfl (hb hby d14_34) k) ?_
  show Rest p.tables e below s _ _ _ (s₁.setTop (mkF m 35 #[.val (.ref a0), .val (.ref a1), .unset] [(.int (0 : Int32))]))
  refine Rest.ret X0 (v := some (.int (nar .boolean (0 : Int32)))) (fun h => by rw [Bd.returns] at h; cases h) hlk (fun fs hr => retN X0 hx (t := .boolean) Bd.returns (by simp) (hb hby d14_35) hr) ?_ (by decide) (by decide)
  rw [eh0]
  exact ⟨by show some (Value.int (0 : Int32)) = _; rw [if_neg (by simp)], N0, rfl⟩
theorem ef_SE2_1 (m : MethodId) (a0 : Addr) (a1 : Addr) : entryFrame m #[(.ref a0), (.ref a1)] 3 = mkF m 0 #[.val (.ref a0), .val (.ref a1), .unset] [] := by first | (simp [entryFrame, mkF, argsToLocals, Value.category, maxLocals]; done) | rfl
def QSE2_1 (Z : State) (a0 : Addr) (a1 : Addr) (va0 : Addr) (k0 : ClassId) (va1 : Addr) (k1 : ClassId) (ic : Int32) (xa : Int32) (xb : Int32) (ya : Int32) (h0 : Heap) (n0 : Nat) (v : Option Value) (h : Heap) (L : List Loc) : Prop := v = some (.int (if ([xa, xb] : List Int32) = [ya] then (1 : Int32) else 0)) ∧ Fr n0 L ∧ h = h0
set_option maxRecDepth 65536 in
set_option maxHeartbeats 40000000 in
theorem rmSE2_1 (l : Launch) (Z : State) (aw : Array Value) (hw : ∀ d ∈ tables_1, d.before aw Z = true) (ws : List Jvm.Cond) (a0 : Addr) (a1 : Addr) (va0 : Addr) (k0 : ClassId) (va1 : Addr) (k1 : ClassId) (ic : Int32) (xa : Int32) (xb : Int32) (ya : Int32) (h0 : Heap) (n0 : Nat) (Z0 : n0 ≤ h0.size) (S0 : own_St Z h0 a0 va0 k0 (2 : Int32) [(.int xa), (.int xb)]) (S1 : own_St Z h0 a1 va1 k1 (1 : Int32) [(.int ya)]) (n01 : a0 ≠ a1) (O : Old Z n0 h0) (CS : own_CS Z ic) :
    MetFree l (⟨"java/lang/String", "equals", "(Ljava/lang/Object;)Z"⟩ : MethodName) (head1 (Jvm.Cond.code (⟨"java/lang/String", "equals", "(Ljava/lang/Object;)Z"⟩ : MethodName) jdk_42_method_66_code 3 (some .boolean) :: ws) ({ frames := 1, cells := 0, slots := 0, locals := 14 } : Room)) (fun a U => a = #[(.ref a0), (.ref a1)] ∧ Z.Warmed39 U.vm ∧ U.heap = h0) (fun _ _ _ _ _ => True) (fun _ U o U' => ∃ v L, o = .returned v ∧ QSE2_1 Z a0 a1 va0 k0 va1 k1 ic xa xb ya h0 n0 v U'.heap L ∧ FrameEnd U o U' L ({ frames := 1, cells := 0, slots := 0, locals := 14 } : Room).cells ({ frames := 1, cells := 0, slots := 0, locals := 14 } : Room).slots) := by
  refine MetFree.of_bodySF (plainFor_of_name pn_1) hisR ?_
  intro p e s m args below meth c s₁ Bd hml0 hP hK
  obtain ⟨rfl, hZ, hh⟩ := hP
  have hx := Bd.exec
  have hby := Bd.bytes
  have hml : c.maxLocals = 3 := hml0
  have hown : s.vm.findClass "java/lang/String" = some m.cls := findClass_of_methodNamed Bd.named
  have hnm := (name_of_methodNamed Bd.named Bd.method).1
  have hlk : meth.locks = false := BodyLoose.notSynchronized Bd
  have X0 : Stand p l e ({ frames := 1, cells := 0, slots := 0, locals := 14 } : Room) s m #[(.ref a0), (.ref a1)] below meth c s₁ [] 0 0 := Stand.of_body Bd
  have _u := trivial
  have eh0 : s₁.heap = h0 := by rw [← hh, Bd.state]; rfl
  have N0 := Fr.nil n0
  show Rest p.tables e below s (QSE2_1 Z a0 a1 va0 k0 va1 k1 ic xa xb ya h0 n0) _ _ (s₁.setTop (entryFrame m #[(.ref a0), (.ref a1)] 3))
  refine Rest.via (fun t k => castTop (ef_SE2_1 m a0 a1) k) ?_
  obtain ⟨E_a0, Fv_a0, Fc_a0, V_a0⟩ := id S0
  obtain ⟨E_a1, Fv_a1, Fc_a1, V_a1⟩ := id S1
  show Rest p.tables e below s _ _ _ (s₁.setTop (mkF m 0 #[.val (.ref a0), .val (.ref a1), .unset] []))
  refine Rest.via (fun t k => XS.aloadN X0.here hx rfl (hb hby d13_0) rfl rfl k) ?_
  show Rest p.tables e below s _ _ _ (s₁.setTop (mkF m 1 #[.val (.ref a0), .val (.ref a1), .unset] [(.ref a0)]))
  refine Rest.via (fun t k => XS.aloadN X0.here hx rfl (hb hby d13_1) rfl rfl k) ?_
  show Rest p.tables e below s _ _ _ (s₁.setTop (mkF m 2 #[.val (.ref a0), .val (.ref a1), .unset] [(.ref a1), (.ref a0)]))
  refine Rest.via (fun t k => Jvm.RoadKit.acmp (g := (mkF m 2 #[.val (.ref a0), .val (.ref a1), .unset] [(.ref a1), (.ref a0)])) X0 hx rfl rfl rfl (pc0 := 2) (pc' := 7) (same := false) rfl (hb hby d13_2) rfl (decide_eq_false fun q => n01 (Value.ref.inj q)) (by decide) (by decide) k) ?_
  show Rest p.tables e below s _ _ _ (s₁.setTop (mkF m 7 #[.val (.ref a0), .val (.ref a1), .unset] []))
  refine Rest.via (fun t k => XS.aloadN X0.here hx rfl (hb hby d13_7) rfl rfl k) ?_
  show Rest p.tables e below s _ _ _ (s₁.setTop (mkF m 8 #[.val (.ref a0), .val (.ref a1), .unset] [(.ref a1)]))
  obtain ⟨T1, X1, e1, st1⟩ := instY X0 hx hZ hown (hw _ (List.mem_of_getElem? (i := 71) rfl)) eh0 (Ins.self E_a1) (g := (mkF m 8 #[.val (.ref a0), .val (.ref a1), .unset] [(.ref a1)])) rfl rfl (hb hby d13_8)
  refine Rest.via (fun t k => st1 t k) ?_
  show Rest p.tables e below s _ _ _ (T1.setTop (mkF m 11 #[.val (.ref a0), .val (.ref a1), .unset] [(.int (1 : Int32))]))
  refine Rest.via (fun t k => XS.ifNo X1.here hx rfl (hb hby d13_11) rfl ((if0 _ _).trans (feq (by decide : ¬ ((1 : Int32) = (0 : Int32)))).1) k) ?_
  show Rest p.tables e below s _ _ _ (T1.setTop (mkF m 14 #[.val (.ref a0), .val (.ref a1), .unset] []))
  refine Rest.via (fun t k => XS.aloadN X1.here hx rfl (hb hby d13_14) rfl rfl k) ?_
  show Rest p.tables e below s _ _ _ (T1.setTop (mkF m 15 #[.val (.ref a0), .val (.ref a1), .unset] [(.ref a1)]))
  obtain ⟨T2, X2, e2, st2⟩ := castY X1 hx hZ hown (hw _ (List.mem_of_getElem? (i := 71) rfl)) e1 (Ins.self E_a1) (g := (mkF m 15 #[.val (.ref a0), .val (.ref a1), .unset] [(.ref a1)])) rfl rfl (hb hby d13_15)
  refine Rest.via (fun t k => st2 t k) ?_
  show Rest p.tables e below s _ _ _ (T2.setTop (mkF m 18 #[.val (.ref a0), .val (.ref a1), .unset] [(.ref a1)]))
  refine Rest.via (fun t k => XS.astoreN X2.here hx rfl (hb hby d13_18) rfl rfl (l' := #[.val (.ref a0), .val (.ref a1), .val (.ref a1)]) rfl k) ?_
  show Rest p.tables e below s _ _ _ (T2.setTop (mkF m 19 #[.val (.ref a0), .val (.ref a1), .val (.ref a1)] []))
  obtain ⟨T3, X3, e3, st3⟩ := getS2 X2 hx hZ hown (host := "") (Or.inl (hw _ (List.mem_of_getElem? (i := 45) rfl))) Via.refl e2 (CS.1.ext (O.keep (Keep.refl h0 []) all0).2) (g := (mkF m 19 #[.val (.ref a0), .val (.ref a1), .val (.ref a1)] [])) rfl (hb hby d13_19)
  refine Rest.via (fun t k => st3 t k) ?_
  show Rest p.tables e below s _ _ _ (T3.setTop (mkF m 22 #[.val (.ref a0), .val (.ref a1), .val (.ref a1)] [(.int ic)]))
  refine Rest.via (fun t k => XS.ifNo X3.here hx rfl (hb hby d13_22) rfl ((if0 _ _).trans (feq (CS.2 : ¬ (ic = (0 : Int32)))).1) k) ?_
  show Rest p.tables e below s _ _ _ (T3.setTop (mkF m 25 #[.val (.ref a0), .val (.ref a1), .val (.ref a1)] []))
  refine Rest.via (fun t k => XS.aloadN X3.here hx rfl (hb hby d13_25) rfl rfl k) ?_
  show Rest p.tables e below s _ _ _ (T3.setTop (mkF m 26 #[.val (.ref a0), .val (.ref a1), .val (.ref a1)] [(.ref a0)]))
  obtain ⟨T4, X4, e4, st4⟩ := getF X3 hx hZ hown (host := "") (Or.inl (hw _ (List.mem_of_getElem? (i := 28) rfl))) Via.refl e3 Fc_a0 (g := (mkF m 26 #[.val (.ref a0), .val (.ref a1), .val (.ref a1)] [(.ref a0)])) rfl rfl (hb hby d13_26)
  refine Rest.via (fun t k => st4 t k) ?_
  show Rest p.tables e below s _ _ _ (T4.setTop (mkF m 29 #[.val (.ref a0), .val (.ref a1), .val (.ref a1)] [(.int (0 : Int32))]))
  refine Rest.via (fun t k => XS.aloadN X4.here hx rfl (hb hby d13_29) rfl rfl k) ?_
  show Rest p.tables e below s _ _ _ (T4.setTop (mkF m 30 #[.val (.ref a0), .val (.ref a1), .val (.ref a1)] [(.ref a1), (.int (0 : Int32))]))
  obtain ⟨T5, X5, e5, st5⟩ := getF X4 hx hZ hown (host := "") (Or.inl (hw _ (List.mem_of_getElem? (i := 28) rfl))) Via.refl e4 Fc_a1 (g := (mkF m 30 #[.val (.ref a0), .val (.ref a1), .val (.ref a1)] [(.ref a1), (.int (0 : Int32))])) rfl rfl (hb hby d13_30)
  refine Rest.via (fun t k => st5 t k) ?_
  show Rest p.tables e below s _ _ _ (T5.setTop (mkF m 33 #[.val (.ref a0), .val (.ref a1), .val (.ref a1)] [(.int (0 : Int32)), (.int (0 : Int32))]))
  refine Rest.via (fun t k => XS.icmpNo X5.here hx rfl (hb hby d13_33) rfl (teq (by decide : (0 : Int32) = (0 : Int32))).2 k) ?_
  show Rest p.tables e below s _ _ _ (T5.setTop (mkF m 36 #[.val (.ref a0), .val (.ref a1), .val (.ref a1)] []))
  refine Rest.via (fun t k => XS.aloadN X5.here hx rfl (hb hby d13_36) rfl rfl k) ?_
  show Rest p.tables e below s _ _ _ (T5.setTop (mkF m 37 #[.val (.ref a0), .val (.ref a1), .val (.ref a1)] [(.ref a0)]))
  obtain ⟨T6, X6, e6, st6⟩ := getF X5 hx hZ hown (host := "") (Or.inl (hw _ (List.mem_of_getElem? (i := 27) rfl))) Via.refl e5 Fv_a0 (g := (mkF m 37 #[.val (.ref a0), .val (.ref a1), .val (.ref a1)] [(.ref a0)])) rfl rfl (hb hby d13_37)
  refine Rest.via (fun t k => st6 t k) ?_
  show Rest p.tables e below s _ _ _ (T6.setTop (mkF m 40 #[.val (.ref a0), .val (.ref a1), .val (.ref a1)] [(.ref va0)]))
  refine Rest.via (fun t k => XS.aloadN X6.here hx rfl (hb hby d13_40) rfl rfl k) ?_
  show Rest p.tables e below s _ _ _ (T6.setTop (mkF m 41 #[.val (.ref a0), .val (.ref a1), .val (.ref a1)] [(.ref a1), (.ref va0)]))
  obtain ⟨T7, X7, e7, st7⟩ := getF X6 hx hZ hown (host := "") (Or.inl (hw _ (List.mem_of_getElem? (i := 27) rfl))) Via.refl e6 Fv_a1 (g := (mkF m 41 #[.val (.ref a0), .val (.ref a1), .val (.ref a1)] [(.ref a1), (.ref va0)])) rfl rfl (hb hby d13_41)
  refine Rest.via (fun t k => st7 t k) ?_
  show Rest p.tables e below s _ _ _ (T7.setTop (mkF m 44 #[.val (.ref a0), .val (.ref a1), .val (.ref a1)] [(.ref va1), (.ref va0)]))
  obtain ⟨_, _, ⟨T8, L8, k8, n8⟩, -, X8, ⟨Lc8, hQ8, l8, y8, z8⟩, st8⟩ := Jvm.LawKit.callS X7 hx (y := (⟨"java/lang/StringLatin1", "equals", "([B[B)Z"⟩ : MethodName)) hown (mvT hZ (hw _ (List.mem_of_getElem? (i := 72) rfl))) (mvT hZ (hw _ (List.mem_of_getElem? (i := 73) rfl))) (mvT hZ (hw _ (List.mem_of_getElem? (i := 74) rfl))) (mvT hZ (hw _ (List.mem_of_getElem? (i := 75) rfl))) (by decide) (backOf (W := 0) (rmLE2_1 l Z aw hw [] va0 va1 k0 k1 xa xb ya h0 n0 (Nat.le_trans Z0 (Keep.refl h0 []).1) V_a0 V_a1) hZ (hw _ (List.mem_of_getElem? (i := 75) rfl)) (hw _ (List.mem_of_getElem? (i := 74) rfl)) (by decide) (by decide)) (g := (mkF m 44 #[.val (.ref a0), .val (.ref a1), .val (.ref a1)] [(.ref va1), (.ref va0)])) rfl (by rw [hml]; rfl) (argsL := [(.ref va0), (.ref va1)]) (rest := []) (lenOf pd_4 rfl) rfl (by show 2 * 0 + _ ≤ _; exact Nat.le_of_eq rfl) (hb hby d13_44) (fun _ _ => ⟨rfl, e7, (by decide : 0 + 0 ≤ _), (by decide : 0 + 0 ≤ _)⟩)
  dsimp only [Pt.U, Pt.locs, Pt.cells, Pt.slots] at X8 l8 y8 z8 st8 hQ8
  subst l8 y8 z8
  obtain ⟨rfl, Nq8, e8⟩ := hQ8
  have N8 := Fr.app N0 Nq8
  refine Rest.via (fun t k => st8 t k) ?_
  show Rest p.tables e below s _ _ _ (T8.setTop (mkF m 47 #[.val (.ref a0), .val (.ref a1), .val (.ref a1)] [(.int (if ([xa, xb] : List Int32) = [ya] then (1 : Int32) else 0))]))
  by_cases hz : (if ([xa, xb] : List Int32) = [ya] then (1 : Int32) else 0) = (0 : Int32)
  · refine Rest.via (fun t k => XS.ifYes X8.here hx rfl (pc0 := 47) (pc' := 54) rfl (hb hby d13_47) rfl ((if0 _ _).trans (teq hz).1) (by decide) (by decide) k) ?_
    show Rest p.tables e below s _ _ _ (T8.setTop (mkF m 54 #[.val (.ref a0), .val (.ref a1), .val (.ref a1)] []))
    refine Rest.via (fun t k => XS.iconst X8.here hx rfl (hb hby d13_54) k) ?_
    show Rest p.tables e below s _ _ _ (T8.setTop (mkF m 55 #[.val (.ref a0), .val (.ref a1), .val (.ref a1)] [(.int (0 : Int32))]))
    refine Rest.ret X8 (v := some (.int (nar .boolean (0 : Int32)))) (fun h => by rw [Bd.returns] at h; cases h) hlk (fun fs hr => retN X8 hx (t := .boolean) Bd.returns (by simp) (hb hby d13_55) hr) ?_ (by decide) (by decide)
    rw [e8]
    exact ⟨by show some (Value.int (0 : Int32)) = _; rw [hz], N8, rfl⟩
  · refine Rest.via (fun t k => XS.ifNo X8.here hx rfl (hb hby d13_47) rfl ((if0 _ _).trans (feq hz).1) k) ?_
    show Rest p.tables e below s _ _ _ (T8.setTop (mkF m 50 #[.val (.ref a0), .val (.ref a1), .val (.ref a1)] []))
    refine Rest.via (fun t k => XS.iconst X8.here hx rfl (hb hby d13_50) k) ?_
    show Rest p.tables e below s _ _ _ (T8.setTop (mkF m 51 #[.val (.ref a0), .val (.ref a1), .val (.ref a1)] [(.int (1 : Int32))]))
    refine Rest.via (fun t k => XS.goto X8.here hx rfl (pc0 := 51) (pc' := 55) rfl (hb hby d13_51) (by decide) (by decide) k) ?_
    show Rest p.tables e below s _ _ _ (T8.setTop (mkF m 55 #[.val (.ref a0), .val (.ref a1), .val (.ref a1)] [(.int (1 : Int32))]))
    refine Rest.ret X8 (v := some (.int (nar .boolean (1 : Int32)))) (fun h => by rw [Bd.returns] at h; cases h) hlk (fun fs hr => retN X8 hx (t := .boolean) Bd.returns (by simp) (hb hby d13_55) hr) ?_ (by decide) (by decide)
    rw [e8]
    exact ⟨by show some (Value.int (1 : Int32)) = _; rw [own_ite1 hz], N8, rfl⟩
theorem ef_LE2_2 (m : MethodId) (a0 : Addr) (a1 : Addr) : entryFrame m #[(.ref a0), (.ref a1)] 3 = mkF m 0 #[.val (.ref a0), .val (.ref a1), .unset] [] := by first | (simp [entryFrame, mkF, argsToLocals, Value.category, maxLocals]; done) | rfl
def QLE2_2 (Z : State) (a0 : Addr) (a1 : Addr) (k0 : ClassId) (k1 : ClassId) (xa : Int32) (xb : Int32) (ya : Int32) (yb : Int32) (h0 : Heap) (n0 : Nat) (v : Option Value) (h : Heap) (L : List Loc) : Prop := v = some (.int (if ([xa, xb] : List Int32) = [ya, yb] then (1 : Int32) else 0)) ∧ Fr n0 L ∧ h = h0
set_option maxRecDepth 65536 in
set_option maxHeartbeats 40000000 in
theorem rmLE2_2 (l : Launch) (Z : State) (aw : Array Value) (hw : ∀ d ∈ tables_1, d.before aw Z = true) (ws : List Jvm.Cond) (a0 : Addr) (a1 : Addr) (k0 : ClassId) (k1 : ClassId) (xa : Int32) (xb : Int32) (ya : Int32) (yb : Int32) (h0 : Heap) (n0 : Nat) (Z0 : n0 ≤ h0.size) (V0 : Arv Z h0 a0 k0 .byte (2 : Int32) [(.int xa), (.int xb)] (.int (0 : Int32))) (V1 : Arv Z h0 a1 k1 .byte (2 : Int32) [(.int ya), (.int yb)] (.int (0 : Int32))) :
    MetFree l (⟨"java/lang/StringLatin1", "equals", "([B[B)Z"⟩ : MethodName) (head1 (Jvm.Cond.code (⟨"java/lang/StringLatin1", "equals", "([B[B)Z"⟩ : MethodName) jdk_43_method_13_code 3 (some .boolean) :: ws) ({ frames := 0, cells := 0, slots := 0, locals := 0 } : Room)) (fun a U => a = #[(.ref a0), (.ref a1)] ∧ Z.Warmed39 U.vm ∧ U.heap = h0) (fun _ _ _ _ _ => True) (fun _ U o U' => ∃ v L, o = .returned v ∧ QLE2_2 Z a0 a1 k0 k1 xa xb ya yb h0 n0 v U'.heap L ∧ FrameEnd U o U' L ({ frames := 0, cells := 0, slots := 0, locals := 0 } : Room).cells ({ frames := 0, cells := 0, slots := 0, locals := 0 } : Room).slots) := by
  refine MetFree.of_bodySF (plainFor_of_name pn_2) hisR ?_
  intro p e s m args below meth c s₁ Bd hml0 hP hK
  obtain ⟨rfl, hZ, hh⟩ := hP
  have hx := Bd.exec
  have hby := Bd.bytes
  have hml : c.maxLocals = 3 := hml0
  have hown : s.vm.findClass "java/lang/StringLatin1" = some m.cls := findClass_of_methodNamed Bd.named
  have hnm := (name_of_methodNamed Bd.named Bd.method).1
  have hlk : meth.locks = false := BodyLoose.notSynchronized Bd
  have X0 : Stand p l e ({ frames := 0, cells := 0, slots := 0, locals := 0 } : Room) s m #[(.ref a0), (.ref a1)] below meth c s₁ [] 0 0 := Stand.of_body Bd
  have _u := trivial
  have eh0 : s₁.heap = h0 := by rw [← hh, Bd.state]; rfl
  have N0 := Fr.nil n0
  show Rest p.tables e below s (QLE2_2 Z a0 a1 k0 k1 xa xb ya yb h0 n0) _ _ (s₁.setTop (entryFrame m #[(.ref a0), (.ref a1)] 3))
  refine Rest.via (fun t k => castTop (ef_LE2_2 m a0 a1) k) ?_
  show Rest p.tables e below s _ _ _ (s₁.setTop (mkF m 0 #[.val (.ref a0), .val (.ref a1), .unset] []))
  refine Rest.via (fun t k => XS.aloadN X0.here hx rfl (hb hby d14_0) rfl rfl k) ?_
  show Rest p.tables e below s _ _ _ (s₁.setTop (mkF m 1 #[.val (.ref a0), .val (.ref a1), .unset] [(.ref a0)]))
  obtain ⟨cl1, Ar1, -, S1, P1, -, -⟩ := id V0
  refine Rest.via (fun t k => X0.arraylength hx (by rw [eh0]; exact Ar1.1) (State.isArrayOf_alike hZ.alike Ar1.2.1) (g := (mkF m 1 #[.val (.ref a0), .val (.ref a1), .unset] [(.ref a0)])) rfl rfl (hb hby d14_1) t k) ?_
  rw [len_of S1 P1]
  show Rest p.tables e below s _ _ _ (s₁.setTop (mkF m 2 #[.val (.ref a0), .val (.ref a1), .unset] [(.int (2 : Int32))]))
  refine Rest.via (fun t k => XS.aloadN X0.here hx rfl (hb hby d14_2) rfl rfl k) ?_
  show Rest p.tables e below s _ _ _ (s₁.setTop (mkF m 3 #[.val (.ref a0), .val (.ref a1), .unset] [(.ref a1), (.int (2 : Int32))]))
  obtain ⟨cl2, Ar2, -, S2, P2, -, -⟩ := id V1
  refine Rest.via (fun t k => X0.arraylength hx (by rw [eh0]; exact Ar2.1) (State.isArrayOf_alike hZ.alike Ar2.2.1) (g := (mkF m 3 #[.val (.ref a0), .val (.ref a1), .unset] [(.ref a1), (.int (2 : Int32))])) rfl rfl (hb hby d14_3) t k) ?_
  rw [len_of S2 P2]
  show Rest p.tables e below s _ _ _ (s₁.setTop (mkF m 4 #[.val (.ref a0), .val (.ref a1), .unset] [(.int (2 : Int32)), (.int (2 : Int32))]))
  refine Rest.via (fun t k => XS.icmpNo X0.here hx rfl (hb hby d14_4) rfl (teq (by decide : (2 : Int32) = (2 : Int32))).2 k) ?_
  show Rest p.tables e below s _ _ _ (s₁.setTop (mkF m 7 #[.val (.ref a0), .val (.ref a1), .unset] []))
  refine Rest.via (fun t k => XS.iconst X0.here hx rfl (hb hby d14_7) k) ?_
  show Rest p.tables e below s _ _ _ (s₁.setTop (mkF m 8 #[.val (.ref a0), .val (.ref a1), .unset] [(.int (0 : Int32))]))
  refine Rest.via (fun t k => XS.istoreN X0.here hx rfl (hb hby d14_8) rfl (l' := #[.val (.ref a0), .val (.ref a1), .val (.int (0 : Int32))]) rfl k) ?_
  show Rest p.tables e below s _ _ _ (s₁.setTop (mkF m 9 #[.val (.ref a0), .val (.ref a1), .val (.int (0 : Int32))] []))
  refine Rest.via (fun t k => XS.iloadN X0.here hx rfl (hb hby d14_9) rfl k) ?_
  show Rest p.tables e below s _ _ _ (s₁.setTop (mkF m 10 #[.val (.ref a0), .val (.ref a1), .val (.int (0 : Int32))] [(.int (0 : Int32))]))
  refine Rest.via (fun t k => XS.aloadN X0.here hx rfl (hb hby d14_10) rfl rfl k) ?_
  show Rest p.tables e below s _ _ _ (s₁.setTop (mkF m 11 #[.val (.ref a0), .val (.ref a1), .val (.int (0 : Int32))] [(.ref a0), (.int (0 : Int32))]))
  obtain ⟨cl3, Ar3, -, S3, P3, -, -⟩ := id V0
  refine Rest.via (fun t k => X0.arraylength hx (by rw [eh0]; exact Ar3.1) (State.isArrayOf_alike hZ.alike Ar3.2.1) (g := (mkF m 11 #[.val (.ref a0), .val (.ref a1), .val (.int (0 : Int32))] [(.ref a0), (.int (0 : Int32))])) rfl rfl (hb hby d14_11) t k) ?_
  rw [len_of S3 P3]
  show Rest p.tables e below s _ _ _ (s₁.setTop (mkF m 12 #[.val (.ref a0), .val (.ref a1), .val (.int (0 : Int32))] [(.int (2 : Int32)), (.int (0 : Int32))]))
  refine Rest.via (fun t k => XS.icmpNo X0.here hx rfl (hb hby d14_12) rfl (tlt (by decide : (0 : Int32) < (2 : Int32))).2.1 k) ?_
  show Rest p.tables e below s _ _ _ (s₁.setTop (mkF m 15 #[.val (.ref a0), .val (.ref a1), .val (.int (0 : Int32))] []))
  refine Rest.via (fun t k => XS.aloadN X0.here hx rfl (hb hby d14_15) rfl rfl k) ?_
  show Rest p.tables e below s _ _ _ (s₁.setTop (mkF m 16 #[.val (.ref a0), .val (.ref a1), .val (.int (0 : Int32))] [(.ref a0)]))
  refine Rest.via (fun t k => XS.iloadN X0.here hx rfl (hb hby d14_16) rfl k) ?_
  show Rest p.tables e below s _ _ _ (s₁.setTop (mkF m 17 #[.val (.ref a0), .val (.ref a1), .val (.int (0 : Int32))] [(.int (0 : Int32)), (.ref a0)]))
  obtain ⟨cl4, Ar4, qa4, Sa4, Pa4, Ha4, Ga4⟩ := id V0
  have hin4 := inb_of (j := (0 : Int32)) Sa4 ⟨by decide, by decide⟩
  have hat4 : cl4.slots[((0 : Int32)).toNatClampNeg]? = some (.int xa) := Has.at Ha4 hin4 rfl
  refine Rest.via (fun t k => X0.baloadBytes hx (j := (0 : Int32)) (v := (.int xa)) (by rw [eh0]; exact Ar4.1) (State.isArrayOf_alike hZ.alike Ar4.2.1) Ar4.2.2 hin4 hat4 (g := (mkF m 17 #[.val (.ref a0), .val (.ref a1), .val (.int (0 : Int32))] [(.int (0 : Int32)), (.ref a0)])) rfl rfl (hb hby d14_17) t k) ?_
  show Rest p.tables e below s _ _ _ (s₁.setTop (mkF m 18 #[.val (.ref a0), .val (.ref a1), .val (.int (0 : Int32))] [(.int xa)]))
  refine Rest.via (fun t k => XS.aloadN X0.here hx rfl (hb hby d14_18) rfl rfl k) ?_
  show Rest p.tables e below s _ _ _ (s₁.setTop (mkF m 19 #[.val (.ref a0), .val (.ref a1), .val (.int (0 : Int32))] [(.ref a1), (.int xa)]))
  refine Rest.via (fun t k => XS.iloadN X0.here hx rfl (hb hby d14_19) rfl k) ?_
  show Rest p.tables e below s _ _ _ (s₁.setTop (mkF m 20 #[.val (.ref a0), .val (.ref a1), .val (.int (0 : Int32))] [(.int (0 : Int32)), (.ref a1), (.int xa)]))
  obtain ⟨cl5, Ar5, qa5, Sa5, Pa5, Ha5, Ga5⟩ := id V1
  have hin5 := inb_of (j := (0 : Int32)) Sa5 ⟨by decide, by decide⟩
  have hat5 : cl5.slots[((0 : Int32)).toNatClampNeg]? = some (.int ya) := Has.at Ha5 hin5 rfl
  refine Rest.via (fun t k => X0.baloadBytes hx (j := (0 : Int32)) (v := (.int ya)) (by rw [eh0]; exact Ar5.1) (State.isArrayOf_alike hZ.alike Ar5.2.1) Ar5.2.2 hin5 hat5 (g := (mkF m 20 #[.val (.ref a0), .val (.ref a1), .val (.int (0 : Int32))] [(.int (0 : Int32)), (.ref a1), (.int xa)])) rfl rfl (hb hby d14_20) t k) ?_
  show Rest p.tables e below s _ _ _ (s₁.setTop (mkF m 21 #[.val (.ref a0), .val (.ref a1), .val (.int (0 : Int32))] [(.int ya), (.int xa)]))
  by_cases hq0 : xa = ya
  · refine Rest.via (fun t k => XS.icmpYes X0.here hx rfl (pc0 := 21) (pc' := 26) rfl (hb hby d14_21) rfl (teq hq0).1 (by decide) (by decide) k) ?_
    show Rest p.tables e below s _ _ _ (s₁.setTop (mkF m 26 #[.val (.ref a0), .val (.ref a1), .val (.int (0 : Int32))] []))
    refine Rest.via (fun t k => XS.iinc X0.here hx rfl (hb hby d14_26) rfl (l' := #[.val (.ref a0), .val (.ref a1), .val (.int ((0 : Int32) + (1 : Int32)))]) rfl k) ?_
    show Rest p.tables e below s _ _ _ (s₁.setTop (mkF m 29 #[.val (.ref a0), .val (.ref a1), .val (.int ((0 : Int32) + (1 : Int32)))] []))
    rw [(by decide : ((0 : Int32) + (1 : Int32)) = (1 : Int32))]
    show Rest p.tables e below s _ _ _ (s₁.setTop (mkF m 29 #[.val (.ref a0), .val (.ref a1), .val (.int (1 : Int32))] []))
    refine Rest.via (fun t k => XS.goto X0.here hx rfl (pc0 := 29) (pc' := 9) rfl (hb hby d14_29) (by decide) (by decide) k) ?_
    show Rest p.tables e below s _ _ _ (s₁.setTop (mkF m 9 #[.val (.ref a0), .val (.ref a1), .val (.int (1 : Int32))] []))
    refine Rest.via (fun t k => XS.iloadN X0.here hx rfl (hb hby d14_9) rfl k) ?_
    show Rest p.tables e below s _ _ _ (s₁.setTop (mkF m 10 #[.val (.ref a0), .val (.ref a1), .val (.int (1 : Int32))] [(.int (1 : Int32))]))
    refine Rest.via (fun t k => XS.aloadN X0.here hx rfl (hb hby d14_10) rfl rfl k) ?_
    show Rest p.tables e below s _ _ _ (s₁.setTop (mkF m 11 #[.val (.ref a0), .val (.ref a1), .val (.int (1 : Int32))] [(.ref a0), (.int (1 : Int32))]))
    obtain ⟨cl6, Ar6, -, S6, P6, -, -⟩ := id V0
    refine Rest.via (fun t k => X0.arraylength hx (by rw [eh0]; exact Ar6.1) (State.isArrayOf_alike hZ.alike Ar6.2.1) (g := (mkF m 11 #[.val (.ref a0), .val (.ref a1), .val (.int (1 : Int32))] [(.ref a0), (.int (1 : Int32))])) rfl rfl (hb hby d14_11) t k) ?_
    rw [len_of S6 P6]
    show Rest p.tables e below s _ _ _ (s₁.setTop (mkF m 12 #[.val (.ref a0), .val (.ref a1), .val (.int (1 : Int32))] [(.int (2 : Int32)), (.int (1 : Int32))]))
    refine Rest.via (fun t k => XS.icmpNo X0.here hx rfl (hb hby d14_12) rfl (tlt (by decide : (1 : Int32) < (2 : Int32))).2.1 k) ?_
    show Rest p.tables e below s _ _ _ (s₁.setTop (mkF m 15 #[.val (.ref a0), .val (.ref a1), .val (.int (1 : Int32))] []))
    refine Rest.via (fun t k => XS.aloadN X0.here hx rfl (hb hby d14_15) rfl rfl k) ?_
    show Rest p.tables e below s _ _ _ (s₁.setTop (mkF m 16 #[.val (.ref a0), .val (.ref a1), .val (.int (1 : Int32))] [(.ref a0)]))
    refine Rest.via (fun t k => XS.iloadN X0.here hx rfl (hb hby d14_16) rfl k) ?_
    show Rest p.tables e below s _ _ _ (s₁.setTop (mkF m 17 #[.val (.ref a0), .val (.ref a1), .val (.int (1 : Int32))] [(.int (1 : Int32)), (.ref a0)]))
    obtain ⟨cl7, Ar7, qa7, Sa7, Pa7, Ha7, Ga7⟩ := id V0
    have hin7 := inb_of (j := (1 : Int32)) Sa7 ⟨by decide, by decide⟩
    have hat7 : cl7.slots[((1 : Int32)).toNatClampNeg]? = some (.int xb) := Has.at Ha7 hin7 rfl
    refine Rest.via (fun t k => X0.baloadBytes hx (j := (1 : Int32)) (v := (.int xb)) (by rw [eh0]; exact Ar7.1) (State.isArrayOf_alike hZ.alike Ar7.2.1) Ar7.2.2 hin7 hat7 (g := (mkF m 17 #[.val (.ref a0), .val (.ref a1), .val (.int (1 : Int32))] [(.int (1 : Int32)), (.ref a0)])) rfl rfl (hb hby d14_17) t k) ?_
    show Rest p.tables e below s _ _ _ (s₁.setTop (mkF m 18 #[.val (.ref a0), .val (.ref a1), .val (.int (1 : Int32))] [(.int xb)]))
    refine Rest.via (fun t k => XS.aloadN X0.here hx rfl (hb hby d14_18) rfl rfl k) ?_
    show Rest p.tables e below s _ _ _ (s₁.setTop (mkF m 19 #[.val (.ref a0), .val (.ref a1), .val (.int (1 : Int32))] [(.ref a1), (.int xb)]))
    refine Rest.via (fun t k => XS.iloadN X0.here hx rfl (hb hby d14_19) rfl k) ?_
    show Rest p.tables e below s _ _ _ (s₁.setTop (mkF m 20 #[.val (.ref a0), .val (.ref a1), .val (.int (1 : Int32))] [(.int (1 : Int32)), (.ref a1), (.int xb)]))
    obtain ⟨cl8, Ar8, qa8, Sa8, Pa8, Ha8, Ga8⟩ := id V1
    have hin8 := inb_of (j := (1 : Int32)) Sa8 ⟨by decide, by decide⟩
    have hat8 : cl8.slots[((1 : Int32)).toNatClampNeg]? = some (.int yb) := Has.at Ha8 hin8 rfl
    refine Rest.via (fun t k => X0.baloadBytes hx (j := (1 : Int32)) (v := (.int yb)) (by rw [eh0]; exact Ar8.1) (State.isArrayOf_alike hZ.alike Ar8.2.1) Ar8.2.2 hin8 hat8 (g := (mkF m 20 #[.val (.ref a0), .val (.ref a1), .val (.int (1 : Int32))] [(.int (1 : Int32)), (.ref a1), (.int xb)])) rfl rfl (hb hby d14_20) t k) ?_
    show Rest p.tables e below s _ _ _ (s₁.setTop (mkF m 21 #[.val (.ref a0), .val (.ref a1), .val (.int (1 : Int32))] [(.int yb), (.int xb)]))
    by_cases hq1 : xb = yb
    · refine Rest.via (fun t k => XS.icmpYes X0.here hx rfl (pc0 := 21) (pc' := 26) rfl (hb hby d14_21) rfl (teq hq1).1 (by decide) (by decide) k) ?_
      show Rest p.tables e below s _ _ _ (s₁.setTop (mkF m 26 #[.val (.ref a0), .val (.ref a1), .val (.int (1 : Int32))] []))
      refine Rest.via (fun t k => XS.iinc X0.here hx rfl (hb hby d14_26) rfl (l' := #[.val (.ref a0), .val (.ref a1), .val (.int ((1 : Int32) + (1 : Int32)))]) rfl k) ?_
      show Rest p.tables e below s _ _ _ (s₁.setTop (mkF m 29 #[.val (.ref a0), .val (.ref a1), .val (.int ((1 : Int32) + (1 : Int32)))] []))
      rw [(by decide : ((1 : Int32) + (1 : Int32)) = (2 : Int32))]
      show Rest p.tables e below s _ _ _ (s₁.setTop (mkF m 29 #[.val (.ref a0), .val (.ref a1), .val (.int (2 : Int32))] []))
      refine Rest.via (fun t k => XS.goto X0.here hx rfl (pc0 := 29) (pc' := 9) rfl (hb hby d14_29) (by decide) (by decide) k) ?_
      show Rest p.tables e below s _ _ _ (s₁.setTop (mkF m 9 #[.val (.ref a0), .val (.ref a1), .val (.int (2 : Int32))] []))
      refine Rest.via (fun t k => XS.iloadN X0.here hx rfl (hb hby d14_9) rfl k) ?_
      show Rest p.tables e below s _ _ _ (s₁.setTop (mkF m 10 #[.val (.ref a0), .val (.ref a1), .val (.int (2 : Int32))] [(.int (2 : Int32))]))
      refine Rest.via (fun t k => XS.aloadN X0.here hx rfl (hb hby d14_10) rfl rfl k) ?_
      show Rest p.tables e below s _ _ _ (s₁.setTop (mkF m 11 #[.val (.ref a0), .val (.ref a1), .val (.int (2 : Int32))] [(.ref a0), (.int (2 : Int32))]))
      obtain ⟨cl9, Ar9, -, S9, P9, -, -⟩ := id V0
      refine Rest.via (fun t k => X0.arraylength hx (by rw [eh0]; exact Ar9.1) (State.isArrayOf_alike hZ.alike Ar9.2.1) (g := (mkF m 11 #[.val (.ref a0), .val (.ref a1), .val (.int (2 : Int32))] [(.ref a0), (.int (2 : Int32))])) rfl rfl (hb hby d14_11) t k) ?_
      rw [len_of S9 P9]
      show Rest p.tables e below s _ _ _ (s₁.setTop (mkF m 12 #[.val (.ref a0), .val (.ref a1), .val (.int (2 : Int32))] [(.int (2 : Int32)), (.int (2 : Int32))]))
      refine Rest.via (fun t k => XS.icmpYes X0.here hx rfl (pc0 := 12) (pc' := 32) rfl (hb hby d14_12) rfl (flt (by decide : ¬ ((2 : Int32) < (2 : Int32)))).2.1 (by decide) (by decide) k) ?_
      show Rest p.tables e below s _ _ _ (s₁.setTop (mkF m 32 #[.val (.ref a0), .val (.ref a1), .val (.int (2 : Int32))] []))
      refine Rest.via (fun t k => XS.iconst X0.here hx rfl (hb hby d14_32) k) ?_
      show Rest p.tables e below s _ _ _ (s₁.setTop (mkF m 33 #[.val (.ref a0), .val (.ref a1), .val (.int (2 : Int32))] [(.int (1 : Int32))]))
      refine Rest.ret X0 (v := some (.int (nar .boolean (1 : Int32)))) (fun h => by rw [Bd.returns] at h; cases h) hlk (fun fs hr => retN X0 hx (t := .boolean) Bd.returns (by simp) (hb hby d14_33) hr) ?_ (by decide) (by decide)
      rw [eh0]
      exact ⟨by show some (Value.int (1 : Int32)) = _; rw [if_pos (by rw [hq0, hq1])], N0, rfl⟩
    · refine Rest.via (fun t k => XS.icmpNo X0.here hx rfl (hb hby d14_21) rfl (feq hq1).1 k) ?_
      show Rest p.tables e below s _ _ _ (s₁.setTop (mkF m 24 #[.val (.ref a0), .val (.ref a1), .val (.int (1 : Int32))] []))
      refine Rest.via (fun t k => XS.iconst X0.here hx rfl (hb hby d14_24) k) ?_
      show Rest p.tables e below s _ _ _ (s₁.setTop (mkF m 25 #[.val (.ref a0), .val (.ref a1), .val (.int (1 : Int32))] [(.int (0 : Int32))]))
      refine Rest.ret X0 (v := some (.int (nar .boolean (0 : Int32)))) (fun h => by rw [Bd.returns] at h; cases h) hlk (fun fs hr => retN X0 hx (t := .boolean) Bd.returns (by simp) (hb hby d14_25) hr) ?_ (by decide) (by decide)
      rw [eh0]
      exact ⟨by show some (Value.int (0 : Int32)) = _; rw [if_neg (by simp [hq1])], N0, rfl⟩
  · refine Rest.via (fun t k => XS.icmpNo X0.here hx rfl (hb hby d14_21) rfl (feq hq0).1 k) ?_
    show Rest p.tables e below s _ _ _ (s₁.setTop (mkF m 24 #[.val (.ref a0), .val (.ref a1), .val (.int (0 : Int32))] []))
    refine Rest.via (fun t k => XS.iconst X0.here hx rfl (hb hby d14_24) k) ?_
    show Rest p.tables e below s _ _ _ (s₁.setTop (mkF m 25 #[.val (.ref a0), .val (.ref a1), .val (.int (0 : Int32))] [(.int (0 : Int32))]))
    refine Rest.ret X0 (v := some (.int (nar .boolean (0 : Int32)))) (fun h => by rw [Bd.returns] at h; cases h) hlk (fun fs hr => retN X0 hx (t := .boolean) Bd.returns (by simp) (hb hby d14_25) hr) ?_ (by decide) (by decide)
    rw [eh0]
    exact ⟨by show some (Value.int (0 : Int32)) = _; rw [if_neg (by simp [hq0])], N0, rfl⟩
theorem ef_SE2_2 (m : MethodId) (a0 : Addr) (a1 : Addr) : entryFrame m #[(.ref a0), (.ref a1)] 3 = mkF m 0 #[.val (.ref a0), .val (.ref a1), .unset] [] := by first | (simp [entryFrame, mkF, argsToLocals, Value.category, maxLocals]; done) | rfl
def QSE2_2 (Z : State) (a0 : Addr) (a1 : Addr) (va0 : Addr) (k0 : ClassId) (va1 : Addr) (k1 : ClassId) (ic : Int32) (xa : Int32) (xb : Int32) (ya : Int32) (yb : Int32) (h0 : Heap) (n0 : Nat) (v : Option Value) (h : Heap) (L : List Loc) : Prop := v = some (.int (if ([xa, xb] : List Int32) = [ya, yb] then (1 : Int32) else 0)) ∧ Fr n0 L ∧ h = h0
set_option maxRecDepth 65536 in
set_option maxHeartbeats 40000000 in
theorem rmSE2_2 (l : Launch) (Z : State) (aw : Array Value) (hw : ∀ d ∈ tables_1, d.before aw Z = true) (ws : List Jvm.Cond) (a0 : Addr) (a1 : Addr) (va0 : Addr) (k0 : ClassId) (va1 : Addr) (k1 : ClassId) (ic : Int32) (xa : Int32) (xb : Int32) (ya : Int32) (yb : Int32) (h0 : Heap) (n0 : Nat) (Z0 : n0 ≤ h0.size) (S0 : own_St Z h0 a0 va0 k0 (2 : Int32) [(.int xa), (.int xb)]) (S1 : own_St Z h0 a1 va1 k1 (2 : Int32) [(.int ya), (.int yb)]) (n01 : a0 ≠ a1) (O : Old Z n0 h0) (CS : own_CS Z ic) :
    MetFree l (⟨"java/lang/String", "equals", "(Ljava/lang/Object;)Z"⟩ : MethodName) (head1 (Jvm.Cond.code (⟨"java/lang/String", "equals", "(Ljava/lang/Object;)Z"⟩ : MethodName) jdk_42_method_66_code 3 (some .boolean) :: ws) ({ frames := 1, cells := 0, slots := 0, locals := 14 } : Room)) (fun a U => a = #[(.ref a0), (.ref a1)] ∧ Z.Warmed39 U.vm ∧ U.heap = h0) (fun _ _ _ _ _ => True) (fun _ U o U' => ∃ v L, o = .returned v ∧ QSE2_2 Z a0 a1 va0 k0 va1 k1 ic xa xb ya yb h0 n0 v U'.heap L ∧ FrameEnd U o U' L ({ frames := 1, cells := 0, slots := 0, locals := 14 } : Room).cells ({ frames := 1, cells := 0, slots := 0, locals := 14 } : Room).slots) := by
  refine MetFree.of_bodySF (plainFor_of_name pn_1) hisR ?_
  intro p e s m args below meth c s₁ Bd hml0 hP hK
  obtain ⟨rfl, hZ, hh⟩ := hP
  have hx := Bd.exec
  have hby := Bd.bytes
  have hml : c.maxLocals = 3 := hml0
  have hown : s.vm.findClass "java/lang/String" = some m.cls := findClass_of_methodNamed Bd.named
  have hnm := (name_of_methodNamed Bd.named Bd.method).1
  have hlk : meth.locks = false := BodyLoose.notSynchronized Bd
  have X0 : Stand p l e ({ frames := 1, cells := 0, slots := 0, locals := 14 } : Room) s m #[(.ref a0), (.ref a1)] below meth c s₁ [] 0 0 := Stand.of_body Bd
  have _u := trivial
  have eh0 : s₁.heap = h0 := by rw [← hh, Bd.state]; rfl
  have N0 := Fr.nil n0
  show Rest p.tables e below s (QSE2_2 Z a0 a1 va0 k0 va1 k1 ic xa xb ya yb h0 n0) _ _ (s₁.setTop (entryFrame m #[(.ref a0), (.ref a1)] 3))
  refine Rest.via (fun t k => castTop (ef_SE2_2 m a0 a1) k) ?_
  obtain ⟨E_a0, Fv_a0, Fc_a0, V_a0⟩ := id S0
  obtain ⟨E_a1, Fv_a1, Fc_a1, V_a1⟩ := id S1
  show Rest p.tables e below s _ _ _ (s₁.setTop (mkF m 0 #[.val (.ref a0), .val (.ref a1), .unset] []))
  refine Rest.via (fun t k => XS.aloadN X0.here hx rfl (hb hby d13_0) rfl rfl k) ?_
  show Rest p.tables e below s _ _ _ (s₁.setTop (mkF m 1 #[.val (.ref a0), .val (.ref a1), .unset] [(.ref a0)]))
  refine Rest.via (fun t k => XS.aloadN X0.here hx rfl (hb hby d13_1) rfl rfl k) ?_
  show Rest p.tables e below s _ _ _ (s₁.setTop (mkF m 2 #[.val (.ref a0), .val (.ref a1), .unset] [(.ref a1), (.ref a0)]))
  refine Rest.via (fun t k => Jvm.RoadKit.acmp (g := (mkF m 2 #[.val (.ref a0), .val (.ref a1), .unset] [(.ref a1), (.ref a0)])) X0 hx rfl rfl rfl (pc0 := 2) (pc' := 7) (same := false) rfl (hb hby d13_2) rfl (decide_eq_false fun q => n01 (Value.ref.inj q)) (by decide) (by decide) k) ?_
  show Rest p.tables e below s _ _ _ (s₁.setTop (mkF m 7 #[.val (.ref a0), .val (.ref a1), .unset] []))
  refine Rest.via (fun t k => XS.aloadN X0.here hx rfl (hb hby d13_7) rfl rfl k) ?_
  show Rest p.tables e below s _ _ _ (s₁.setTop (mkF m 8 #[.val (.ref a0), .val (.ref a1), .unset] [(.ref a1)]))
  obtain ⟨T1, X1, e1, st1⟩ := instY X0 hx hZ hown (hw _ (List.mem_of_getElem? (i := 71) rfl)) eh0 (Ins.self E_a1) (g := (mkF m 8 #[.val (.ref a0), .val (.ref a1), .unset] [(.ref a1)])) rfl rfl (hb hby d13_8)
  refine Rest.via (fun t k => st1 t k) ?_
  show Rest p.tables e below s _ _ _ (T1.setTop (mkF m 11 #[.val (.ref a0), .val (.ref a1), .unset] [(.int (1 : Int32))]))
  refine Rest.via (fun t k => XS.ifNo X1.here hx rfl (hb hby d13_11) rfl ((if0 _ _).trans (feq (by decide : ¬ ((1 : Int32) = (0 : Int32)))).1) k) ?_
  show Rest p.tables e below s _ _ _ (T1.setTop (mkF m 14 #[.val (.ref a0), .val (.ref a1), .unset] []))
  refine Rest.via (fun t k => XS.aloadN X1.here hx rfl (hb hby d13_14) rfl rfl k) ?_
  show Rest p.tables e below s _ _ _ (T1.setTop (mkF m 15 #[.val (.ref a0), .val (.ref a1), .unset] [(.ref a1)]))
  obtain ⟨T2, X2, e2, st2⟩ := castY X1 hx hZ hown (hw _ (List.mem_of_getElem? (i := 71) rfl)) e1 (Ins.self E_a1) (g := (mkF m 15 #[.val (.ref a0), .val (.ref a1), .unset] [(.ref a1)])) rfl rfl (hb hby d13_15)
  refine Rest.via (fun t k => st2 t k) ?_
  show Rest p.tables e below s _ _ _ (T2.setTop (mkF m 18 #[.val (.ref a0), .val (.ref a1), .unset] [(.ref a1)]))
  refine Rest.via (fun t k => XS.astoreN X2.here hx rfl (hb hby d13_18) rfl rfl (l' := #[.val (.ref a0), .val (.ref a1), .val (.ref a1)]) rfl k) ?_
  show Rest p.tables e below s _ _ _ (T2.setTop (mkF m 19 #[.val (.ref a0), .val (.ref a1), .val (.ref a1)] []))
  obtain ⟨T3, X3, e3, st3⟩ := getS2 X2 hx hZ hown (host := "") (Or.inl (hw _ (List.mem_of_getElem? (i := 45) rfl))) Via.refl e2 (CS.1.ext (O.keep (Keep.refl h0 []) all0).2) (g := (mkF m 19 #[.val (.ref a0), .val (.ref a1), .val (.ref a1)] [])) rfl (hb hby d13_19)
  refine Rest.via (fun t k => st3 t k) ?_
  show Rest p.tables e below s _ _ _ (T3.setTop (mkF m 22 #[.val (.ref a0), .val (.ref a1), .val (.ref a1)] [(.int ic)]))
  refine Rest.via (fun t k => XS.ifNo X3.here hx rfl (hb hby d13_22) rfl ((if0 _ _).trans (feq (CS.2 : ¬ (ic = (0 : Int32)))).1) k) ?_
  show Rest p.tables e below s _ _ _ (T3.setTop (mkF m 25 #[.val (.ref a0), .val (.ref a1), .val (.ref a1)] []))
  refine Rest.via (fun t k => XS.aloadN X3.here hx rfl (hb hby d13_25) rfl rfl k) ?_
  show Rest p.tables e below s _ _ _ (T3.setTop (mkF m 26 #[.val (.ref a0), .val (.ref a1), .val (.ref a1)] [(.ref a0)]))
  obtain ⟨T4, X4, e4, st4⟩ := getF X3 hx hZ hown (host := "") (Or.inl (hw _ (List.mem_of_getElem? (i := 28) rfl))) Via.refl e3 Fc_a0 (g := (mkF m 26 #[.val (.ref a0), .val (.ref a1), .val (.ref a1)] [(.ref a0)])) rfl rfl (hb hby d13_26)
  refine Rest.via (fun t k => st4 t k) ?_
  show Rest p.tables e below s _ _ _ (T4.setTop (mkF m 29 #[.val (.ref a0), .val (.ref a1), .val (.ref a1)] [(.int (0 : Int32))]))
  refine Rest.via (fun t k => XS.aloadN X4.here hx rfl (hb hby d13_29) rfl rfl k) ?_
  show Rest p.tables e below s _ _ _ (T4.setTop (mkF m 30 #[.val (.ref a0), .val (.ref a1), .val (.ref a1)] [(.ref a1), (.int (0 : Int32))]))
  obtain ⟨T5, X5, e5, st5⟩ := getF X4 hx hZ hown (host := "") (Or.inl (hw _ (List.mem_of_getElem? (i := 28) rfl))) Via.refl e4 Fc_a1 (g := (mkF m 30 #[.val (.ref a0), .val (.ref a1), .val (.ref a1)] [(.ref a1), (.int (0 : Int32))])) rfl rfl (hb hby d13_30)
  refine Rest.via (fun t k => st5 t k) ?_
  show Rest p.tables e below s _ _ _ (T5.setTop (mkF m 33 #[.val (.ref a0), .val (.ref a1), .val (.ref a1)] [(.int (0 : Int32)), (.int (0 : Int32))]))
  refine Rest.via (fun t k => XS.icmpNo X5.here hx rfl (hb hby d13_33) rfl (teq (by decide : (0 : Int32) = (0 : Int32))).2 k) ?_
  show Rest p.tables e below s _ _ _ (T5.setTop (mkF m 36 #[.val (.ref a0), .val (.ref a1), .val (.ref a1)] []))
  refine Rest.via (fun t k => XS.aloadN X5.here hx rfl (hb hby d13_36) rfl rfl k) ?_
  show Rest p.tables e below s _ _ _ (T5.setTop (mkF m 37 #[.val (.ref a0), .val (.ref a1), .val (.ref a1)] [(.ref a0)]))
  obtain ⟨T6, X6, e6, st6⟩ := getF X5 hx hZ hown (host := "") (Or.inl (hw _ (List.mem_of_getElem? (i := 27) rfl))) Via.refl e5 Fv_a0 (g := (mkF m 37 #[.val (.ref a0), .val (.ref a1), .val (.ref a1)] [(.ref a0)])) rfl rfl (hb hby d13_37)
  refine Rest.via (fun t k => st6 t k) ?_
  show Rest p.tables e below s _ _ _ (T6.setTop (mkF m 40 #[.val (.ref a0), .val (.ref a1), .val (.ref a1)] [(.ref va0)]))
  refine Rest.via (fun t k => XS.aloadN X6.here hx rfl (hb hby d13_40) rfl rfl k) ?_
  show Rest p.tables e below s _ _ _ (T6.setTop (mkF m 41 #[.val (.ref a0), .val (.ref a1), .val (.ref a1)] [(.ref a1), (.ref va0)]))
  obtain ⟨T7, X7, e7, st7⟩ := getF X6 hx hZ hown (host := "") (Or.inl (hw _ (List.mem_of_getElem? (i := 27) rfl))) Via.refl e6 Fv_a1 (g := (mkF m 41 #[.val (.ref a0), .val (.ref a1), .val (.ref a1)] [(.ref a1), (.ref va0)])) rfl rfl (hb hby d13_41)
  refine Rest.via (fun t k => st7 t k) ?_
  show Rest p.tables e below s _ _ _ (T7.setTop (mkF m 44 #[.val (.ref a0), .val (.ref a1), .val (.ref a1)] [(.ref va1), (.ref va0)]))
  obtain ⟨_, _, ⟨T8, L8, k8, n8⟩, -, X8, ⟨Lc8, hQ8, l8, y8, z8⟩, st8⟩ := Jvm.LawKit.callS X7 hx (y := (⟨"java/lang/StringLatin1", "equals", "([B[B)Z"⟩ : MethodName)) hown (mvT hZ (hw _ (List.mem_of_getElem? (i := 72) rfl))) (mvT hZ (hw _ (List.mem_of_getElem? (i := 73) rfl))) (mvT hZ (hw _ (List.mem_of_getElem? (i := 74) rfl))) (mvT hZ (hw _ (List.mem_of_getElem? (i := 75) rfl))) (by decide) (backOf (W := 0) (rmLE2_2 l Z aw hw [] va0 va1 k0 k1 xa xb ya yb h0 n0 (Nat.le_trans Z0 (Keep.refl h0 []).1) V_a0 V_a1) hZ (hw _ (List.mem_of_getElem? (i := 75) rfl)) (hw _ (List.mem_of_getElem? (i := 74) rfl)) (by decide) (by decide)) (g := (mkF m 44 #[.val (.ref a0), .val (.ref a1), .val (.ref a1)] [(.ref va1), (.ref va0)])) rfl (by rw [hml]; rfl) (argsL := [(.ref va0), (.ref va1)]) (rest := []) (lenOf pd_4 rfl) rfl (by show 2 * 0 + _ ≤ _; exact Nat.le_of_eq rfl) (hb hby d13_44) (fun _ _ => ⟨rfl, e7, (by decide : 0 + 0 ≤ _), (by decide : 0 + 0 ≤ _)⟩)
  dsimp only [Pt.U, Pt.locs, Pt.cells, Pt.slots] at X8 l8 y8 z8 st8 hQ8
  subst l8 y8 z8
  obtain ⟨rfl, Nq8, e8⟩ := hQ8
  have N8 := Fr.app N0 Nq8
  refine Rest.via (fun t k => st8 t k) ?_
  show Rest p.tables e below s _ _ _ (T8.setTop (mkF m 47 #[.val (.ref a0), .val (.ref a1), .val (.ref a1)] [(.int (if ([xa, xb] : List Int32) = [ya, yb] then (1 : Int32) else 0))]))
  by_cases hz : (if ([xa, xb] : List Int32) = [ya, yb] then (1 : Int32) else 0) = (0 : Int32)
  · refine Rest.via (fun t k => XS.ifYes X8.here hx rfl (pc0 := 47) (pc' := 54) rfl (hb hby d13_47) rfl ((if0 _ _).trans (teq hz).1) (by decide) (by decide) k) ?_
    show Rest p.tables e below s _ _ _ (T8.setTop (mkF m 54 #[.val (.ref a0), .val (.ref a1), .val (.ref a1)] []))
    refine Rest.via (fun t k => XS.iconst X8.here hx rfl (hb hby d13_54) k) ?_
    show Rest p.tables e below s _ _ _ (T8.setTop (mkF m 55 #[.val (.ref a0), .val (.ref a1), .val (.ref a1)] [(.int (0 : Int32))]))
    refine Rest.ret X8 (v := some (.int (nar .boolean (0 : Int32)))) (fun h => by rw [Bd.returns] at h; cases h) hlk (fun fs hr => retN X8 hx (t := .boolean) Bd.returns (by simp) (hb hby d13_55) hr) ?_ (by decide) (by decide)
    rw [e8]
    exact ⟨by show some (Value.int (0 : Int32)) = _; rw [hz], N8, rfl⟩
  · refine Rest.via (fun t k => XS.ifNo X8.here hx rfl (hb hby d13_47) rfl ((if0 _ _).trans (feq hz).1) k) ?_
    show Rest p.tables e below s _ _ _ (T8.setTop (mkF m 50 #[.val (.ref a0), .val (.ref a1), .val (.ref a1)] []))
    refine Rest.via (fun t k => XS.iconst X8.here hx rfl (hb hby d13_50) k) ?_
    show Rest p.tables e below s _ _ _ (T8.setTop (mkF m 51 #[.val (.ref a0), .val (.ref a1), .val (.ref a1)] [(.int (1 : Int32))]))
    refine Rest.via (fun t k => XS.goto X8.here hx rfl (pc0 := 51) (pc' := 55) rfl (hb hby d13_51) (by decide) (by decide) k) ?_
    show Rest p.tables e below s _ _ _ (T8.setTop (mkF m 55 #[.val (.ref a0), .val (.ref a1), .val (.ref a1)] [(.int (1 : Int32))]))
    refine Rest.ret X8 (v := some (.int (nar .boolean (1 : Int32)))) (fun h => by rw [Bd.returns] at h; cases h) hlk (fun fs hr => retN X8 hx (t := .boolean) Bd.returns (by simp) (hb hby d13_55) hr) ?_ (by decide) (by decide)
    rw [e8]
    exact ⟨by show some (Value.int (1 : Int32)) = _; rw [own_ite1 hz], N8, rfl⟩
theorem ef_LE2_3 (m : MethodId) (a0 : Addr) (a1 : Addr) : entryFrame m #[(.ref a0), (.ref a1)] 3 = mkF m 0 #[.val (.ref a0), .val (.ref a1), .unset] [] := by first | (simp [entryFrame, mkF, argsToLocals, Value.category, maxLocals]; done) | rfl
def QLE2_3 (Z : State) (a0 : Addr) (a1 : Addr) (k0 : ClassId) (k1 : ClassId) (xa : Int32) (xb : Int32) (ya : Int32) (yb : Int32) (yc : Int32) (h0 : Heap) (n0 : Nat) (v : Option Value) (h : Heap) (L : List Loc) : Prop := v = some (.int (if ([xa, xb] : List Int32) = [ya, yb, yc] then (1 : Int32) else 0)) ∧ Fr n0 L ∧ h = h0
set_option maxRecDepth 65536 in
set_option maxHeartbeats 40000000 in
theorem rmLE2_3 (l : Launch) (Z : State) (aw : Array Value) (hw : ∀ d ∈ tables_1, d.before aw Z = true) (ws : List Jvm.Cond) (a0 : Addr) (a1 : Addr) (k0 : ClassId) (k1 : ClassId) (xa : Int32) (xb : Int32) (ya : Int32) (yb : Int32) (yc : Int32) (h0 : Heap) (n0 : Nat) (Z0 : n0 ≤ h0.size) (V0 : Arv Z h0 a0 k0 .byte (2 : Int32) [(.int xa), (.int xb)] (.int (0 : Int32))) (V1 : Arv Z h0 a1 k1 .byte (3 : Int32) [(.int ya), (.int yb), (.int yc)] (.int (0 : Int32))) :
    MetFree l (⟨"java/lang/StringLatin1", "equals", "([B[B)Z"⟩ : MethodName) (head1 (Jvm.Cond.code (⟨"java/lang/StringLatin1", "equals", "([B[B)Z"⟩ : MethodName) jdk_43_method_13_code 3 (some .boolean) :: ws) ({ frames := 0, cells := 0, slots := 0, locals := 0 } : Room)) (fun a U => a = #[(.ref a0), (.ref a1)] ∧ Z.Warmed39 U.vm ∧ U.heap = h0) (fun _ _ _ _ _ => True) (fun _ U o U' => ∃ v L, o = .returned v ∧ QLE2_3 Z a0 a1 k0 k1 xa xb ya yb yc h0 n0 v U'.heap L ∧ FrameEnd U o U' L ({ frames := 0, cells := 0, slots := 0, locals := 0 } : Room).cells ({ frames := 0, cells := 0, slots := 0, locals := 0 } : Room).slots) := by
  refine MetFree.of_bodySF (plainFor_of_name pn_2) hisR ?_
  intro p e s m args below meth c s₁ Bd hml0 hP hK
  obtain ⟨rfl, hZ, hh⟩ := hP
  have hx := Bd.exec
  have hby := Bd.bytes
  have hml : c.maxLocals = 3 := hml0
  have hown : s.vm.findClass "java/lang/StringLatin1" = some m.cls := findClass_of_methodNamed Bd.named
  have hnm := (name_of_methodNamed Bd.named Bd.method).1
  have hlk : meth.locks = false := BodyLoose.notSynchronized Bd
  have X0 : Stand p l e ({ frames := 0, cells := 0, slots := 0, locals := 0 } : Room) s m #[(.ref a0), (.ref a1)] below meth c s₁ [] 0 0 := Stand.of_body Bd
  have _u := trivial
  have eh0 : s₁.heap = h0 := by rw [← hh, Bd.state]; rfl
  have N0 := Fr.nil n0
  show Rest p.tables e below s (QLE2_3 Z a0 a1 k0 k1 xa xb ya yb yc h0 n0) _ _ (s₁.setTop (entryFrame m #[(.ref a0), (.ref a1)] 3))
  refine Rest.via (fun t k => castTop (ef_LE2_3 m a0 a1) k) ?_
  show Rest p.tables e below s _ _ _ (s₁.setTop (mkF m 0 #[.val (.ref a0), .val (.ref a1), .unset] []))
  refine Rest.via (fun t k => XS.aloadN X0.here hx rfl (hb hby d14_0) rfl rfl k) ?_
  show Rest p.tables e below s _ _ _ (s₁.setTop (mkF m 1 #[.val (.ref a0), .val (.ref a1), .unset] [(.ref a0)]))
  obtain ⟨cl1, Ar1, -, S1, P1, -, -⟩ := id V0
  refine Rest.via (fun t k => X0.arraylength hx (by rw [eh0]; exact Ar1.1) (State.isArrayOf_alike hZ.alike Ar1.2.1) (g := (mkF m 1 #[.val (.ref a0), .val (.ref a1), .unset] [(.ref a0)])) rfl rfl (hb hby d14_1) t k) ?_
  rw [len_of S1 P1]
  show Rest p.tables e below s _ _ _ (s₁.setTop (mkF m 2 #[.val (.ref a0), .val (.ref a1), .unset] [(.int (2 : Int32))]))
  refine Rest.via (fun t k => XS.aloadN X0.here hx rfl (hb hby d14_2) rfl rfl k) ?_
  show Rest p.tables e below s _ _ _ (s₁.setTop (mkF m 3 #[.val (.ref a0), .val (.ref a1), .unset] [(.ref a1), (.int (2 : Int32))]))
  obtain ⟨cl2, Ar2, -, S2, P2, -, -⟩ := id V1
  refine Rest.via (fun t k => X0.arraylength hx (by rw [eh0]; exact Ar2.1) (State.isArrayOf_alike hZ.alike Ar2.2.1) (g := (mkF m 3 #[.val (.ref a0), .val (.ref a1), .unset] [(.ref a1), (.int (2 : Int32))])) rfl rfl (hb hby d14_3) t k) ?_
  rw [len_of S2 P2]
  show Rest p.tables e below s _ _ _ (s₁.setTop (mkF m 4 #[.val (.ref a0), .val (.ref a1), .unset] [(.int (3 : Int32)), (.int (2 : Int32))]))
  refine Rest.via (fun t k => XS.icmpYes X0.here hx rfl (pc0 := 4) (pc' := 34) rfl (hb hby d14_4) rfl (feq (by decide : ¬ ((2 : Int32) = (3 : Int32)))).2 (by decide) (by decide) k) ?_
  show Rest p.tables e below s _ _ _ (s₁.setTop (mkF m 34 #[.val (.ref a0), .val (.ref a1), .unset] []))
  refine Rest.via (fun t k => XS.iconst X0.here hx rfl (hb hby d14_34) k) ?_
  show Rest p.tables e below s _ _ _ (s₁.setTop (mkF m 35 #[.val (.ref a0), .val (.ref a1), .unset] [(.int (0 : Int32))]))
  refine Rest.ret X0 (v := some (.int (nar .boolean (0 : Int32)))) (fun h => by rw [Bd.returns] at h; cases h) hlk (fun fs hr => retN X0 hx (t := .boolean) Bd.returns (by simp) (hb hby d14_35) hr) ?_ (by decide) (by decide)
  rw [eh0]
  exact ⟨by show some (Value.int (0 : Int32)) = _; rw [if_neg (by simp)], N0, rfl⟩
theorem ef_SE2_3 (m : MethodId) (a0 : Addr) (a1 : Addr) : entryFrame m #[(.ref a0), (.ref a1)] 3 = mkF m 0 #[.val (.ref a0), .val (.ref a1), .unset] [] := by first | (simp [entryFrame, mkF, argsToLocals, Value.category, maxLocals]; done) | rfl
def QSE2_3 (Z : State) (a0 : Addr) (a1 : Addr) (va0 : Addr) (k0 : ClassId) (va1 : Addr) (k1 : ClassId) (ic : Int32) (xa : Int32) (xb : Int32) (ya : Int32) (yb : Int32) (yc : Int32) (h0 : Heap) (n0 : Nat) (v : Option Value) (h : Heap) (L : List Loc) : Prop := v = some (.int (if ([xa, xb] : List Int32) = [ya, yb, yc] then (1 : Int32) else 0)) ∧ Fr n0 L ∧ h = h0
set_option maxRecDepth 65536 in
set_option maxHeartbeats 40000000 in
theorem rmSE2_3 (l : Launch) (Z : State) (aw : Array Value) (hw : ∀ d ∈ tables_1, d.before aw Z = true) (ws : List Jvm.Cond) (a0 : Addr) (a1 : Addr) (va0 : Addr) (k0 : ClassId) (va1 : Addr) (k1 : ClassId) (ic : Int32) (xa : Int32) (xb : Int32) (ya : Int32) (yb : Int32) (yc : Int32) (h0 : Heap) (n0 : Nat) (Z0 : n0 ≤ h0.size) (S0 : own_St Z h0 a0 va0 k0 (2 : Int32) [(.int xa), (.int xb)]) (S1 : own_St Z h0 a1 va1 k1 (3 : Int32) [(.int ya), (.int yb), (.int yc)]) (n01 : a0 ≠ a1) (O : Old Z n0 h0) (CS : own_CS Z ic) :
    MetFree l (⟨"java/lang/String", "equals", "(Ljava/lang/Object;)Z"⟩ : MethodName) (head1 (Jvm.Cond.code (⟨"java/lang/String", "equals", "(Ljava/lang/Object;)Z"⟩ : MethodName) jdk_42_method_66_code 3 (some .boolean) :: ws) ({ frames := 1, cells := 0, slots := 0, locals := 14 } : Room)) (fun a U => a = #[(.ref a0), (.ref a1)] ∧ Z.Warmed39 U.vm ∧ U.heap = h0) (fun _ _ _ _ _ => True) (fun _ U o U' => ∃ v L, o = .returned v ∧ QSE2_3 Z a0 a1 va0 k0 va1 k1 ic xa xb ya yb yc h0 n0 v U'.heap L ∧ FrameEnd U o U' L ({ frames := 1, cells := 0, slots := 0, locals := 14 } : Room).cells ({ frames := 1, cells := 0, slots := 0, locals := 14 } : Room).slots) := by
  refine MetFree.of_bodySF (plainFor_of_name pn_1) hisR ?_
  intro p e s m args below meth c s₁ Bd hml0 hP hK
  obtain ⟨rfl, hZ, hh⟩ := hP
  have hx := Bd.exec
  have hby := Bd.bytes
  have hml : c.maxLocals = 3 := hml0
  have hown : s.vm.findClass "java/lang/String" = some m.cls := findClass_of_methodNamed Bd.named
  have hnm := (name_of_methodNamed Bd.named Bd.method).1
  have hlk : meth.locks = false := BodyLoose.notSynchronized Bd
  have X0 : Stand p l e ({ frames := 1, cells := 0, slots := 0, locals := 14 } : Room) s m #[(.ref a0), (.ref a1)] below meth c s₁ [] 0 0 := Stand.of_body Bd
  have _u := trivial
  have eh0 : s₁.heap = h0 := by rw [← hh, Bd.state]; rfl
  have N0 := Fr.nil n0
  show Rest p.tables e below s (QSE2_3 Z a0 a1 va0 k0 va1 k1 ic xa xb ya yb yc h0 n0) _ _ (s₁.setTop (entryFrame m #[(.ref a0), (.ref a1)] 3))
  refine Rest.via (fun t k => castTop (ef_SE2_3 m a0 a1) k) ?_
  obtain ⟨E_a0, Fv_a0, Fc_a0, V_a0⟩ := id S0
  obtain ⟨E_a1, Fv_a1, Fc_a1, V_a1⟩ := id S1
  show Rest p.tables e below s _ _ _ (s₁.setTop (mkF m 0 #[.val (.ref a0), .val (.ref a1), .unset] []))
  refine Rest.via (fun t k => XS.aloadN X0.here hx rfl (hb hby d13_0) rfl rfl k) ?_
  show Rest p.tables e below s _ _ _ (s₁.setTop (mkF m 1 #[.val (.ref a0), .val (.ref a1), .unset] [(.ref a0)]))
  refine Rest.via (fun t k => XS.aloadN X0.here hx rfl (hb hby d13_1) rfl rfl k) ?_
  show Rest p.tables e below s _ _ _ (s₁.setTop (mkF m 2 #[.val (.ref a0), .val (.ref a1), .unset] [(.ref a1), (.ref a0)]))
  refine Rest.via (fun t k => Jvm.RoadKit.acmp (g := (mkF m 2 #[.val (.ref a0), .val (.ref a1), .unset] [(.ref a1), (.ref a0)])) X0 hx rfl rfl rfl (pc0 := 2) (pc' := 7) (same := false) rfl (hb hby d13_2) rfl (decide_eq_false fun q => n01 (Value.ref.inj q)) (by decide) (by decide) k) ?_
  show Rest p.tables e below s _ _ _ (s₁.setTop (mkF m 7 #[.val (.ref a0), .val (.ref a1), .unset] []))
  refine Rest.via (fun t k => XS.aloadN X0.here hx rfl (hb hby d13_7) rfl rfl k) ?_
  show Rest p.tables e below s _ _ _ (s₁.setTop (mkF m 8 #[.val (.ref a0), .val (.ref a1), .unset] [(.ref a1)]))
  obtain ⟨T1, X1, e1, st1⟩ := instY X0 hx hZ hown (hw _ (List.mem_of_getElem? (i := 71) rfl)) eh0 (Ins.self E_a1) (g := (mkF m 8 #[.val (.ref a0), .val (.ref a1), .unset] [(.ref a1)])) rfl rfl (hb hby d13_8)
  refine Rest.via (fun t k => st1 t k) ?_
  show Rest p.tables e below s _ _ _ (T1.setTop (mkF m 11 #[.val (.ref a0), .val (.ref a1), .unset] [(.int (1 : Int32))]))
  refine Rest.via (fun t k => XS.ifNo X1.here hx rfl (hb hby d13_11) rfl ((if0 _ _).trans (feq (by decide : ¬ ((1 : Int32) = (0 : Int32)))).1) k) ?_
  show Rest p.tables e below s _ _ _ (T1.setTop (mkF m 14 #[.val (.ref a0), .val (.ref a1), .unset] []))
  refine Rest.via (fun t k => XS.aloadN X1.here hx rfl (hb hby d13_14) rfl rfl k) ?_
  show Rest p.tables e below s _ _ _ (T1.setTop (mkF m 15 #[.val (.ref a0), .val (.ref a1), .unset] [(.ref a1)]))
  obtain ⟨T2, X2, e2, st2⟩ := castY X1 hx hZ hown (hw _ (List.mem_of_getElem? (i := 71) rfl)) e1 (Ins.self E_a1) (g := (mkF m 15 #[.val (.ref a0), .val (.ref a1), .unset] [(.ref a1)])) rfl rfl (hb hby d13_15)
  refine Rest.via (fun t k => st2 t k) ?_
  show Rest p.tables e below s _ _ _ (T2.setTop (mkF m 18 #[.val (.ref a0), .val (.ref a1), .unset] [(.ref a1)]))
  refine Rest.via (fun t k => XS.astoreN X2.here hx rfl (hb hby d13_18) rfl rfl (l' := #[.val (.ref a0), .val (.ref a1), .val (.ref a1)]) rfl k) ?_
  show Rest p.tables e below s _ _ _ (T2.setTop (mkF m 19 #[.val (.ref a0), .val (.ref a1), .val (.ref a1)] []))
  obtain ⟨T3, X3, e3, st3⟩ := getS2 X2 hx hZ hown (host := "") (Or.inl (hw _ (List.mem_of_getElem? (i := 45) rfl))) Via.refl e2 (CS.1.ext (O.keep (Keep.refl h0 []) all0).2) (g := (mkF m 19 #[.val (.ref a0), .val (.ref a1), .val (.ref a1)] [])) rfl (hb hby d13_19)
  refine Rest.via (fun t k => st3 t k) ?_
  show Rest p.tables e below s _ _ _ (T3.setTop (mkF m 22 #[.val (.ref a0), .val (.ref a1), .val (.ref a1)] [(.int ic)]))
  refine Rest.via (fun t k => XS.ifNo X3.here hx rfl (hb hby d13_22) rfl ((if0 _ _).trans (feq (CS.2 : ¬ (ic = (0 : Int32)))).1) k) ?_
  show Rest p.tables e below s _ _ _ (T3.setTop (mkF m 25 #[.val (.ref a0), .val (.ref a1), .val (.ref a1)] []))
  refine Rest.via (fun t k => XS.aloadN X3.here hx rfl (hb hby d13_25) rfl rfl k) ?_
  show Rest p.tables e below s _ _ _ (T3.setTop (mkF m 26 #[.val (.ref a0), .val (.ref a1), .val (.ref a1)] [(.ref a0)]))
  obtain ⟨T4, X4, e4, st4⟩ := getF X3 hx hZ hown (host := "") (Or.inl (hw _ (List.mem_of_getElem? (i := 28) rfl))) Via.refl e3 Fc_a0 (g := (mkF m 26 #[.val (.ref a0), .val (.ref a1), .val (.ref a1)] [(.ref a0)])) rfl rfl (hb hby d13_26)
  refine Rest.via (fun t k => st4 t k) ?_
  show Rest p.tables e below s _ _ _ (T4.setTop (mkF m 29 #[.val (.ref a0), .val (.ref a1), .val (.ref a1)] [(.int (0 : Int32))]))
  refine Rest.via (fun t k => XS.aloadN X4.here hx rfl (hb hby d13_29) rfl rfl k) ?_
  show Rest p.tables e below s _ _ _ (T4.setTop (mkF m 30 #[.val (.ref a0), .val (.ref a1), .val (.ref a1)] [(.ref a1), (.int (0 : Int32))]))
  obtain ⟨T5, X5, e5, st5⟩ := getF X4 hx hZ hown (host := "") (Or.inl (hw _ (List.mem_of_getElem? (i := 28) rfl))) Via.refl e4 Fc_a1 (g := (mkF m 30 #[.val (.ref a0), .val (.ref a1), .val (.ref a1)] [(.ref a1), (.int (0 : Int32))])) rfl rfl (hb hby d13_30)
  refine Rest.via (fun t k => st5 t k) ?_
  show Rest p.tables e below s _ _ _ (T5.setTop (mkF m 33 #[.val (.ref a0), .val (.ref a1), .val (.ref a1)] [(.int (0 : Int32)), (.int (0 : Int32))]))
  refine Rest.via (fun t k => XS.icmpNo X5.here hx rfl (hb hby d13_33) rfl (teq (by decide : (0 : Int32) = (0 : Int32))).2 k) ?_
  show Rest p.tables e below s _ _ _ (T5.setTop (mkF m 36 #[.val (.ref a0), .val (.ref a1), .val (.ref a1)] []))
  refine Rest.via (fun t k => XS.aloadN X5.here hx rfl (hb hby d13_36) rfl rfl k) ?_
  show Rest p.tables e below s _ _ _ (T5.setTop (mkF m 37 #[.val (.ref a0), .val (.ref a1), .val (.ref a1)] [(.ref a0)]))
  obtain ⟨T6, X6, e6, st6⟩ := getF X5 hx hZ hown (host := "") (Or.inl (hw _ (List.mem_of_getElem? (i := 27) rfl))) Via.refl e5 Fv_a0 (g := (mkF m 37 #[.val (.ref a0), .val (.ref a1), .val (.ref a1)] [(.ref a0)])) rfl rfl (hb hby d13_37)
  refine Rest.via (fun t k => st6 t k) ?_
  show Rest p.tables e below s _ _ _ (T6.setTop (mkF m 40 #[.val (.ref a0), .val (.ref a1), .val (.ref a1)] [(.ref va0)]))
  refine Rest.via (fun t k => XS.aloadN X6.here hx rfl (hb hby d13_40) rfl rfl k) ?_
  show Rest p.tables e below s _ _ _ (T6.setTop (mkF m 41 #[.val (.ref a0), .val (.ref a1), .val (.ref a1)] [(.ref a1), (.ref va0)]))
  obtain ⟨T7, X7, e7, st7⟩ := getF X6 hx hZ hown (host := "") (Or.inl (hw _ (List.mem_of_getElem? (i := 27) rfl))) Via.refl e6 Fv_a1 (g := (mkF m 41 #[.val (.ref a0), .val (.ref a1), .val (.ref a1)] [(.ref a1), (.ref va0)])) rfl rfl (hb hby d13_41)
  refine Rest.via (fun t k => st7 t k) ?_
  show Rest p.tables e below s _ _ _ (T7.setTop (mkF m 44 #[.val (.ref a0), .val (.ref a1), .val (.ref a1)] [(.ref va1), (.ref va0)]))
  obtain ⟨_, _, ⟨T8, L8, k8, n8⟩, -, X8, ⟨Lc8, hQ8, l8, y8, z8⟩, st8⟩ := Jvm.LawKit.callS X7 hx (y := (⟨"java/lang/StringLatin1", "equals", "([B[B)Z"⟩ : MethodName)) hown (mvT hZ (hw _ (List.mem_of_getElem? (i := 72) rfl))) (mvT hZ (hw _ (List.mem_of_getElem? (i := 73) rfl))) (mvT hZ (hw _ (List.mem_of_getElem? (i := 74) rfl))) (mvT hZ (hw _ (List.mem_of_getElem? (i := 75) rfl))) (by decide) (backOf (W := 0) (rmLE2_3 l Z aw hw [] va0 va1 k0 k1 xa xb ya yb yc h0 n0 (Nat.le_trans Z0 (Keep.refl h0 []).1) V_a0 V_a1) hZ (hw _ (List.mem_of_getElem? (i := 75) rfl)) (hw _ (List.mem_of_getElem? (i := 74) rfl)) (by decide) (by decide)) (g := (mkF m 44 #[.val (.ref a0), .val (.ref a1), .val (.ref a1)] [(.ref va1), (.ref va0)])) rfl (by rw [hml]; rfl) (argsL := [(.ref va0), (.ref va1)]) (rest := []) (lenOf pd_4 rfl) rfl (by show 2 * 0 + _ ≤ _; exact Nat.le_of_eq rfl) (hb hby d13_44) (fun _ _ => ⟨rfl, e7, (by decide : 0 + 0 ≤ _), (by decide : 0 + 0 ≤ _)⟩)
  dsimp only [Pt.U, Pt.locs, Pt.cells, Pt.slots] at X8 l8 y8 z8 st8 hQ8
  subst l8 y8 z8
  obtain ⟨rfl, Nq8, e8⟩ := hQ8
  have N8 := Fr.app N0 Nq8
  refine Rest.via (fun t k => st8 t k) ?_
  show Rest p.tables e below s _ _ _ (T8.setTop (mkF m 47 #[.val (.ref a0), .val (.ref a1), .val (.ref a1)] [(.int (if ([xa, xb] : List Int32) = [ya, yb, yc] then (1 : Int32) else 0))]))
  by_cases hz : (if ([xa, xb] : List Int32) = [ya, yb, yc] then (1 : Int32) else 0) = (0 : Int32)
  · refine Rest.via (fun t k => XS.ifYes X8.here hx rfl (pc0 := 47) (pc' := 54) rfl (hb hby d13_47) rfl ((if0 _ _).trans (teq hz).1) (by decide) (by decide) k) ?_
    show Rest p.tables e below s _ _ _ (T8.setTop (mkF m 54 #[.val (.ref a0), .val (.ref a1), .val (.ref a1)] []))
    refine Rest.via (fun t k => XS.iconst X8.here hx rfl (hb hby d13_54) k) ?_
    show Rest p.tables e below s _ _ _ (T8.setTop (mkF m 55 #[.val (.ref a0), .val (.ref a1), .val (.ref a1)] [(.int (0 : Int32))]))
    refine Rest.ret X8 (v := some (.int (nar .boolean (0 : Int32)))) (fun h => by rw [Bd.returns] at h; cases h) hlk (fun fs hr => retN X8 hx (t := .boolean) Bd.returns (by simp) (hb hby d13_55) hr) ?_ (by decide) (by decide)
    rw [e8]
    exact ⟨by show some (Value.int (0 : Int32)) = _; rw [hz], N8, rfl⟩
  · refine Rest.via (fun t k => XS.ifNo X8.here hx rfl (hb hby d13_47) rfl ((if0 _ _).trans (feq hz).1) k) ?_
    show Rest p.tables e below s _ _ _ (T8.setTop (mkF m 50 #[.val (.ref a0), .val (.ref a1), .val (.ref a1)] []))
    refine Rest.via (fun t k => XS.iconst X8.here hx rfl (hb hby d13_50) k) ?_
    show Rest p.tables e below s _ _ _ (T8.setTop (mkF m 51 #[.val (.ref a0), .val (.ref a1), .val (.ref a1)] [(.int (1 : Int32))]))
    refine Rest.via (fun t k => XS.goto X8.here hx rfl (pc0 := 51) (pc' := 55) rfl (hb hby d13_51) (by decide) (by decide) k) ?_
    show Rest p.tables e below s _ _ _ (T8.setTop (mkF m 55 #[.val (.ref a0), .val (.ref a1), .val (.ref a1)] [(.int (1 : Int32))]))
    refine Rest.ret X8 (v := some (.int (nar .boolean (1 : Int32)))) (fun h => by rw [Bd.returns] at h; cases h) hlk (fun fs hr => retN X8 hx (t := .boolean) Bd.returns (by simp) (hb hby d13_55) hr) ?_ (by decide) (by decide)
    rw [e8]
    exact ⟨by show some (Value.int (1 : Int32)) = _; rw [own_ite1 hz], N8, rfl⟩
theorem ef_LE3_0 (m : MethodId) (a0 : Addr) (a1 : Addr) : entryFrame m #[(.ref a0), (.ref a1)] 3 = mkF m 0 #[.val (.ref a0), .val (.ref a1), .unset] [] := by first | (simp [entryFrame, mkF, argsToLocals, Value.category, maxLocals]; done) | rfl
def QLE3_0 (Z : State) (a0 : Addr) (a1 : Addr) (k0 : ClassId) (k1 : ClassId) (xa : Int32) (xb : Int32) (xc : Int32) (h0 : Heap) (n0 : Nat) (v : Option Value) (h : Heap) (L : List Loc) : Prop := v = some (.int (if ([xa, xb, xc] : List Int32) = [] then (1 : Int32) else 0)) ∧ Fr n0 L ∧ h = h0
set_option maxRecDepth 65536 in
set_option maxHeartbeats 40000000 in
theorem rmLE3_0 (l : Launch) (Z : State) (aw : Array Value) (hw : ∀ d ∈ tables_1, d.before aw Z = true) (ws : List Jvm.Cond) (a0 : Addr) (a1 : Addr) (k0 : ClassId) (k1 : ClassId) (xa : Int32) (xb : Int32) (xc : Int32) (h0 : Heap) (n0 : Nat) (Z0 : n0 ≤ h0.size) (V0 : Arv Z h0 a0 k0 .byte (3 : Int32) [(.int xa), (.int xb), (.int xc)] (.int (0 : Int32))) (V1 : Arv Z h0 a1 k1 .byte (0 : Int32) [] (.int (0 : Int32))) :
    MetFree l (⟨"java/lang/StringLatin1", "equals", "([B[B)Z"⟩ : MethodName) (head1 (Jvm.Cond.code (⟨"java/lang/StringLatin1", "equals", "([B[B)Z"⟩ : MethodName) jdk_43_method_13_code 3 (some .boolean) :: ws) ({ frames := 0, cells := 0, slots := 0, locals := 0 } : Room)) (fun a U => a = #[(.ref a0), (.ref a1)] ∧ Z.Warmed39 U.vm ∧ U.heap = h0) (fun _ _ _ _ _ => True) (fun _ U o U' => ∃ v L, o = .returned v ∧ QLE3_0 Z a0 a1 k0 k1 xa xb xc h0 n0 v U'.heap L ∧ FrameEnd U o U' L ({ frames := 0, cells := 0, slots := 0, locals := 0 } : Room).cells ({ frames := 0, cells := 0, slots := 0, locals := 0 } : Room).slots) := by
  refine MetFree.of_bodySF (plainFor_of_name pn_2) hisR ?_
  intro p e s m args below meth c s₁ Bd hml0 hP hK
  obtain ⟨rfl, hZ, hh⟩ := hP
  have hx := Bd.exec
  have hby := Bd.bytes
  have hml : c.maxLocals = 3 := hml0
  have hown : s.vm.findClass "java/lang/StringLatin1" = some m.cls := findClass_of_methodNamed Bd.named
  have hnm := (name_of_methodNamed Bd.named Bd.method).1
  have hlk : meth.locks = false := BodyLoose.notSynchronized Bd
  have X0 : Stand p l e ({ frames := 0, cells := 0, slots := 0, locals := 0 } : Room) s m #[(.ref a0), (.ref a1)] below meth c s₁ [] 0 0 := Stand.of_body Bd
  have _u := trivial
  have eh0 : s₁.heap = h0 := by rw [← hh, Bd.state]; rfl
  have N0 := Fr.nil n0
  show Rest p.tables e below s (QLE3_0 Z a0 a1 k0 k1 xa xb xc h0 n0) _ _ (s₁.setTop (entryFrame m #[(.ref a0), (.ref a1)] 3))
  refine Rest.via (fun t k => castTop (ef_LE3_0 m a0 a1) k) ?_
  show Rest p.tables e below s _ _ _ (s₁.setTop (mkF m 0 #[.val (.ref a0), .val (.ref a1), .unset] []))
  refine Rest.via (fun t k => XS.aloadN X0.here hx rfl (hb hby d14_0) rfl rfl k) ?_
  show Rest p.tables e below s _ _ _ (s₁.setTop (mkF m 1 #[.val (.ref a0), .val (.ref a1), .unset] [(.ref a0)]))
  obtain ⟨cl1, Ar1, -, S1, P1, -, -⟩ := id V0
  refine Rest.via (fun t k => X0.arraylength hx (by rw [eh0]; exact Ar1.1) (State.isArrayOf_alike hZ.alike Ar1.2.1) (g := (mkF m 1 #[.val (.ref a0), .val (.ref a1), .unset] [(.ref a0)])) rfl rfl (hb hby d14_1) t k) ?_
  rw [len_of S1 P1]
  show Rest p.tables e below s _ _ _ (s₁.setTop (mkF m 2 #[.val (.ref a0), .val (.ref a1), .unset] [(.int (3 : Int32))]))
  refine Rest.via (fun t k => XS.aloadN X0.here hx rfl (hb hby d14_2) rfl rfl k) ?_
  show Rest p.tables e below s _ _ _ (s₁.setTop (mkF m 3 #[.val (.ref a0), .val (.ref a1), .unset] [(.ref a1), (.int (3 : Int32))]))
  obtain ⟨cl2, Ar2, -, S2, P2, -, -⟩ := id V1
  refine Rest.via (fun t k => X0.arraylength hx (by rw [eh0]; exact Ar2.1) (State.isArrayOf_alike hZ.alike Ar2.2.1) (g := (mkF m 3 #[.val (.ref a0), .val (.ref a1), .unset] [(.ref a1), (.int (3 : Int32))])) rfl rfl (hb hby d14_3) t k) ?_
  rw [len_of S2 P2]
  show Rest p.tables e below s _ _ _ (s₁.setTop (mkF m 4 #[.val (.ref a0), .val (.ref a1), .unset] [(.int (0 : Int32)), (.int (3 : Int32))]))
  refine Rest.via (fun t k => XS.icmpYes X0.here hx rfl (pc0 := 4) (pc' := 34) rfl (hb hby d14_4) rfl (feq (by decide : ¬ ((3 : Int32) = (0 : Int32)))).2 (by decide) (by decide) k) ?_
  show Rest p.tables e below s _ _ _ (s₁.setTop (mkF m 34 #[.val (.ref a0), .val (.ref a1), .unset] []))
  refine Rest.via (fun t k => XS.iconst X0.here hx rfl (hb hby d14_34) k) ?_
  show Rest p.tables e below s _ _ _ (s₁.setTop (mkF m 35 #[.val (.ref a0), .val (.ref a1), .unset] [(.int (0 : Int32))]))
  refine Rest.ret X0 (v := some (.int (nar .boolean (0 : Int32)))) (fun h => by rw [Bd.returns] at h; cases h) hlk (fun fs hr => retN X0 hx (t := .boolean) Bd.returns (by simp) (hb hby d14_35) hr) ?_ (by decide) (by decide)
  rw [eh0]
  exact ⟨by show some (Value.int (0 : Int32)) = _; rw [if_neg (by simp)], N0, rfl⟩
theorem ef_SE3_0 (m : MethodId) (a0 : Addr) (a1 : Addr) : entryFrame m #[(.ref a0), (.ref a1)] 3 = mkF m 0 #[.val (.ref a0), .val (.ref a1), .unset] [] := by first | (simp [entryFrame, mkF, argsToLocals, Value.category, maxLocals]; done) | rfl
def QSE3_0 (Z : State) (a0 : Addr) (a1 : Addr) (va0 : Addr) (k0 : ClassId) (va1 : Addr) (k1 : ClassId) (ic : Int32) (xa : Int32) (xb : Int32) (xc : Int32) (h0 : Heap) (n0 : Nat) (v : Option Value) (h : Heap) (L : List Loc) : Prop := v = some (.int (if ([xa, xb, xc] : List Int32) = [] then (1 : Int32) else 0)) ∧ Fr n0 L ∧ h = h0
set_option maxRecDepth 65536 in
set_option maxHeartbeats 40000000 in
theorem rmSE3_0 (l : Launch) (Z : State) (aw : Array Value) (hw : ∀ d ∈ tables_1, d.before aw Z = true) (ws : List Jvm.Cond) (a0 : Addr) (a1 : Addr) (va0 : Addr) (k0 : ClassId) (va1 : Addr) (k1 : ClassId) (ic : Int32) (xa : Int32) (xb : Int32) (xc : Int32) (h0 : Heap) (n0 : Nat) (Z0 : n0 ≤ h0.size) (S0 : own_St Z h0 a0 va0 k0 (3 : Int32) [(.int xa), (.int xb), (.int xc)]) (S1 : own_St Z h0 a1 va1 k1 (0 : Int32) []) (n01 : a0 ≠ a1) (O : Old Z n0 h0) (CS : own_CS Z ic) :
    MetFree l (⟨"java/lang/String", "equals", "(Ljava/lang/Object;)Z"⟩ : MethodName) (head1 (Jvm.Cond.code (⟨"java/lang/String", "equals", "(Ljava/lang/Object;)Z"⟩ : MethodName) jdk_42_method_66_code 3 (some .boolean) :: ws) ({ frames := 1, cells := 0, slots := 0, locals := 14 } : Room)) (fun a U => a = #[(.ref a0), (.ref a1)] ∧ Z.Warmed39 U.vm ∧ U.heap = h0) (fun _ _ _ _ _ => True) (fun _ U o U' => ∃ v L, o = .returned v ∧ QSE3_0 Z a0 a1 va0 k0 va1 k1 ic xa xb xc h0 n0 v U'.heap L ∧ FrameEnd U o U' L ({ frames := 1, cells := 0, slots := 0, locals := 14 } : Room).cells ({ frames := 1, cells := 0, slots := 0, locals := 14 } : Room).slots) := by
  refine MetFree.of_bodySF (plainFor_of_name pn_1) hisR ?_
  intro p e s m args below meth c s₁ Bd hml0 hP hK
  obtain ⟨rfl, hZ, hh⟩ := hP
  have hx := Bd.exec
  have hby := Bd.bytes
  have hml : c.maxLocals = 3 := hml0
  have hown : s.vm.findClass "java/lang/String" = some m.cls := findClass_of_methodNamed Bd.named
  have hnm := (name_of_methodNamed Bd.named Bd.method).1
  have hlk : meth.locks = false := BodyLoose.notSynchronized Bd
  have X0 : Stand p l e ({ frames := 1, cells := 0, slots := 0, locals := 14 } : Room) s m #[(.ref a0), (.ref a1)] below meth c s₁ [] 0 0 := Stand.of_body Bd
  have _u := trivial
  have eh0 : s₁.heap = h0 := by rw [← hh, Bd.state]; rfl
  have N0 := Fr.nil n0
  show Rest p.tables e below s (QSE3_0 Z a0 a1 va0 k0 va1 k1 ic xa xb xc h0 n0) _ _ (s₁.setTop (entryFrame m #[(.ref a0), (.ref a1)] 3))
  refine Rest.via (fun t k => castTop (ef_SE3_0 m a0 a1) k) ?_
  obtain ⟨E_a0, Fv_a0, Fc_a0, V_a0⟩ := id S0
  obtain ⟨E_a1, Fv_a1, Fc_a1, V_a1⟩ := id S1
  show Rest p.tables e below s _ _ _ (s₁.setTop (mkF m 0 #[.val (.ref a0), .val (.ref a1), .unset] []))
  refine Rest.via (fun t k => XS.aloadN X0.here hx rfl (hb hby d13_0) rfl rfl k) ?_
  show Rest p.tables e below s _ _ _ (s₁.setTop (mkF m 1 #[.val (.ref a0), .val (.ref a1), .unset] [(.ref a0)]))
  refine Rest.via (fun t k => XS.aloadN X0.here hx rfl (hb hby d13_1) rfl rfl k) ?_
  show Rest p.tables e below s _ _ _ (s₁.setTop (mkF m 2 #[.val (.ref a0), .val (.ref a1), .unset] [(.ref a1), (.ref a0)]))
  refine Rest.via (fun t k => Jvm.RoadKit.acmp (g := (mkF m 2 #[.val (.ref a0), .val (.ref a1), .unset] [(.ref a1), (.ref a0)])) X0 hx rfl rfl rfl (pc0 := 2) (pc' := 7) (same := false) rfl (hb hby d13_2) rfl (decide_eq_false fun q => n01 (Value.ref.inj q)) (by decide) (by decide) k) ?_
  show Rest p.tables e below s _ _ _ (s₁.setTop (mkF m 7 #[.val (.ref a0), .val (.ref a1), .unset] []))
  refine Rest.via (fun t k => XS.aloadN X0.here hx rfl (hb hby d13_7) rfl rfl k) ?_
  show Rest p.tables e below s _ _ _ (s₁.setTop (mkF m 8 #[.val (.ref a0), .val (.ref a1), .unset] [(.ref a1)]))
  obtain ⟨T1, X1, e1, st1⟩ := instY X0 hx hZ hown (hw _ (List.mem_of_getElem? (i := 71) rfl)) eh0 (Ins.self E_a1) (g := (mkF m 8 #[.val (.ref a0), .val (.ref a1), .unset] [(.ref a1)])) rfl rfl (hb hby d13_8)
  refine Rest.via (fun t k => st1 t k) ?_
  show Rest p.tables e below s _ _ _ (T1.setTop (mkF m 11 #[.val (.ref a0), .val (.ref a1), .unset] [(.int (1 : Int32))]))
  refine Rest.via (fun t k => XS.ifNo X1.here hx rfl (hb hby d13_11) rfl ((if0 _ _).trans (feq (by decide : ¬ ((1 : Int32) = (0 : Int32)))).1) k) ?_
  show Rest p.tables e below s _ _ _ (T1.setTop (mkF m 14 #[.val (.ref a0), .val (.ref a1), .unset] []))
  refine Rest.via (fun t k => XS.aloadN X1.here hx rfl (hb hby d13_14) rfl rfl k) ?_
  show Rest p.tables e below s _ _ _ (T1.setTop (mkF m 15 #[.val (.ref a0), .val (.ref a1), .unset] [(.ref a1)]))
  obtain ⟨T2, X2, e2, st2⟩ := castY X1 hx hZ hown (hw _ (List.mem_of_getElem? (i := 71) rfl)) e1 (Ins.self E_a1) (g := (mkF m 15 #[.val (.ref a0), .val (.ref a1), .unset] [(.ref a1)])) rfl rfl (hb hby d13_15)
  refine Rest.via (fun t k => st2 t k) ?_
  show Rest p.tables e below s _ _ _ (T2.setTop (mkF m 18 #[.val (.ref a0), .val (.ref a1), .unset] [(.ref a1)]))
  refine Rest.via (fun t k => XS.astoreN X2.here hx rfl (hb hby d13_18) rfl rfl (l' := #[.val (.ref a0), .val (.ref a1), .val (.ref a1)]) rfl k) ?_
  show Rest p.tables e below s _ _ _ (T2.setTop (mkF m 19 #[.val (.ref a0), .val (.ref a1), .val (.ref a1)] []))
  obtain ⟨T3, X3, e3, st3⟩ := getS2 X2 hx hZ hown (host := "") (Or.inl (hw _ (List.mem_of_getElem? (i := 45) rfl))) Via.refl e2 (CS.1.ext (O.keep (Keep.refl h0 []) all0).2) (g := (mkF m 19 #[.val (.ref a0), .val (.ref a1), .val (.ref a1)] [])) rfl (hb hby d13_19)
  refine Rest.via (fun t k => st3 t k) ?_
  show Rest p.tables e below s _ _ _ (T3.setTop (mkF m 22 #[.val (.ref a0), .val (.ref a1), .val (.ref a1)] [(.int ic)]))
  refine Rest.via (fun t k => XS.ifNo X3.here hx rfl (hb hby d13_22) rfl ((if0 _ _).trans (feq (CS.2 : ¬ (ic = (0 : Int32)))).1) k) ?_
  show Rest p.tables e below s _ _ _ (T3.setTop (mkF m 25 #[.val (.ref a0), .val (.ref a1), .val (.ref a1)] []))
  refine Rest.via (fun t k => XS.aloadN X3.here hx rfl (hb hby d13_25) rfl rfl k) ?_
  show Rest p.tables e below s _ _ _ (T3.setTop (mkF m 26 #[.val (.ref a0), .val (.ref a1), .val (.ref a1)] [(.ref a0)]))
  obtain ⟨T4, X4, e4, st4⟩ := getF X3 hx hZ hown (host := "") (Or.inl (hw _ (List.mem_of_getElem? (i := 28) rfl))) Via.refl e3 Fc_a0 (g := (mkF m 26 #[.val (.ref a0), .val (.ref a1), .val (.ref a1)] [(.ref a0)])) rfl rfl (hb hby d13_26)
  refine Rest.via (fun t k => st4 t k) ?_
  show Rest p.tables e below s _ _ _ (T4.setTop (mkF m 29 #[.val (.ref a0), .val (.ref a1), .val (.ref a1)] [(.int (0 : Int32))]))
  refine Rest.via (fun t k => XS.aloadN X4.here hx rfl (hb hby d13_29) rfl rfl k) ?_
  show Rest p.tables e below s _ _ _ (T4.setTop (mkF m 30 #[.val (.ref a0), .val (.ref a1), .val (.ref a1)] [(.ref a1), (.int (0 : Int32))]))
  obtain ⟨T5, X5, e5, st5⟩ := getF X4 hx hZ hown (host := "") (Or.inl (hw _ (List.mem_of_getElem? (i := 28) rfl))) Via.refl e4 Fc_a1 (g := (mkF m 30 #[.val (.ref a0), .val (.ref a1), .val (.ref a1)] [(.ref a1), (.int (0 : Int32))])) rfl rfl (hb hby d13_30)
  refine Rest.via (fun t k => st5 t k) ?_
  show Rest p.tables e below s _ _ _ (T5.setTop (mkF m 33 #[.val (.ref a0), .val (.ref a1), .val (.ref a1)] [(.int (0 : Int32)), (.int (0 : Int32))]))
  refine Rest.via (fun t k => XS.icmpNo X5.here hx rfl (hb hby d13_33) rfl (teq (by decide : (0 : Int32) = (0 : Int32))).2 k) ?_
  show Rest p.tables e below s _ _ _ (T5.setTop (mkF m 36 #[.val (.ref a0), .val (.ref a1), .val (.ref a1)] []))
  refine Rest.via (fun t k => XS.aloadN X5.here hx rfl (hb hby d13_36) rfl rfl k) ?_
  show Rest p.tables e below s _ _ _ (T5.setTop (mkF m 37 #[.val (.ref a0), .val (.ref a1), .val (.ref a1)] [(.ref a0)]))
  obtain ⟨T6, X6, e6, st6⟩ := getF X5 hx hZ hown (host := "") (Or.inl (hw _ (List.mem_of_getElem? (i := 27) rfl))) Via.refl e5 Fv_a0 (g := (mkF m 37 #[.val (.ref a0), .val (.ref a1), .val (.ref a1)] [(.ref a0)])) rfl rfl (hb hby d13_37)
  refine Rest.via (fun t k => st6 t k) ?_
  show Rest p.tables e below s _ _ _ (T6.setTop (mkF m 40 #[.val (.ref a0), .val (.ref a1), .val (.ref a1)] [(.ref va0)]))
  refine Rest.via (fun t k => XS.aloadN X6.here hx rfl (hb hby d13_40) rfl rfl k) ?_
  show Rest p.tables e below s _ _ _ (T6.setTop (mkF m 41 #[.val (.ref a0), .val (.ref a1), .val (.ref a1)] [(.ref a1), (.ref va0)]))
  obtain ⟨T7, X7, e7, st7⟩ := getF X6 hx hZ hown (host := "") (Or.inl (hw _ (List.mem_of_getElem? (i := 27) rfl))) Via.refl e6 Fv_a1 (g := (mkF m 41 #[.val (.ref a0), .val (.ref a1), .val (.ref a1)] [(.ref a1), (.ref va0)])) rfl rfl (hb hby d13_41)
  refine Rest.via (fun t k => st7 t k) ?_
  show Rest p.tables e below s _ _ _ (T7.setTop (mkF m 44 #[.val (.ref a0), .val (.ref a1), .val (.ref a1)] [(.ref va1), (.ref va0)]))
  obtain ⟨_, _, ⟨T8, L8, k8, n8⟩, -, X8, ⟨Lc8, hQ8, l8, y8, z8⟩, st8⟩ := Jvm.LawKit.callS X7 hx (y := (⟨"java/lang/StringLatin1", "equals", "([B[B)Z"⟩ : MethodName)) hown (mvT hZ (hw _ (List.mem_of_getElem? (i := 72) rfl))) (mvT hZ (hw _ (List.mem_of_getElem? (i := 73) rfl))) (mvT hZ (hw _ (List.mem_of_getElem? (i := 74) rfl))) (mvT hZ (hw _ (List.mem_of_getElem? (i := 75) rfl))) (by decide) (backOf (W := 0) (rmLE3_0 l Z aw hw [] va0 va1 k0 k1 xa xb xc h0 n0 (Nat.le_trans Z0 (Keep.refl h0 []).1) V_a0 V_a1) hZ (hw _ (List.mem_of_getElem? (i := 75) rfl)) (hw _ (List.mem_of_getElem? (i := 74) rfl)) (by decide) (by decide)) (g := (mkF m 44 #[.val (.ref a0), .val (.ref a1), .val (.ref a1)] [(.ref va1), (.ref va0)])) rfl (by rw [hml]; rfl) (argsL := [(.ref va0), (.ref va1)]) (rest := []) (lenOf pd_4 rfl) rfl (by show 2 * 0 + _ ≤ _; exact Nat.le_of_eq rfl) (hb hby d13_44) (fun _ _ => ⟨rfl, e7, (by decide : 0 + 0 ≤ _), (by decide : 0 + 0 ≤ _)⟩)
  dsimp only [Pt.U, Pt.locs, Pt.cells, Pt.slots] at X8 l8 y8 z8 st8 hQ8
  subst l8 y8 z8
  obtain ⟨rfl, Nq8, e8⟩ := hQ8
  have N8 := Fr.app N0 Nq8
  refine Rest.via (fun t k => st8 t k) ?_
  show Rest p.tables e below s _ _ _ (T8.setTop (mkF m 47 #[.val (.ref a0), .val (.ref a1), .val (.ref a1)] [(.int (if ([xa, xb, xc] : List Int32) = [] then (1 : Int32) else 0))]))
  by_cases hz : (if ([xa, xb, xc] : List Int32) = [] then (1 : Int32) else 0) = (0 : Int32)
  · refine Rest.via (fun t k => XS.ifYes X8.here hx rfl (pc0 := 47) (pc' := 54) rfl (hb hby d13_47) rfl ((if0 _ _).trans (teq hz).1) (by decide) (by decide) k) ?_
    show Rest p.tables e below s _ _ _ (T8.setTop (mkF m 54 #[.val (.ref a0), .val (.ref a1), .val (.ref a1)] []))
    refine Rest.via (fun t k => XS.iconst X8.here hx rfl (hb hby d13_54) k) ?_
    show Rest p.tables e below s _ _ _ (T8.setTop (mkF m 55 #[.val (.ref a0), .val (.ref a1), .val (.ref a1)] [(.int (0 : Int32))]))
    refine Rest.ret X8 (v := some (.int (nar .boolean (0 : Int32)))) (fun h => by rw [Bd.returns] at h; cases h) hlk (fun fs hr => retN X8 hx (t := .boolean) Bd.returns (by simp) (hb hby d13_55) hr) ?_ (by decide) (by decide)
    rw [e8]
    exact ⟨by show some (Value.int (0 : Int32)) = _; rw [hz], N8, rfl⟩
  · refine Rest.via (fun t k => XS.ifNo X8.here hx rfl (hb hby d13_47) rfl ((if0 _ _).trans (feq hz).1) k) ?_
    show Rest p.tables e below s _ _ _ (T8.setTop (mkF m 50 #[.val (.ref a0), .val (.ref a1), .val (.ref a1)] []))
    refine Rest.via (fun t k => XS.iconst X8.here hx rfl (hb hby d13_50) k) ?_
    show Rest p.tables e below s _ _ _ (T8.setTop (mkF m 51 #[.val (.ref a0), .val (.ref a1), .val (.ref a1)] [(.int (1 : Int32))]))
    refine Rest.via (fun t k => XS.goto X8.here hx rfl (pc0 := 51) (pc' := 55) rfl (hb hby d13_51) (by decide) (by decide) k) ?_
    show Rest p.tables e below s _ _ _ (T8.setTop (mkF m 55 #[.val (.ref a0), .val (.ref a1), .val (.ref a1)] [(.int (1 : Int32))]))
    refine Rest.ret X8 (v := some (.int (nar .boolean (1 : Int32)))) (fun h => by rw [Bd.returns] at h; cases h) hlk (fun fs hr => retN X8 hx (t := .boolean) Bd.returns (by simp) (hb hby d13_55) hr) ?_ (by decide) (by decide)
    rw [e8]
    exact ⟨by show some (Value.int (1 : Int32)) = _; rw [own_ite1 hz], N8, rfl⟩
theorem ef_LE3_1 (m : MethodId) (a0 : Addr) (a1 : Addr) : entryFrame m #[(.ref a0), (.ref a1)] 3 = mkF m 0 #[.val (.ref a0), .val (.ref a1), .unset] [] := by first | (simp [entryFrame, mkF, argsToLocals, Value.category, maxLocals]; done) | rfl
def QLE3_1 (Z : State) (a0 : Addr) (a1 : Addr) (k0 : ClassId) (k1 : ClassId) (xa : Int32) (xb : Int32) (xc : Int32) (ya : Int32) (h0 : Heap) (n0 : Nat) (v : Option Value) (h : Heap) (L : List Loc) : Prop := v = some (.int (if ([xa, xb, xc] : List Int32) = [ya] then (1 : Int32) else 0)) ∧ Fr n0 L ∧ h = h0
set_option maxRecDepth 65536 in
set_option maxHeartbeats 40000000 in
theorem rmLE3_1 (l : Launch) (Z : State) (aw : Array Value) (hw : ∀ d ∈ tables_1, d.before aw Z = true) (ws : List Jvm.Cond) (a0 : Addr) (a1 : Addr) (k0 : ClassId) (k1 : ClassId) (xa : Int32) (xb : Int32) (xc : Int32) (ya : Int32) (h0 : Heap) (n0 : Nat) (Z0 : n0 ≤ h0.size) (V0 : Arv Z h0 a0 k0 .byte (3 : Int32) [(.int xa), (.int xb), (.int xc)] (.int (0 : Int32))) (V1 : Arv Z h0 a1 k1 .byte (1 : Int32) [(.int ya)] (.int (0 : Int32))) :
    MetFree l (⟨"java/lang/StringLatin1", "equals", "([B[B)Z"⟩ : MethodName) (head1 (Jvm.Cond.code (⟨"java/lang/StringLatin1", "equals", "([B[B)Z"⟩ : MethodName) jdk_43_method_13_code 3 (some .boolean) :: ws) ({ frames := 0, cells := 0, slots := 0, locals := 0 } : Room)) (fun a U => a = #[(.ref a0), (.ref a1)] ∧ Z.Warmed39 U.vm ∧ U.heap = h0) (fun _ _ _ _ _ => True) (fun _ U o U' => ∃ v L, o = .returned v ∧ QLE3_1 Z a0 a1 k0 k1 xa xb xc ya h0 n0 v U'.heap L ∧ FrameEnd U o U' L ({ frames := 0, cells := 0, slots := 0, locals := 0 } : Room).cells ({ frames := 0, cells := 0, slots := 0, locals := 0 } : Room).slots) := by
  refine MetFree.of_bodySF (plainFor_of_name pn_2) hisR ?_
  intro p e s m args below meth c s₁ Bd hml0 hP hK
  obtain ⟨rfl, hZ, hh⟩ := hP
  have hx := Bd.exec
  have hby := Bd.bytes
  have hml : c.maxLocals = 3 := hml0
  have hown : s.vm.findClass "java/lang/StringLatin1" = some m.cls := findClass_of_methodNamed Bd.named
  have hnm := (name_of_methodNamed Bd.named Bd.method).1
  have hlk : meth.locks = false := BodyLoose.notSynchronized Bd
  have X0 : Stand p l e ({ frames := 0, cells := 0, slots := 0, locals := 0 } : Room) s m #[(.ref a0), (.ref a1)] below meth c s₁ [] 0 0 := Stand.of_body Bd
  have _u := trivial
  have eh0 : s₁.heap = h0 := by rw [← hh, Bd.state]; rfl
  have N0 := Fr.nil n0
  show Rest p.tables e below s (QLE3_1 Z a0 a1 k0 k1 xa xb xc ya h0 n0) _ _ (s₁.setTop (entryFrame m #[(.ref a0), (.ref a1)] 3))
  refine Rest.via (fun t k => castTop (ef_LE3_1 m a0 a1) k) ?_
  show Rest p.tables e below s _ _ _ (s₁.setTop (mkF m 0 #[.val (.ref a0), .val (.ref a1), .unset] []))
  refine Rest.via (fun t k => XS.aloadN X0.here hx rfl (hb hby d14_0) rfl rfl k) ?_
  show Rest p.tables e below s _ _ _ (s₁.setTop (mkF m 1 #[.val (.ref a0), .val (.ref a1), .unset] [(.ref a0)]))
  obtain ⟨cl1, Ar1, -, S1, P1, -, -⟩ := id V0
  refine Rest.via (fun t k => X0.arraylength hx (by rw [eh0]; exact Ar1.1) (State.isArrayOf_alike hZ.alike Ar1.2.1) (g := (mkF m 1 #[.val (.ref a0), .val (.ref a1), .unset] [(.ref a0)])) rfl rfl (hb hby d14_1) t k) ?_
  rw [len_of S1 P1]
  show Rest p.tables e below s _ _ _ (s₁.setTop (mkF m 2 #[.val (.ref a0), .val (.ref a1), .unset] [(.int (3 : Int32))]))
  refine Rest.via (fun t k => XS.aloadN X0.here hx rfl (hb hby d14_2) rfl rfl k) ?_
  show Rest p.tables e below s _ _ _ (s₁.setTop (mkF m 3 #[.val (.ref a0), .val (.ref a1), .unset] [(.ref a1), (.int (3 : Int32))]))
  obtain ⟨cl2, Ar2, -, S2, P2, -, -⟩ := id V1
  refine Rest.via (fun t k => X0.arraylength hx (by rw [eh0]; exact Ar2.1) (State.isArrayOf_alike hZ.alike Ar2.2.1) (g := (mkF m 3 #[.val (.ref a0), .val (.ref a1), .unset] [(.ref a1), (.int (3 : Int32))])) rfl rfl (hb hby d14_3) t k) ?_
  rw [len_of S2 P2]
  show Rest p.tables e below s _ _ _ (s₁.setTop (mkF m 4 #[.val (.ref a0), .val (.ref a1), .unset] [(.int (1 : Int32)), (.int (3 : Int32))]))
  refine Rest.via (fun t k => XS.icmpYes X0.here hx rfl (pc0 := 4) (pc' := 34) rfl (hb hby d14_4) rfl (feq (by decide : ¬ ((3 : Int32) = (1 : Int32)))).2 (by decide) (by decide) k) ?_
  show Rest p.tables e below s _ _ _ (s₁.setTop (mkF m 34 #[.val (.ref a0), .val (.ref a1), .unset] []))
  refine Rest.via (fun t k => XS.iconst X0.here hx rfl (hb hby d14_34) k) ?_
  show Rest p.tables e below s _ _ _ (s₁.setTop (mkF m 35 #[.val (.ref a0), .val (.ref a1), .unset] [(.int (0 : Int32))]))
  refine Rest.ret X0 (v := some (.int (nar .boolean (0 : Int32)))) (fun h => by rw [Bd.returns] at h; cases h) hlk (fun fs hr => retN X0 hx (t := .boolean) Bd.returns (by simp) (hb hby d14_35) hr) ?_ (by decide) (by decide)
  rw [eh0]
  exact ⟨by show some (Value.int (0 : Int32)) = _; rw [if_neg (by simp)], N0, rfl⟩
theorem ef_SE3_1 (m : MethodId) (a0 : Addr) (a1 : Addr) : entryFrame m #[(.ref a0), (.ref a1)] 3 = mkF m 0 #[.val (.ref a0), .val (.ref a1), .unset] [] := by first | (simp [entryFrame, mkF, argsToLocals, Value.category, maxLocals]; done) | rfl
def QSE3_1 (Z : State) (a0 : Addr) (a1 : Addr) (va0 : Addr) (k0 : ClassId) (va1 : Addr) (k1 : ClassId) (ic : Int32) (xa : Int32) (xb : Int32) (xc : Int32) (ya : Int32) (h0 : Heap) (n0 : Nat) (v : Option Value) (h : Heap) (L : List Loc) : Prop := v = some (.int (if ([xa, xb, xc] : List Int32) = [ya] then (1 : Int32) else 0)) ∧ Fr n0 L ∧ h = h0
set_option maxRecDepth 65536 in
set_option maxHeartbeats 40000000 in
theorem rmSE3_1 (l : Launch) (Z : State) (aw : Array Value) (hw : ∀ d ∈ tables_1, d.before aw Z = true) (ws : List Jvm.Cond) (a0 : Addr) (a1 : Addr) (va0 : Addr) (k0 : ClassId) (va1 : Addr) (k1 : ClassId) (ic : Int32) (xa : Int32) (xb : Int32) (xc : Int32) (ya : Int32) (h0 : Heap) (n0 : Nat) (Z0 : n0 ≤ h0.size) (S0 : own_St Z h0 a0 va0 k0 (3 : Int32) [(.int xa), (.int xb), (.int xc)]) (S1 : own_St Z h0 a1 va1 k1 (1 : Int32) [(.int ya)]) (n01 : a0 ≠ a1) (O : Old Z n0 h0) (CS : own_CS Z ic) :
    MetFree l (⟨"java/lang/String", "equals", "(Ljava/lang/Object;)Z"⟩ : MethodName) (head1 (Jvm.Cond.code (⟨"java/lang/String", "equals", "(Ljava/lang/Object;)Z"⟩ : MethodName) jdk_42_method_66_code 3 (some .boolean) :: ws) ({ frames := 1, cells := 0, slots := 0, locals := 14 } : Room)) (fun a U => a = #[(.ref a0), (.ref a1)] ∧ Z.Warmed39 U.vm ∧ U.heap = h0) (fun _ _ _ _ _ => True) (fun _ U o U' => ∃ v L, o = .returned v ∧ QSE3_1 Z a0 a1 va0 k0 va1 k1 ic xa xb xc ya h0 n0 v U'.heap L ∧ FrameEnd U o U' L ({ frames := 1, cells := 0, slots := 0, locals := 14 } : Room).cells ({ frames := 1, cells := 0, slots := 0, locals := 14 } : Room).slots) := by
  refine MetFree.of_bodySF (plainFor_of_name pn_1) hisR ?_
  intro p e s m args below meth c s₁ Bd hml0 hP hK
  obtain ⟨rfl, hZ, hh⟩ := hP
  have hx := Bd.exec
  have hby := Bd.bytes
  have hml : c.maxLocals = 3 := hml0
  have hown : s.vm.findClass "java/lang/String" = some m.cls := findClass_of_methodNamed Bd.named
  have hnm := (name_of_methodNamed Bd.named Bd.method).1
  have hlk : meth.locks = false := BodyLoose.notSynchronized Bd
  have X0 : Stand p l e ({ frames := 1, cells := 0, slots := 0, locals := 14 } : Room) s m #[(.ref a0), (.ref a1)] below meth c s₁ [] 0 0 := Stand.of_body Bd
  have _u := trivial
  have eh0 : s₁.heap = h0 := by rw [← hh, Bd.state]; rfl
  have N0 := Fr.nil n0
  show Rest p.tables e below s (QSE3_1 Z a0 a1 va0 k0 va1 k1 ic xa xb xc ya h0 n0) _ _ (s₁.setTop (entryFrame m #[(.ref a0), (.ref a1)] 3))
  refine Rest.via (fun t k => castTop (ef_SE3_1 m a0 a1) k) ?_
  obtain ⟨E_a0, Fv_a0, Fc_a0, V_a0⟩ := id S0
  obtain ⟨E_a1, Fv_a1, Fc_a1, V_a1⟩ := id S1
  show Rest p.tables e below s _ _ _ (s₁.setTop (mkF m 0 #[.val (.ref a0), .val (.ref a1), .unset] []))
  refine Rest.via (fun t k => XS.aloadN X0.here hx rfl (hb hby d13_0) rfl rfl k) ?_
  show Rest p.tables e below s _ _ _ (s₁.setTop (mkF m 1 #[.val (.ref a0), .val (.ref a1), .unset] [(.ref a0)]))
  refine Rest.via (fun t k => XS.aloadN X0.here hx rfl (hb hby d13_1) rfl rfl k) ?_
  show Rest p.tables e below s _ _ _ (s₁.setTop (mkF m 2 #[.val (.ref a0), .val (.ref a1), .unset] [(.ref a1), (.ref a0)]))
  refine Rest.via (fun t k => Jvm.RoadKit.acmp (g := (mkF m 2 #[.val (.ref a0), .val (.ref a1), .unset] [(.ref a1), (.ref a0)])) X0 hx rfl rfl rfl (pc0 := 2) (pc' := 7) (same := false) rfl (hb hby d13_2) rfl (decide_eq_false fun q => n01 (Value.ref.inj q)) (by decide) (by decide) k) ?_
  show Rest p.tables e below s _ _ _ (s₁.setTop (mkF m 7 #[.val (.ref a0), .val (.ref a1), .unset] []))
  refine Rest.via (fun t k => XS.aloadN X0.here hx rfl (hb hby d13_7) rfl rfl k) ?_
  show Rest p.tables e below s _ _ _ (s₁.setTop (mkF m 8 #[.val (.ref a0), .val (.ref a1), .unset] [(.ref a1)]))
  obtain ⟨T1, X1, e1, st1⟩ := instY X0 hx hZ hown (hw _ (List.mem_of_getElem? (i := 71) rfl)) eh0 (Ins.self E_a1) (g := (mkF m 8 #[.val (.ref a0), .val (.ref a1), .unset] [(.ref a1)])) rfl rfl (hb hby d13_8)
  refine Rest.via (fun t k => st1 t k) ?_
  show Rest p.tables e below s _ _ _ (T1.setTop (mkF m 11 #[.val (.ref a0), .val (.ref a1), .unset] [(.int (1 : Int32))]))
  refine Rest.via (fun t k => XS.ifNo X1.here hx rfl (hb hby d13_11) rfl ((if0 _ _).trans (feq (by decide : ¬ ((1 : Int32) = (0 : Int32)))).1) k) ?_
  show Rest p.tables e below s _ _ _ (T1.setTop (mkF m 14 #[.val (.ref a0), .val (.ref a1), .unset] []))
  refine Rest.via (fun t k => XS.aloadN X1.here hx rfl (hb hby d13_14) rfl rfl k) ?_
  show Rest p.tables e below s _ _ _ (T1.setTop (mkF m 15 #[.val (.ref a0), .val (.ref a1), .unset] [(.ref a1)]))
  obtain ⟨T2, X2, e2, st2⟩ := castY X1 hx hZ hown (hw _ (List.mem_of_getElem? (i := 71) rfl)) e1 (Ins.self E_a1) (g := (mkF m 15 #[.val (.ref a0), .val (.ref a1), .unset] [(.ref a1)])) rfl rfl (hb hby d13_15)
  refine Rest.via (fun t k => st2 t k) ?_
  show Rest p.tables e below s _ _ _ (T2.setTop (mkF m 18 #[.val (.ref a0), .val (.ref a1), .unset] [(.ref a1)]))
  refine Rest.via (fun t k => XS.astoreN X2.here hx rfl (hb hby d13_18) rfl rfl (l' := #[.val (.ref a0), .val (.ref a1), .val (.ref a1)]) rfl k) ?_
  show Rest p.tables e below s _ _ _ (T2.setTop (mkF m 19 #[.val (.ref a0), .val (.ref a1), .val (.ref a1)] []))
  obtain ⟨T3, X3, e3, st3⟩ := getS2 X2 hx hZ hown (host := "") (Or.inl (hw _ (List.mem_of_getElem? (i := 45) rfl))) Via.refl e2 (CS.1.ext (O.keep (Keep.refl h0 []) all0).2) (g := (mkF m 19 #[.val (.ref a0), .val (.ref a1), .val (.ref a1)] [])) rfl (hb hby d13_19)
  refine Rest.via (fun t k => st3 t k) ?_
  show Rest p.tables e below s _ _ _ (T3.setTop (mkF m 22 #[.val (.ref a0), .val (.ref a1), .val (.ref a1)] [(.int ic)]))
  refine Rest.via (fun t k => XS.ifNo X3.here hx rfl (hb hby d13_22) rfl ((if0 _ _).trans (feq (CS.2 : ¬ (ic = (0 : Int32)))).1) k) ?_
  show Rest p.tables e below s _ _ _ (T3.setTop (mkF m 25 #[.val (.ref a0), .val (.ref a1), .val (.ref a1)] []))
  refine Rest.via (fun t k => XS.aloadN X3.here hx rfl (hb hby d13_25) rfl rfl k) ?_
  show Rest p.tables e below s _ _ _ (T3.setTop (mkF m 26 #[.val (.ref a0), .val (.ref a1), .val (.ref a1)] [(.ref a0)]))
  obtain ⟨T4, X4, e4, st4⟩ := getF X3 hx hZ hown (host := "") (Or.inl (hw _ (List.mem_of_getElem? (i := 28) rfl))) Via.refl e3 Fc_a0 (g := (mkF m 26 #[.val (.ref a0), .val (.ref a1), .val (.ref a1)] [(.ref a0)])) rfl rfl (hb hby d13_26)
  refine Rest.via (fun t k => st4 t k) ?_
  show Rest p.tables e below s _ _ _ (T4.setTop (mkF m 29 #[.val (.ref a0), .val (.ref a1), .val (.ref a1)] [(.int (0 : Int32))]))
  refine Rest.via (fun t k => XS.aloadN X4.here hx rfl (hb hby d13_29) rfl rfl k) ?_
  show Rest p.tables e below s _ _ _ (T4.setTop (mkF m 30 #[.val (.ref a0), .val (.ref a1), .val (.ref a1)] [(.ref a1), (.int (0 : Int32))]))
  obtain ⟨T5, X5, e5, st5⟩ := getF X4 hx hZ hown (host := "") (Or.inl (hw _ (List.mem_of_getElem? (i := 28) rfl))) Via.refl e4 Fc_a1 (g := (mkF m 30 #[.val (.ref a0), .val (.ref a1), .val (.ref a1)] [(.ref a1), (.int (0 : Int32))])) rfl rfl (hb hby d13_30)
  refine Rest.via (fun t k => st5 t k) ?_
  show Rest p.tables e below s _ _ _ (T5.setTop (mkF m 33 #[.val (.ref a0), .val (.ref a1), .val (.ref a1)] [(.int (0 : Int32)), (.int (0 : Int32))]))
  refine Rest.via (fun t k => XS.icmpNo X5.here hx rfl (hb hby d13_33) rfl (teq (by decide : (0 : Int32) = (0 : Int32))).2 k) ?_
  show Rest p.tables e below s _ _ _ (T5.setTop (mkF m 36 #[.val (.ref a0), .val (.ref a1), .val (.ref a1)] []))
  refine Rest.via (fun t k => XS.aloadN X5.here hx rfl (hb hby d13_36) rfl rfl k) ?_
  show Rest p.tables e below s _ _ _ (T5.setTop (mkF m 37 #[.val (.ref a0), .val (.ref a1), .val (.ref a1)] [(.ref a0)]))
  obtain ⟨T6, X6, e6, st6⟩ := getF X5 hx hZ hown (host := "") (Or.inl (hw _ (List.mem_of_getElem? (i := 27) rfl))) Via.refl e5 Fv_a0 (g := (mkF m 37 #[.val (.ref a0), .val (.ref a1), .val (.ref a1)] [(.ref a0)])) rfl rfl (hb hby d13_37)
  refine Rest.via (fun t k => st6 t k) ?_
  show Rest p.tables e below s _ _ _ (T6.setTop (mkF m 40 #[.val (.ref a0), .val (.ref a1), .val (.ref a1)] [(.ref va0)]))
  refine Rest.via (fun t k => XS.aloadN X6.here hx rfl (hb hby d13_40) rfl rfl k) ?_
  show Rest p.tables e below s _ _ _ (T6.setTop (mkF m 41 #[.val (.ref a0), .val (.ref a1), .val (.ref a1)] [(.ref a1), (.ref va0)]))
  obtain ⟨T7, X7, e7, st7⟩ := getF X6 hx hZ hown (host := "") (Or.inl (hw _ (List.mem_of_getElem? (i := 27) rfl))) Via.refl e6 Fv_a1 (g := (mkF m 41 #[.val (.ref a0), .val (.ref a1), .val (.ref a1)] [(.ref a1), (.ref va0)])) rfl rfl (hb hby d13_41)
  refine Rest.via (fun t k => st7 t k) ?_
  show Rest p.tables e below s _ _ _ (T7.setTop (mkF m 44 #[.val (.ref a0), .val (.ref a1), .val (.ref a1)] [(.ref va1), (.ref va0)]))
  obtain ⟨_, _, ⟨T8, L8, k8, n8⟩, -, X8, ⟨Lc8, hQ8, l8, y8, z8⟩, st8⟩ := Jvm.LawKit.callS X7 hx (y := (⟨"java/lang/StringLatin1", "equals", "([B[B)Z"⟩ : MethodName)) hown (mvT hZ (hw _ (List.mem_of_getElem? (i := 72) rfl))) (mvT hZ (hw _ (List.mem_of_getElem? (i := 73) rfl))) (mvT hZ (hw _ (List.mem_of_getElem? (i := 74) rfl))) (mvT hZ (hw _ (List.mem_of_getElem? (i := 75) rfl))) (by decide) (backOf (W := 0) (rmLE3_1 l Z aw hw [] va0 va1 k0 k1 xa xb xc ya h0 n0 (Nat.le_trans Z0 (Keep.refl h0 []).1) V_a0 V_a1) hZ (hw _ (List.mem_of_getElem? (i := 75) rfl)) (hw _ (List.mem_of_getElem? (i := 74) rfl)) (by decide) (by decide)) (g := (mkF m 44 #[.val (.ref a0), .val (.ref a1), .val (.ref a1)] [(.ref va1), (.ref va0)])) rfl (by rw [hml]; rfl) (argsL := [(.ref va0), (.ref va1)]) (rest := []) (lenOf pd_4 rfl) rfl (by show 2 * 0 + _ ≤ _; exact Nat.le_of_eq rfl) (hb hby d13_44) (fun _ _ => ⟨rfl, e7, (by decide : 0 + 0 ≤ _), (by decide : 0 + 0 ≤ _)⟩)
  dsimp only [Pt.U, Pt.locs, Pt.cells, Pt.slots] at X8 l8 y8 z8 st8 hQ8
  subst l8 y8 z8
  obtain ⟨rfl, Nq8, e8⟩ := hQ8
  have N8 := Fr.app N0 Nq8
  refine Rest.via (fun t k => st8 t k) ?_
  show Rest p.tables e below s _ _ _ (T8.setTop (mkF m 47 #[.val (.ref a0), .val (.ref a1), .val (.ref a1)] [(.int (if ([xa, xb, xc] : List Int32) = [ya] then (1 : Int32) else 0))]))
  by_cases hz : (if ([xa, xb, xc] : List Int32) = [ya] then (1 : Int32) else 0) = (0 : Int32)
  · refine Rest.via (fun t k => XS.ifYes X8.here hx rfl (pc0 := 47) (pc' := 54) rfl (hb hby d13_47) rfl ((if0 _ _).trans (teq hz).1) (by decide) (by decide) k) ?_
    show Rest p.tables e below s _ _ _ (T8.setTop (mkF m 54 #[.val (.ref a0), .val (.ref a1), .val (.ref a1)] []))
    refine Rest.via (fun t k => XS.iconst X8.here hx rfl (hb hby d13_54) k) ?_
    show Rest p.tables e below s _ _ _ (T8.setTop (mkF m 55 #[.val (.ref a0), .val (.ref a1), .val (.ref a1)] [(.int (0 : Int32))]))
    refine Rest.ret X8 (v := some (.int (nar .boolean (0 : Int32)))) (fun h => by rw [Bd.returns] at h; cases h) hlk (fun fs hr => retN X8 hx (t := .boolean) Bd.returns (by simp) (hb hby d13_55) hr) ?_ (by decide) (by decide)
    rw [e8]
    exact ⟨by show some (Value.int (0 : Int32)) = _; rw [hz], N8, rfl⟩
  · refine Rest.via (fun t k => XS.ifNo X8.here hx rfl (hb hby d13_47) rfl ((if0 _ _).trans (feq hz).1) k) ?_
    show Rest p.tables e below s _ _ _ (T8.setTop (mkF m 50 #[.val (.ref a0), .val (.ref a1), .val (.ref a1)] []))
    refine Rest.via (fun t k => XS.iconst X8.here hx rfl (hb hby d13_50) k) ?_
    show Rest p.tables e below s _ _ _ (T8.setTop (mkF m 51 #[.val (.ref a0), .val (.ref a1), .val (.ref a1)] [(.int (1 : Int32))]))
    refine Rest.via (fun t k => XS.goto X8.here hx rfl (pc0 := 51) (pc' := 55) rfl (hb hby d13_51) (by decide) (by decide) k) ?_
    show Rest p.tables e below s _ _ _ (T8.setTop (mkF m 55 #[.val (.ref a0), .val (.ref a1), .val (.ref a1)] [(.int (1 : Int32))]))
    refine Rest.ret X8 (v := some (.int (nar .boolean (1 : Int32)))) (fun h => by rw [Bd.returns] at h; cases h) hlk (fun fs hr => retN X8 hx (t := .boolean) Bd.returns (by simp) (hb hby d13_55) hr) ?_ (by decide) (by decide)
    rw [e8]
    exact ⟨by show some (Value.int (1 : Int32)) = _; rw [own_ite1 hz], N8, rfl⟩
theorem ef_LE3_2 (m : MethodId) (a0 : Addr) (a1 : Addr) : entryFrame m #[(.ref a0), (.ref a1)] 3 = mkF m 0 #[.val (.ref a0), .val (.ref a1), .unset] [] := by first | (simp [entryFrame, mkF, argsToLocals, Value.category, maxLocals]; done) | rfl
def QLE3_2 (Z : State) (a0 : Addr) (a1 : Addr) (k0 : ClassId) (k1 : ClassId) (xa : Int32) (xb : Int32) (xc : Int32) (ya : Int32) (yb : Int32) (h0 : Heap) (n0 : Nat) (v : Option Value) (h : Heap) (L : List Loc) : Prop := v = some (.int (if ([xa, xb, xc] : List Int32) = [ya, yb] then (1 : Int32) else 0)) ∧ Fr n0 L ∧ h = h0
set_option maxRecDepth 65536 in
set_option maxHeartbeats 40000000 in
theorem rmLE3_2 (l : Launch) (Z : State) (aw : Array Value) (hw : ∀ d ∈ tables_1, d.before aw Z = true) (ws : List Jvm.Cond) (a0 : Addr) (a1 : Addr) (k0 : ClassId) (k1 : ClassId) (xa : Int32) (xb : Int32) (xc : Int32) (ya : Int32) (yb : Int32) (h0 : Heap) (n0 : Nat) (Z0 : n0 ≤ h0.size) (V0 : Arv Z h0 a0 k0 .byte (3 : Int32) [(.int xa), (.int xb), (.int xc)] (.int (0 : Int32))) (V1 : Arv Z h0 a1 k1 .byte (2 : Int32) [(.int ya), (.int yb)] (.int (0 : Int32))) :
    MetFree l (⟨"java/lang/StringLatin1", "equals", "([B[B)Z"⟩ : MethodName) (head1 (Jvm.Cond.code (⟨"java/lang/StringLatin1", "equals", "([B[B)Z"⟩ : MethodName) jdk_43_method_13_code 3 (some .boolean) :: ws) ({ frames := 0, cells := 0, slots := 0, locals := 0 } : Room)) (fun a U => a = #[(.ref a0), (.ref a1)] ∧ Z.Warmed39 U.vm ∧ U.heap = h0) (fun _ _ _ _ _ => True) (fun _ U o U' => ∃ v L, o = .returned v ∧ QLE3_2 Z a0 a1 k0 k1 xa xb xc ya yb h0 n0 v U'.heap L ∧ FrameEnd U o U' L ({ frames := 0, cells := 0, slots := 0, locals := 0 } : Room).cells ({ frames := 0, cells := 0, slots := 0, locals := 0 } : Room).slots) := by
  refine MetFree.of_bodySF (plainFor_of_name pn_2) hisR ?_
  intro p e s m args below meth c s₁ Bd hml0 hP hK
  obtain ⟨rfl, hZ, hh⟩ := hP
  have hx := Bd.exec
  have hby := Bd.bytes
  have hml : c.maxLocals = 3 := hml0
  have hown : s.vm.findClass "java/lang/StringLatin1" = some m.cls := findClass_of_methodNamed Bd.named
  have hnm := (name_of_methodNamed Bd.named Bd.method).1
  have hlk : meth.locks = false := BodyLoose.notSynchronized Bd
  have X0 : Stand p l e ({ frames := 0, cells := 0, slots := 0, locals := 0 } : Room) s m #[(.ref a0), (.ref a1)] below meth c s₁ [] 0 0 := Stand.of_body Bd
  have _u := trivial
  have eh0 : s₁.heap = h0 := by rw [← hh, Bd.state]; rfl
  have N0 := Fr.nil n0
  show Rest p.tables e below s (QLE3_2 Z a0 a1 k0 k1 xa xb xc ya yb h0 n0) _ _ (s₁.setTop (entryFrame m #[(.ref a0), (.ref a1)] 3))
  refine Rest.via (fun t k => castTop (ef_LE3_2 m a0 a1) k) ?_
  show Rest p.tables e below s _ _ _ (s₁.setTop (mkF m 0 #[.val (.ref a0), .val (.ref a1), .unset] []))
  refine Rest.via (fun t k => XS.aloadN X0.here hx rfl (hb hby d14_0) rfl rfl k) ?_
  show Rest p.tables e below s _ _ _ (s₁.setTop (mkF m 1 #[.val (.ref a0), .val (.ref a1), .unset] [(.ref a0)]))
  obtain ⟨cl1, Ar1, -, S1, P1, -, -⟩ := id V0
  refine Rest.via (fun t k => X0.arraylength hx (by rw [eh0]; exact Ar1.1) (State.isArrayOf_alike hZ.alike Ar1.2.1) (g := (mkF m 1 #[.val (.ref a0), .val (.ref a1), .unset] [(.ref a0)])) rfl rfl (hb hby d14_1) t k) ?_
  rw [len_of S1 P1]
  show Rest p.tables e below s _ _ _ (s₁.setTop (mkF m 2 #[.val (.ref a0), .val (.ref a1), .unset] [(.int (3 : Int32))]))
  refine Rest.via (fun t k => XS.aloadN X0.here hx rfl (hb hby d14_2) rfl rfl k) ?_
  show Rest p.tables e below s _ _ _ (s₁.setTop (mkF m 3 #[.val (.ref a0), .val (.ref a1), .unset] [(.ref a1), (.int (3 : Int32))]))
  obtain ⟨cl2, Ar2, -, S2, P2, -, -⟩ := id V1
  refine Rest.via (fun t k => X0.arraylength hx (by rw [eh0]; exact Ar2.1) (State.isArrayOf_alike hZ.alike Ar2.2.1) (g := (mkF m 3 #[.val (.ref a0), .val (.ref a1), .unset] [(.ref a1), (.int (3 : Int32))])) rfl rfl (hb hby d14_3) t k) ?_
  rw [len_of S2 P2]
  show Rest p.tables e below s _ _ _ (s₁.setTop (mkF m 4 #[.val (.ref a0), .val (.ref a1), .unset] [(.int (2 : Int32)), (.int (3 : Int32))]))
  refine Rest.via (fun t k => XS.icmpYes X0.here hx rfl (pc0 := 4) (pc' := 34) rfl (hb hby d14_4) rfl (feq (by decide : ¬ ((3 : Int32) = (2 : Int32)))).2 (by decide) (by decide) k) ?_
  show Rest p.tables e below s _ _ _ (s₁.setTop (mkF m 34 #[.val (.ref a0), .val (.ref a1), .unset] []))
  refine Rest.via (fun t k => XS.iconst X0.here hx rfl (hb hby d14_34) k) ?_
  show Rest p.tables e below s _ _ _ (s₁.setTop (mkF m 35 #[.val (.ref a0), .val (.ref a1), .unset] [(.int (0 : Int32))]))
  refine Rest.ret X0 (v := some (.int (nar .boolean (0 : Int32)))) (fun h => by rw [Bd.returns] at h; cases h) hlk (fun fs hr => retN X0 hx (t := .boolean) Bd.returns (by simp) (hb hby d14_35) hr) ?_ (by decide) (by decide)
  rw [eh0]
  exact ⟨by show some (Value.int (0 : Int32)) = _; rw [if_neg (by simp)], N0, rfl⟩
theorem ef_SE3_2 (m : MethodId) (a0 : Addr) (a1 : Addr) : entryFrame m #[(.ref a0), (.ref a1)] 3 = mkF m 0 #[.val (.ref a0), .val (.ref a1), .unset] [] := by first | (simp [entryFrame, mkF, argsToLocals, Value.category, maxLocals]; done) | rfl
def QSE3_2 (Z : State) (a0 : Addr) (a1 : Addr) (va0 : Addr) (k0 : ClassId) (va1 : Addr) (k1 : ClassId) (ic : Int32) (xa : Int32) (xb : Int32) (xc : Int32) (ya : Int32) (yb : Int32) (h0 : Heap) (n0 : Nat) (v : Option Value) (h : Heap) (L : List Loc) : Prop := v = some (.int (if ([xa, xb, xc] : List Int32) = [ya, yb] then (1 : Int32) else 0)) ∧ Fr n0 L ∧ h = h0
set_option maxRecDepth 65536 in
set_option maxHeartbeats 40000000 in
theorem rmSE3_2 (l : Launch) (Z : State) (aw : Array Value) (hw : ∀ d ∈ tables_1, d.before aw Z = true) (ws : List Jvm.Cond) (a0 : Addr) (a1 : Addr) (va0 : Addr) (k0 : ClassId) (va1 : Addr) (k1 : ClassId) (ic : Int32) (xa : Int32) (xb : Int32) (xc : Int32) (ya : Int32) (yb : Int32) (h0 : Heap) (n0 : Nat) (Z0 : n0 ≤ h0.size) (S0 : own_St Z h0 a0 va0 k0 (3 : Int32) [(.int xa), (.int xb), (.int xc)]) (S1 : own_St Z h0 a1 va1 k1 (2 : Int32) [(.int ya), (.int yb)]) (n01 : a0 ≠ a1) (O : Old Z n0 h0) (CS : own_CS Z ic) :
    MetFree l (⟨"java/lang/String", "equals", "(Ljava/lang/Object;)Z"⟩ : MethodName) (head1 (Jvm.Cond.code (⟨"java/lang/String", "equals", "(Ljava/lang/Object;)Z"⟩ : MethodName) jdk_42_method_66_code 3 (some .boolean) :: ws) ({ frames := 1, cells := 0, slots := 0, locals := 14 } : Room)) (fun a U => a = #[(.ref a0), (.ref a1)] ∧ Z.Warmed39 U.vm ∧ U.heap = h0) (fun _ _ _ _ _ => True) (fun _ U o U' => ∃ v L, o = .returned v ∧ QSE3_2 Z a0 a1 va0 k0 va1 k1 ic xa xb xc ya yb h0 n0 v U'.heap L ∧ FrameEnd U o U' L ({ frames := 1, cells := 0, slots := 0, locals := 14 } : Room).cells ({ frames := 1, cells := 0, slots := 0, locals := 14 } : Room).slots) := by
  refine MetFree.of_bodySF (plainFor_of_name pn_1) hisR ?_
  intro p e s m args below meth c s₁ Bd hml0 hP hK
  obtain ⟨rfl, hZ, hh⟩ := hP
  have hx := Bd.exec
  have hby := Bd.bytes
  have hml : c.maxLocals = 3 := hml0
  have hown : s.vm.findClass "java/lang/String" = some m.cls := findClass_of_methodNamed Bd.named
  have hnm := (name_of_methodNamed Bd.named Bd.method).1
  have hlk : meth.locks = false := BodyLoose.notSynchronized Bd
  have X0 : Stand p l e ({ frames := 1, cells := 0, slots := 0, locals := 14 } : Room) s m #[(.ref a0), (.ref a1)] below meth c s₁ [] 0 0 := Stand.of_body Bd
  have _u := trivial
  have eh0 : s₁.heap = h0 := by rw [← hh, Bd.state]; rfl
  have N0 := Fr.nil n0
  show Rest p.tables e below s (QSE3_2 Z a0 a1 va0 k0 va1 k1 ic xa xb xc ya yb h0 n0) _ _ (s₁.setTop (entryFrame m #[(.ref a0), (.ref a1)] 3))
  refine Rest.via (fun t k => castTop (ef_SE3_2 m a0 a1) k) ?_
  obtain ⟨E_a0, Fv_a0, Fc_a0, V_a0⟩ := id S0
  obtain ⟨E_a1, Fv_a1, Fc_a1, V_a1⟩ := id S1
  show Rest p.tables e below s _ _ _ (s₁.setTop (mkF m 0 #[.val (.ref a0), .val (.ref a1), .unset] []))
  refine Rest.via (fun t k => XS.aloadN X0.here hx rfl (hb hby d13_0) rfl rfl k) ?_
  show Rest p.tables e below s _ _ _ (s₁.setTop (mkF m 1 #[.val (.ref a0), .val (.ref a1), .unset] [(.ref a0)]))
  refine Rest.via (fun t k => XS.aloadN X0.here hx rfl (hb hby d13_1) rfl rfl k) ?_
  show Rest p.tables e below s _ _ _ (s₁.setTop (mkF m 2 #[.val (.ref a0), .val (.ref a1), .unset] [(.ref a1), (.ref a0)]))
  refine Rest.via (fun t k => Jvm.RoadKit.acmp (g := (mkF m 2 #[.val (.ref a0), .val (.ref a1), .unset] [(.ref a1), (.ref a0)])) X0 hx rfl rfl rfl (pc0 := 2) (pc' := 7) (same := false) rfl (hb hby d13_2) rfl (decide_eq_false fun q => n01 (Value.ref.inj q)) (by decide) (by decide) k) ?_
  show Rest p.tables e below s _ _ _ (s₁.setTop (mkF m 7 #[.val (.ref a0), .val (.ref a1), .unset] []))
  refine Rest.via (fun t k => XS.aloadN X0.here hx rfl (hb hby d13_7) rfl rfl k) ?_
  show Rest p.tables e below s _ _ _ (s₁.setTop (mkF m 8 #[.val (.ref a0), .val (.ref a1), .unset] [(.ref a1)]))
  obtain ⟨T1, X1, e1, st1⟩ := instY X0 hx hZ hown (hw _ (List.mem_of_getElem? (i := 71) rfl)) eh0 (Ins.self E_a1) (g := (mkF m 8 #[.val (.ref a0), .val (.ref a1), .unset] [(.ref a1)])) rfl rfl (hb hby d13_8)
  refine Rest.via (fun t k => st1 t k) ?_
  show Rest p.tables e below s _ _ _ (T1.setTop (mkF m 11 #[.val (.ref a0), .val (.ref a1), .unset] [(.int (1 : Int32))]))
  refine Rest.via (fun t k => XS.ifNo X1.here hx rfl (hb hby d13_11) rfl ((if0 _ _).trans (feq (by decide : ¬ ((1 : Int32) = (0 : Int32)))).1) k) ?_
  show Rest p.tables e below s _ _ _ (T1.setTop (mkF m 14 #[.val (.ref a0), .val (.ref a1), .unset] []))
  refine Rest.via (fun t k => XS.aloadN X1.here hx rfl (hb hby d13_14) rfl rfl k) ?_
  show Rest p.tables e below s _ _ _ (T1.setTop (mkF m 15 #[.val (.ref a0), .val (.ref a1), .unset] [(.ref a1)]))
  obtain ⟨T2, X2, e2, st2⟩ := castY X1 hx hZ hown (hw _ (List.mem_of_getElem? (i := 71) rfl)) e1 (Ins.self E_a1) (g := (mkF m 15 #[.val (.ref a0), .val (.ref a1), .unset] [(.ref a1)])) rfl rfl (hb hby d13_15)
  refine Rest.via (fun t k => st2 t k) ?_
  show Rest p.tables e below s _ _ _ (T2.setTop (mkF m 18 #[.val (.ref a0), .val (.ref a1), .unset] [(.ref a1)]))
  refine Rest.via (fun t k => XS.astoreN X2.here hx rfl (hb hby d13_18) rfl rfl (l' := #[.val (.ref a0), .val (.ref a1), .val (.ref a1)]) rfl k) ?_
  show Rest p.tables e below s _ _ _ (T2.setTop (mkF m 19 #[.val (.ref a0), .val (.ref a1), .val (.ref a1)] []))
  obtain ⟨T3, X3, e3, st3⟩ := getS2 X2 hx hZ hown (host := "") (Or.inl (hw _ (List.mem_of_getElem? (i := 45) rfl))) Via.refl e2 (CS.1.ext (O.keep (Keep.refl h0 []) all0).2) (g := (mkF m 19 #[.val (.ref a0), .val (.ref a1), .val (.ref a1)] [])) rfl (hb hby d13_19)
  refine Rest.via (fun t k => st3 t k) ?_
  show Rest p.tables e below s _ _ _ (T3.setTop (mkF m 22 #[.val (.ref a0), .val (.ref a1), .val (.ref a1)] [(.int ic)]))
  refine Rest.via (fun t k => XS.ifNo X3.here hx rfl (hb hby d13_22) rfl ((if0 _ _).trans (feq (CS.2 : ¬ (ic = (0 : Int32)))).1) k) ?_
  show Rest p.tables e below s _ _ _ (T3.setTop (mkF m 25 #[.val (.ref a0), .val (.ref a1), .val (.ref a1)] []))
  refine Rest.via (fun t k => XS.aloadN X3.here hx rfl (hb hby d13_25) rfl rfl k) ?_
  show Rest p.tables e below s _ _ _ (T3.setTop (mkF m 26 #[.val (.ref a0), .val (.ref a1), .val (.ref a1)] [(.ref a0)]))
  obtain ⟨T4, X4, e4, st4⟩ := getF X3 hx hZ hown (host := "") (Or.inl (hw _ (List.mem_of_getElem? (i := 28) rfl))) Via.refl e3 Fc_a0 (g := (mkF m 26 #[.val (.ref a0), .val (.ref a1), .val (.ref a1)] [(.ref a0)])) rfl rfl (hb hby d13_26)
  refine Rest.via (fun t k => st4 t k) ?_
  show Rest p.tables e below s _ _ _ (T4.setTop (mkF m 29 #[.val (.ref a0), .val (.ref a1), .val (.ref a1)] [(.int (0 : Int32))]))
  refine Rest.via (fun t k => XS.aloadN X4.here hx rfl (hb hby d13_29) rfl rfl k) ?_
  show Rest p.tables e below s _ _ _ (T4.setTop (mkF m 30 #[.val (.ref a0), .val (.ref a1), .val (.ref a1)] [(.ref a1), (.int (0 : Int32))]))
  obtain ⟨T5, X5, e5, st5⟩ := getF X4 hx hZ hown (host := "") (Or.inl (hw _ (List.mem_of_getElem? (i := 28) rfl))) Via.refl e4 Fc_a1 (g := (mkF m 30 #[.val (.ref a0), .val (.ref a1), .val (.ref a1)] [(.ref a1), (.int (0 : Int32))])) rfl rfl (hb hby d13_30)
  refine Rest.via (fun t k => st5 t k) ?_
  show Rest p.tables e below s _ _ _ (T5.setTop (mkF m 33 #[.val (.ref a0), .val (.ref a1), .val (.ref a1)] [(.int (0 : Int32)), (.int (0 : Int32))]))
  refine Rest.via (fun t k => XS.icmpNo X5.here hx rfl (hb hby d13_33) rfl (teq (by decide : (0 : Int32) = (0 : Int32))).2 k) ?_
  show Rest p.tables e below s _ _ _ (T5.setTop (mkF m 36 #[.val (.ref a0), .val (.ref a1), .val (.ref a1)] []))
  refine Rest.via (fun t k => XS.aloadN X5.here hx rfl (hb hby d13_36) rfl rfl k) ?_
  show Rest p.tables e below s _ _ _ (T5.setTop (mkF m 37 #[.val (.ref a0), .val (.ref a1), .val (.ref a1)] [(.ref a0)]))
  obtain ⟨T6, X6, e6, st6⟩ := getF X5 hx hZ hown (host := "") (Or.inl (hw _ (List.mem_of_getElem? (i := 27) rfl))) Via.refl e5 Fv_a0 (g := (mkF m 37 #[.val (.ref a0), .val (.ref a1), .val (.ref a1)] [(.ref a0)])) rfl rfl (hb hby d13_37)
  refine Rest.via (fun t k => st6 t k) ?_
  show Rest p.tables e below s _ _ _ (T6.setTop (mkF m 40 #[.val (.ref a0), .val (.ref a1), .val (.ref a1)] [(.ref va0)]))
  refine Rest.via (fun t k => XS.aloadN X6.here hx rfl (hb hby d13_40) rfl rfl k) ?_
  show Rest p.tables e below s _ _ _ (T6.setTop (mkF m 41 #[.val (.ref a0), .val (.ref a1), .val (.ref a1)] [(.ref a1), (.ref va0)]))
  obtain ⟨T7, X7, e7, st7⟩ := getF X6 hx hZ hown (host := "") (Or.inl (hw _ (List.mem_of_getElem? (i := 27) rfl))) Via.refl e6 Fv_a1 (g := (mkF m 41 #[.val (.ref a0), .val (.ref a1), .val (.ref a1)] [(.ref a1), (.ref va0)])) rfl rfl (hb hby d13_41)
  refine Rest.via (fun t k => st7 t k) ?_
  show Rest p.tables e below s _ _ _ (T7.setTop (mkF m 44 #[.val (.ref a0), .val (.ref a1), .val (.ref a1)] [(.ref va1), (.ref va0)]))
  obtain ⟨_, _, ⟨T8, L8, k8, n8⟩, -, X8, ⟨Lc8, hQ8, l8, y8, z8⟩, st8⟩ := Jvm.LawKit.callS X7 hx (y := (⟨"java/lang/StringLatin1", "equals", "([B[B)Z"⟩ : MethodName)) hown (mvT hZ (hw _ (List.mem_of_getElem? (i := 72) rfl))) (mvT hZ (hw _ (List.mem_of_getElem? (i := 73) rfl))) (mvT hZ (hw _ (List.mem_of_getElem? (i := 74) rfl))) (mvT hZ (hw _ (List.mem_of_getElem? (i := 75) rfl))) (by decide) (backOf (W := 0) (rmLE3_2 l Z aw hw [] va0 va1 k0 k1 xa xb xc ya yb h0 n0 (Nat.le_trans Z0 (Keep.refl h0 []).1) V_a0 V_a1) hZ (hw _ (List.mem_of_getElem? (i := 75) rfl)) (hw _ (List.mem_of_getElem? (i := 74) rfl)) (by decide) (by decide)) (g := (mkF m 44 #[.val (.ref a0), .val (.ref a1), .val (.ref a1)] [(.ref va1), (.ref va0)])) rfl (by rw [hml]; rfl) (argsL := [(.ref va0), (.ref va1)]) (rest := []) (lenOf pd_4 rfl) rfl (by show 2 * 0 + _ ≤ _; exact Nat.le_of_eq rfl) (hb hby d13_44) (fun _ _ => ⟨rfl, e7, (by decide : 0 + 0 ≤ _), (by decide : 0 + 0 ≤ _)⟩)
  dsimp only [Pt.U, Pt.locs, Pt.cells, Pt.slots] at X8 l8 y8 z8 st8 hQ8
  subst l8 y8 z8
  obtain ⟨rfl, Nq8, e8⟩ := hQ8
  have N8 := Fr.app N0 Nq8
  refine Rest.via (fun t k => st8 t k) ?_
  show Rest p.tables e below s _ _ _ (T8.setTop (mkF m 47 #[.val (.ref a0), .val (.ref a1), .val (.ref a1)] [(.int (if ([xa, xb, xc] : List Int32) = [ya, yb] then (1 : Int32) else 0))]))
  by_cases hz : (if ([xa, xb, xc] : List Int32) = [ya, yb] then (1 : Int32) else 0) = (0 : Int32)
  · refine Rest.via (fun t k => XS.ifYes X8.here hx rfl (pc0 := 47) (pc' := 54) rfl (hb hby d13_47) rfl ((if0 _ _).trans (teq hz).1) (by decide) (by decide) k) ?_
    show Rest p.tables e below s _ _ _ (T8.setTop (mkF m 54 #[.val (.ref a0), .val (.ref a1), .val (.ref a1)] []))
    refine Rest.via (fun t k => XS.iconst X8.here hx rfl (hb hby d13_54) k) ?_
    show Rest p.tables e below s _ _ _ (T8.setTop (mkF m 55 #[.val (.ref a0), .val (.ref a1), .val (.ref a1)] [(.int (0 : Int32))]))
    refine Rest.ret X8 (v := some (.int (nar .boolean (0 : Int32)))) (fun h => by rw [Bd.returns] at h; cases h) hlk (fun fs hr => retN X8 hx (t := .boolean) Bd.returns (by simp) (hb hby d13_55) hr) ?_ (by decide) (by decide)
    rw [e8]
    exact ⟨by show some (Value.int (0 : Int32)) = _; rw [hz], N8, rfl⟩
  · refine Rest.via (fun t k => XS.ifNo X8.here hx rfl (hb hby d13_47) rfl ((if0 _ _).trans (feq hz).1) k) ?_
    show Rest p.tables e below s _ _ _ (T8.setTop (mkF m 50 #[.val (.ref a0), .val (.ref a1), .val (.ref a1)] []))
    refine Rest.via (fun t k => XS.iconst X8.here hx rfl (hb hby d13_50) k) ?_
    show Rest p.tables e below s _ _ _ (T8.setTop (mkF m 51 #[.val (.ref a0), .val (.ref a1), .val (.ref a1)] [(.int (1 : Int32))]))
    refine Rest.via (fun t k => XS.goto X8.here hx rfl (pc0 := 51) (pc' := 55) rfl (hb hby d13_51) (by decide) (by decide) k) ?_
    show Rest p.tables e below s _ _ _ (T8.setTop (mkF m 55 #[.val (.ref a0), .val (.ref a1), .val (.ref a1)] [(.int (1 : Int32))]))
    refine Rest.ret X8 (v := some (.int (nar .boolean (1 : Int32)))) (fun h => by rw [Bd.returns] at h; cases h) hlk (fun fs hr => retN X8 hx (t := .boolean) Bd.returns (by simp) (hb hby d13_55) hr) ?_ (by decide) (by decide)
    rw [e8]
    exact ⟨by show some (Value.int (1 : Int32)) = _; rw [own_ite1 hz], N8, rfl⟩
theorem ef_LE3_3 (m : MethodId) (a0 : Addr) (a1 : Addr) : entryFrame m #[(.ref a0), (.ref a1)] 3 = mkF m 0 #[.val (.ref a0), .val (.ref a1), .unset] [] := by first | (simp [entryFrame, mkF, argsToLocals, Value.category, maxLocals]; done) | rfl
def QLE3_3 (Z : State) (a0 : Addr) (a1 : Addr) (k0 : ClassId) (k1 : ClassId) (xa : Int32) (xb : Int32) (xc : Int32) (ya : Int32) (yb : Int32) (yc : Int32) (h0 : Heap) (n0 : Nat) (v : Option Value) (h : Heap) (L : List Loc) : Prop := v = some (.int (if ([xa, xb, xc] : List Int32) = [ya, yb, yc] then (1 : Int32) else 0)) ∧ Fr n0 L ∧ h = h0
set_option maxRecDepth 65536 in
set_option maxHeartbeats 40000000 in
theorem rmLE3_3 (l : Launch) (Z : State) (aw : Array Value) (hw : ∀ d ∈ tables_1, d.before aw Z = true) (ws : List Jvm.Cond) (a0 : Addr) (a1 : Addr) (k0 : ClassId) (k1 : ClassId) (xa : Int32) (xb : Int32) (xc : Int32) (ya : Int32) (yb : Int32) (yc : Int32) (h0 : Heap) (n0 : Nat) (Z0 : n0 ≤ h0.size) (V0 : Arv Z h0 a0 k0 .byte (3 : Int32) [(.int xa), (.int xb), (.int xc)] (.int (0 : Int32))) (V1 : Arv Z h0 a1 k1 .byte (3 : Int32) [(.int ya), (.int yb), (.int yc)] (.int (0 : Int32))) :
    MetFree l (⟨"java/lang/StringLatin1", "equals", "([B[B)Z"⟩ : MethodName) (head1 (Jvm.Cond.code (⟨"java/lang/StringLatin1", "equals", "([B[B)Z"⟩ : MethodName) jdk_43_method_13_code 3 (some .boolean) :: ws) ({ frames := 0, cells := 0, slots := 0, locals := 0 } : Room)) (fun a U => a = #[(.ref a0), (.ref a1)] ∧ Z.Warmed39 U.vm ∧ U.heap = h0) (fun _ _ _ _ _ => True) (fun _ U o U' => ∃ v L, o = .returned v ∧ QLE3_3 Z a0 a1 k0 k1 xa xb xc ya yb yc h0 n0 v U'.heap L ∧ FrameEnd U o U' L ({ frames := 0, cells := 0, slots := 0, locals := 0 } : Room).cells ({ frames := 0, cells := 0, slots := 0, locals := 0 } : Room).slots) := by
  refine MetFree.of_bodySF (plainFor_of_name pn_2) hisR ?_
  intro p e s m args below meth c s₁ Bd hml0 hP hK
  obtain ⟨rfl, hZ, hh⟩ := hP
  have hx := Bd.exec
  have hby := Bd.bytes
  have hml : c.maxLocals = 3 := hml0
  have hown : s.vm.findClass "java/lang/StringLatin1" = some m.cls := findClass_of_methodNamed Bd.named
  have hnm := (name_of_methodNamed Bd.named Bd.method).1
  have hlk : meth.locks = false := BodyLoose.notSynchronized Bd
  have X0 : Stand p l e ({ frames := 0, cells := 0, slots := 0, locals := 0 } : Room) s m #[(.ref a0), (.ref a1)] below meth c s₁ [] 0 0 := Stand.of_body Bd
  have _u := trivial
  have eh0 : s₁.heap = h0 := by rw [← hh, Bd.state]; rfl
  have N0 := Fr.nil n0
  show Rest p.tables e below s (QLE3_3 Z a0 a1 k0 k1 xa xb xc ya yb yc h0 n0) _ _ (s₁.setTop (entryFrame m #[(.ref a0), (.ref a1)] 3))
  refine Rest.via (fun t k => castTop (ef_LE3_3 m a0 a1) k) ?_
  show Rest p.tables e below s _ _ _ (s₁.setTop (mkF m 0 #[.val (.ref a0), .val (.ref a1), .unset] []))
  refine Rest.via (fun t k => XS.aloadN X0.here hx rfl (hb hby d14_0) rfl rfl k) ?_
  show Rest p.tables e below s _ _ _ (s₁.setTop (mkF m 1 #[.val (.ref a0), .val (.ref a1), .unset] [(.ref a0)]))
  obtain ⟨cl1, Ar1, -, S1, P1, -, -⟩ := id V0
  refine Rest.via (fun t k => X0.arraylength hx (by rw [eh0]; exact Ar1.1) (State.isArrayOf_alike hZ.alike Ar1.2.1) (g := (mkF m 1 #[.val (.ref a0), .val (.ref a1), .unset] [(.ref a0)])) rfl rfl (hb hby d14_1) t k) ?_
  rw [len_of S1 P1]
  show Rest p.tables e below s _ _ _ (s₁.setTop (mkF m 2 #[.val (.ref a0), .val (.ref a1), .unset] [(.int (3 : Int32))]))
  refine Rest.via (fun t k => XS.aloadN X0.here hx rfl (hb hby d14_2) rfl rfl k) ?_
  show Rest p.tables e below s _ _ _ (s₁.setTop (mkF m 3 #[.val (.ref a0), .val (.ref a1), .unset] [(.ref a1), (.int (3 : Int32))]))
  obtain ⟨cl2, Ar2, -, S2, P2, -, -⟩ := id V1
  refine Rest.via (fun t k => X0.arraylength hx (by rw [eh0]; exact Ar2.1) (State.isArrayOf_alike hZ.alike Ar2.2.1) (g := (mkF m 3 #[.val (.ref a0), .val (.ref a1), .unset] [(.ref a1), (.int (3 : Int32))])) rfl rfl (hb hby d14_3) t k) ?_
  rw [len_of S2 P2]
  show Rest p.tables e below s _ _ _ (s₁.setTop (mkF m 4 #[.val (.ref a0), .val (.ref a1), .unset] [(.int (3 : Int32)), (.int (3 : Int32))]))
  refine Rest.via (fun t k => XS.icmpNo X0.here hx rfl (hb hby d14_4) rfl (teq (by decide : (3 : Int32) = (3 : Int32))).2 k) ?_
  show Rest p.tables e below s _ _ _ (s₁.setTop (mkF m 7 #[.val (.ref a0), .val (.ref a1), .unset] []))
  refine Rest.via (fun t k => XS.iconst X0.here hx rfl (hb hby d14_7) k) ?_
  show Rest p.tables e below s _ _ _ (s₁.setTop (mkF m 8 #[.val (.ref a0), .val (.ref a1), .unset] [(.int (0 : Int32))]))
  refine Rest.via (fun t k => XS.istoreN X0.here hx rfl (hb hby d14_8) rfl (l' := #[.val (.ref a0), .val (.ref a1), .val (.int (0 : Int32))]) rfl k) ?_
  show Rest p.tables e below s _ _ _ (s₁.setTop (mkF m 9 #[.val (.ref a0), .val (.ref a1), .val (.int (0 : Int32))] []))
  refine Rest.via (fun t k => XS.iloadN X0.here hx rfl (hb hby d14_9) rfl k) ?_
  show Rest p.tables e below s _ _ _ (s₁.setTop (mkF m 10 #[.val (.ref a0), .val (.ref a1), .val (.int (0 : Int32))] [(.int (0 : Int32))]))
  refine Rest.via (fun t k => XS.aloadN X0.here hx rfl (hb hby d14_10) rfl rfl k) ?_
  show Rest p.tables e below s _ _ _ (s₁.setTop (mkF m 11 #[.val (.ref a0), .val (.ref a1), .val (.int (0 : Int32))] [(.ref a0), (.int (0 : Int32))]))
  obtain ⟨cl3, Ar3, -, S3, P3, -, -⟩ := id V0
  refine Rest.via (fun t k => X0.arraylength hx (by rw [eh0]; exact Ar3.1) (State.isArrayOf_alike hZ.alike Ar3.2.1) (g := (mkF m 11 #[.val (.ref a0), .val (.ref a1), .val (.int (0 : Int32))] [(.ref a0), (.int (0 : Int32))])) rfl rfl (hb hby d14_11) t k) ?_
  rw [len_of S3 P3]
  show Rest p.tables e below s _ _ _ (s₁.setTop (mkF m 12 #[.val (.ref a0), .val (.ref a1), .val (.int (0 : Int32))] [(.int (3 : Int32)), (.int (0 : Int32))]))
  refine Rest.via (fun t k => XS.icmpNo X0.here hx rfl (hb hby d14_12) rfl (tlt (by decide : (0 : Int32) < (3 : Int32))).2.1 k) ?_
  show Rest p.tables e below s _ _ _ (s₁.setTop (mkF m 15 #[.val (.ref a0), .val (.ref a1), .val (.int (0 : Int32))] []))
  refine Rest.via (fun t k => XS.aloadN X0.here hx rfl (hb hby d14_15) rfl rfl k) ?_
  show Rest p.tables e below s _ _ _ (s₁.setTop (mkF m 16 #[.val (.ref a0), .val (.ref a1), .val (.int (0 : Int32))] [(.ref a0)]))
  refine Rest.via (fun t k => XS.iloadN X0.here hx rfl (hb hby d14_16) rfl k) ?_
  show Rest p.tables e below s _ _ _ (s₁.setTop (mkF m 17 #[.val (.ref a0), .val (.ref a1), .val (.int (0 : Int32))] [(.int (0 : Int32)), (.ref a0)]))
  obtain ⟨cl4, Ar4, qa4, Sa4, Pa4, Ha4, Ga4⟩ := id V0
  have hin4 := inb_of (j := (0 : Int32)) Sa4 ⟨by decide, by decide⟩
  have hat4 : cl4.slots[((0 : Int32)).toNatClampNeg]? = some (.int xa) := Has.at Ha4 hin4 rfl
  refine Rest.via (fun t k => X0.baloadBytes hx (j := (0 : Int32)) (v := (.int xa)) (by rw [eh0]; exact Ar4.1) (State.isArrayOf_alike hZ.alike Ar4.2.1) Ar4.2.2 hin4 hat4 (g := (mkF m 17 #[.val (.ref a0), .val (.ref a1), .val (.int (0 : Int32))] [(.int (0 : Int32)), (.ref a0)])) rfl rfl (hb hby d14_17) t k) ?_
  show Rest p.tables e below s _ _ _ (s₁.setTop (mkF m 18 #[.val (.ref a0), .val (.ref a1), .val (.int (0 : Int32))] [(.int xa)]))
  refine Rest.via (fun t k => XS.aloadN X0.here hx rfl (hb hby d14_18) rfl rfl k) ?_
  show Rest p.tables e below s _ _ _ (s₁.setTop (mkF m 19 #[.val (.ref a0), .val (.ref a1), .val (.int (0 : Int32))] [(.ref a1), (.int xa)]))
  refine Rest.via (fun t k => XS.iloadN X0.here hx rfl (hb hby d14_19) rfl k) ?_
  show Rest p.tables e below s _ _ _ (s₁.setTop (mkF m 20 #[.val (.ref a0), .val (.ref a1), .val (.int (0 : Int32))] [(.int (0 : Int32)), (.ref a1), (.int xa)]))
  obtain ⟨cl5, Ar5, qa5, Sa5, Pa5, Ha5, Ga5⟩ := id V1
  have hin5 := inb_of (j := (0 : Int32)) Sa5 ⟨by decide, by decide⟩
  have hat5 : cl5.slots[((0 : Int32)).toNatClampNeg]? = some (.int ya) := Has.at Ha5 hin5 rfl
  refine Rest.via (fun t k => X0.baloadBytes hx (j := (0 : Int32)) (v := (.int ya)) (by rw [eh0]; exact Ar5.1) (State.isArrayOf_alike hZ.alike Ar5.2.1) Ar5.2.2 hin5 hat5 (g := (mkF m 20 #[.val (.ref a0), .val (.ref a1), .val (.int (0 : Int32))] [(.int (0 : Int32)), (.ref a1), (.int xa)])) rfl rfl (hb hby d14_20) t k) ?_
  show Rest p.tables e below s _ _ _ (s₁.setTop (mkF m 21 #[.val (.ref a0), .val (.ref a1), .val (.int (0 : Int32))] [(.int ya), (.int xa)]))
  by_cases hq0 : xa = ya
  · refine Rest.via (fun t k => XS.icmpYes X0.here hx rfl (pc0 := 21) (pc' := 26) rfl (hb hby d14_21) rfl (teq hq0).1 (by decide) (by decide) k) ?_
    show Rest p.tables e below s _ _ _ (s₁.setTop (mkF m 26 #[.val (.ref a0), .val (.ref a1), .val (.int (0 : Int32))] []))
    refine Rest.via (fun t k => XS.iinc X0.here hx rfl (hb hby d14_26) rfl (l' := #[.val (.ref a0), .val (.ref a1), .val (.int ((0 : Int32) + (1 : Int32)))]) rfl k) ?_
    show Rest p.tables e below s _ _ _ (s₁.setTop (mkF m 29 #[.val (.ref a0), .val (.ref a1), .val (.int ((0 : Int32) + (1 : Int32)))] []))
    rw [(by decide : ((0 : Int32) + (1 : Int32)) = (1 : Int32))]
    show Rest p.tables e below s _ _ _ (s₁.setTop (mkF m 29 #[.val (.ref a0), .val (.ref a1), .val (.int (1 : Int32))] []))
    refine Rest.via (fun t k => XS.goto X0.here hx rfl (pc0 := 29) (pc' := 9) rfl (hb hby d14_29) (by decide) (by decide) k) ?_
    show Rest p.tables e below s _ _ _ (s₁.setTop (mkF m 9 #[.val (.ref a0), .val (.ref a1), .val (.int (1 : Int32))] []))
    refine Rest.via (fun t k => XS.iloadN X0.here hx rfl (hb hby d14_9) rfl k) ?_
    show Rest p.tables e below s _ _ _ (s₁.setTop (mkF m 10 #[.val (.ref a0), .val (.ref a1), .val (.int (1 : Int32))] [(.int (1 : Int32))]))
    refine Rest.via (fun t k => XS.aloadN X0.here hx rfl (hb hby d14_10) rfl rfl k) ?_
    show Rest p.tables e below s _ _ _ (s₁.setTop (mkF m 11 #[.val (.ref a0), .val (.ref a1), .val (.int (1 : Int32))] [(.ref a0), (.int (1 : Int32))]))
    obtain ⟨cl6, Ar6, -, S6, P6, -, -⟩ := id V0
    refine Rest.via (fun t k => X0.arraylength hx (by rw [eh0]; exact Ar6.1) (State.isArrayOf_alike hZ.alike Ar6.2.1) (g := (mkF m 11 #[.val (.ref a0), .val (.ref a1), .val (.int (1 : Int32))] [(.ref a0), (.int (1 : Int32))])) rfl rfl (hb hby d14_11) t k) ?_
    rw [len_of S6 P6]
    show Rest p.tables e below s _ _ _ (s₁.setTop (mkF m 12 #[.val (.ref a0), .val (.ref a1), .val (.int (1 : Int32))] [(.int (3 : Int32)), (.int (1 : Int32))]))
    refine Rest.via (fun t k => XS.icmpNo X0.here hx rfl (hb hby d14_12) rfl (tlt (by decide : (1 : Int32) < (3 : Int32))).2.1 k) ?_
    show Rest p.tables e below s _ _ _ (s₁.setTop (mkF m 15 #[.val (.ref a0), .val (.ref a1), .val (.int (1 : Int32))] []))
    refine Rest.via (fun t k => XS.aloadN X0.here hx rfl (hb hby d14_15) rfl rfl k) ?_
    show Rest p.tables e below s _ _ _ (s₁.setTop (mkF m 16 #[.val (.ref a0), .val (.ref a1), .val (.int (1 : Int32))] [(.ref a0)]))
    refine Rest.via (fun t k => XS.iloadN X0.here hx rfl (hb hby d14_16) rfl k) ?_
    show Rest p.tables e below s _ _ _ (s₁.setTop (mkF m 17 #[.val (.ref a0), .val (.ref a1), .val (.int (1 : Int32))] [(.int (1 : Int32)), (.ref a0)]))
    obtain ⟨cl7, Ar7, qa7, Sa7, Pa7, Ha7, Ga7⟩ := id V0
    have hin7 := inb_of (j := (1 : Int32)) Sa7 ⟨by decide, by decide⟩
    have hat7 : cl7.slots[((1 : Int32)).toNatClampNeg]? = some (.int xb) := Has.at Ha7 hin7 rfl
    refine Rest.via (fun t k => X0.baloadBytes hx (j := (1 : Int32)) (v := (.int xb)) (by rw [eh0]; exact Ar7.1) (State.isArrayOf_alike hZ.alike Ar7.2.1) Ar7.2.2 hin7 hat7 (g := (mkF m 17 #[.val (.ref a0), .val (.ref a1), .val (.int (1 : Int32))] [(.int (1 : Int32)), (.ref a0)])) rfl rfl (hb hby d14_17) t k) ?_
    show Rest p.tables e below s _ _ _ (s₁.setTop (mkF m 18 #[.val (.ref a0), .val (.ref a1), .val (.int (1 : Int32))] [(.int xb)]))
    refine Rest.via (fun t k => XS.aloadN X0.here hx rfl (hb hby d14_18) rfl rfl k) ?_
    show Rest p.tables e below s _ _ _ (s₁.setTop (mkF m 19 #[.val (.ref a0), .val (.ref a1), .val (.int (1 : Int32))] [(.ref a1), (.int xb)]))
    refine Rest.via (fun t k => XS.iloadN X0.here hx rfl (hb hby d14_19) rfl k) ?_
    show Rest p.tables e below s _ _ _ (s₁.setTop (mkF m 20 #[.val (.ref a0), .val (.ref a1), .val (.int (1 : Int32))] [(.int (1 : Int32)), (.ref a1), (.int xb)]))
    obtain ⟨cl8, Ar8, qa8, Sa8, Pa8, Ha8, Ga8⟩ := id V1
    have hin8 := inb_of (j := (1 : Int32)) Sa8 ⟨by decide, by decide⟩
    have hat8 : cl8.slots[((1 : Int32)).toNatClampNeg]? = some (.int yb) := Has.at Ha8 hin8 rfl
    refine Rest.via (fun t k => X0.baloadBytes hx (j := (1 : Int32)) (v := (.int yb)) (by rw [eh0]; exact Ar8.1) (State.isArrayOf_alike hZ.alike Ar8.2.1) Ar8.2.2 hin8 hat8 (g := (mkF m 20 #[.val (.ref a0), .val (.ref a1), .val (.int (1 : Int32))] [(.int (1 : Int32)), (.ref a1), (.int xb)])) rfl rfl (hb hby d14_20) t k) ?_
    show Rest p.tables e below s _ _ _ (s₁.setTop (mkF m 21 #[.val (.ref a0), .val (.ref a1), .val (.int (1 : Int32))] [(.int yb), (.int xb)]))
    by_cases hq1 : xb = yb
    · refine Rest.via (fun t k => XS.icmpYes X0.here hx rfl (pc0 := 21) (pc' := 26) rfl (hb hby d14_21) rfl (teq hq1).1 (by decide) (by decide) k) ?_
      show Rest p.tables e below s _ _ _ (s₁.setTop (mkF m 26 #[.val (.ref a0), .val (.ref a1), .val (.int (1 : Int32))] []))
      refine Rest.via (fun t k => XS.iinc X0.here hx rfl (hb hby d14_26) rfl (l' := #[.val (.ref a0), .val (.ref a1), .val (.int ((1 : Int32) + (1 : Int32)))]) rfl k) ?_
      show Rest p.tables e below s _ _ _ (s₁.setTop (mkF m 29 #[.val (.ref a0), .val (.ref a1), .val (.int ((1 : Int32) + (1 : Int32)))] []))
      rw [(by decide : ((1 : Int32) + (1 : Int32)) = (2 : Int32))]
      show Rest p.tables e below s _ _ _ (s₁.setTop (mkF m 29 #[.val (.ref a0), .val (.ref a1), .val (.int (2 : Int32))] []))
      refine Rest.via (fun t k => XS.goto X0.here hx rfl (pc0 := 29) (pc' := 9) rfl (hb hby d14_29) (by decide) (by decide) k) ?_
      show Rest p.tables e below s _ _ _ (s₁.setTop (mkF m 9 #[.val (.ref a0), .val (.ref a1), .val (.int (2 : Int32))] []))
      refine Rest.via (fun t k => XS.iloadN X0.here hx rfl (hb hby d14_9) rfl k) ?_
      show Rest p.tables e below s _ _ _ (s₁.setTop (mkF m 10 #[.val (.ref a0), .val (.ref a1), .val (.int (2 : Int32))] [(.int (2 : Int32))]))
      refine Rest.via (fun t k => XS.aloadN X0.here hx rfl (hb hby d14_10) rfl rfl k) ?_
      show Rest p.tables e below s _ _ _ (s₁.setTop (mkF m 11 #[.val (.ref a0), .val (.ref a1), .val (.int (2 : Int32))] [(.ref a0), (.int (2 : Int32))]))
      obtain ⟨cl9, Ar9, -, S9, P9, -, -⟩ := id V0
      refine Rest.via (fun t k => X0.arraylength hx (by rw [eh0]; exact Ar9.1) (State.isArrayOf_alike hZ.alike Ar9.2.1) (g := (mkF m 11 #[.val (.ref a0), .val (.ref a1), .val (.int (2 : Int32))] [(.ref a0), (.int (2 : Int32))])) rfl rfl (hb hby d14_11) t k) ?_
      rw [len_of S9 P9]
      show Rest p.tables e below s _ _ _ (s₁.setTop (mkF m 12 #[.val (.ref a0), .val (.ref a1), .val (.int (2 : Int32))] [(.int (3 : Int32)), (.int (2 : Int32))]))
      refine Rest.via (fun t k => XS.icmpNo X0.here hx rfl (hb hby d14_12) rfl (tlt (by decide : (2 : Int32) < (3 : Int32))).2.1 k) ?_
      show Rest p.tables e below s _ _ _ (s₁.setTop (mkF m 15 #[.val (.ref a0), .val (.ref a1), .val (.int (2 : Int32))] []))
      refine Rest.via (fun t k => XS.aloadN X0.here hx rfl (hb hby d14_15) rfl rfl k) ?_
      show Rest p.tables e below s _ _ _ (s₁.setTop (mkF m 16 #[.val (.ref a0), .val (.ref a1), .val (.int (2 : Int32))] [(.ref a0)]))
      refine Rest.via (fun t k => XS.iloadN X0.here hx rfl (hb hby d14_16) rfl k) ?_
      show Rest p.tables e below s _ _ _ (s₁.setTop (mkF m 17 #[.val (.ref a0), .val (.ref a1), .val (.int (2 : Int32))] [(.int (2 : Int32)), (.ref a0)]))
      obtain ⟨cl10, Ar10, qa10, Sa10, Pa10, Ha10, Ga10⟩ := id V0
      have hin10 := inb_of (j := (2 : Int32)) Sa10 ⟨by decide, by decide⟩
      have hat10 : cl10.slots[((2 : Int32)).toNatClampNeg]? = some (.int xc) := Has.at Ha10 hin10 rfl
      refine Rest.via (fun t k => X0.baloadBytes hx (j := (2 : Int32)) (v := (.int xc)) (by rw [eh0]; exact Ar10.1) (State.isArrayOf_alike hZ.alike Ar10.2.1) Ar10.2.2 hin10 hat10 (g := (mkF m 17 #[.val (.ref a0), .val (.ref a1), .val (.int (2 : Int32))] [(.int (2 : Int32)), (.ref a0)])) rfl rfl (hb hby d14_17) t k) ?_
      show Rest p.tables e below s _ _ _ (s₁.setTop (mkF m 18 #[.val (.ref a0), .val (.ref a1), .val (.int (2 : Int32))] [(.int xc)]))
      refine Rest.via (fun t k => XS.aloadN X0.here hx rfl (hb hby d14_18) rfl rfl k) ?_
      show Rest p.tables e below s _ _ _ (s₁.setTop (mkF m 19 #[.val (.ref a0), .val (.ref a1), .val (.int (2 : Int32))] [(.ref a1), (.int xc)]))
      refine Rest.via (fun t k => XS.iloadN X0.here hx rfl (hb hby d14_19) rfl k) ?_
      show Rest p.tables e below s _ _ _ (s₁.setTop (mkF m 20 #[.val (.ref a0), .val (.ref a1), .val (.int (2 : Int32))] [(.int (2 : Int32)), (.ref a1), (.int xc)]))
      obtain ⟨cl11, Ar11, qa11, Sa11, Pa11, Ha11, Ga11⟩ := id V1
      have hin11 := inb_of (j := (2 : Int32)) Sa11 ⟨by decide, by decide⟩
      have hat11 : cl11.slots[((2 : Int32)).toNatClampNeg]? = some (.int yc) := Has.at Ha11 hin11 rfl
      refine Rest.via (fun t k => X0.baloadBytes hx (j := (2 : Int32)) (v := (.int yc)) (by rw [eh0]; exact Ar11.1) (State.isArrayOf_alike hZ.alike Ar11.2.1) Ar11.2.2 hin11 hat11 (g := (mkF m 20 #[.val (.ref a0), .val (.ref a1), .val (.int (2 : Int32))] [(.int (2 : Int32)), (.ref a1), (.int xc)])) rfl rfl (hb hby d14_20) t k) ?_
      show Rest p.tables e below s _ _ _ (s₁.setTop (mkF m 21 #[.val (.ref a0), .val (.ref a1), .val (.int (2 : Int32))] [(.int yc), (.int xc)]))
      by_cases hq2 : xc = yc
      · refine Rest.via (fun t k => XS.icmpYes X0.here hx rfl (pc0 := 21) (pc' := 26) rfl (hb hby d14_21) rfl (teq hq2).1 (by decide) (by decide) k) ?_
        show Rest p.tables e below s _ _ _ (s₁.setTop (mkF m 26 #[.val (.ref a0), .val (.ref a1), .val (.int (2 : Int32))] []))
        refine Rest.via (fun t k => XS.iinc X0.here hx rfl (hb hby d14_26) rfl (l' := #[.val (.ref a0), .val (.ref a1), .val (.int ((2 : Int32) + (1 : Int32)))]) rfl k) ?_
        show Rest p.tables e below s _ _ _ (s₁.setTop (mkF m 29 #[.val (.ref a0), .val (.ref a1), .val (.int ((2 : Int32) + (1 : Int32)))] []))
        rw [(by decide : ((2 : Int32) + (1 : Int32)) = (3 : Int32))]
        show Rest p.tables e below s _ _ _ (s₁.setTop (mkF m 29 #[.val (.ref a0), .val (.ref a1), .val (.int (3 : Int32))] []))
        refine Rest.via (fun t k => XS.goto X0.here hx rfl (pc0 := 29) (pc' := 9) rfl (hb hby d14_29) (by decide) (by decide) k) ?_
        show Rest p.tables e below s _ _ _ (s₁.setTop (mkF m 9 #[.val (.ref a0), .val (.ref a1), .val (.int (3 : Int32))] []))
        refine Rest.via (fun t k => XS.iloadN X0.here hx rfl (hb hby d14_9) rfl k) ?_
        show Rest p.tables e below s _ _ _ (s₁.setTop (mkF m 10 #[.val (.ref a0), .val (.ref a1), .val (.int (3 : Int32))] [(.int (3 : Int32))]))
        refine Rest.via (fun t k => XS.aloadN X0.here hx rfl (hb hby d14_10) rfl rfl k) ?_
        show Rest p.tables e below s _ _ _ (s₁.setTop (mkF m 11 #[.val (.ref a0), .val (.ref a1), .val (.int (3 : Int32))] [(.ref a0), (.int (3 : Int32))]))
        obtain ⟨cl12, Ar12, -, S12, P12, -, -⟩ := id V0
        refine Rest.via (fun t k => X0.arraylength hx (by rw [eh0]; exact Ar12.1) (State.isArrayOf_alike hZ.alike Ar12.2.1) (g := (mkF m 11 #[.val (.ref a0), .val (.ref a1), .val (.int (3 : Int32))] [(.ref a0), (.int (3 : Int32))])) rfl rfl (hb hby d14_11) t k) ?_
        rw [len_of S12 P12]
        show Rest p.tables e below s _ _ _ (s₁.setTop (mkF m 12 #[.val (.ref a0), .val (.ref a1), .val (.int (3 : Int32))] [(.int (3 : Int32)), (.int (3 : Int32))]))
        refine Rest.via (fun t k => XS.icmpYes X0.here hx rfl (pc0 := 12) (pc' := 32) rfl (hb hby d14_12) rfl (flt (by decide : ¬ ((3 : Int32) < (3 : Int32)))).2.1 (by decide) (by decide) k) ?_
        show Rest p.tables e below s _ _ _ (s₁.setTop (mkF m 32 #[.val (.ref a0), .val (.ref a1), .val (.int (3 : Int32))] []))
        refine Rest.via (fun t k => XS.iconst X0.here hx rfl (hb hby d14_32) k) ?_
        show Rest p.tables e below s _ _ _ (s₁.setTop (mkF m 33 #[.val (.ref a0), .val (.ref a1), .val (.int (3 : Int32))] [(.int (1 : Int32))]))
        refine Rest.ret X0 (v := some (.int (nar .boolean (1 : Int32)))) (fun h => by rw [Bd.returns] at h; cases h) hlk (fun fs hr => retN X0 hx (t := .boolean) Bd.returns (by simp) (hb hby d14_33) hr) ?_ (by decide) (by decide)
        rw [eh0]
        exact ⟨by show some (Value.int (1 : Int32)) = _; rw [if_pos (by rw [hq0, hq1, hq2])], N0, rfl⟩
      · refine Rest.via (fun t k => XS.icmpNo X0.here hx rfl (hb hby d14_21) rfl (feq hq2).1 k) ?_
        show Rest p.tables e below s _ _ _ (s₁.setTop (mkF m 24 #[.val (.ref a0), .val (.ref a1), .val (.int (2 : Int32))] []))
        refine Rest.via (fun t k => XS.iconst X0.here hx rfl (hb hby d14_24) k) ?_
        show Rest p.tables e below s _ _ _ (s₁.setTop (mkF m 25 #[.val (.ref a0), .val (.ref a1), .val (.int (2 : Int32))] [(.int (0 : Int32))]))
        refine Rest.ret X0 (v := some (.int (nar .boolean (0 : Int32)))) (fun h => by rw [Bd.returns] at h; cases h) hlk (fun fs hr => retN X0 hx (t := .boolean) Bd.returns (by simp) (hb hby d14_25) hr) ?_ (by decide) (by decide)
        rw [eh0]
        exact ⟨by show some (Value.int (0 : Int32)) = _; rw [if_neg (by simp [hq2])], N0, rfl⟩
    · refine Rest.via (fun t k => XS.icmpNo X0.here hx rfl (hb hby d14_21) rfl (feq hq1).1 k) ?_
      show Rest p.tables e below s _ _ _ (s₁.setTop (mkF m 24 #[.val (.ref a0), .val (.ref a1), .val (.int (1 : Int32))] []))
      refine Rest.via (fun t k => XS.iconst X0.here hx rfl (hb hby d14_24) k) ?_
      show Rest p.tables e below s _ _ _ (s₁.setTop (mkF m 25 #[.val (.ref a0), .val (.ref a1), .val (.int (1 : Int32))] [(.int (0 : Int32))]))
      refine Rest.ret X0 (v := some (.int (nar .boolean (0 : Int32)))) (fun h => by rw [Bd.returns] at h; cases h) hlk (fun fs hr => retN X0 hx (t := .boolean) Bd.returns (by simp) (hb hby d14_25) hr) ?_ (by decide) (by decide)
      rw [eh0]
      exact ⟨by show some (Value.int (0 : Int32)) = _; rw [if_neg (by simp [hq1])], N0, rfl⟩
  · refine Rest.via (fun t k => XS.icmpNo X0.here hx rfl (hb hby d14_21) rfl (feq hq0).1 k) ?_
    show Rest p.tables e below s _ _ _ (s₁.setTop (mkF m 24 #[.val (.ref a0), .val (.ref a1), .val (.int (0 : Int32))] []))
    refine Rest.via (fun t k => XS.iconst X0.here hx rfl (hb hby d14_24) k) ?_
    show Rest p.tables e below s _ _ _ (s₁.setTop (mkF m 25 #[.val (.ref a0), .val (.ref a1), .val (.int (0 : Int32))] [(.int (0 : Int32))]))
    refine Rest.ret X0 (v := some (.int (nar .boolean (0 : Int32)))) (fun h => by rw [Bd.returns] at h; cases h) hlk (fun fs hr => retN X0 hx (t := .boolean) Bd.returns (by simp) (hb hby d14_25) hr) ?_ (by decide) (by decide)
    rw [eh0]
    exact ⟨by show some (Value.int (0 : Int32)) = _; rw [if_neg (by simp [hq0])], N0, rfl⟩
theorem ef_SE3_3 (m : MethodId) (a0 : Addr) (a1 : Addr) : entryFrame m #[(.ref a0), (.ref a1)] 3 = mkF m 0 #[.val (.ref a0), .val (.ref a1), .unset] [] := by first | (simp [entryFrame, mkF, argsToLocals, Value.category, maxLocals]; done) | rfl
def QSE3_3 (Z : State) (a0 : Addr) (a1 : Addr) (va0 : Addr) (k0 : ClassId) (va1 : Addr) (k1 : ClassId) (ic : Int32) (xa : Int32) (xb : Int32) (xc : Int32) (ya : Int32) (yb : Int32) (yc : Int32) (h0 : Heap) (n0 : Nat) (v : Option Value) (h : Heap) (L : List Loc) : Prop := v = some (.int (if ([xa, xb, xc] : List Int32) = [ya, yb, yc] then (1 : Int32) else 0)) ∧ Fr n0 L ∧ h = h0
set_option maxRecDepth 65536 in
set_option maxHeartbeats 40000000 in
theorem rmSE3_3 (l : Launch) (Z : State) (aw : Array Value) (hw : ∀ d ∈ tables_1, d.before aw Z = true) (ws : List Jvm.Cond) (a0 : Addr) (a1 : Addr) (va0 : Addr) (k0 : ClassId) (va1 : Addr) (k1 : ClassId) (ic : Int32) (xa : Int32) (xb : Int32) (xc : Int32) (ya : Int32) (yb : Int32) (yc : Int32) (h0 : Heap) (n0 : Nat) (Z0 : n0 ≤ h0.size) (S0 : own_St Z h0 a0 va0 k0 (3 : Int32) [(.int xa), (.int xb), (.int xc)]) (S1 : own_St Z h0 a1 va1 k1 (3 : Int32) [(.int ya), (.int yb), (.int yc)]) (n01 : a0 ≠ a1) (O : Old Z n0 h0) (CS : own_CS Z ic) :
    MetFree l (⟨"java/lang/String", "equals", "(Ljava/lang/Object;)Z"⟩ : MethodName) (head1 (Jvm.Cond.code (⟨"java/lang/String", "equals", "(Ljava/lang/Object;)Z"⟩ : MethodName) jdk_42_method_66_code 3 (some .boolean) :: ws) ({ frames := 1, cells := 0, slots := 0, locals := 14 } : Room)) (fun a U => a = #[(.ref a0), (.ref a1)] ∧ Z.Warmed39 U.vm ∧ U.heap = h0) (fun _ _ _ _ _ => True) (fun _ U o U' => ∃ v L, o = .returned v ∧ QSE3_3 Z a0 a1 va0 k0 va1 k1 ic xa xb xc ya yb yc h0 n0 v U'.heap L ∧ FrameEnd U o U' L ({ frames := 1, cells := 0, slots := 0, locals := 14 } : Room).cells ({ frames := 1, cells := 0, slots := 0, locals := 14 } : Room).slots) := by
  refine MetFree.of_bodySF (plainFor_of_name pn_1) hisR ?_
  intro p e s m args below meth c s₁ Bd hml0 hP hK
  obtain ⟨rfl, hZ, hh⟩ := hP
  have hx := Bd.exec
  have hby := Bd.bytes
  have hml : c.maxLocals = 3 := hml0
  have hown : s.vm.findClass "java/lang/String" = some m.cls := findClass_of_methodNamed Bd.named
  have hnm := (name_of_methodNamed Bd.named Bd.method).1
  have hlk : meth.locks = false := BodyLoose.notSynchronized Bd
  have X0 : Stand p l e ({ frames := 1, cells := 0, slots := 0, locals := 14 } : Room) s m #[(.ref a0), (.ref a1)] below meth c s₁ [] 0 0 := Stand.of_body Bd
  have _u := trivial
  have eh0 : s₁.heap = h0 := by rw [← hh, Bd.state]; rfl
  have N0 := Fr.nil n0
  show Rest p.tables e below s (QSE3_3 Z a0 a1 va0 k0 va1 k1 ic xa xb xc ya yb yc h0 n0) _ _ (s₁.setTop (entryFrame m #[(.ref a0), (.ref a1)] 3))
  refine Rest.via (fun t k => castTop (ef_SE3_3 m a0 a1) k) ?_
  obtain ⟨E_a0, Fv_a0, Fc_a0, V_a0⟩ := id S0
  obtain ⟨E_a1, Fv_a1, Fc_a1, V_a1⟩ := id S1
  show Rest p.tables e below s _ _ _ (s₁.setTop (mkF m 0 #[.val (.ref a0), .val (.ref a1), .unset] []))
  refine Rest.via (fun t k => XS.aloadN X0.here hx rfl (hb hby d13_0) rfl rfl k) ?_
  show Rest p.tables e below s _ _ _ (s₁.setTop (mkF m 1 #[.val (.ref a0), .val (.ref a1), .unset] [(.ref a0)]))
  refine Rest.via (fun t k => XS.aloadN X0.here hx rfl (hb hby d13_1) rfl rfl k) ?_
  show Rest p.tables e below s _ _ _ (s₁.setTop (mkF m 2 #[.val (.ref a0), .val (.ref a1), .unset] [(.ref a1), (.ref a0)]))
  refine Rest.via (fun t k => Jvm.RoadKit.acmp (g := (mkF m 2 #[.val (.ref a0), .val (.ref a1), .unset] [(.ref a1), (.ref a0)])) X0 hx rfl rfl rfl (pc0 := 2) (pc' := 7) (same := false) rfl (hb hby d13_2) rfl (decide_eq_false fun q => n01 (Value.ref.inj q)) (by decide) (by decide) k) ?_
  show Rest p.tables e below s _ _ _ (s₁.setTop (mkF m 7 #[.val (.ref a0), .val (.ref a1), .unset] []))
  refine Rest.via (fun t k => XS.aloadN X0.here hx rfl (hb hby d13_7) rfl rfl k) ?_
  show Rest p.tables e below s _ _ _ (s₁.setTop (mkF m 8 #[.val (.ref a0), .val (.ref a1), .unset] [(.ref a1)]))
  obtain ⟨T1, X1, e1, st1⟩ := instY X0 hx hZ hown (hw _ (List.mem_of_getElem? (i := 71) rfl)) eh0 (Ins.self E_a1) (g := (mkF m 8 #[.val (.ref a0), .val (.ref a1), .unset] [(.ref a1)])) rfl rfl (hb hby d13_8)
  refine Rest.via (fun t k => st1 t k) ?_
  show Rest p.tables e below s _ _ _ (T1.setTop (mkF m 11 #[.val (.ref a0), .val (.ref a1), .unset] [(.int (1 : Int32))]))
  refine Rest.via (fun t k => XS.ifNo X1.here hx rfl (hb hby d13_11) rfl ((if0 _ _).trans (feq (by decide : ¬ ((1 : Int32) = (0 : Int32)))).1) k) ?_
  show Rest p.tables e below s _ _ _ (T1.setTop (mkF m 14 #[.val (.ref a0), .val (.ref a1), .unset] []))
  refine Rest.via (fun t k => XS.aloadN X1.here hx rfl (hb hby d13_14) rfl rfl k) ?_
  show Rest p.tables e below s _ _ _ (T1.setTop (mkF m 15 #[.val (.ref a0), .val (.ref a1), .unset] [(.ref a1)]))
  obtain ⟨T2, X2, e2, st2⟩ := castY X1 hx hZ hown (hw _ (List.mem_of_getElem? (i := 71) rfl)) e1 (Ins.self E_a1) (g := (mkF m 15 #[.val (.ref a0), .val (.ref a1), .unset] [(.ref a1)])) rfl rfl (hb hby d13_15)
  refine Rest.via (fun t k => st2 t k) ?_
  show Rest p.tables e below s _ _ _ (T2.setTop (mkF m 18 #[.val (.ref a0), .val (.ref a1), .unset] [(.ref a1)]))
  refine Rest.via (fun t k => XS.astoreN X2.here hx rfl (hb hby d13_18) rfl rfl (l' := #[.val (.ref a0), .val (.ref a1), .val (.ref a1)]) rfl k) ?_
  show Rest p.tables e below s _ _ _ (T2.setTop (mkF m 19 #[.val (.ref a0), .val (.ref a1), .val (.ref a1)] []))
  obtain ⟨T3, X3, e3, st3⟩ := getS2 X2 hx hZ hown (host := "") (Or.inl (hw _ (List.mem_of_getElem? (i := 45) rfl))) Via.refl e2 (CS.1.ext (O.keep (Keep.refl h0 []) all0).2) (g := (mkF m 19 #[.val (.ref a0), .val (.ref a1), .val (.ref a1)] [])) rfl (hb hby d13_19)
  refine Rest.via (fun t k => st3 t k) ?_
  show Rest p.tables e below s _ _ _ (T3.setTop (mkF m 22 #[.val (.ref a0), .val (.ref a1), .val (.ref a1)] [(.int ic)]))
  refine Rest.via (fun t k => XS.ifNo X3.here hx rfl (hb hby d13_22) rfl ((if0 _ _).trans (feq (CS.2 : ¬ (ic = (0 : Int32)))).1) k) ?_
  show Rest p.tables e below s _ _ _ (T3.setTop (mkF m 25 #[.val (.ref a0), .val (.ref a1), .val (.ref a1)] []))
  refine Rest.via (fun t k => XS.aloadN X3.here hx rfl (hb hby d13_25) rfl rfl k) ?_
  show Rest p.tables e below s _ _ _ (T3.setTop (mkF m 26 #[.val (.ref a0), .val (.ref a1), .val (.ref a1)] [(.ref a0)]))
  obtain ⟨T4, X4, e4, st4⟩ := getF X3 hx hZ hown (host := "") (Or.inl (hw _ (List.mem_of_getElem? (i := 28) rfl))) Via.refl e3 Fc_a0 (g := (mkF m 26 #[.val (.ref a0), .val (.ref a1), .val (.ref a1)] [(.ref a0)])) rfl rfl (hb hby d13_26)
  refine Rest.via (fun t k => st4 t k) ?_
  show Rest p.tables e below s _ _ _ (T4.setTop (mkF m 29 #[.val (.ref a0), .val (.ref a1), .val (.ref a1)] [(.int (0 : Int32))]))
  refine Rest.via (fun t k => XS.aloadN X4.here hx rfl (hb hby d13_29) rfl rfl k) ?_
  show Rest p.tables e below s _ _ _ (T4.setTop (mkF m 30 #[.val (.ref a0), .val (.ref a1), .val (.ref a1)] [(.ref a1), (.int (0 : Int32))]))
  obtain ⟨T5, X5, e5, st5⟩ := getF X4 hx hZ hown (host := "") (Or.inl (hw _ (List.mem_of_getElem? (i := 28) rfl))) Via.refl e4 Fc_a1 (g := (mkF m 30 #[.val (.ref a0), .val (.ref a1), .val (.ref a1)] [(.ref a1), (.int (0 : Int32))])) rfl rfl (hb hby d13_30)
  refine Rest.via (fun t k => st5 t k) ?_
  show Rest p.tables e below s _ _ _ (T5.setTop (mkF m 33 #[.val (.ref a0), .val (.ref a1), .val (.ref a1)] [(.int (0 : Int32)), (.int (0 : Int32))]))
  refine Rest.via (fun t k => XS.icmpNo X5.here hx rfl (hb hby d13_33) rfl (teq (by decide : (0 : Int32) = (0 : Int32))).2 k) ?_
  show Rest p.tables e below s _ _ _ (T5.setTop (mkF m 36 #[.val (.ref a0), .val (.ref a1), .val (.ref a1)] []))
  refine Rest.via (fun t k => XS.aloadN X5.here hx rfl (hb hby d13_36) rfl rfl k) ?_
  show Rest p.tables e below s _ _ _ (T5.setTop (mkF m 37 #[.val (.ref a0), .val (.ref a1), .val (.ref a1)] [(.ref a0)]))
  obtain ⟨T6, X6, e6, st6⟩ := getF X5 hx hZ hown (host := "") (Or.inl (hw _ (List.mem_of_getElem? (i := 27) rfl))) Via.refl e5 Fv_a0 (g := (mkF m 37 #[.val (.ref a0), .val (.ref a1), .val (.ref a1)] [(.ref a0)])) rfl rfl (hb hby d13_37)
  refine Rest.via (fun t k => st6 t k) ?_
  show Rest p.tables e below s _ _ _ (T6.setTop (mkF m 40 #[.val (.ref a0), .val (.ref a1), .val (.ref a1)] [(.ref va0)]))
  refine Rest.via (fun t k => XS.aloadN X6.here hx rfl (hb hby d13_40) rfl rfl k) ?_
  show Rest p.tables e below s _ _ _ (T6.setTop (mkF m 41 #[.val (.ref a0), .val (.ref a1), .val (.ref a1)] [(.ref a1), (.ref va0)]))
  obtain ⟨T7, X7, e7, st7⟩ := getF X6 hx hZ hown (host := "") (Or.inl (hw _ (List.mem_of_getElem? (i := 27) rfl))) Via.refl e6 Fv_a1 (g := (mkF m 41 #[.val (.ref a0), .val (.ref a1), .val (.ref a1)] [(.ref a1), (.ref va0)])) rfl rfl (hb hby d13_41)
  refine Rest.via (fun t k => st7 t k) ?_
  show Rest p.tables e below s _ _ _ (T7.setTop (mkF m 44 #[.val (.ref a0), .val (.ref a1), .val (.ref a1)] [(.ref va1), (.ref va0)]))
  obtain ⟨_, _, ⟨T8, L8, k8, n8⟩, -, X8, ⟨Lc8, hQ8, l8, y8, z8⟩, st8⟩ := Jvm.LawKit.callS X7 hx (y := (⟨"java/lang/StringLatin1", "equals", "([B[B)Z"⟩ : MethodName)) hown (mvT hZ (hw _ (List.mem_of_getElem? (i := 72) rfl))) (mvT hZ (hw _ (List.mem_of_getElem? (i := 73) rfl))) (mvT hZ (hw _ (List.mem_of_getElem? (i := 74) rfl))) (mvT hZ (hw _ (List.mem_of_getElem? (i := 75) rfl))) (by decide) (backOf (W := 0) (rmLE3_3 l Z aw hw [] va0 va1 k0 k1 xa xb xc ya yb yc h0 n0 (Nat.le_trans Z0 (Keep.refl h0 []).1) V_a0 V_a1) hZ (hw _ (List.mem_of_getElem? (i := 75) rfl)) (hw _ (List.mem_of_getElem? (i := 74) rfl)) (by decide) (by decide)) (g := (mkF m 44 #[.val (.ref a0), .val (.ref a1), .val (.ref a1)] [(.ref va1), (.ref va0)])) rfl (by rw [hml]; rfl) (argsL := [(.ref va0), (.ref va1)]) (rest := []) (lenOf pd_4 rfl) rfl (by show 2 * 0 + _ ≤ _; exact Nat.le_of_eq rfl) (hb hby d13_44) (fun _ _ => ⟨rfl, e7, (by decide : 0 + 0 ≤ _), (by decide : 0 + 0 ≤ _)⟩)
  dsimp only [Pt.U, Pt.locs, Pt.cells, Pt.slots] at X8 l8 y8 z8 st8 hQ8
  subst l8 y8 z8
  obtain ⟨rfl, Nq8, e8⟩ := hQ8
  have N8 := Fr.app N0 Nq8
  refine Rest.via (fun t k => st8 t k) ?_
  show Rest p.tables e below s _ _ _ (T8.setTop (mkF m 47 #[.val (.ref a0), .val (.ref a1), .val (.ref a1)] [(.int (if ([xa, xb, xc] : List Int32) = [ya, yb, yc] then (1 : Int32) else 0))]))
  by_cases hz : (if ([xa, xb, xc] : List Int32) = [ya, yb, yc] then (1 : Int32) else 0) = (0 : Int32)
  · refine Rest.via (fun t k => XS.ifYes X8.here hx rfl (pc0 := 47) (pc' := 54) rfl (hb hby d13_47) rfl ((if0 _ _).trans (teq hz).1) (by decide) (by decide) k) ?_
    show Rest p.tables e below s _ _ _ (T8.setTop (mkF m 54 #[.val (.ref a0), .val (.ref a1), .val (.ref a1)] []))
    refine Rest.via (fun t k => XS.iconst X8.here hx rfl (hb hby d13_54) k) ?_
    show Rest p.tables e below s _ _ _ (T8.setTop (mkF m 55 #[.val (.ref a0), .val (.ref a1), .val (.ref a1)] [(.int (0 : Int32))]))
    refine Rest.ret X8 (v := some (.int (nar .boolean (0 : Int32)))) (fun h => by rw [Bd.returns] at h; cases h) hlk (fun fs hr => retN X8 hx (t := .boolean) Bd.returns (by simp) (hb hby d13_55) hr) ?_ (by decide) (by decide)
    rw [e8]
    exact ⟨by show some (Value.int (0 : Int32)) = _; rw [hz], N8, rfl⟩
  · refine Rest.via (fun t k => XS.ifNo X8.here hx rfl (hb hby d13_47) rfl ((if0 _ _).trans (feq hz).1) k) ?_
    show Rest p.tables e below s _ _ _ (T8.setTop (mkF m 50 #[.val (.ref a0), .val (.ref a1), .val (.ref a1)] []))
    refine Rest.via (fun t k => XS.iconst X8.here hx rfl (hb hby d13_50) k) ?_
    show Rest p.tables e below s _ _ _ (T8.setTop (mkF m 51 #[.val (.ref a0), .val (.ref a1), .val (.ref a1)] [(.int (1 : Int32))]))
    refine Rest.via (fun t k => XS.goto X8.here hx rfl (pc0 := 51) (pc' := 55) rfl (hb hby d13_51) (by decide) (by decide) k) ?_
    show Rest p.tables e below s _ _ _ (T8.setTop (mkF m 55 #[.val (.ref a0), .val (.ref a1), .val (.ref a1)] [(.int (1 : Int32))]))
    refine Rest.ret X8 (v := some (.int (nar .boolean (1 : Int32)))) (fun h => by rw [Bd.returns] at h; cases h) hlk (fun fs hr => retN X8 hx (t := .boolean) Bd.returns (by simp) (hb hby d13_55) hr) ?_ (by decide) (by decide)
    rw [e8]
    exact ⟨by show some (Value.int (1 : Int32)) = _; rw [own_ite1 hz], N8, rfl⟩
def own_ok (n : Int32) (xs : List Int32) : Prop := (n = 0 ∧ xs = []) ∨ (n = 1 ∧ ∃ a, xs = [a]) ∨ (n = 2 ∧ ∃ a b, xs = [a, b]) ∨ (n = 3 ∧ ∃ a b c, xs = [a, b, c])
def QSE (Z : State) (a0 : Addr) (a1 : Addr) (va0 : Addr) (k0 : ClassId) (va1 : Addr) (k1 : ClassId) (ic : Int32) (n m : Int32) (xs ys : List Int32) (h0 : Heap) (n0 : Nat) (v : Option Value) (h : Heap) (L : List Loc) : Prop := v = some (.int (if xs = ys then (1 : Int32) else 0)) ∧ Fr n0 L ∧ h = h0
theorem rmSE (l : Launch) (Z : State) (aw : Array Value) (hw : ∀ d ∈ tables_1, d.before aw Z = true) (ws : List Jvm.Cond) (a0 : Addr) (a1 : Addr) (va0 : Addr) (k0 : ClassId) (va1 : Addr) (k1 : ClassId) (ic : Int32) (n m : Int32) (xs ys : List Int32) (h0 : Heap) (n0 : Nat) (Z0 : n0 ≤ h0.size) (hn : own_ok n xs) (hm : own_ok m ys) (S0 : own_St Z h0 a0 va0 k0 n (xs.map Value.int)) (S1 : own_St Z h0 a1 va1 k1 m (ys.map Value.int)) (n01 : a0 ≠ a1) (O : Old Z n0 h0) (CS : own_CS Z ic) :
    MetFree l (⟨"java/lang/String", "equals", "(Ljava/lang/Object;)Z"⟩ : MethodName) (head1 (Jvm.Cond.code (⟨"java/lang/String", "equals", "(Ljava/lang/Object;)Z"⟩ : MethodName) jdk_42_method_66_code 3 (some .boolean) :: ws) ({ frames := 1, cells := 0, slots := 0, locals := 14 } : Room)) (fun a U => a = #[(.ref a0), (.ref a1)] ∧ Z.Warmed39 U.vm ∧ U.heap = h0) (fun _ _ _ _ _ => True) (fun _ U o U' => ∃ v L, o = .returned v ∧ QSE Z a0 a1 va0 k0 va1 k1 ic n m xs ys h0 n0 v U'.heap L ∧ FrameEnd U o U' L ({ frames := 1, cells := 0, slots := 0, locals := 14 } : Room).cells ({ frames := 1, cells := 0, slots := 0, locals := 14 } : Room).slots) := by
  rcases hn with ⟨rfl, rfl⟩ | ⟨rfl, xa, rfl⟩ | ⟨rfl, xa, xb, rfl⟩ | ⟨rfl, xa, xb, xc, rfl⟩
  · rcases hm with ⟨rfl, rfl⟩ | ⟨rfl, ya, rfl⟩ | ⟨rfl, ya, yb, rfl⟩ | ⟨rfl, ya, yb, yc, rfl⟩
    · exact rmSE0_0 l Z aw hw ws a0 a1 va0 k0 va1 k1 ic  h0 n0 Z0 S0 S1 n01 O CS
    · exact rmSE0_1 l Z aw hw ws a0 a1 va0 k0 va1 k1 ic ya h0 n0 Z0 S0 S1 n01 O CS
    · exact rmSE0_2 l Z aw hw ws a0 a1 va0 k0 va1 k1 ic ya yb h0 n0 Z0 S0 S1 n01 O CS
    · exact rmSE0_3 l Z aw hw ws a0 a1 va0 k0 va1 k1 ic ya yb yc h0 n0 Z0 S0 S1 n01 O CS
  · rcases hm with ⟨rfl, rfl⟩ | ⟨rfl, ya, rfl⟩ | ⟨rfl, ya, yb, rfl⟩ | ⟨rfl, ya, yb, yc, rfl⟩
    · exact rmSE1_0 l Z aw hw ws a0 a1 va0 k0 va1 k1 ic xa h0 n0 Z0 S0 S1 n01 O CS
    · exact rmSE1_1 l Z aw hw ws a0 a1 va0 k0 va1 k1 ic xa ya h0 n0 Z0 S0 S1 n01 O CS
    · exact rmSE1_2 l Z aw hw ws a0 a1 va0 k0 va1 k1 ic xa ya yb h0 n0 Z0 S0 S1 n01 O CS
    · exact rmSE1_3 l Z aw hw ws a0 a1 va0 k0 va1 k1 ic xa ya yb yc h0 n0 Z0 S0 S1 n01 O CS
  · rcases hm with ⟨rfl, rfl⟩ | ⟨rfl, ya, rfl⟩ | ⟨rfl, ya, yb, rfl⟩ | ⟨rfl, ya, yb, yc, rfl⟩
    · exact rmSE2_0 l Z aw hw ws a0 a1 va0 k0 va1 k1 ic xa xb h0 n0 Z0 S0 S1 n01 O CS
    · exact rmSE2_1 l Z aw hw ws a0 a1 va0 k0 va1 k1 ic xa xb ya h0 n0 Z0 S0 S1 n01 O CS
    · exact rmSE2_2 l Z aw hw ws a0 a1 va0 k0 va1 k1 ic xa xb ya yb h0 n0 Z0 S0 S1 n01 O CS
    · exact rmSE2_3 l Z aw hw ws a0 a1 va0 k0 va1 k1 ic xa xb ya yb yc h0 n0 Z0 S0 S1 n01 O CS
  · rcases hm with ⟨rfl, rfl⟩ | ⟨rfl, ya, rfl⟩ | ⟨rfl, ya, yb, rfl⟩ | ⟨rfl, ya, yb, yc, rfl⟩
    · exact rmSE3_0 l Z aw hw ws a0 a1 va0 k0 va1 k1 ic xa xb xc h0 n0 Z0 S0 S1 n01 O CS
    · exact rmSE3_1 l Z aw hw ws a0 a1 va0 k0 va1 k1 ic xa xb xc ya h0 n0 Z0 S0 S1 n01 O CS
    · exact rmSE3_2 l Z aw hw ws a0 a1 va0 k0 va1 k1 ic xa xb xc ya yb h0 n0 Z0 S0 S1 n01 O CS
    · exact rmSE3_3 l Z aw hw ws a0 a1 va0 k0 va1 k1 ic xa xb xc ya yb yc h0 n0 Z0 S0 S1 n01 O CS
theorem own_wS {Z : State} {aw : Array Value} (hw : ∀ d ∈ tables_1, d.before aw Z = true) : ∀ a ∈ Bundle.stringAtoms, a.before aw Z = true := by
  intro a ha
  simp only [Bundle.stringAtoms, List.mem_cons, List.not_mem_nil, or_false] at ha
  rcases ha with rfl | rfl | rfl | rfl | rfl | rfl | rfl
  · exact (hw _ (List.mem_of_getElem? (i := 9) rfl))
  · exact (hw _ (List.mem_of_getElem? (i := 8) rfl))
  · exact (hw _ (List.mem_of_getElem? (i := 22) rfl))
  · exact (hw _ (List.mem_of_getElem? (i := 23) rfl))
  · exact (hw _ (List.mem_of_getElem? (i := 24) rfl))
  · exact (hw _ (List.mem_of_getElem? (i := 25) rfl))
  · exact (hw _ (List.mem_of_getElem? (i := 26) rfl))
def own_L0 (Z : State) (h : Heap) (vm : Vm) (a b : Addr) (k : ClassId) : Prop := Lit (Z.setVm vm) "java/lang/String" 7 a ∧ own_St Z h a b k (0 : Int32) []
theorem d3_8 : decode jdk_42_method_149_code 8 = .ok (.aload_n 0, 1) := by decide +kernel
theorem d3_9 : decode jdk_42_method_149_code 9 = .ok (.ldc 7, 2) := by decide +kernel
theorem d3_11 : decode jdk_42_method_149_code 11 = .ok (.getfield 9, 3) := by decide +kernel
theorem d3_14 : decode jdk_42_method_149_code 14 = .ok (.putfield 9, 3) := by decide +kernel
theorem d3_17 : decode jdk_42_method_149_code 17 = .ok (.aload_n 0, 1) := by decide +kernel
theorem d3_18 : decode jdk_42_method_149_code 18 = .ok (.ldc 7, 2) := by decide +kernel
theorem d3_20 : decode jdk_42_method_149_code 20 = .ok (.getfield 15, 3) := by decide +kernel
theorem d3_23 : decode jdk_42_method_149_code 23 = .ok (.putfield 15, 3) := by decide +kernel
theorem d3_26 : decode jdk_42_method_149_code 26 = .ok (.return_, 1) := by decide +kernel
theorem ef_SJ0c (m : MethodId) (a0 : Addr) (a1 : Addr) : entryFrame m #[(.ref a0), (.ref a1), (.int (0 : Int32)), (.int (0 : Int32)), .null] 6 = mkF m 0 #[.val (.ref a0), .val (.ref a1), .val (.int (0 : Int32)), .val (.int (0 : Int32)), .val .null, .unset] [] := by first | (simp [entryFrame, mkF, argsToLocals, Value.category, maxLocals]; done) | rfl
def QSJ0c (Z : State) (a0 : Addr) (a1 : Addr) (kc : ClassId) (Ts : List String) (h0 : Heap) (n0 : Nat) (v : Option Value) (h : Heap) (L : List Loc) (vm : Vm) : Prop := v = none ∧ Fr n0 L ∧ Keep h0 h [a0] ∧ Fld Z h a0 "java/lang/String" "coder" "B" (.int (0 : Int32)) ∧ ∃ a b k, Fld Z h a0 "java/lang/String" "value" "[B" (.ref b) ∧ own_L0 Z h vm a b k ∧ a0 ≠ b ∧ IB Z vm ("" :: Ts)
set_option maxRecDepth 65536 in
set_option maxHeartbeats 40000000 in
theorem rmSJ0c (l : Launch) (Z : State) (aw : Array Value) (hw : ∀ d ∈ tables_1, d.before aw Z = true) (ws : List Jvm.Cond) (a0 : Addr) (a1 : Addr) (kc : ClassId) (Ts : List String) (h0 : Heap) (n0 : Nat) (Z0 : n0 ≤ h0.size) (E_a0 : Exa Z h0 a0 "java/lang/String") (F_v : Fld Z h0 a0 "java/lang/String" "value" "[B" .null) (F_c : Fld Z h0 a0 "java/lang/String" "coder" "B" (.int (0 : Int32))) (g_a0 : n0 ≤ a0) (V1 : Arv Z h0 a1 kc .char (0 : Int32) [] (.int (0 : Int32))) (O : Old Z n0 h0) (hcw : Jvm.Lit.compactW.before aw Z = true) (HE : Jvm.Lit.constHeld Z "java/lang/String" 7) (hnot : "" ∉ Ts) :
    MetFree l (⟨"java/lang/String", "<init>", "([CIILjava/lang/Void;)V"⟩ : MethodName) (head1 (Jvm.Cond.code (⟨"java/lang/String", "<init>", "([CIILjava/lang/Void;)V"⟩ : MethodName) jdk_42_method_149_code 6 none :: ws) ({ frames := 1, cells := 2, slots := 4, locals := 12 } : Room)) (fun a U => a = #[(.ref a0), (.ref a1), (.int (0 : Int32)), (.int (0 : Int32)), .null] ∧ Z.Warmed39 U.vm ∧ U.heap = h0 ∧ (fun vm => IB Z vm Ts) U.vm) (fun _ _ _ _ _ => True) (fun _ U o U' => ∃ v L, o = .returned v ∧ QSJ0c Z a0 a1 kc Ts h0 n0 v U'.heap L U'.vm ∧ ReturnedEndW U o U' L ({ frames := 1, cells := 2, slots := 4, locals := 12 } : Room).cells ({ frames := 1, cells := 2, slots := 4, locals := 12 } : Room).slots) := by
  refine MetFree.of_bodySF (plainFor_of_name pn_1) hisR ?_
  intro p e s m args below meth c s₁ Bd hml0 hP hK
  obtain ⟨rfl, hZ, hh, hVP⟩ := hP
  have hx := Bd.exec
  have hby := Bd.bytes
  have hml : c.maxLocals = 6 := hml0
  have hown : s.vm.findClass "java/lang/String" = some m.cls := findClass_of_methodNamed Bd.named
  have hnm := (name_of_methodNamed Bd.named Bd.method).1
  have hlk : meth.locks = false := BodyLoose.notSynchronized Bd
  have X0 : Stand p l e ({ frames := 1, cells := 2, slots := 4, locals := 12 } : Room) (s.setVm s.vm) m #[(.ref a0), (.ref a1), (.int (0 : Int32)), (.int (0 : Int32)), .null] below meth c s₁ [] 0 0 := Stand.of_body Bd
  have hS : s.Since s.vm h0.size := (State.WarmedH.refl s).since _
  have eh0 : s₁.heap = h0 := by rw [← hh, Bd.state]; rfl
  have N0 := Fr.nil n0
  show RestW p.tables e below s (QSJ0c Z a0 a1 kc Ts h0 n0) _ _ (s₁.setTop (entryFrame m #[(.ref a0), (.ref a1), (.int (0 : Int32)), (.int (0 : Int32)), .null] 6))
  refine RestW.via (fun t k => castTop (ef_SJ0c m a0 a1) k) ?_
  have I := hVP
  show RestW p.tables e below s _ _ _ (s₁.setTop (mkF m 0 #[.val (.ref a0), .val (.ref a1), .val (.int (0 : Int32)), .val (.int (0 : Int32)), .val .null, .unset] []))
  refine RestW.via (fun t k => XS.aloadN X0.here hx rfl (hb hby d3_0) rfl rfl k) ?_
  show RestW p.tables e below s _ _ _ (s₁.setTop (mkF m 1 #[.val (.ref a0), .val (.ref a1), .val (.int (0 : Int32)), .val (.int (0 : Int32)), .val .null, .unset] [(.ref a0)]))
  obtain ⟨T1, X1, e1, st1⟩ := initO X0 hx hZ hown (hw _ (List.mem_of_getElem? (i := 18) rfl)) (hw _ (List.mem_of_getElem? (i := 19) rfl)) (hw _ (List.mem_of_getElem? (i := 20) rfl)) eh0 (g := (mkF m 1 #[.val (.ref a0), .val (.ref a1), .val (.int (0 : Int32)), .val (.int (0 : Int32)), .val .null, .unset] [(.ref a0)])) rfl (by rw [hml]; rfl) rfl (hb hby d3_1) (by decide) (W := 0) (by show 2 * 0 + _ ≤ _; exact Nat.le_of_eq rfl) (by decide)
  refine RestW.via (fun t k => st1 t k) ?_
  show RestW p.tables e below s _ _ _ (T1.setTop (mkF m 4 #[.val (.ref a0), .val (.ref a1), .val (.int (0 : Int32)), .val (.int (0 : Int32)), .val .null, .unset] []))
  refine RestW.via (fun t k => XS.iloadN X1.here hx rfl (hb hby d3_4) rfl k) ?_
  show RestW p.tables e below s _ _ _ (T1.setTop (mkF m 5 #[.val (.ref a0), .val (.ref a1), .val (.int (0 : Int32)), .val (.int (0 : Int32)), .val .null, .unset] [(.int (0 : Int32))]))
  refine RestW.via (fun t k => XS.ifNo X1.here hx rfl (hb hby d3_5) rfl ((if0 _ _).trans (teq (by decide : (0 : Int32) = (0 : Int32))).2) k) ?_
  show RestW p.tables e below s _ _ _ (T1.setTop (mkF m 8 #[.val (.ref a0), .val (.ref a1), .val (.int (0 : Int32)), .val (.int (0 : Int32)), .val .null, .unset] []))
  refine RestW.via (fun t k => XS.aloadN X1.here hx rfl (hb hby d3_8) rfl rfl k) ?_
  show RestW p.tables e below s _ _ _ (T1.setTop (mkF m 9 #[.val (.ref a0), .val (.ref a1), .val (.int (0 : Int32)), .val (.int (0 : Int32)), .val .null, .unset] [(.ref a0)]))
  obtain ⟨sa2, T2, h2, kk2, sb2, kb2, X2, e2, E2, hS, hk2, hZ, hown, Ea2, Fc2, Fv2, Vb2, la2, lb2, I, Li2, st2⟩ := ldcSVL (s := s) (vm0 := s.vm) X1 hx hZ hown (hw _ (List.mem_of_getElem? (i := 21) rfl)) (own_wS hw) e1 hS (Nat.le_refl _) (by rw [hh]; exact (Fr.nil _)) (fun b cl q => by rw [hh]; exact O.2.2 b cl q) I hnot HE hcw (vs := []) (z := (0 : Int32)) (by decide) (by decide) rfl (g := (mkF m 9 #[.val (.ref a0), .val (.ref a1), .val (.int (0 : Int32)), .val (.int (0 : Int32)), .val .null, .unset] [(.ref a0)])) rfl (hb hby d3_9) (n := 0) (by decide) (by decide) (by decide) (by decide)
  refine RestW.via (fun t k => st2 t k) ?_
  have K2 : Keep h0 h2 [a0] := (Keep.refl h0 [a0]).ext E2
  have ne_sa2_a0 : sa2 ≠ a0 := Fld.ne Fv2 (F_v.ext E2) (by simp)
  have ne_a0_sb2 : a0 ≠ sb2 := Exa.neArv (E_a0.ext E2) Vb2 (hw _ (List.mem_of_getElem? (i := 8) rfl))
  show RestW p.tables e below s _ _ _ (T2.setTop (mkF m 11 #[.val (.ref a0), .val (.ref a1), .val (.int (0 : Int32)), .val (.int (0 : Int32)), .val .null, .unset] [(.ref sa2), (.ref a0)]))
  obtain ⟨T3, X3, e3, st3⟩ := getF X2 hx hZ hown (host := "") (Or.inl (hw _ (List.mem_of_getElem? (i := 27) rfl))) Via.refl e2 Fv2 (g := (mkF m 11 #[.val (.ref a0), .val (.ref a1), .val (.int (0 : Int32)), .val (.int (0 : Int32)), .val .null, .unset] [(.ref sa2), (.ref a0)])) rfl rfl (hb hby d3_11)
  refine RestW.via (fun t k => st3 t k) ?_
  show RestW p.tables e below s _ _ _ (T3.setTop (mkF m 14 #[.val (.ref a0), .val (.ref a1), .val (.int (0 : Int32)), .val (.int (0 : Int32)), .val .null, .unset] [(.ref sb2), (.ref a0)]))
  have Fo4 := (F_v.ext E2)
  obtain ⟨T4, h4, X4, e4, W4, st4⟩ := putF X3 hx hZ hown (host := "") (Or.inl (hw _ (List.mem_of_getElem? (i := 27) rfl))) Via.refl e3 Fo4 (E_a0.ext E2) (Or.inr ⟨(hw _ (List.mem_of_getElem? (i := 23) rfl)), rfl, hnm⟩) (hw _ (List.mem_of_getElem? (i := 8) rfl)) (ty := (.array .byte)) (by decide) rfl rfl (g := (mkF m 14 #[.val (.ref a0), .val (.ref a1), .val (.int (0 : Int32)), .val (.int (0 : Int32)), .val .null, .unset] [(.ref sb2), (.ref a0)])) rfl rfl (hb hby d3_14)
  refine RestW.via (fun t k => st4 t k) ?_
  have N4 := Fr.snoc X4 N0 g_a0
  have K4 : Keep h0 h4 [a0] := K2.wr W4 (Or.inl (List.mem_of_getElem? (i := 0) rfl))
  have Fw4 := Fo4.same W4
  show RestW p.tables e below s _ _ _ (T4.setTop (mkF m 17 #[.val (.ref a0), .val (.ref a1), .val (.int (0 : Int32)), .val (.int (0 : Int32)), .val .null, .unset] []))
  refine RestW.via (fun t k => XS.aloadN X4.here hx rfl (hb hby d3_17) rfl rfl k) ?_
  show RestW p.tables e below s _ _ _ (T4.setTop (mkF m 18 #[.val (.ref a0), .val (.ref a1), .val (.int (0 : Int32)), .val (.int (0 : Int32)), .val .null, .unset] [(.ref a0)]))
  refine RestW.via (fun t k => ldcAgain (s := s) (vm0 := T2.vm) X4 hx hZ hown (hw _ (List.mem_of_getElem? (i := 21) rfl)) Li2 (g := (mkF m 18 #[.val (.ref a0), .val (.ref a1), .val (.int (0 : Int32)), .val (.int (0 : Int32)), .val .null, .unset] [(.ref a0)])) rfl (hb hby d3_18) t k) ?_
  show RestW p.tables e below s _ _ _ (T4.setTop (mkF m 20 #[.val (.ref a0), .val (.ref a1), .val (.int (0 : Int32)), .val (.int (0 : Int32)), .val .null, .unset] [(.ref sa2), (.ref a0)]))
  obtain ⟨T5, X5, e5, st5⟩ := getF X4 hx hZ hown (host := "") (Or.inl (hw _ (List.mem_of_getElem? (i := 28) rfl))) Via.refl e4 (Fc2.other W4 (Or.inl ne_sa2_a0)) (g := (mkF m 20 #[.val (.ref a0), .val (.ref a1), .val (.int (0 : Int32)), .val (.int (0 : Int32)), .val .null, .unset] [(.ref sa2), (.ref a0)])) rfl rfl (hb hby d3_20)
  refine RestW.via (fun t k => st5 t k) ?_
  show RestW p.tables e below s _ _ _ (T5.setTop (mkF m 23 #[.val (.ref a0), .val (.ref a1), .val (.int (0 : Int32)), .val (.int (0 : Int32)), .val .null, .unset] [(.int (0 : Int32)), (.ref a0)]))
  have Fo6 := ((F_c.ext E2).other W4 (Or.inr (slot_ne (Or.inr (hw _ (List.mem_of_getElem? (i := 24) rfl))) (Or.inr (hw _ (List.mem_of_getElem? (i := 23) rfl))) (by decide) (t := .byte) (t' := (.array .byte)) (by decide) (by decide))))
  obtain ⟨T6, h6, X6, e6, W6, st6⟩ := putFN X5 hx hZ hown (hw _ (List.mem_of_getElem? (i := 28) rfl)) Via.refl e5 Fo6 ((E_a0.ext E2).wr W4) (Or.inr ⟨(hw _ (List.mem_of_getElem? (i := 24) rfl)), rfl, hnm⟩) (hw _ (List.mem_of_getElem? (i := 8) rfl)) (ty := .byte) (v' := (.int (0 : Int32))) (by decide) rfl (by decide) (g := (mkF m 23 #[.val (.ref a0), .val (.ref a1), .val (.int (0 : Int32)), .val (.int (0 : Int32)), .val .null, .unset] [(.int (0 : Int32)), (.ref a0)])) rfl rfl (hb hby d3_23)
  refine RestW.via (fun t k => st6 t k) ?_
  have N6 := Fr.snoc X6 N4 g_a0
  have K6 : Keep h0 h6 [a0] := K4.wr W6 (Or.inl (List.mem_of_getElem? (i := 0) rfl))
  have Fw6 := Fo6.same W6
  show RestW p.tables e below s _ _ _ (T6.setTop (mkF m 26 #[.val (.ref a0), .val (.ref a1), .val (.int (0 : Int32)), .val (.int (0 : Int32)), .val .null, .unset] []))
  refine RestW.ret X6 hS (by rw [e6]; first | exact (Nat.le_trans (Nat.le_trans hk2 (Keep.of_wr W4).1) (Keep.of_wr W6).1) | exact Nat.le_refl _) (v := none) (fun _ => rfl) hlk (fun fs hr => X6.returnOut hx Bd.returns (hb hby d3_26) hr) ?_ (by decide) (by decide)
  rw [e6]
  exact ⟨rfl, N6, K6, Fw6, sa2, sb2, kb2, (Fw4.other W6 (Or.inr (slot_ne (Or.inr (hw _ (List.mem_of_getElem? (i := 23) rfl))) (Or.inr (hw _ (List.mem_of_getElem? (i := 24) rfl))) (by decide) (t := (.array .byte)) (t' := .byte) (by decide) (by decide)))), ⟨own_Lit_warm Li2 X6.warmed.wide, ⟨((Ea2.wr W4).wr W6), ((Fv2.other W4 (Or.inl ne_sa2_a0)).other W6 (Or.inl ne_sa2_a0)), ((Fc2.other W4 (Or.inl ne_sa2_a0)).other W6 (Or.inl ne_sa2_a0)), ((Vb2.other W4 (Ne.symm ne_a0_sb2)).other W6 (Ne.symm ne_a0_sb2))⟩⟩, ne_a0_sb2, own_IB_warm I X6.warmed⟩
theorem ef_SI0c (m : MethodId) (a0 : Addr) (a1 : Addr) : entryFrame m #[(.ref a0), (.ref a1)] 2 = mkF m 0 #[.val (.ref a0), .val (.ref a1)] [] := by first | (simp [entryFrame, mkF, argsToLocals, Value.category, maxLocals]; done) | rfl
def QSI0c (Z : State) (a0 : Addr) (a1 : Addr) (kc : ClassId) (Ts : List String) (h0 : Heap) (n0 : Nat) (v : Option Value) (h : Heap) (L : List Loc) (vm : Vm) : Prop := v = none ∧ Fr n0 L ∧ Keep h0 h [a0] ∧ Fld Z h a0 "java/lang/String" "coder" "B" (.int (0 : Int32)) ∧ ∃ a b k, Fld Z h a0 "java/lang/String" "value" "[B" (.ref b) ∧ own_L0 Z h vm a b k ∧ a0 ≠ b ∧ IB Z vm ("" :: Ts)
set_option maxRecDepth 65536 in
set_option maxHeartbeats 40000000 in
theorem rmSI0c (l : Launch) (Z : State) (aw : Array Value) (hw : ∀ d ∈ tables_1, d.before aw Z = true) (ws : List Jvm.Cond) (a0 : Addr) (a1 : Addr) (kc : ClassId) (Ts : List String) (h0 : Heap) (n0 : Nat) (Z0 : n0 ≤ h0.size) (E_a0 : Exa Z h0 a0 "java/lang/String") (F_v : Fld Z h0 a0 "java/lang/String" "value" "[B" .null) (F_c : Fld Z h0 a0 "java/lang/String" "coder" "B" (.int (0 : Int32))) (g_a0 : n0 ≤ a0) (V1 : Arv Z h0 a1 kc .char (0 : Int32) [] (.int (0 : Int32))) (O : Old Z n0 h0) (hcw : Jvm.Lit.compactW.before aw Z = true) (HE : Jvm.Lit.constHeld Z "java/lang/String" 7) (hnot : "" ∉ Ts) :
    MetFree l (⟨"java/lang/String", "<init>", "([C)V"⟩ : MethodName) (head1 (Jvm.Cond.code (⟨"java/lang/String", "<init>", "([C)V"⟩ : MethodName) jdk_42_method_3_code 2 none :: ws) ({ frames := 2, cells := 2, slots := 4, locals := 29 } : Room)) (fun a U => a = #[(.ref a0), (.ref a1)] ∧ Z.Warmed39 U.vm ∧ U.heap = h0 ∧ (fun vm => IB Z vm Ts) U.vm) (fun _ _ _ _ _ => True) (fun _ U o U' => ∃ v L, o = .returned v ∧ QSI0c Z a0 a1 kc Ts h0 n0 v U'.heap L U'.vm ∧ ReturnedEndW U o U' L ({ frames := 2, cells := 2, slots := 4, locals := 29 } : Room).cells ({ frames := 2, cells := 2, slots := 4, locals := 29 } : Room).slots) := by
  refine MetFree.of_bodySF (plainFor_of_name pn_1) hisR ?_
  intro p e s m args below meth c s₁ Bd hml0 hP hK
  obtain ⟨rfl, hZ, hh, hVP⟩ := hP
  have hx := Bd.exec
  have hby := Bd.bytes
  have hml : c.maxLocals = 2 := hml0
  have hown : s.vm.findClass "java/lang/String" = some m.cls := findClass_of_methodNamed Bd.named
  have hnm := (name_of_methodNamed Bd.named Bd.method).1
  have hlk : meth.locks = false := BodyLoose.notSynchronized Bd
  have X0 : Stand p l e ({ frames := 2, cells := 2, slots := 4, locals := 29 } : Room) (s.setVm s.vm) m #[(.ref a0), (.ref a1)] below meth c s₁ [] 0 0 := Stand.of_body Bd
  have hS : s.Since s.vm h0.size := (State.WarmedH.refl s).since _
  have eh0 : s₁.heap = h0 := by rw [← hh, Bd.state]; rfl
  have N0 := Fr.nil n0
  show RestW p.tables e below s (QSI0c Z a0 a1 kc Ts h0 n0) _ _ (s₁.setTop (entryFrame m #[(.ref a0), (.ref a1)] 2))
  refine RestW.via (fun t k => castTop (ef_SI0c m a0 a1) k) ?_
  have I := hVP
  show RestW p.tables e below s _ _ _ (s₁.setTop (mkF m 0 #[.val (.ref a0), .val (.ref a1)] []))
  refine RestW.via (fun t k => XS.aloadN X0.here hx rfl (hb hby d2_0) rfl rfl k) ?_
  show RestW p.tables e below s _ _ _ (s₁.setTop (mkF m 1 #[.val (.ref a0), .val (.ref a1)] [(.ref a0)]))
  refine RestW.via (fun t k => XS.aloadN X0.here hx rfl (hb hby d2_1) rfl rfl k) ?_
  show RestW p.tables e below s _ _ _ (s₁.setTop (mkF m 2 #[.val (.ref a0), .val (.ref a1)] [(.ref a1), (.ref a0)]))
  refine RestW.via (fun t k => XS.iconst X0.here hx rfl (hb hby d2_2) k) ?_
  show RestW p.tables e below s _ _ _ (s₁.setTop (mkF m 3 #[.val (.ref a0), .val (.ref a1)] [(.int (0 : Int32)), (.ref a1), (.ref a0)]))
  refine RestW.via (fun t k => XS.aloadN X0.here hx rfl (hb hby d2_3) rfl rfl k) ?_
  show RestW p.tables e below s _ _ _ (s₁.setTop (mkF m 4 #[.val (.ref a0), .val (.ref a1)] [(.ref a1), (.int (0 : Int32)), (.ref a1), (.ref a0)]))
  obtain ⟨cl1, Ar1, -, S1, P1, -, -⟩ := id V1
  refine RestW.via (fun t k => X0.arraylength hx (by rw [eh0]; exact Ar1.1) (State.isArrayOf_alike hZ.alike Ar1.2.1) (g := (mkF m 4 #[.val (.ref a0), .val (.ref a1)] [(.ref a1), (.int (0 : Int32)), (.ref a1), (.ref a0)])) rfl rfl (hb hby d2_4) t k) ?_
  rw [len_of S1 P1]
  show RestW p.tables e below s _ _ _ (s₁.setTop (mkF m 5 #[.val (.ref a0), .val (.ref a1)] [(.int (0 : Int32)), (.int (0 : Int32)), (.ref a1), (.ref a0)]))
  refine RestW.via (fun t k => XS.aconstNull X0.here hx rfl (hb hby d2_5) k) ?_
  show RestW p.tables e below s _ _ _ (s₁.setTop (mkF m 6 #[.val (.ref a0), .val (.ref a1)] [.null, (.int (0 : Int32)), (.int (0 : Int32)), (.ref a1), (.ref a0)]))
  obtain ⟨_, _, ⟨T2, L2, k2, n2⟩, -, X2, hSq2, gr2, ⟨Lc2, hQ2, l2, y2, z2⟩, st2⟩ := X0.specialBackS hx (y := (⟨"java/lang/String", "<init>", "([CIILjava/lang/Void;)V"⟩ : MethodName)) rfl hown (mvT hZ (hw _ (List.mem_of_getElem? (i := 14) rfl))) (mvT hZ (hw _ (List.mem_of_getElem? (i := 15) rfl))) (mvT hZ (hw _ (List.mem_of_getElem? (i := 17) rfl))) (by decide) (own_backV (W := 0) (rmSJ0c l Z aw hw [] a0 a1 kc Ts h0 n0 (Nat.le_trans Z0 (Keep.refl h0 [a0]).1) E_a0 F_v F_c g_a0 V1 (O.keep (Keep.refl h0 [a0]) (allS g_a0 all0)) hcw HE hnot) hZ (hw _ (List.mem_of_getElem? (i := 17) rfl)) (hw _ (List.mem_of_getElem? (i := 9) rfl)) (by decide) (by decide) (fun vm' hw' => own_IB_warm (s := s) I hw')) (g := (mkF m 6 #[.val (.ref a0), .val (.ref a1)] [.null, (.int (0 : Int32)), (.int (0 : Int32)), (.ref a1), (.ref a0)])) rfl (by rw [hml]; rfl) (Steps.refl _) (a := a0) (argsL := [(.ref a1), (.int (0 : Int32)), (.int (0 : Int32)), .null]) (rest := []) (lenOf pd_3 rfl) rfl (by show 2 * 0 + _ ≤ _; exact Nat.le_of_eq rfl) (hb hby d2_6) (fun _ _ => ⟨rfl, eh0, (by decide : 0 + 2 ≤ _), (by decide : 0 + 4 ≤ _)⟩)
  dsimp only [Pt.U, Pt.locs, Pt.cells, Pt.slots] at X2 l2 y2 z2 st2 hQ2 hSq2 gr2
  subst l2 y2 z2
  obtain ⟨X2, hS, hZ, hown⟩ := rebS hS (by rw [eh0]; first | exact (Nat.le_refl _) | exact Nat.le_refl _) X2 hSq2 gr2 hZ hown
  obtain ⟨h2, e2⟩ : ∃ z, T2.heap = z := ⟨_, rfl⟩
  rw [e2] at hQ2
  obtain ⟨rfl, Nq2, Kq2, rq2⟩ := hQ2
  have N2 := Fr.app N0 Nq2
  have K2 : Keep h0 h2 [a0] := (Keep.refl h0 [a0]).trans Kq2 (allS (Or.inl (List.mem_of_getElem? (i := 0) rfl)) all0)
  refine RestW.via (fun t k => st2.trans k) ?_
  show RestW p.tables e below s _ _ _ (T2.setTop (mkF m 9 #[.val (.ref a0), .val (.ref a1)] []))
  refine RestW.ret X2 hS (by rw [e2]; first | exact (Nat.le_of_eq (congrArg Array.size e2)) | exact Nat.le_refl _) (v := none) (fun _ => rfl) hlk (fun fs hr => X2.returnOut hx Bd.returns (hb hby d2_9) hr) ?_ (by decide) (by decide)
  rw [e2]
  obtain ⟨r1, a, b, k, r2, ⟨r3, r4⟩, r5, r6⟩ := id rq2; exact ⟨rfl, N2, K2, r1, a, b, k, r2, ⟨own_Lit_warm r3 X2.warmed.wide, r4⟩, r5, own_IB_warm r6 X2.warmed⟩
theorem ef_SJ0w (m : MethodId) (a0 : Addr) (a1 : Addr) : entryFrame m #[(.ref a0), (.ref a1), (.int (0 : Int32)), (.int (0 : Int32)), .null] 6 = mkF m 0 #[.val (.ref a0), .val (.ref a1), .val (.int (0 : Int32)), .val (.int (0 : Int32)), .val .null, .unset] [] := by first | (simp [entryFrame, mkF, argsToLocals, Value.category, maxLocals]; done) | rfl
def QSJ0w (Z : State) (a0 : Addr) (a1 : Addr) (kc : ClassId) (la : Addr) (lb : Addr) (lk : ClassId) (h0 : Heap) (n0 : Nat) (v : Option Value) (h : Heap) (L : List Loc) (vm : Vm) : Prop := v = none ∧ Fr n0 L ∧ Keep h0 h [a0] ∧ Fld Z h a0 "java/lang/String" "coder" "B" (.int (0 : Int32)) ∧ Fld Z h a0 "java/lang/String" "value" "[B" (.ref lb) ∧ own_St Z h la lb lk (0 : Int32) [] ∧ a0 ≠ lb
set_option maxRecDepth 65536 in
set_option maxHeartbeats 40000000 in
theorem rmSJ0w (l : Launch) (Z : State) (aw : Array Value) (hw : ∀ d ∈ tables_1, d.before aw Z = true) (ws : List Jvm.Cond) (a0 : Addr) (a1 : Addr) (kc : ClassId) (la : Addr) (lb : Addr) (lk : ClassId) (h0 : Heap) (n0 : Nat) (Z0 : n0 ≤ h0.size) (E_a0 : Exa Z h0 a0 "java/lang/String") (F_v : Fld Z h0 a0 "java/lang/String" "value" "[B" .null) (F_c : Fld Z h0 a0 "java/lang/String" "coder" "B" (.int (0 : Int32))) (g_a0 : n0 ≤ a0) (V1 : Arv Z h0 a1 kc .char (0 : Int32) [] (.int (0 : Int32))) (O : Old Z n0 h0) (SL : own_St Z h0 la lb lk (0 : Int32) []) :
    MetFree l (⟨"java/lang/String", "<init>", "([CIILjava/lang/Void;)V"⟩ : MethodName) (head1 (Jvm.Cond.code (⟨"java/lang/String", "<init>", "([CIILjava/lang/Void;)V"⟩ : MethodName) jdk_42_method_149_code 6 none :: ws) ({ frames := 1, cells := 0, slots := 0, locals := 12 } : Room)) (fun a U => a = #[(.ref a0), (.ref a1), (.int (0 : Int32)), (.int (0 : Int32)), .null] ∧ Z.Warmed39 U.vm ∧ U.heap = h0 ∧ (fun vm => Lit (Z.setVm vm) "java/lang/String" 7 la) U.vm) (fun _ _ _ _ _ => True) (fun _ U o U' => ∃ v L, o = .returned v ∧ QSJ0w Z a0 a1 kc la lb lk h0 n0 v U'.heap L U'.vm ∧ ReturnedEndW U o U' L ({ frames := 1, cells := 0, slots := 0, locals := 12 } : Room).cells ({ frames := 1, cells := 0, slots := 0, locals := 12 } : Room).slots) := by
  refine MetFree.of_bodySF (plainFor_of_name pn_1) hisR ?_
  intro p e s m args below meth c s₁ Bd hml0 hP hK
  obtain ⟨rfl, hZ, hh, hVP⟩ := hP
  have hx := Bd.exec
  have hby := Bd.bytes
  have hml : c.maxLocals = 6 := hml0
  have hown : s.vm.findClass "java/lang/String" = some m.cls := findClass_of_methodNamed Bd.named
  have hnm := (name_of_methodNamed Bd.named Bd.method).1
  have hlk : meth.locks = false := BodyLoose.notSynchronized Bd
  have X0 : Stand p l e ({ frames := 1, cells := 0, slots := 0, locals := 12 } : Room) (s.setVm s.vm) m #[(.ref a0), (.ref a1), (.int (0 : Int32)), (.int (0 : Int32)), .null] below meth c s₁ [] 0 0 := Stand.of_body Bd
  have hS : s.Since s.vm h0.size := (State.WarmedH.refl s).since _
  have eh0 : s₁.heap = h0 := by rw [← hh, Bd.state]; rfl
  have N0 := Fr.nil n0
  show RestW p.tables e below s (QSJ0w Z a0 a1 kc la lb lk h0 n0) _ _ (s₁.setTop (entryFrame m #[(.ref a0), (.ref a1), (.int (0 : Int32)), (.int (0 : Int32)), .null] 6))
  refine RestW.via (fun t k => castTop (ef_SJ0w m a0 a1) k) ?_
  have Li0 := hVP
  obtain ⟨Ea, Fva, Fca, Vba⟩ := id SL
  show RestW p.tables e below s _ _ _ (s₁.setTop (mkF m 0 #[.val (.ref a0), .val (.ref a1), .val (.int (0 : Int32)), .val (.int (0 : Int32)), .val .null, .unset] []))
  refine RestW.via (fun t k => XS.aloadN X0.here hx rfl (hb hby d3_0) rfl rfl k) ?_
  show RestW p.tables e below s _ _ _ (s₁.setTop (mkF m 1 #[.val (.ref a0), .val (.ref a1), .val (.int (0 : Int32)), .val (.int (0 : Int32)), .val .null, .unset] [(.ref a0)]))
  obtain ⟨T1, X1, e1, st1⟩ := initO X0 hx hZ hown (hw _ (List.mem_of_getElem? (i := 18) rfl)) (hw _ (List.mem_of_getElem? (i := 19) rfl)) (hw _ (List.mem_of_getElem? (i := 20) rfl)) eh0 (g := (mkF m 1 #[.val (.ref a0), .val (.ref a1), .val (.int (0 : Int32)), .val (.int (0 : Int32)), .val .null, .unset] [(.ref a0)])) rfl (by rw [hml]; rfl) rfl (hb hby d3_1) (by decide) (W := 0) (by show 2 * 0 + _ ≤ _; exact Nat.le_of_eq rfl) (by decide)
  refine RestW.via (fun t k => st1 t k) ?_
  show RestW p.tables e below s _ _ _ (T1.setTop (mkF m 4 #[.val (.ref a0), .val (.ref a1), .val (.int (0 : Int32)), .val (.int (0 : Int32)), .val .null, .unset] []))
  refine RestW.via (fun t k => XS.iloadN X1.here hx rfl (hb hby d3_4) rfl k) ?_
  show RestW p.tables e below s _ _ _ (T1.setTop (mkF m 5 #[.val (.ref a0), .val (.ref a1), .val (.int (0 : Int32)), .val (.int (0 : Int32)), .val .null, .unset] [(.int (0 : Int32))]))
  refine RestW.via (fun t k => XS.ifNo X1.here hx rfl (hb hby d3_5) rfl ((if0 _ _).trans (teq (by decide : (0 : Int32) = (0 : Int32))).2) k) ?_
  show RestW p.tables e below s _ _ _ (T1.setTop (mkF m 8 #[.val (.ref a0), .val (.ref a1), .val (.int (0 : Int32)), .val (.int (0 : Int32)), .val .null, .unset] []))
  refine RestW.via (fun t k => XS.aloadN X1.here hx rfl (hb hby d3_8) rfl rfl k) ?_
  show RestW p.tables e below s _ _ _ (T1.setTop (mkF m 9 #[.val (.ref a0), .val (.ref a1), .val (.int (0 : Int32)), .val (.int (0 : Int32)), .val .null, .unset] [(.ref a0)]))
  refine RestW.via (fun t k => ldcAgain (s := s) (vm0 := s.vm) X1 hx hZ hown (hw _ (List.mem_of_getElem? (i := 21) rfl)) Li0 (g := (mkF m 9 #[.val (.ref a0), .val (.ref a1), .val (.int (0 : Int32)), .val (.int (0 : Int32)), .val .null, .unset] [(.ref a0)])) rfl (hb hby d3_9) t k) ?_
  have ne_la_a0 : la ≠ a0 := Fld.ne Fva F_v (by simp)
  have ne_a0_lb : a0 ≠ lb := Exa.neArv E_a0 Vba (hw _ (List.mem_of_getElem? (i := 8) rfl))
  show RestW p.tables e below s _ _ _ (T1.setTop (mkF m 11 #[.val (.ref a0), .val (.ref a1), .val (.int (0 : Int32)), .val (.int (0 : Int32)), .val .null, .unset] [(.ref la), (.ref a0)]))
  obtain ⟨T2, X2, e2, st2⟩ := getF X1 hx hZ hown (host := "") (Or.inl (hw _ (List.mem_of_getElem? (i := 27) rfl))) Via.refl e1 Fva (g := (mkF m 11 #[.val (.ref a0), .val (.ref a1), .val (.int (0 : Int32)), .val (.int (0 : Int32)), .val .null, .unset] [(.ref la), (.ref a0)])) rfl rfl (hb hby d3_11)
  refine RestW.via (fun t k => st2 t k) ?_
  show RestW p.tables e below s _ _ _ (T2.setTop (mkF m 14 #[.val (.ref a0), .val (.ref a1), .val (.int (0 : Int32)), .val (.int (0 : Int32)), .val .null, .unset] [(.ref lb), (.ref a0)]))
  have Fo3 := F_v
  obtain ⟨T3, h3, X3, e3, W3, st3⟩ := putF X2 hx hZ hown (host := "") (Or.inl (hw _ (List.mem_of_getElem? (i := 27) rfl))) Via.refl e2 Fo3 E_a0 (Or.inr ⟨(hw _ (List.mem_of_getElem? (i := 23) rfl)), rfl, hnm⟩) (hw _ (List.mem_of_getElem? (i := 8) rfl)) (ty := (.array .byte)) (by decide) rfl rfl (g := (mkF m 14 #[.val (.ref a0), .val (.ref a1), .val (.int (0 : Int32)), .val (.int (0 : Int32)), .val .null, .unset] [(.ref lb), (.ref a0)])) rfl rfl (hb hby d3_14)
  refine RestW.via (fun t k => st3 t k) ?_
  have N3 := Fr.snoc X3 N0 g_a0
  have K3 : Keep h0 h3 [a0] := (Keep.refl h0 [a0]).wr W3 (Or.inl (List.mem_of_getElem? (i := 0) rfl))
  have Fw3 := Fo3.same W3
  show RestW p.tables e below s _ _ _ (T3.setTop (mkF m 17 #[.val (.ref a0), .val (.ref a1), .val (.int (0 : Int32)), .val (.int (0 : Int32)), .val .null, .unset] []))
  refine RestW.via (fun t k => XS.aloadN X3.here hx rfl (hb hby d3_17) rfl rfl k) ?_
  show RestW p.tables e below s _ _ _ (T3.setTop (mkF m 18 #[.val (.ref a0), .val (.ref a1), .val (.int (0 : Int32)), .val (.int (0 : Int32)), .val .null, .unset] [(.ref a0)]))
  refine RestW.via (fun t k => ldcAgain (s := s) (vm0 := s.vm) X3 hx hZ hown (hw _ (List.mem_of_getElem? (i := 21) rfl)) Li0 (g := (mkF m 18 #[.val (.ref a0), .val (.ref a1), .val (.int (0 : Int32)), .val (.int (0 : Int32)), .val .null, .unset] [(.ref a0)])) rfl (hb hby d3_18) t k) ?_
  show RestW p.tables e below s _ _ _ (T3.setTop (mkF m 20 #[.val (.ref a0), .val (.ref a1), .val (.int (0 : Int32)), .val (.int (0 : Int32)), .val .null, .unset] [(.ref la), (.ref a0)]))
  obtain ⟨T4, X4, e4, st4⟩ := getF X3 hx hZ hown (host := "") (Or.inl (hw _ (List.mem_of_getElem? (i := 28) rfl))) Via.refl e3 (Fca.other W3 (Or.inl ne_la_a0)) (g := (mkF m 20 #[.val (.ref a0), .val (.ref a1), .val (.int (0 : Int32)), .val (.int (0 : Int32)), .val .null, .unset] [(.ref la), (.ref a0)])) rfl rfl (hb hby d3_20)
  refine RestW.via (fun t k => st4 t k) ?_
  show RestW p.tables e below s _ _ _ (T4.setTop (mkF m 23 #[.val (.ref a0), .val (.ref a1), .val (.int (0 : Int32)), .val (.int (0 : Int32)), .val .null, .unset] [(.int (0 : Int32)), (.ref a0)]))
  have Fo5 := (F_c.other W3 (Or.inr (slot_ne (Or.inr (hw _ (List.mem_of_getElem? (i := 24) rfl))) (Or.inr (hw _ (List.mem_of_getElem? (i := 23) rfl))) (by decide) (t := .byte) (t' := (.array .byte)) (by decide) (by decide))))
  obtain ⟨T5, h5, X5, e5, W5, st5⟩ := putFN X4 hx hZ hown (hw _ (List.mem_of_getElem? (i := 28) rfl)) Via.refl e4 Fo5 (E_a0.wr W3) (Or.inr ⟨(hw _ (List.mem_of_getElem? (i := 24) rfl)), rfl, hnm⟩) (hw _ (List.mem_of_getElem? (i := 8) rfl)) (ty := .byte) (v' := (.int (0 : Int32))) (by decide) rfl (by decide) (g := (mkF m 23 #[.val (.ref a0), .val (.ref a1), .val (.int (0 : Int32)), .val (.int (0 : Int32)), .val .null, .unset] [(.int (0 : Int32)), (.ref a0)])) rfl rfl (hb hby d3_23)
  refine RestW.via (fun t k => st5 t k) ?_
  have N5 := Fr.snoc X5 N3 g_a0
  have K5 : Keep h0 h5 [a0] := K3.wr W5 (Or.inl (List.mem_of_getElem? (i := 0) rfl))
  have Fw5 := Fo5.same W5
  show RestW p.tables e below s _ _ _ (T5.setTop (mkF m 26 #[.val (.ref a0), .val (.ref a1), .val (.int (0 : Int32)), .val (.int (0 : Int32)), .val .null, .unset] []))
  refine RestW.ret X5 hS (by rw [e5]; first | exact (Nat.le_trans (Nat.le_trans (Nat.le_refl _) (Keep.of_wr W3).1) (Keep.of_wr W5).1) | exact Nat.le_refl _) (v := none) (fun _ => rfl) hlk (fun fs hr => X5.returnOut hx Bd.returns (hb hby d3_26) hr) ?_ (by decide) (by decide)
  rw [e5]
  exact ⟨rfl, N5, K5, Fw5, (Fw3.other W5 (Or.inr (slot_ne (Or.inr (hw _ (List.mem_of_getElem? (i := 23) rfl))) (Or.inr (hw _ (List.mem_of_getElem? (i := 24) rfl))) (by decide) (t := (.array .byte)) (t' := .byte) (by decide) (by decide)))), ⟨((Ea.wr W3).wr W5), ((Fva.other W3 (Or.inl ne_la_a0)).other W5 (Or.inl ne_la_a0)), ((Fca.other W3 (Or.inl ne_la_a0)).other W5 (Or.inl ne_la_a0)), ((Vba.other W3 (Ne.symm ne_a0_lb)).other W5 (Ne.symm ne_a0_lb))⟩, ne_a0_lb⟩
theorem ef_SI0w (m : MethodId) (a0 : Addr) (a1 : Addr) : entryFrame m #[(.ref a0), (.ref a1)] 2 = mkF m 0 #[.val (.ref a0), .val (.ref a1)] [] := by first | (simp [entryFrame, mkF, argsToLocals, Value.category, maxLocals]; done) | rfl
def QSI0w (Z : State) (a0 : Addr) (a1 : Addr) (kc : ClassId) (la : Addr) (lb : Addr) (lk : ClassId) (h0 : Heap) (n0 : Nat) (v : Option Value) (h : Heap) (L : List Loc) (vm : Vm) : Prop := v = none ∧ Fr n0 L ∧ Keep h0 h [a0] ∧ Fld Z h a0 "java/lang/String" "coder" "B" (.int (0 : Int32)) ∧ Fld Z h a0 "java/lang/String" "value" "[B" (.ref lb) ∧ own_St Z h la lb lk (0 : Int32) [] ∧ a0 ≠ lb
set_option maxRecDepth 65536 in
set_option maxHeartbeats 40000000 in
theorem rmSI0w (l : Launch) (Z : State) (aw : Array Value) (hw : ∀ d ∈ tables_1, d.before aw Z = true) (ws : List Jvm.Cond) (a0 : Addr) (a1 : Addr) (kc : ClassId) (la : Addr) (lb : Addr) (lk : ClassId) (h0 : Heap) (n0 : Nat) (Z0 : n0 ≤ h0.size) (E_a0 : Exa Z h0 a0 "java/lang/String") (F_v : Fld Z h0 a0 "java/lang/String" "value" "[B" .null) (F_c : Fld Z h0 a0 "java/lang/String" "coder" "B" (.int (0 : Int32))) (g_a0 : n0 ≤ a0) (V1 : Arv Z h0 a1 kc .char (0 : Int32) [] (.int (0 : Int32))) (O : Old Z n0 h0) (SL : own_St Z h0 la lb lk (0 : Int32) []) :
    MetFree l (⟨"java/lang/String", "<init>", "([C)V"⟩ : MethodName) (head1 (Jvm.Cond.code (⟨"java/lang/String", "<init>", "([C)V"⟩ : MethodName) jdk_42_method_3_code 2 none :: ws) ({ frames := 2, cells := 0, slots := 0, locals := 29 } : Room)) (fun a U => a = #[(.ref a0), (.ref a1)] ∧ Z.Warmed39 U.vm ∧ U.heap = h0 ∧ (fun vm => Lit (Z.setVm vm) "java/lang/String" 7 la) U.vm) (fun _ _ _ _ _ => True) (fun _ U o U' => ∃ v L, o = .returned v ∧ QSI0w Z a0 a1 kc la lb lk h0 n0 v U'.heap L U'.vm ∧ ReturnedEndW U o U' L ({ frames := 2, cells := 0, slots := 0, locals := 29 } : Room).cells ({ frames := 2, cells := 0, slots := 0, locals := 29 } : Room).slots) := by
  refine MetFree.of_bodySF (plainFor_of_name pn_1) hisR ?_
  intro p e s m args below meth c s₁ Bd hml0 hP hK
  obtain ⟨rfl, hZ, hh, hVP⟩ := hP
  have hx := Bd.exec
  have hby := Bd.bytes
  have hml : c.maxLocals = 2 := hml0
  have hown : s.vm.findClass "java/lang/String" = some m.cls := findClass_of_methodNamed Bd.named
  have hnm := (name_of_methodNamed Bd.named Bd.method).1
  have hlk : meth.locks = false := BodyLoose.notSynchronized Bd
  have X0 : Stand p l e ({ frames := 2, cells := 0, slots := 0, locals := 29 } : Room) (s.setVm s.vm) m #[(.ref a0), (.ref a1)] below meth c s₁ [] 0 0 := Stand.of_body Bd
  have hS : s.Since s.vm h0.size := (State.WarmedH.refl s).since _
  have eh0 : s₁.heap = h0 := by rw [← hh, Bd.state]; rfl
  have N0 := Fr.nil n0
  show RestW p.tables e below s (QSI0w Z a0 a1 kc la lb lk h0 n0) _ _ (s₁.setTop (entryFrame m #[(.ref a0), (.ref a1)] 2))
  refine RestW.via (fun t k => castTop (ef_SI0w m a0 a1) k) ?_
  have Li0 := hVP
  obtain ⟨Ea, Fva, Fca, Vba⟩ := id SL
  show RestW p.tables e below s _ _ _ (s₁.setTop (mkF m 0 #[.val (.ref a0), .val (.ref a1)] []))
  refine RestW.via (fun t k => XS.aloadN X0.here hx rfl (hb hby d2_0) rfl rfl k) ?_
  show RestW p.tables e below s _ _ _ (s₁.setTop (mkF m 1 #[.val (.ref a0), .val (.ref a1)] [(.ref a0)]))
  refine RestW.via (fun t k => XS.aloadN X0.here hx rfl (hb hby d2_1) rfl rfl k) ?_
  show RestW p.tables e below s _ _ _ (s₁.setTop (mkF m 2 #[.val (.ref a0), .val (.ref a1)] [(.ref a1), (.ref a0)]))
  refine RestW.via (fun t k => XS.iconst X0.here hx rfl (hb hby d2_2) k) ?_
  show RestW p.tables e below s _ _ _ (s₁.setTop (mkF m 3 #[.val (.ref a0), .val (.ref a1)] [(.int (0 : Int32)), (.ref a1), (.ref a0)]))
  refine RestW.via (fun t k => XS.aloadN X0.here hx rfl (hb hby d2_3) rfl rfl k) ?_
  show RestW p.tables e below s _ _ _ (s₁.setTop (mkF m 4 #[.val (.ref a0), .val (.ref a1)] [(.ref a1), (.int (0 : Int32)), (.ref a1), (.ref a0)]))
  obtain ⟨cl1, Ar1, -, S1, P1, -, -⟩ := id V1
  refine RestW.via (fun t k => X0.arraylength hx (by rw [eh0]; exact Ar1.1) (State.isArrayOf_alike hZ.alike Ar1.2.1) (g := (mkF m 4 #[.val (.ref a0), .val (.ref a1)] [(.ref a1), (.int (0 : Int32)), (.ref a1), (.ref a0)])) rfl rfl (hb hby d2_4) t k) ?_
  rw [len_of S1 P1]
  show RestW p.tables e below s _ _ _ (s₁.setTop (mkF m 5 #[.val (.ref a0), .val (.ref a1)] [(.int (0 : Int32)), (.int (0 : Int32)), (.ref a1), (.ref a0)]))
  refine RestW.via (fun t k => XS.aconstNull X0.here hx rfl (hb hby d2_5) k) ?_
  show RestW p.tables e below s _ _ _ (s₁.setTop (mkF m 6 #[.val (.ref a0), .val (.ref a1)] [.null, (.int (0 : Int32)), (.int (0 : Int32)), (.ref a1), (.ref a0)]))
  obtain ⟨_, _, ⟨T2, L2, k2, n2⟩, -, X2, hSq2, gr2, ⟨Lc2, hQ2, l2, y2, z2⟩, st2⟩ := X0.specialBackS hx (y := (⟨"java/lang/String", "<init>", "([CIILjava/lang/Void;)V"⟩ : MethodName)) rfl hown (mvT hZ (hw _ (List.mem_of_getElem? (i := 14) rfl))) (mvT hZ (hw _ (List.mem_of_getElem? (i := 15) rfl))) (mvT hZ (hw _ (List.mem_of_getElem? (i := 17) rfl))) (by decide) (own_backV (W := 0) (rmSJ0w l Z aw hw [] a0 a1 kc la lb lk h0 n0 (Nat.le_trans Z0 (Keep.refl h0 [a0]).1) E_a0 F_v F_c g_a0 V1 (O.keep (Keep.refl h0 [a0]) (allS g_a0 all0)) SL) hZ (hw _ (List.mem_of_getElem? (i := 17) rfl)) (hw _ (List.mem_of_getElem? (i := 9) rfl)) (by decide) (by decide) (fun vm' hw' => own_Lit_warm (s := s) Li0 hw'.wide)) (g := (mkF m 6 #[.val (.ref a0), .val (.ref a1)] [.null, (.int (0 : Int32)), (.int (0 : Int32)), (.ref a1), (.ref a0)])) rfl (by rw [hml]; rfl) (Steps.refl _) (a := a0) (argsL := [(.ref a1), (.int (0 : Int32)), (.int (0 : Int32)), .null]) (rest := []) (lenOf pd_3 rfl) rfl (by show 2 * 0 + _ ≤ _; exact Nat.le_of_eq rfl) (hb hby d2_6) (fun _ _ => ⟨rfl, eh0, (by decide : 0 + 0 ≤ _), (by decide : 0 + 0 ≤ _)⟩)
  dsimp only [Pt.U, Pt.locs, Pt.cells, Pt.slots] at X2 l2 y2 z2 st2 hQ2 hSq2 gr2
  subst l2 y2 z2
  obtain ⟨X2, hS, hZ, hown⟩ := rebS hS (by rw [eh0]; first | exact (Nat.le_refl _) | exact Nat.le_refl _) X2 hSq2 gr2 hZ hown
  obtain ⟨h2, e2⟩ : ∃ z, T2.heap = z := ⟨_, rfl⟩
  rw [e2] at hQ2
  obtain ⟨rfl, Nq2, Kq2, rq2⟩ := hQ2
  have N2 := Fr.app N0 Nq2
  have K2 : Keep h0 h2 [a0] := (Keep.refl h0 [a0]).trans Kq2 (allS (Or.inl (List.mem_of_getElem? (i := 0) rfl)) all0)
  refine RestW.via (fun t k => st2.trans k) ?_
  show RestW p.tables e below s _ _ _ (T2.setTop (mkF m 9 #[.val (.ref a0), .val (.ref a1)] []))
  refine RestW.ret X2 hS (by rw [e2]; first | exact (Nat.le_of_eq (congrArg Array.size e2)) | exact Nat.le_refl _) (v := none) (fun _ => rfl) hlk (fun fs hr => X2.returnOut hx Bd.returns (hb hby d2_9) hr) ?_ (by decide) (by decide)
  rw [e2]
  exact ⟨rfl, N2, K2, rq2⟩
def own_mkl (n a b d : Int32) : List Int32 := if n = (0 : Int32) then [] else if n = (1 : Int32) then [own_by a] else if n = (2 : Int32) then [own_by a, own_by b] else [own_by a, own_by b, own_by d]
def own_n4 (n : Int32) : Prop := n = 0 ∨ n = 1 ∨ n = 2 ∨ n = 3
def own_ch (x : Int32) : Prop := ¬ x < (0 : Int32) ∧ ¬ ((255 : Int32) < x)
theorem own_nc {x : Int32} (h : own_ch x) : nar .char x = x := by
  have q := c_i2c x
  have e0 : (0 : Int32).toInt = 0 := by decide
  have e255 : (255 : Int32).toInt = 255 := by decide
  have h1 := h.1
  have h2 := h.2
  rw [Int32.lt_iff_toInt_lt] at h1 h2
  apply Int32.toInt_inj.mp
  show (x.toUInt32.toUInt16.toUInt32.toInt32).toInt = _
  omega
theorem own_mkl_ok {n a b d : Int32} (h : own_n4 n) : own_ok n (own_mkl n a b d) := by
  unfold own_mkl
  rcases h with rfl | rfl | rfl | rfl
  · exact Or.inl ⟨rfl, rfl⟩
  · exact Or.inr (Or.inl ⟨rfl, _, rfl⟩)
  · exact Or.inr (Or.inr (Or.inl ⟨rfl, _, _, rfl⟩))
  · exact Or.inr (Or.inr (Or.inr ⟨rfl, _, _, _, rfl⟩))
theorem own_by_inj {x y : Int32} (hx : own_ch x) (hy : own_ch y) (h : own_by x = own_by y) : x = y := by
  have a := c_i2b x
  have b := c_i2b y
  have e0 : (0 : Int32).toInt = 0 := by decide
  have e255 : (255 : Int32).toInt = 255 := by decide
  have h1 := hx.1
  have h2 := hx.2
  have h3 := hy.1
  have h4 := hy.2
  rw [Int32.lt_iff_toInt_lt] at h1 h2 h3 h4
  have q := congrArg Int32.toInt h
  unfold own_by at q
  apply Int32.toInt_inj.mp
  omega
def own_same (n x0 x1 x2 m y0 y1 y2 : Int32) : Int32 := if n = m then (if n < (1 : Int32) then (if n < (2 : Int32) then (if n < (3 : Int32) then 1 else if x2 = y2 then 1 else 0) else if x1 = y1 then (if n < (3 : Int32) then 1 else if x2 = y2 then 1 else 0) else 0)
  else if x0 = y0 then (if n < (2 : Int32) then (if n < (3 : Int32) then 1 else if x2 = y2 then 1 else 0) else if x1 = y1 then (if n < (3 : Int32) then 1 else if x2 = y2 then 1 else 0) else 0) else 0) else 0
theorem own_law {n x0 x1 x2 m y0 y1 y2 : Int32} (hn : own_n4 n) (hm : own_n4 m) (a0 : own_ch x0) (a1 : own_ch x1) (a2 : own_ch x2) (b0 : own_ch y0) (b1 : own_ch y1) (b2 : own_ch y2) : (if own_mkl n x0 x1 x2 = own_mkl m y0 y1 y2 then (1 : Int32) else 0) = own_same n x0 x1 x2 m y0 y1 y2 := by
  have i0 : own_by x0 = own_by y0 ↔ x0 = y0 := ⟨own_by_inj a0 b0, fun q => by rw [q]⟩
  have i1 : own_by x1 = own_by y1 ↔ x1 = y1 := ⟨own_by_inj a1 b1, fun q => by rw [q]⟩
  have i2 : own_by x2 = own_by y2 ↔ x2 = y2 := ⟨own_by_inj a2 b2, fun q => by rw [q]⟩
  rcases hn with rfl | rfl | rfl | rfl <;> rcases hm with rfl | rfl | rfl | rfl <;> simp [own_mkl, own_same, i0, i1, i2] <;> (try decide)
  all_goals (by_cases p0 : x0 = y0 <;> by_cases p1 : x1 = y1 <;> by_cases p2 : x2 = y2 <;> simp [p0, p1, p2] <;> decide)
theorem own_m3 (x : Int32) : own_n4 (x &&& (3 : Int32)) := by
  have e := c_mask x 3 2 (by decide) (by decide)
  have h1 := Int.emod_nonneg x.toInt (b := ((2 ^ 2 : Nat) : Int)) (by decide)
  have h2 := Int.emod_lt_of_pos x.toInt (b := ((2 ^ 2 : Nat) : Int)) (by decide)
  have e0 : (0 : Int32).toInt = 0 := by decide
  have e1 : (1 : Int32).toInt = 1 := by decide
  have e2 : (2 : Int32).toInt = 2 := by decide
  have e3 : (3 : Int32).toInt = 3 := by decide
  unfold own_n4
  simp only [← Int32.toInt_inj, e0, e1, e2, e3]
  omega
theorem own_c8 (x : Int32) : own_ch ((x &&& (255 : Int32)).toUInt32.toUInt16.toUInt32.toInt32) := by
  have e := c_mask x 255 8 (by decide) (by decide)
  have h1 := Int.emod_nonneg x.toInt (b := ((2 ^ 8 : Nat) : Int)) (by decide)
  have h2 := Int.emod_lt_of_pos x.toInt (b := ((2 ^ 8 : Nat) : Int)) (by decide)
  have q := c_i2c (x &&& (255 : Int32))
  have e0 : (0 : Int32).toInt = 0 := by decide
  have e255 : (255 : Int32).toInt = 255 := by decide
  unfold own_ch
  rw [Int32.lt_iff_toInt_lt, Int32.lt_iff_toInt_lt, e0, e255]
  omega
theorem own_sub0 {vm : Vm} {f : Nat} {c t : ClassId} : vm.isSubclassAux (f + 1) c t = (c == t || match vm.classes[c]? with | some k => (match k.super with | some p => vm.isSubclassAux f p t | none => false) | none => false) := rfl
theorem own_assign {vm : Vm} {c t : ClassId} {k kt : Class} (ne : c ≠ t) (h2 : vm.classes[c]? = some k) (g2 : vm.classes[t]? = some kt) (h5 : k.kind = .ordinary) (g3 : kt.kind = .ordinary) (gi : kt.isInterface = false) (q4 : vm.isSubclass c t = false) : vm.assignable c t = false := by
  have e : vm.assignable c t = (c == t || match vm.classes[c]?, vm.classes[t]? with
      | some ks, some kt =>
        match ks.kind, kt.kind with
        | .array sc _, .array tc _ => if vm.isPrimitive sc || vm.isPrimitive tc then sc == tc else vm.assignableAux 255 sc tc
        | .primitive _, _ | _, .primitive _ => false
        | _, _ => if kt.isInterface then (vm.superinterfaces c).contains t else vm.isSubclass c t
      | _, _ => false) := rfl
  rw [e, h2, g2]
  simp [ne, h5, g3, gi, q4]
theorem own_nostr {Z : State} {a0 : Array Value} {K : String} {n : Nat} (w1 : (Jvm.Cond.superclass "java/lang/String" "java/lang/Object").before a0 Z = true) (w3 : (Jvm.Cond.noSuperclass "java/lang/Object").before a0 Z = true)
    (wk : (Jvm.Cond.instantiable K n).before a0 Z = true) (n1 : "java/lang/String" ≠ K) (n3 : "java/lang/Object" ≠ K) : ∃ c t, Z.vm.findClass "java/lang/String" = some c ∧ Z.vm.findClass K = some t ∧ Z.vm.assignable c t = false := by
  obtain ⟨t, kt, g1, g2, g3, g4, -⟩ := Cond.instantiable_spec wk
  obtain ⟨co, ko, o1, o2, o3, -, -⟩ := Cond.noSuperclass_spec w3
  obtain ⟨c, h0⟩ := found_sup w1
  obtain ⟨p, k, kp, h1, h2, h3, h4, h5, -, h7⟩ := Cond.superclass_spec h0 w1
  have ns : NS Z "java/lang/String" K := NS.step w1 ⟨co, t, o1, g1, fun fuel => by
    cases fuel with
    | zero => rfl
    | succ f => rw [own_sub0, o2]; simp [ids_ne o1 g1 n3, o3]⟩ n1
  obtain ⟨c2, t2, q1, q2, q3⟩ := ns
  have ec : c2 = c := Option.some.inj (q1.symm.trans h0)
  have et : t2 = t := Option.some.inj (q2.symm.trans g1)
  rw [ec, et] at q3
  exact ⟨c, t, h0, g1, own_assign (ids_ne h0 g1 n1) h2 g2 h5 g3 (Bool.or_eq_false_iff.mp g4).1 (q3 _)⟩
theorem d11_0 : decode method_3_code 0 = .ok (.iload_n 0, 1) := by decide +kernel
theorem d11_1 : decode method_3_code 1 = .ok (.iload 4, 2) := by decide +kernel
theorem d11_3 : decode method_3_code 3 = .ok (.if_icmp .eq 5, 3) := by decide +kernel
theorem d11_6 : decode method_3_code 6 = .ok (.iconst 0, 1) := by decide +kernel
theorem d11_7 : decode method_3_code 7 = .ok (.ireturn, 1) := by decide +kernel
theorem d11_8 : decode method_3_code 8 = .ok (.iload_n 0, 1) := by decide +kernel
theorem d11_9 : decode method_3_code 9 = .ok (.iconst 1, 1) := by decide +kernel
theorem d11_10 : decode method_3_code 10 = .ok (.if_icmp .lt 11, 3) := by decide +kernel
theorem d11_13 : decode method_3_code 13 = .ok (.iload_n 1, 1) := by decide +kernel
theorem d11_14 : decode method_3_code 14 = .ok (.iload 5, 2) := by decide +kernel
theorem d11_16 : decode method_3_code 16 = .ok (.if_icmp .eq 5, 3) := by decide +kernel
theorem d11_19 : decode method_3_code 19 = .ok (.iconst 0, 1) := by decide +kernel
theorem d11_20 : decode method_3_code 20 = .ok (.ireturn, 1) := by decide +kernel
theorem d11_21 : decode method_3_code 21 = .ok (.iload_n 0, 1) := by decide +kernel
theorem d11_22 : decode method_3_code 22 = .ok (.iconst 2, 1) := by decide +kernel
theorem d11_23 : decode method_3_code 23 = .ok (.if_icmp .lt 11, 3) := by decide +kernel
theorem d11_26 : decode method_3_code 26 = .ok (.iload_n 2, 1) := by decide +kernel
theorem d11_27 : decode method_3_code 27 = .ok (.iload 6, 2) := by decide +kernel
theorem d11_29 : decode method_3_code 29 = .ok (.if_icmp .eq 5, 3) := by decide +kernel
theorem d11_32 : decode method_3_code 32 = .ok (.iconst 0, 1) := by decide +kernel
theorem d11_33 : decode method_3_code 33 = .ok (.ireturn, 1) := by decide +kernel
theorem d11_34 : decode method_3_code 34 = .ok (.iload_n 0, 1) := by decide +kernel
theorem d11_35 : decode method_3_code 35 = .ok (.iconst 3, 1) := by decide +kernel
theorem d11_36 : decode method_3_code 36 = .ok (.if_icmp .lt 11, 3) := by decide +kernel
theorem d11_39 : decode method_3_code 39 = .ok (.iload_n 3, 1) := by decide +kernel
theorem d11_40 : decode method_3_code 40 = .ok (.iload 7, 2) := by decide +kernel
theorem d11_42 : decode method_3_code 42 = .ok (.if_icmp .eq 5, 3) := by decide +kernel
theorem d11_45 : decode method_3_code 45 = .ok (.iconst 0, 1) := by decide +kernel
theorem d11_46 : decode method_3_code 46 = .ok (.ireturn, 1) := by decide +kernel
theorem d11_47 : decode method_3_code 47 = .ok (.iconst 1, 1) := by decide +kernel
theorem d11_48 : decode method_3_code 48 = .ok (.ireturn, 1) := by decide +kernel
theorem pn_3 : plainName "com/example/surnia/surnia/rdf/UriRefEqualsPinLaw" = true := by first | (simp [plainName, overriddenIn]; done) | decide +kernel
theorem ef_SM (m : MethodId) (p0 : Int32) (p1 : Int32) (p2 : Int32) (p3 : Int32) (p4 : Int32) (p5 : Int32) (p6 : Int32) (p7 : Int32) : entryFrame m #[(.int p0), (.int p1), (.int p2), (.int p3), (.int p4), (.int p5), (.int p6), (.int p7)] 8 = mkF m 0 #[.val (.int p0), .val (.int p1), .val (.int p2), .val (.int p3), .val (.int p4), .val (.int p5), .val (.int p6), .val (.int p7)] [] := by first | (simp [entryFrame, mkF, argsToLocals, Value.category, maxLocals]; done) | rfl
def QSM (Z : State) (p0 : Int32) (p1 : Int32) (p2 : Int32) (p3 : Int32) (p4 : Int32) (p5 : Int32) (p6 : Int32) (p7 : Int32) (h0 : Heap) (n0 : Nat) (v : Option Value) (h : Heap) (L : List Loc) : Prop := v = some (.int (own_same p0 p1 p2 p3 p4 p5 p6 p7)) ∧ Fr n0 L ∧ h = h0
set_option maxRecDepth 65536 in
set_option maxHeartbeats 40000000 in
theorem rmSM (l : Launch) (Z : State) (aw : Array Value) (hw : ∀ d ∈ tables_1, d.before aw Z = true) (ws : List Jvm.Cond) (p0 : Int32) (p1 : Int32) (p2 : Int32) (p3 : Int32) (p4 : Int32) (p5 : Int32) (p6 : Int32) (p7 : Int32) (h0 : Heap) (n0 : Nat) (Z0 : n0 ≤ h0.size)  :
    MetFree l (⟨"com/example/surnia/surnia/rdf/UriRefEqualsPinLaw", "same", "(ICCCICCC)Z"⟩ : MethodName) (head1 (Jvm.Cond.code (⟨"com/example/surnia/surnia/rdf/UriRefEqualsPinLaw", "same", "(ICCCICCC)Z"⟩ : MethodName) method_3_code 8 (some .boolean) :: ws) ({ frames := 0, cells := 0, slots := 0, locals := 0 } : Room)) (fun a U => a = #[(.int p0), (.int p1), (.int p2), (.int p3), (.int p4), (.int p5), (.int p6), (.int p7)] ∧ Z.Warmed39 U.vm ∧ U.heap = h0) (fun _ _ _ _ _ => True) (fun _ U o U' => ∃ v L, o = .returned v ∧ QSM Z p0 p1 p2 p3 p4 p5 p6 p7 h0 n0 v U'.heap L ∧ FrameEnd U o U' L ({ frames := 0, cells := 0, slots := 0, locals := 0 } : Room).cells ({ frames := 0, cells := 0, slots := 0, locals := 0 } : Room).slots) := by
  refine MetFree.of_bodySF (plainFor_of_name pn_3) hisR ?_
  intro p e s m args below meth c s₁ Bd hml0 hP hK
  obtain ⟨rfl, hZ, hh⟩ := hP
  have hx := Bd.exec
  have hby := Bd.bytes
  have hml : c.maxLocals = 8 := hml0
  have hown : s.vm.findClass "com/example/surnia/surnia/rdf/UriRefEqualsPinLaw" = some m.cls := findClass_of_methodNamed Bd.named
  have hnm := (name_of_methodNamed Bd.named Bd.method).1
  have hlk : meth.locks = false := BodyLoose.notSynchronized Bd
  have X0 : Stand p l e ({ frames := 0, cells := 0, slots := 0, locals := 0 } : Room) s m #[(.int p0), (.int p1), (.int p2), (.int p3), (.int p4), (.int p5), (.int p6), (.int p7)] below meth c s₁ [] 0 0 := Stand.of_body Bd
  have _u := trivial
  have eh0 : s₁.heap = h0 := by rw [← hh, Bd.state]; rfl
  have N0 := Fr.nil n0
  show Rest p.tables e below s (QSM Z p0 p1 p2 p3 p4 p5 p6 p7 h0 n0) _ _ (s₁.setTop (entryFrame m #[(.int p0), (.int p1), (.int p2), (.int p3), (.int p4), (.int p5), (.int p6), (.int p7)] 8))
  refine Rest.via (fun t k => castTop (ef_SM m p0 p1 p2 p3 p4 p5 p6 p7) k) ?_
  show Rest p.tables e below s _ _ _ (s₁.setTop (mkF m 0 #[.val (.int p0), .val (.int p1), .val (.int p2), .val (.int p3), .val (.int p4), .val (.int p5), .val (.int p6), .val (.int p7)] []))
  refine Rest.via (fun t k => XS.iloadN X0.here hx rfl (hb hby d11_0) rfl k) ?_
  show Rest p.tables e below s _ _ _ (s₁.setTop (mkF m 1 #[.val (.int p0), .val (.int p1), .val (.int p2), .val (.int p3), .val (.int p4), .val (.int p5), .val (.int p6), .val (.int p7)] [(.int p0)]))
  refine Rest.via (fun t k => XS.iload X0.here hx rfl (hb hby d11_1) rfl k) ?_
  show Rest p.tables e below s _ _ _ (s₁.setTop (mkF m 3 #[.val (.int p0), .val (.int p1), .val (.int p2), .val (.int p3), .val (.int p4), .val (.int p5), .val (.int p6), .val (.int p7)] [(.int p4), (.int p0)]))
  by_cases hc3 : p0 = p4
  · refine Rest.via (fun t k => XS.icmpYes X0.here hx rfl (pc0 := 3) (pc' := 8) rfl (hb hby d11_3) rfl (teq hc3).1 (by decide) (by decide) k) ?_
    show Rest p.tables e below s _ _ _ (s₁.setTop (mkF m 8 #[.val (.int p0), .val (.int p1), .val (.int p2), .val (.int p3), .val (.int p4), .val (.int p5), .val (.int p6), .val (.int p7)] []))
    refine Rest.via (fun t k => XS.iloadN X0.here hx rfl (hb hby d11_8) rfl k) ?_
    show Rest p.tables e below s _ _ _ (s₁.setTop (mkF m 9 #[.val (.int p0), .val (.int p1), .val (.int p2), .val (.int p3), .val (.int p4), .val (.int p5), .val (.int p6), .val (.int p7)] [(.int p0)]))
    refine Rest.via (fun t k => XS.iconst X0.here hx rfl (hb hby d11_9) k) ?_
    show Rest p.tables e below s _ _ _ (s₁.setTop (mkF m 10 #[.val (.int p0), .val (.int p1), .val (.int p2), .val (.int p3), .val (.int p4), .val (.int p5), .val (.int p6), .val (.int p7)] [(.int (1 : Int32)), (.int p0)]))
    by_cases hc10 : p0 < (1 : Int32)
    · refine Rest.via (fun t k => XS.icmpYes X0.here hx rfl (pc0 := 10) (pc' := 21) rfl (hb hby d11_10) rfl (tlt hc10).1 (by decide) (by decide) k) ?_
      show Rest p.tables e below s _ _ _ (s₁.setTop (mkF m 21 #[.val (.int p0), .val (.int p1), .val (.int p2), .val (.int p3), .val (.int p4), .val (.int p5), .val (.int p6), .val (.int p7)] []))
      refine Rest.via (fun t k => XS.iloadN X0.here hx rfl (hb hby d11_21) rfl k) ?_
      show Rest p.tables e below s _ _ _ (s₁.setTop (mkF m 22 #[.val (.int p0), .val (.int p1), .val (.int p2), .val (.int p3), .val (.int p4), .val (.int p5), .val (.int p6), .val (.int p7)] [(.int p0)]))
      refine Rest.via (fun t k => XS.iconst X0.here hx rfl (hb hby d11_22) k) ?_
      show Rest p.tables e below s _ _ _ (s₁.setTop (mkF m 23 #[.val (.int p0), .val (.int p1), .val (.int p2), .val (.int p3), .val (.int p4), .val (.int p5), .val (.int p6), .val (.int p7)] [(.int (2 : Int32)), (.int p0)]))
      by_cases hc23 : p0 < (2 : Int32)
      · refine Rest.via (fun t k => XS.icmpYes X0.here hx rfl (pc0 := 23) (pc' := 34) rfl (hb hby d11_23) rfl (tlt hc23).1 (by decide) (by decide) k) ?_
        show Rest p.tables e below s _ _ _ (s₁.setTop (mkF m 34 #[.val (.int p0), .val (.int p1), .val (.int p2), .val (.int p3), .val (.int p4), .val (.int p5), .val (.int p6), .val (.int p7)] []))
        refine Rest.via (fun t k => XS.iloadN X0.here hx rfl (hb hby d11_34) rfl k) ?_
        show Rest p.tables e below s _ _ _ (s₁.setTop (mkF m 35 #[.val (.int p0), .val (.int p1), .val (.int p2), .val (.int p3), .val (.int p4), .val (.int p5), .val (.int p6), .val (.int p7)] [(.int p0)]))
        refine Rest.via (fun t k => XS.iconst X0.here hx rfl (hb hby d11_35) k) ?_
        show Rest p.tables e below s _ _ _ (s₁.setTop (mkF m 36 #[.val (.int p0), .val (.int p1), .val (.int p2), .val (.int p3), .val (.int p4), .val (.int p5), .val (.int p6), .val (.int p7)] [(.int (3 : Int32)), (.int p0)]))
        by_cases hc36 : p0 < (3 : Int32)
        · refine Rest.via (fun t k => XS.icmpYes X0.here hx rfl (pc0 := 36) (pc' := 47) rfl (hb hby d11_36) rfl (tlt hc36).1 (by decide) (by decide) k) ?_
          show Rest p.tables e below s _ _ _ (s₁.setTop (mkF m 47 #[.val (.int p0), .val (.int p1), .val (.int p2), .val (.int p3), .val (.int p4), .val (.int p5), .val (.int p6), .val (.int p7)] []))
          refine Rest.via (fun t k => XS.iconst X0.here hx rfl (hb hby d11_47) k) ?_
          show Rest p.tables e below s _ _ _ (s₁.setTop (mkF m 48 #[.val (.int p0), .val (.int p1), .val (.int p2), .val (.int p3), .val (.int p4), .val (.int p5), .val (.int p6), .val (.int p7)] [(.int (1 : Int32))]))
          refine Rest.ret X0 (v := some (.int (nar .boolean (1 : Int32)))) (fun h => by rw [Bd.returns] at h; cases h) hlk (fun fs hr => retN X0 hx (t := .boolean) Bd.returns (by simp) (hb hby d11_48) hr) ?_ (by decide) (by decide)
          rw [eh0]
          exact ⟨by show some (Value.int (1 : Int32)) = _; rw [own_same, if_pos hc3, if_pos hc10, if_pos hc23, if_pos hc36], N0, rfl⟩
        · refine Rest.via (fun t k => XS.icmpNo X0.here hx rfl (hb hby d11_36) rfl (flt hc36).1 k) ?_
          show Rest p.tables e below s _ _ _ (s₁.setTop (mkF m 39 #[.val (.int p0), .val (.int p1), .val (.int p2), .val (.int p3), .val (.int p4), .val (.int p5), .val (.int p6), .val (.int p7)] []))
          refine Rest.via (fun t k => XS.iloadN X0.here hx rfl (hb hby d11_39) rfl k) ?_
          show Rest p.tables e below s _ _ _ (s₁.setTop (mkF m 40 #[.val (.int p0), .val (.int p1), .val (.int p2), .val (.int p3), .val (.int p4), .val (.int p5), .val (.int p6), .val (.int p7)] [(.int p3)]))
          refine Rest.via (fun t k => XS.iload X0.here hx rfl (hb hby d11_40) rfl k) ?_
          show Rest p.tables e below s _ _ _ (s₁.setTop (mkF m 42 #[.val (.int p0), .val (.int p1), .val (.int p2), .val (.int p3), .val (.int p4), .val (.int p5), .val (.int p6), .val (.int p7)] [(.int p7), (.int p3)]))
          by_cases hc42 : p3 = p7
          · refine Rest.via (fun t k => XS.icmpYes X0.here hx rfl (pc0 := 42) (pc' := 47) rfl (hb hby d11_42) rfl (teq hc42).1 (by decide) (by decide) k) ?_
            show Rest p.tables e below s _ _ _ (s₁.setTop (mkF m 47 #[.val (.int p0), .val (.int p1), .val (.int p2), .val (.int p3), .val (.int p4), .val (.int p5), .val (.int p6), .val (.int p7)] []))
            refine Rest.via (fun t k => XS.iconst X0.here hx rfl (hb hby d11_47) k) ?_
            show Rest p.tables e below s _ _ _ (s₁.setTop (mkF m 48 #[.val (.int p0), .val (.int p1), .val (.int p2), .val (.int p3), .val (.int p4), .val (.int p5), .val (.int p6), .val (.int p7)] [(.int (1 : Int32))]))
            refine Rest.ret X0 (v := some (.int (nar .boolean (1 : Int32)))) (fun h => by rw [Bd.returns] at h; cases h) hlk (fun fs hr => retN X0 hx (t := .boolean) Bd.returns (by simp) (hb hby d11_48) hr) ?_ (by decide) (by decide)
            rw [eh0]
            exact ⟨by show some (Value.int (1 : Int32)) = _; rw [own_same, if_pos hc3, if_pos hc10, if_pos hc23, if_neg hc36, if_pos hc42], N0, rfl⟩
          · refine Rest.via (fun t k => XS.icmpNo X0.here hx rfl (hb hby d11_42) rfl (feq hc42).1 k) ?_
            show Rest p.tables e below s _ _ _ (s₁.setTop (mkF m 45 #[.val (.int p0), .val (.int p1), .val (.int p2), .val (.int p3), .val (.int p4), .val (.int p5), .val (.int p6), .val (.int p7)] []))
            refine Rest.via (fun t k => XS.iconst X0.here hx rfl (hb hby d11_45) k) ?_
            show Rest p.tables e below s _ _ _ (s₁.setTop (mkF m 46 #[.val (.int p0), .val (.int p1), .val (.int p2), .val (.int p3), .val (.int p4), .val (.int p5), .val (.int p6), .val (.int p7)] [(.int (0 : Int32))]))
            refine Rest.ret X0 (v := some (.int (nar .boolean (0 : Int32)))) (fun h => by rw [Bd.returns] at h; cases h) hlk (fun fs hr => retN X0 hx (t := .boolean) Bd.returns (by simp) (hb hby d11_46) hr) ?_ (by decide) (by decide)
            rw [eh0]
            exact ⟨by show some (Value.int (0 : Int32)) = _; rw [own_same, if_pos hc3, if_pos hc10, if_pos hc23, if_neg hc36, if_neg hc42], N0, rfl⟩
      · refine Rest.via (fun t k => XS.icmpNo X0.here hx rfl (hb hby d11_23) rfl (flt hc23).1 k) ?_
        show Rest p.tables e below s _ _ _ (s₁.setTop (mkF m 26 #[.val (.int p0), .val (.int p1), .val (.int p2), .val (.int p3), .val (.int p4), .val (.int p5), .val (.int p6), .val (.int p7)] []))
        refine Rest.via (fun t k => XS.iloadN X0.here hx rfl (hb hby d11_26) rfl k) ?_
        show Rest p.tables e below s _ _ _ (s₁.setTop (mkF m 27 #[.val (.int p0), .val (.int p1), .val (.int p2), .val (.int p3), .val (.int p4), .val (.int p5), .val (.int p6), .val (.int p7)] [(.int p2)]))
        refine Rest.via (fun t k => XS.iload X0.here hx rfl (hb hby d11_27) rfl k) ?_
        show Rest p.tables e below s _ _ _ (s₁.setTop (mkF m 29 #[.val (.int p0), .val (.int p1), .val (.int p2), .val (.int p3), .val (.int p4), .val (.int p5), .val (.int p6), .val (.int p7)] [(.int p6), (.int p2)]))
        by_cases hc29 : p2 = p6
        · refine Rest.via (fun t k => XS.icmpYes X0.here hx rfl (pc0 := 29) (pc' := 34) rfl (hb hby d11_29) rfl (teq hc29).1 (by decide) (by decide) k) ?_
          show Rest p.tables e below s _ _ _ (s₁.setTop (mkF m 34 #[.val (.int p0), .val (.int p1), .val (.int p2), .val (.int p3), .val (.int p4), .val (.int p5), .val (.int p6), .val (.int p7)] []))
          refine Rest.via (fun t k => XS.iloadN X0.here hx rfl (hb hby d11_34) rfl k) ?_
          show Rest p.tables e below s _ _ _ (s₁.setTop (mkF m 35 #[.val (.int p0), .val (.int p1), .val (.int p2), .val (.int p3), .val (.int p4), .val (.int p5), .val (.int p6), .val (.int p7)] [(.int p0)]))
          refine Rest.via (fun t k => XS.iconst X0.here hx rfl (hb hby d11_35) k) ?_
          show Rest p.tables e below s _ _ _ (s₁.setTop (mkF m 36 #[.val (.int p0), .val (.int p1), .val (.int p2), .val (.int p3), .val (.int p4), .val (.int p5), .val (.int p6), .val (.int p7)] [(.int (3 : Int32)), (.int p0)]))
          by_cases hc36 : p0 < (3 : Int32)
          · refine Rest.via (fun t k => XS.icmpYes X0.here hx rfl (pc0 := 36) (pc' := 47) rfl (hb hby d11_36) rfl (tlt hc36).1 (by decide) (by decide) k) ?_
            show Rest p.tables e below s _ _ _ (s₁.setTop (mkF m 47 #[.val (.int p0), .val (.int p1), .val (.int p2), .val (.int p3), .val (.int p4), .val (.int p5), .val (.int p6), .val (.int p7)] []))
            refine Rest.via (fun t k => XS.iconst X0.here hx rfl (hb hby d11_47) k) ?_
            show Rest p.tables e below s _ _ _ (s₁.setTop (mkF m 48 #[.val (.int p0), .val (.int p1), .val (.int p2), .val (.int p3), .val (.int p4), .val (.int p5), .val (.int p6), .val (.int p7)] [(.int (1 : Int32))]))
            refine Rest.ret X0 (v := some (.int (nar .boolean (1 : Int32)))) (fun h => by rw [Bd.returns] at h; cases h) hlk (fun fs hr => retN X0 hx (t := .boolean) Bd.returns (by simp) (hb hby d11_48) hr) ?_ (by decide) (by decide)
            rw [eh0]
            exact ⟨by show some (Value.int (1 : Int32)) = _; rw [own_same, if_pos hc3, if_pos hc10, if_neg hc23, if_pos hc29, if_pos hc36], N0, rfl⟩
          · refine Rest.via (fun t k => XS.icmpNo X0.here hx rfl (hb hby d11_36) rfl (flt hc36).1 k) ?_
            show Rest p.tables e below s _ _ _ (s₁.setTop (mkF m 39 #[.val (.int p0), .val (.int p1), .val (.int p2), .val (.int p3), .val (.int p4), .val (.int p5), .val (.int p6), .val (.int p7)] []))
            refine Rest.via (fun t k => XS.iloadN X0.here hx rfl (hb hby d11_39) rfl k) ?_
            show Rest p.tables e below s _ _ _ (s₁.setTop (mkF m 40 #[.val (.int p0), .val (.int p1), .val (.int p2), .val (.int p3), .val (.int p4), .val (.int p5), .val (.int p6), .val (.int p7)] [(.int p3)]))
            refine Rest.via (fun t k => XS.iload X0.here hx rfl (hb hby d11_40) rfl k) ?_
            show Rest p.tables e below s _ _ _ (s₁.setTop (mkF m 42 #[.val (.int p0), .val (.int p1), .val (.int p2), .val (.int p3), .val (.int p4), .val (.int p5), .val (.int p6), .val (.int p7)] [(.int p7), (.int p3)]))
            by_cases hc42 : p3 = p7
            · refine Rest.via (fun t k => XS.icmpYes X0.here hx rfl (pc0 := 42) (pc' := 47) rfl (hb hby d11_42) rfl (teq hc42).1 (by decide) (by decide) k) ?_
              show Rest p.tables e below s _ _ _ (s₁.setTop (mkF m 47 #[.val (.int p0), .val (.int p1), .val (.int p2), .val (.int p3), .val (.int p4), .val (.int p5), .val (.int p6), .val (.int p7)] []))
              refine Rest.via (fun t k => XS.iconst X0.here hx rfl (hb hby d11_47) k) ?_
              show Rest p.tables e below s _ _ _ (s₁.setTop (mkF m 48 #[.val (.int p0), .val (.int p1), .val (.int p2), .val (.int p3), .val (.int p4), .val (.int p5), .val (.int p6), .val (.int p7)] [(.int (1 : Int32))]))
              refine Rest.ret X0 (v := some (.int (nar .boolean (1 : Int32)))) (fun h => by rw [Bd.returns] at h; cases h) hlk (fun fs hr => retN X0 hx (t := .boolean) Bd.returns (by simp) (hb hby d11_48) hr) ?_ (by decide) (by decide)
              rw [eh0]
              exact ⟨by show some (Value.int (1 : Int32)) = _; rw [own_same, if_pos hc3, if_pos hc10, if_neg hc23, if_pos hc29, if_neg hc36, if_pos hc42], N0, rfl⟩
            · refine Rest.via (fun t k => XS.icmpNo X0.here hx rfl (hb hby d11_42) rfl (feq hc42).1 k) ?_
              show Rest p.tables e below s _ _ _ (s₁.setTop (mkF m 45 #[.val (.int p0), .val (.int p1), .val (.int p2), .val (.int p3), .val (.int p4), .val (.int p5), .val (.int p6), .val (.int p7)] []))
              refine Rest.via (fun t k => XS.iconst X0.here hx rfl (hb hby d11_45) k) ?_
              show Rest p.tables e below s _ _ _ (s₁.setTop (mkF m 46 #[.val (.int p0), .val (.int p1), .val (.int p2), .val (.int p3), .val (.int p4), .val (.int p5), .val (.int p6), .val (.int p7)] [(.int (0 : Int32))]))
              refine Rest.ret X0 (v := some (.int (nar .boolean (0 : Int32)))) (fun h => by rw [Bd.returns] at h; cases h) hlk (fun fs hr => retN X0 hx (t := .boolean) Bd.returns (by simp) (hb hby d11_46) hr) ?_ (by decide) (by decide)
              rw [eh0]
              exact ⟨by show some (Value.int (0 : Int32)) = _; rw [own_same, if_pos hc3, if_pos hc10, if_neg hc23, if_pos hc29, if_neg hc36, if_neg hc42], N0, rfl⟩
        · refine Rest.via (fun t k => XS.icmpNo X0.here hx rfl (hb hby d11_29) rfl (feq hc29).1 k) ?_
          show Rest p.tables e below s _ _ _ (s₁.setTop (mkF m 32 #[.val (.int p0), .val (.int p1), .val (.int p2), .val (.int p3), .val (.int p4), .val (.int p5), .val (.int p6), .val (.int p7)] []))
          refine Rest.via (fun t k => XS.iconst X0.here hx rfl (hb hby d11_32) k) ?_
          show Rest p.tables e below s _ _ _ (s₁.setTop (mkF m 33 #[.val (.int p0), .val (.int p1), .val (.int p2), .val (.int p3), .val (.int p4), .val (.int p5), .val (.int p6), .val (.int p7)] [(.int (0 : Int32))]))
          refine Rest.ret X0 (v := some (.int (nar .boolean (0 : Int32)))) (fun h => by rw [Bd.returns] at h; cases h) hlk (fun fs hr => retN X0 hx (t := .boolean) Bd.returns (by simp) (hb hby d11_33) hr) ?_ (by decide) (by decide)
          rw [eh0]
          exact ⟨by show some (Value.int (0 : Int32)) = _; rw [own_same, if_pos hc3, if_pos hc10, if_neg hc23, if_neg hc29], N0, rfl⟩
    · refine Rest.via (fun t k => XS.icmpNo X0.here hx rfl (hb hby d11_10) rfl (flt hc10).1 k) ?_
      show Rest p.tables e below s _ _ _ (s₁.setTop (mkF m 13 #[.val (.int p0), .val (.int p1), .val (.int p2), .val (.int p3), .val (.int p4), .val (.int p5), .val (.int p6), .val (.int p7)] []))
      refine Rest.via (fun t k => XS.iloadN X0.here hx rfl (hb hby d11_13) rfl k) ?_
      show Rest p.tables e below s _ _ _ (s₁.setTop (mkF m 14 #[.val (.int p0), .val (.int p1), .val (.int p2), .val (.int p3), .val (.int p4), .val (.int p5), .val (.int p6), .val (.int p7)] [(.int p1)]))
      refine Rest.via (fun t k => XS.iload X0.here hx rfl (hb hby d11_14) rfl k) ?_
      show Rest p.tables e below s _ _ _ (s₁.setTop (mkF m 16 #[.val (.int p0), .val (.int p1), .val (.int p2), .val (.int p3), .val (.int p4), .val (.int p5), .val (.int p6), .val (.int p7)] [(.int p5), (.int p1)]))
      by_cases hc16 : p1 = p5
      · refine Rest.via (fun t k => XS.icmpYes X0.here hx rfl (pc0 := 16) (pc' := 21) rfl (hb hby d11_16) rfl (teq hc16).1 (by decide) (by decide) k) ?_
        show Rest p.tables e below s _ _ _ (s₁.setTop (mkF m 21 #[.val (.int p0), .val (.int p1), .val (.int p2), .val (.int p3), .val (.int p4), .val (.int p5), .val (.int p6), .val (.int p7)] []))
        refine Rest.via (fun t k => XS.iloadN X0.here hx rfl (hb hby d11_21) rfl k) ?_
        show Rest p.tables e below s _ _ _ (s₁.setTop (mkF m 22 #[.val (.int p0), .val (.int p1), .val (.int p2), .val (.int p3), .val (.int p4), .val (.int p5), .val (.int p6), .val (.int p7)] [(.int p0)]))
        refine Rest.via (fun t k => XS.iconst X0.here hx rfl (hb hby d11_22) k) ?_
        show Rest p.tables e below s _ _ _ (s₁.setTop (mkF m 23 #[.val (.int p0), .val (.int p1), .val (.int p2), .val (.int p3), .val (.int p4), .val (.int p5), .val (.int p6), .val (.int p7)] [(.int (2 : Int32)), (.int p0)]))
        by_cases hc23 : p0 < (2 : Int32)
        · refine Rest.via (fun t k => XS.icmpYes X0.here hx rfl (pc0 := 23) (pc' := 34) rfl (hb hby d11_23) rfl (tlt hc23).1 (by decide) (by decide) k) ?_
          show Rest p.tables e below s _ _ _ (s₁.setTop (mkF m 34 #[.val (.int p0), .val (.int p1), .val (.int p2), .val (.int p3), .val (.int p4), .val (.int p5), .val (.int p6), .val (.int p7)] []))
          refine Rest.via (fun t k => XS.iloadN X0.here hx rfl (hb hby d11_34) rfl k) ?_
          show Rest p.tables e below s _ _ _ (s₁.setTop (mkF m 35 #[.val (.int p0), .val (.int p1), .val (.int p2), .val (.int p3), .val (.int p4), .val (.int p5), .val (.int p6), .val (.int p7)] [(.int p0)]))
          refine Rest.via (fun t k => XS.iconst X0.here hx rfl (hb hby d11_35) k) ?_
          show Rest p.tables e below s _ _ _ (s₁.setTop (mkF m 36 #[.val (.int p0), .val (.int p1), .val (.int p2), .val (.int p3), .val (.int p4), .val (.int p5), .val (.int p6), .val (.int p7)] [(.int (3 : Int32)), (.int p0)]))
          by_cases hc36 : p0 < (3 : Int32)
          · refine Rest.via (fun t k => XS.icmpYes X0.here hx rfl (pc0 := 36) (pc' := 47) rfl (hb hby d11_36) rfl (tlt hc36).1 (by decide) (by decide) k) ?_
            show Rest p.tables e below s _ _ _ (s₁.setTop (mkF m 47 #[.val (.int p0), .val (.int p1), .val (.int p2), .val (.int p3), .val (.int p4), .val (.int p5), .val (.int p6), .val (.int p7)] []))
            refine Rest.via (fun t k => XS.iconst X0.here hx rfl (hb hby d11_47) k) ?_
            show Rest p.tables e below s _ _ _ (s₁.setTop (mkF m 48 #[.val (.int p0), .val (.int p1), .val (.int p2), .val (.int p3), .val (.int p4), .val (.int p5), .val (.int p6), .val (.int p7)] [(.int (1 : Int32))]))
            refine Rest.ret X0 (v := some (.int (nar .boolean (1 : Int32)))) (fun h => by rw [Bd.returns] at h; cases h) hlk (fun fs hr => retN X0 hx (t := .boolean) Bd.returns (by simp) (hb hby d11_48) hr) ?_ (by decide) (by decide)
            rw [eh0]
            exact ⟨by show some (Value.int (1 : Int32)) = _; rw [own_same, if_pos hc3, if_neg hc10, if_pos hc16, if_pos hc23, if_pos hc36], N0, rfl⟩
          · refine Rest.via (fun t k => XS.icmpNo X0.here hx rfl (hb hby d11_36) rfl (flt hc36).1 k) ?_
            show Rest p.tables e below s _ _ _ (s₁.setTop (mkF m 39 #[.val (.int p0), .val (.int p1), .val (.int p2), .val (.int p3), .val (.int p4), .val (.int p5), .val (.int p6), .val (.int p7)] []))
            refine Rest.via (fun t k => XS.iloadN X0.here hx rfl (hb hby d11_39) rfl k) ?_
            show Rest p.tables e below s _ _ _ (s₁.setTop (mkF m 40 #[.val (.int p0), .val (.int p1), .val (.int p2), .val (.int p3), .val (.int p4), .val (.int p5), .val (.int p6), .val (.int p7)] [(.int p3)]))
            refine Rest.via (fun t k => XS.iload X0.here hx rfl (hb hby d11_40) rfl k) ?_
            show Rest p.tables e below s _ _ _ (s₁.setTop (mkF m 42 #[.val (.int p0), .val (.int p1), .val (.int p2), .val (.int p3), .val (.int p4), .val (.int p5), .val (.int p6), .val (.int p7)] [(.int p7), (.int p3)]))
            by_cases hc42 : p3 = p7
            · refine Rest.via (fun t k => XS.icmpYes X0.here hx rfl (pc0 := 42) (pc' := 47) rfl (hb hby d11_42) rfl (teq hc42).1 (by decide) (by decide) k) ?_
              show Rest p.tables e below s _ _ _ (s₁.setTop (mkF m 47 #[.val (.int p0), .val (.int p1), .val (.int p2), .val (.int p3), .val (.int p4), .val (.int p5), .val (.int p6), .val (.int p7)] []))
              refine Rest.via (fun t k => XS.iconst X0.here hx rfl (hb hby d11_47) k) ?_
              show Rest p.tables e below s _ _ _ (s₁.setTop (mkF m 48 #[.val (.int p0), .val (.int p1), .val (.int p2), .val (.int p3), .val (.int p4), .val (.int p5), .val (.int p6), .val (.int p7)] [(.int (1 : Int32))]))
              refine Rest.ret X0 (v := some (.int (nar .boolean (1 : Int32)))) (fun h => by rw [Bd.returns] at h; cases h) hlk (fun fs hr => retN X0 hx (t := .boolean) Bd.returns (by simp) (hb hby d11_48) hr) ?_ (by decide) (by decide)
              rw [eh0]
              exact ⟨by show some (Value.int (1 : Int32)) = _; rw [own_same, if_pos hc3, if_neg hc10, if_pos hc16, if_pos hc23, if_neg hc36, if_pos hc42], N0, rfl⟩
            · refine Rest.via (fun t k => XS.icmpNo X0.here hx rfl (hb hby d11_42) rfl (feq hc42).1 k) ?_
              show Rest p.tables e below s _ _ _ (s₁.setTop (mkF m 45 #[.val (.int p0), .val (.int p1), .val (.int p2), .val (.int p3), .val (.int p4), .val (.int p5), .val (.int p6), .val (.int p7)] []))
              refine Rest.via (fun t k => XS.iconst X0.here hx rfl (hb hby d11_45) k) ?_
              show Rest p.tables e below s _ _ _ (s₁.setTop (mkF m 46 #[.val (.int p0), .val (.int p1), .val (.int p2), .val (.int p3), .val (.int p4), .val (.int p5), .val (.int p6), .val (.int p7)] [(.int (0 : Int32))]))
              refine Rest.ret X0 (v := some (.int (nar .boolean (0 : Int32)))) (fun h => by rw [Bd.returns] at h; cases h) hlk (fun fs hr => retN X0 hx (t := .boolean) Bd.returns (by simp) (hb hby d11_46) hr) ?_ (by decide) (by decide)
              rw [eh0]
              exact ⟨by show some (Value.int (0 : Int32)) = _; rw [own_same, if_pos hc3, if_neg hc10, if_pos hc16, if_pos hc23, if_neg hc36, if_neg hc42], N0, rfl⟩
        · refine Rest.via (fun t k => XS.icmpNo X0.here hx rfl (hb hby d11_23) rfl (flt hc23).1 k) ?_
          show Rest p.tables e below s _ _ _ (s₁.setTop (mkF m 26 #[.val (.int p0), .val (.int p1), .val (.int p2), .val (.int p3), .val (.int p4), .val (.int p5), .val (.int p6), .val (.int p7)] []))
          refine Rest.via (fun t k => XS.iloadN X0.here hx rfl (hb hby d11_26) rfl k) ?_
          show Rest p.tables e below s _ _ _ (s₁.setTop (mkF m 27 #[.val (.int p0), .val (.int p1), .val (.int p2), .val (.int p3), .val (.int p4), .val (.int p5), .val (.int p6), .val (.int p7)] [(.int p2)]))
          refine Rest.via (fun t k => XS.iload X0.here hx rfl (hb hby d11_27) rfl k) ?_
          show Rest p.tables e below s _ _ _ (s₁.setTop (mkF m 29 #[.val (.int p0), .val (.int p1), .val (.int p2), .val (.int p3), .val (.int p4), .val (.int p5), .val (.int p6), .val (.int p7)] [(.int p6), (.int p2)]))
          by_cases hc29 : p2 = p6
          · refine Rest.via (fun t k => XS.icmpYes X0.here hx rfl (pc0 := 29) (pc' := 34) rfl (hb hby d11_29) rfl (teq hc29).1 (by decide) (by decide) k) ?_
            show Rest p.tables e below s _ _ _ (s₁.setTop (mkF m 34 #[.val (.int p0), .val (.int p1), .val (.int p2), .val (.int p3), .val (.int p4), .val (.int p5), .val (.int p6), .val (.int p7)] []))
            refine Rest.via (fun t k => XS.iloadN X0.here hx rfl (hb hby d11_34) rfl k) ?_
            show Rest p.tables e below s _ _ _ (s₁.setTop (mkF m 35 #[.val (.int p0), .val (.int p1), .val (.int p2), .val (.int p3), .val (.int p4), .val (.int p5), .val (.int p6), .val (.int p7)] [(.int p0)]))
            refine Rest.via (fun t k => XS.iconst X0.here hx rfl (hb hby d11_35) k) ?_
            show Rest p.tables e below s _ _ _ (s₁.setTop (mkF m 36 #[.val (.int p0), .val (.int p1), .val (.int p2), .val (.int p3), .val (.int p4), .val (.int p5), .val (.int p6), .val (.int p7)] [(.int (3 : Int32)), (.int p0)]))
            by_cases hc36 : p0 < (3 : Int32)
            · refine Rest.via (fun t k => XS.icmpYes X0.here hx rfl (pc0 := 36) (pc' := 47) rfl (hb hby d11_36) rfl (tlt hc36).1 (by decide) (by decide) k) ?_
              show Rest p.tables e below s _ _ _ (s₁.setTop (mkF m 47 #[.val (.int p0), .val (.int p1), .val (.int p2), .val (.int p3), .val (.int p4), .val (.int p5), .val (.int p6), .val (.int p7)] []))
              refine Rest.via (fun t k => XS.iconst X0.here hx rfl (hb hby d11_47) k) ?_
              show Rest p.tables e below s _ _ _ (s₁.setTop (mkF m 48 #[.val (.int p0), .val (.int p1), .val (.int p2), .val (.int p3), .val (.int p4), .val (.int p5), .val (.int p6), .val (.int p7)] [(.int (1 : Int32))]))
              refine Rest.ret X0 (v := some (.int (nar .boolean (1 : Int32)))) (fun h => by rw [Bd.returns] at h; cases h) hlk (fun fs hr => retN X0 hx (t := .boolean) Bd.returns (by simp) (hb hby d11_48) hr) ?_ (by decide) (by decide)
              rw [eh0]
              exact ⟨by show some (Value.int (1 : Int32)) = _; rw [own_same, if_pos hc3, if_neg hc10, if_pos hc16, if_neg hc23, if_pos hc29, if_pos hc36], N0, rfl⟩
            · refine Rest.via (fun t k => XS.icmpNo X0.here hx rfl (hb hby d11_36) rfl (flt hc36).1 k) ?_
              show Rest p.tables e below s _ _ _ (s₁.setTop (mkF m 39 #[.val (.int p0), .val (.int p1), .val (.int p2), .val (.int p3), .val (.int p4), .val (.int p5), .val (.int p6), .val (.int p7)] []))
              refine Rest.via (fun t k => XS.iloadN X0.here hx rfl (hb hby d11_39) rfl k) ?_
              show Rest p.tables e below s _ _ _ (s₁.setTop (mkF m 40 #[.val (.int p0), .val (.int p1), .val (.int p2), .val (.int p3), .val (.int p4), .val (.int p5), .val (.int p6), .val (.int p7)] [(.int p3)]))
              refine Rest.via (fun t k => XS.iload X0.here hx rfl (hb hby d11_40) rfl k) ?_
              show Rest p.tables e below s _ _ _ (s₁.setTop (mkF m 42 #[.val (.int p0), .val (.int p1), .val (.int p2), .val (.int p3), .val (.int p4), .val (.int p5), .val (.int p6), .val (.int p7)] [(.int p7), (.int p3)]))
              by_cases hc42 : p3 = p7
              · refine Rest.via (fun t k => XS.icmpYes X0.here hx rfl (pc0 := 42) (pc' := 47) rfl (hb hby d11_42) rfl (teq hc42).1 (by decide) (by decide) k) ?_
                show Rest p.tables e below s _ _ _ (s₁.setTop (mkF m 47 #[.val (.int p0), .val (.int p1), .val (.int p2), .val (.int p3), .val (.int p4), .val (.int p5), .val (.int p6), .val (.int p7)] []))
                refine Rest.via (fun t k => XS.iconst X0.here hx rfl (hb hby d11_47) k) ?_
                show Rest p.tables e below s _ _ _ (s₁.setTop (mkF m 48 #[.val (.int p0), .val (.int p1), .val (.int p2), .val (.int p3), .val (.int p4), .val (.int p5), .val (.int p6), .val (.int p7)] [(.int (1 : Int32))]))
                refine Rest.ret X0 (v := some (.int (nar .boolean (1 : Int32)))) (fun h => by rw [Bd.returns] at h; cases h) hlk (fun fs hr => retN X0 hx (t := .boolean) Bd.returns (by simp) (hb hby d11_48) hr) ?_ (by decide) (by decide)
                rw [eh0]
                exact ⟨by show some (Value.int (1 : Int32)) = _; rw [own_same, if_pos hc3, if_neg hc10, if_pos hc16, if_neg hc23, if_pos hc29, if_neg hc36, if_pos hc42], N0, rfl⟩
              · refine Rest.via (fun t k => XS.icmpNo X0.here hx rfl (hb hby d11_42) rfl (feq hc42).1 k) ?_
                show Rest p.tables e below s _ _ _ (s₁.setTop (mkF m 45 #[.val (.int p0), .val (.int p1), .val (.int p2), .val (.int p3), .val (.int p4), .val (.int p5), .val (.int p6), .val (.int p7)] []))
                refine Rest.via (fun t k => XS.iconst X0.here hx rfl (hb hby d11_45) k) ?_
                show Rest p.tables e below s _ _ _ (s₁.setTop (mkF m 46 #[.val (.int p0), .val (.int p1), .val (.int p2), .val (.int p3), .val (.int p4), .val (.int p5), .val (.int p6), .val (.int p7)] [(.int (0 : Int32))]))
                refine Rest.ret X0 (v := some (.int (nar .boolean (0 : Int32)))) (fun h => by rw [Bd.returns] at h; cases h) hlk (fun fs hr => retN X0 hx (t := .boolean) Bd.returns (by simp) (hb hby d11_46) hr) ?_ (by decide) (by decide)
                rw [eh0]
                exact ⟨by show some (Value.int (0 : Int32)) = _; rw [own_same, if_pos hc3, if_neg hc10, if_pos hc16, if_neg hc23, if_pos hc29, if_neg hc36, if_neg hc42], N0, rfl⟩
          · refine Rest.via (fun t k => XS.icmpNo X0.here hx rfl (hb hby d11_29) rfl (feq hc29).1 k) ?_
            show Rest p.tables e below s _ _ _ (s₁.setTop (mkF m 32 #[.val (.int p0), .val (.int p1), .val (.int p2), .val (.int p3), .val (.int p4), .val (.int p5), .val (.int p6), .val (.int p7)] []))
            refine Rest.via (fun t k => XS.iconst X0.here hx rfl (hb hby d11_32) k) ?_
            show Rest p.tables e below s _ _ _ (s₁.setTop (mkF m 33 #[.val (.int p0), .val (.int p1), .val (.int p2), .val (.int p3), .val (.int p4), .val (.int p5), .val (.int p6), .val (.int p7)] [(.int (0 : Int32))]))
            refine Rest.ret X0 (v := some (.int (nar .boolean (0 : Int32)))) (fun h => by rw [Bd.returns] at h; cases h) hlk (fun fs hr => retN X0 hx (t := .boolean) Bd.returns (by simp) (hb hby d11_33) hr) ?_ (by decide) (by decide)
            rw [eh0]
            exact ⟨by show some (Value.int (0 : Int32)) = _; rw [own_same, if_pos hc3, if_neg hc10, if_pos hc16, if_neg hc23, if_neg hc29], N0, rfl⟩
      · refine Rest.via (fun t k => XS.icmpNo X0.here hx rfl (hb hby d11_16) rfl (feq hc16).1 k) ?_
        show Rest p.tables e below s _ _ _ (s₁.setTop (mkF m 19 #[.val (.int p0), .val (.int p1), .val (.int p2), .val (.int p3), .val (.int p4), .val (.int p5), .val (.int p6), .val (.int p7)] []))
        refine Rest.via (fun t k => XS.iconst X0.here hx rfl (hb hby d11_19) k) ?_
        show Rest p.tables e below s _ _ _ (s₁.setTop (mkF m 20 #[.val (.int p0), .val (.int p1), .val (.int p2), .val (.int p3), .val (.int p4), .val (.int p5), .val (.int p6), .val (.int p7)] [(.int (0 : Int32))]))
        refine Rest.ret X0 (v := some (.int (nar .boolean (0 : Int32)))) (fun h => by rw [Bd.returns] at h; cases h) hlk (fun fs hr => retN X0 hx (t := .boolean) Bd.returns (by simp) (hb hby d11_20) hr) ?_ (by decide) (by decide)
        rw [eh0]
        exact ⟨by show some (Value.int (0 : Int32)) = _; rw [own_same, if_pos hc3, if_neg hc10, if_neg hc16], N0, rfl⟩
  · refine Rest.via (fun t k => XS.icmpNo X0.here hx rfl (hb hby d11_3) rfl (feq hc3).1 k) ?_
    show Rest p.tables e below s _ _ _ (s₁.setTop (mkF m 6 #[.val (.int p0), .val (.int p1), .val (.int p2), .val (.int p3), .val (.int p4), .val (.int p5), .val (.int p6), .val (.int p7)] []))
    refine Rest.via (fun t k => XS.iconst X0.here hx rfl (hb hby d11_6) k) ?_
    show Rest p.tables e below s _ _ _ (s₁.setTop (mkF m 7 #[.val (.int p0), .val (.int p1), .val (.int p2), .val (.int p3), .val (.int p4), .val (.int p5), .val (.int p6), .val (.int p7)] [(.int (0 : Int32))]))
    refine Rest.ret X0 (v := some (.int (nar .boolean (0 : Int32)))) (fun h => by rw [Bd.returns] at h; cases h) hlk (fun fs hr => retN X0 hx (t := .boolean) Bd.returns (by simp) (hb hby d11_7) hr) ?_ (by decide) (by decide)
    rw [eh0]
    exact ⟨by show some (Value.int (0 : Int32)) = _; rw [own_same, if_neg hc3], N0, rfl⟩
theorem own_three {n : Int32} (h : own_n4 n) (h0 : ¬ n = (0 : Int32)) (h1 : ¬ n = (1 : Int32)) (h2 : ¬ n = (2 : Int32)) : n = (3 : Int32) := by
  rcases h with h | h | h | h
  · exact absurd h h0
  · exact absurd h h1
  · exact absurd h h2
  · exact h
theorem own_mkl_0 {n : Int32} (h : n = (0 : Int32)) (a b d : Int32) : own_mkl n a b d = [] := by subst h; rfl
theorem own_mkl_1 {n : Int32} (h : n = (1 : Int32)) (a b d : Int32) : own_mkl n a b d = [own_by a] := by subst h; rfl
theorem own_mkl_2 {n : Int32} (h : n = (2 : Int32)) (a b d : Int32) : own_mkl n a b d = [own_by a, own_by b] := by subst h; rfl
theorem own_mkl_3 {n : Int32} (h : n = (3 : Int32)) (a b d : Int32) : own_mkl n a b d = [own_by a, own_by b, own_by d] := by subst h; rfl
theorem pd_5 : parseMethodDescriptor "([C)V" = some ⟨[(.array .char)], none⟩ := by decide +kernel
theorem d1_0 : decode method_2_code 0 = .ok (.iload_n 0, 1) := by decide +kernel
theorem d1_1 : decode method_2_code 1 = .ok (.ifCond .ne 14, 3) := by decide +kernel
theorem d1_4 : decode method_2_code 4 = .ok (.new 7, 3) := by decide +kernel
theorem d1_7 : decode method_2_code 7 = .ok (.dup, 1) := by decide +kernel
theorem d1_8 : decode method_2_code 8 = .ok (.iconst 0, 1) := by decide +kernel
theorem d1_9 : decode method_2_code 9 = .ok (.newarray .char, 2) := by decide +kernel
theorem d1_11 : decode method_2_code 11 = .ok (.invokespecial 9, 3) := by decide +kernel
theorem d1_14 : decode method_2_code 14 = .ok (.areturn, 1) := by decide +kernel
theorem d1_15 : decode method_2_code 15 = .ok (.iload_n 0, 1) := by decide +kernel
theorem d1_16 : decode method_2_code 16 = .ok (.iconst 1, 1) := by decide +kernel
theorem d1_17 : decode method_2_code 17 = .ok (.if_icmp .ne 18, 3) := by decide +kernel
theorem d1_20 : decode method_2_code 20 = .ok (.new 7, 3) := by decide +kernel
theorem d1_23 : decode method_2_code 23 = .ok (.dup, 1) := by decide +kernel
theorem d1_24 : decode method_2_code 24 = .ok (.iconst 1, 1) := by decide +kernel
theorem d1_25 : decode method_2_code 25 = .ok (.newarray .char, 2) := by decide +kernel
theorem d1_27 : decode method_2_code 27 = .ok (.dup, 1) := by decide +kernel
theorem d1_28 : decode method_2_code 28 = .ok (.iconst 0, 1) := by decide +kernel
theorem d1_29 : decode method_2_code 29 = .ok (.iload_n 1, 1) := by decide +kernel
theorem d1_30 : decode method_2_code 30 = .ok (.castore, 1) := by decide +kernel
theorem d1_31 : decode method_2_code 31 = .ok (.invokespecial 9, 3) := by decide +kernel
theorem d1_34 : decode method_2_code 34 = .ok (.areturn, 1) := by decide +kernel
theorem d1_35 : decode method_2_code 35 = .ok (.iload_n 0, 1) := by decide +kernel
theorem d1_36 : decode method_2_code 36 = .ok (.iconst 2, 1) := by decide +kernel
theorem d1_37 : decode method_2_code 37 = .ok (.if_icmp .ne 22, 3) := by decide +kernel
theorem d1_40 : decode method_2_code 40 = .ok (.new 7, 3) := by decide +kernel
theorem d1_43 : decode method_2_code 43 = .ok (.dup, 1) := by decide +kernel
theorem d1_44 : decode method_2_code 44 = .ok (.iconst 2, 1) := by decide +kernel
theorem d1_45 : decode method_2_code 45 = .ok (.newarray .char, 2) := by decide +kernel
theorem d1_47 : decode method_2_code 47 = .ok (.dup, 1) := by decide +kernel
theorem d1_48 : decode method_2_code 48 = .ok (.iconst 0, 1) := by decide +kernel
theorem d1_49 : decode method_2_code 49 = .ok (.iload_n 1, 1) := by decide +kernel
theorem d1_50 : decode method_2_code 50 = .ok (.castore, 1) := by decide +kernel
theorem d1_51 : decode method_2_code 51 = .ok (.dup, 1) := by decide +kernel
theorem d1_52 : decode method_2_code 52 = .ok (.iconst 1, 1) := by decide +kernel
theorem d1_53 : decode method_2_code 53 = .ok (.iload_n 2, 1) := by decide +kernel
theorem d1_54 : decode method_2_code 54 = .ok (.castore, 1) := by decide +kernel
theorem d1_55 : decode method_2_code 55 = .ok (.invokespecial 9, 3) := by decide +kernel
theorem d1_58 : decode method_2_code 58 = .ok (.areturn, 1) := by decide +kernel
theorem d1_59 : decode method_2_code 59 = .ok (.new 7, 3) := by decide +kernel
theorem d1_62 : decode method_2_code 62 = .ok (.dup, 1) := by decide +kernel
theorem d1_63 : decode method_2_code 63 = .ok (.iconst 3, 1) := by decide +kernel
theorem d1_64 : decode method_2_code 64 = .ok (.newarray .char, 2) := by decide +kernel
theorem d1_66 : decode method_2_code 66 = .ok (.dup, 1) := by decide +kernel
theorem d1_67 : decode method_2_code 67 = .ok (.iconst 0, 1) := by decide +kernel
theorem d1_68 : decode method_2_code 68 = .ok (.iload_n 1, 1) := by decide +kernel
theorem d1_69 : decode method_2_code 69 = .ok (.castore, 1) := by decide +kernel
theorem d1_70 : decode method_2_code 70 = .ok (.dup, 1) := by decide +kernel
theorem d1_71 : decode method_2_code 71 = .ok (.iconst 1, 1) := by decide +kernel
theorem d1_72 : decode method_2_code 72 = .ok (.iload_n 2, 1) := by decide +kernel
theorem d1_73 : decode method_2_code 73 = .ok (.castore, 1) := by decide +kernel
theorem d1_74 : decode method_2_code 74 = .ok (.dup, 1) := by decide +kernel
theorem d1_75 : decode method_2_code 75 = .ok (.iconst 2, 1) := by decide +kernel
theorem d1_76 : decode method_2_code 76 = .ok (.iload_n 3, 1) := by decide +kernel
theorem d1_77 : decode method_2_code 77 = .ok (.castore, 1) := by decide +kernel
theorem d1_78 : decode method_2_code 78 = .ok (.invokespecial 9, 3) := by decide +kernel
theorem d1_81 : decode method_2_code 81 = .ok (.areturn, 1) := by decide +kernel
theorem ef_MKc (m : MethodId) (p0 : Int32) (p1 : Int32) (p2 : Int32) (p3 : Int32) : entryFrame m #[(.int p0), (.int p1), (.int p2), (.int p3)] 4 = mkF m 0 #[.val (.int p0), .val (.int p1), .val (.int p2), .val (.int p3)] [] := by first | (simp [entryFrame, mkF, argsToLocals, Value.category, maxLocals]; done) | rfl
def QMKc (Z : State) (p0 : Int32) (p1 : Int32) (p2 : Int32) (p3 : Int32) (ic : Int32) (Ts : List String) (h0 : Heap) (n0 : Nat) (v : Option Value) (h : Heap) (L : List Loc) (vm : Vm) : Prop := ∃ t va k, v = some (.ref t) ∧ Fr n0 L ∧ Keep h0 h [] ∧ h0.size ≤ t ∧ own_St Z h t va k p0 ((own_mkl p0 p1 p2 p3).map Value.int) ∧ ((p0 = 0 ∧ IB Z vm ("" :: Ts) ∧ ∃ a b k2, own_L0 Z h vm a b k2) ∨ (¬ p0 = 0 ∧ IB Z vm Ts))
set_option maxRecDepth 65536 in
set_option maxHeartbeats 40000000 in
theorem rmMKc (l : Launch) (Z : State) (aw : Array Value) (hw : ∀ d ∈ tables_1, d.before aw Z = true) (ws : List Jvm.Cond) (p0 : Int32) (p1 : Int32) (p2 : Int32) (p3 : Int32) (ic : Int32) (Ts : List String) (h0 : Heap) (n0 : Nat) (Z0 : n0 ≤ h0.size) (hp0 : own_n4 p0) (h1 : own_ch p1) (h2 : own_ch p2) (h3 : own_ch p3) (O : Old Z n0 h0) (CS : own_CS Z ic) (hcw : Jvm.Lit.compactW.before aw Z = true) (HE : Jvm.Lit.constHeld Z "java/lang/String" 7) (hnot : "" ∉ Ts) :
    MetFree l (⟨"com/example/surnia/surnia/rdf/UriRefEqualsPinLaw", "mk", "(ICCC)Ljava/lang/String;"⟩ : MethodName) (head1 (Jvm.Cond.code (⟨"com/example/surnia/surnia/rdf/UriRefEqualsPinLaw", "mk", "(ICCC)Ljava/lang/String;"⟩ : MethodName) method_2_code 4 (some (.object "java/lang/String")) :: ws) ({ frames := 4, cells := 4, slots := 10, locals := 66 } : Room)) (fun a U => a = #[(.int p0), (.int p1), (.int p2), (.int p3)] ∧ Z.Warmed39 U.vm ∧ U.heap = h0 ∧ (fun vm => IB Z vm Ts) U.vm) (fun _ _ _ _ _ => True) (fun _ U o U' => ∃ v L, o = .returned v ∧ QMKc Z p0 p1 p2 p3 ic Ts h0 n0 v U'.heap L U'.vm ∧ ReturnedEndW U o U' L ({ frames := 4, cells := 4, slots := 10, locals := 66 } : Room).cells ({ frames := 4, cells := 4, slots := 10, locals := 66 } : Room).slots) := by
  refine MetFree.of_bodySF (plainFor_of_name pn_3) hisR ?_
  intro p e s m args below meth c s₁ Bd hml0 hP hK
  obtain ⟨rfl, hZ, hh, hVP⟩ := hP
  have hx := Bd.exec
  have hby := Bd.bytes
  have hml : c.maxLocals = 4 := hml0
  have hown : s.vm.findClass "com/example/surnia/surnia/rdf/UriRefEqualsPinLaw" = some m.cls := findClass_of_methodNamed Bd.named
  have hnm := (name_of_methodNamed Bd.named Bd.method).1
  have hlk : meth.locks = false := BodyLoose.notSynchronized Bd
  have X0 : Stand p l e ({ frames := 4, cells := 4, slots := 10, locals := 66 } : Room) (s.setVm s.vm) m #[(.int p0), (.int p1), (.int p2), (.int p3)] below meth c s₁ [] 0 0 := Stand.of_body Bd
  have hS : s.Since s.vm h0.size := (State.WarmedH.refl s).since _
  have eh0 : s₁.heap = h0 := by rw [← hh, Bd.state]; rfl
  have N0 := Fr.nil n0
  show RestW p.tables e below s (QMKc Z p0 p1 p2 p3 ic Ts h0 n0) _ _ (s₁.setTop (entryFrame m #[(.int p0), (.int p1), (.int p2), (.int p3)] 4))
  refine RestW.via (fun t k => castTop (ef_MKc m p0 p1 p2 p3) k) ?_
  have I := hVP
  show RestW p.tables e below s _ _ _ (s₁.setTop (mkF m 0 #[.val (.int p0), .val (.int p1), .val (.int p2), .val (.int p3)] []))
  refine RestW.via (fun t k => XS.iloadN X0.here hx rfl (hb hby d1_0) rfl k) ?_
  show RestW p.tables e below s _ _ _ (s₁.setTop (mkF m 1 #[.val (.int p0), .val (.int p1), .val (.int p2), .val (.int p3)] [(.int p0)]))
  by_cases hc1 : p0 = (0 : Int32)
  · refine RestW.via (fun t k => XS.ifNo X0.here hx rfl (hb hby d1_1) rfl ((if0 _ _).trans (teq hc1).2) k) ?_
    show RestW p.tables e below s _ _ _ (s₁.setTop (mkF m 4 #[.val (.int p0), .val (.int p1), .val (.int p2), .val (.int p3)] []))
    obtain ⟨T1, h1, X1, e1, E1, A1, D1, -, st1⟩ := newO X0 hx hZ hown (hw _ (List.mem_of_getElem? (i := 7) rfl)) (hw _ (List.mem_of_getElem? (i := 8) rfl)) (hw _ (List.mem_of_getElem? (i := 9) rfl)) eh0 (g := (mkF m 4 #[.val (.int p0), .val (.int p1), .val (.int p2), .val (.int p3)] [])) rfl (hb hby d1_4) (by decide) (by decide)
    obtain ⟨b1, gq1⟩ : ∃ z, z = h0.size := ⟨_, rfl⟩
    rw [← gq1] at A1 D1 st1
    have sz_b1 : h0.size ≤ b1 := Nat.le_trans (Keep.refl h0 []).1 (Nat.le_of_eq gq1.symm)
    have g_b1 : n0 ≤ b1 := Nat.le_trans Z0 sz_b1
    have K1 : Keep h0 h1 [] := (Keep.refl h0 []).ext E1
    have E_b1 := A1
    have F_value_b1 : Fld Z h1 b1 "java/lang/String" "value" "[B" .null := D1 (Or.inr (hw _ (List.mem_of_getElem? (i := 23) rfl))) (ty := (.array .byte)) (by decide)
    have F_coder_b1 : Fld Z h1 b1 "java/lang/String" "coder" "B" (.int (0 : Int32)) := D1 (Or.inr (hw _ (List.mem_of_getElem? (i := 24) rfl))) (ty := .byte) (by decide)
    refine RestW.via (fun t k => st1 t k) ?_
    show RestW p.tables e below s _ _ _ (T1.setTop (mkF m 7 #[.val (.int p0), .val (.int p1), .val (.int p2), .val (.int p3)] [(.ref b1)]))
    refine RestW.via (fun t k => XS.dup X1.here hx rfl (hb hby d1_7) rfl rfl k) ?_
    show RestW p.tables e below s _ _ _ (T1.setTop (mkF m 8 #[.val (.int p0), .val (.int p1), .val (.int p2), .val (.int p3)] [(.ref b1), (.ref b1)]))
    refine RestW.via (fun t k => XS.iconst X1.here hx rfl (hb hby d1_8) k) ?_
    show RestW p.tables e below s _ _ _ (T1.setTop (mkF m 9 #[.val (.int p0), .val (.int p1), .val (.int p2), .val (.int p3)] [(.int (0 : Int32)), (.ref b1), (.ref b1)]))
    obtain ⟨T2, h2, k2, X2, e2, E2, A2, st2⟩ := newP X1 hx hZ (hw _ (List.mem_of_getElem? (i := 10) rfl)) e1 (g := (mkF m 9 #[.val (.int p0), .val (.int p1), .val (.int p2), .val (.int p3)] [(.int (0 : Int32)), (.ref b1), (.ref b1)])) rfl (hb hby d1_9) rfl (by decide) (cap := 0) (by decide) (by decide) (by decide) (by decide)
    obtain ⟨b2, gq2⟩ : ∃ z, z = h1.size := ⟨_, rfl⟩
    rw [← gq2] at A2 st2
    have sz_b2 : h0.size ≤ b2 := Nat.le_trans K1.1 (Nat.le_of_eq gq2.symm)
    have g_b2 : n0 ≤ b2 := Nat.le_trans Z0 sz_b2
    have ne_b1_b2 : b1 ≠ b2 := Nat.ne_of_lt (Nat.lt_of_lt_of_le E_b1.lt (Nat.le_of_eq gq2.symm))
    have K2 : Keep h0 h2 [] := K1.ext E2
    have V_b2 := Arv.new A2 (by decide)
    have V_b2 : Arv Z h2 b2 k2 .char (0 : Int32) [] (.int (0 : Int32)) := V_b2.pad (pad_rep [] (.int (0 : Int32)) 0)
    refine RestW.via (fun t k => st2 t k) ?_
    show RestW p.tables e below s _ _ _ (T2.setTop (mkF m 11 #[.val (.int p0), .val (.int p1), .val (.int p2), .val (.int p3)] [(.ref b2), (.ref b1), (.ref b1)]))
    obtain ⟨_, _, ⟨T3, L3, k3, n3⟩, -, X3, hSq3, gr3, ⟨Lc3, hQ3, l3, y3, z3⟩, st3⟩ := X2.specialBackS hx (y := (⟨"java/lang/String", "<init>", "([C)V"⟩ : MethodName)) rfl hown (mvT hZ (hw _ (List.mem_of_getElem? (i := 11) rfl))) (mvT hZ (hw _ (List.mem_of_getElem? (i := 12) rfl))) (mvT hZ (hw _ (List.mem_of_getElem? (i := 13) rfl))) (by decide) (own_backV (W := 1) (rmSI0c l Z aw hw [] b1 b2 k2 Ts h2 n0 (Nat.le_trans Z0 K2.1) (E_b1.ext E2) (F_value_b1.ext E2) (F_coder_b1.ext E2) g_b1 V_b2 (O.keep K2 all0) hcw HE hnot) hZ (hw _ (List.mem_of_getElem? (i := 13) rfl)) (hw _ (List.mem_of_getElem? (i := 9) rfl)) (by decide) (by decide) (fun vm' hw' => own_IB_warm (s := s) I hw')) (g := (mkF m 11 #[.val (.int p0), .val (.int p1), .val (.int p2), .val (.int p3)] [(.ref b2), (.ref b1), (.ref b1)])) rfl (by rw [hml]; rfl) (Steps.refl _) (a := b1) (argsL := [(.ref b2)]) (rest := [(.ref b1)]) (lenOf pd_5 rfl) rfl (by show 2 * 0 + _ ≤ _; exact Nat.le_of_eq rfl) (hb hby d1_11) (fun _ _ => ⟨rfl, e2, (by decide : 2 + 2 ≤ _), (by decide : 4 + 4 ≤ _)⟩)
    dsimp only [Pt.U, Pt.locs, Pt.cells, Pt.slots] at X3 l3 y3 z3 st3 hQ3 hSq3 gr3
    subst l3 y3 z3
    obtain ⟨X3, hS, hZ, hown⟩ := rebS hS (by rw [e2]; first | exact (Nat.le_trans (Nat.le_trans (Nat.le_refl _) E1.1) E2.1) | exact Nat.le_refl _) X3 hSq3 gr3 hZ hown
    obtain ⟨h3, e3⟩ : ∃ z, T3.heap = z := ⟨_, rfl⟩
    rw [e3] at hQ3
    obtain ⟨rfl, Nq3, Kq3, Fc3, sl3, va3, kb3, Fv3, ⟨Li3, Sl3⟩, nb3, I⟩ := hQ3
    have N3 := Fr.app N0 Nq3
    have K3 : Keep h0 h3 [] := K2.trans Kq3 (allS (Or.inr sz_b1) all0)
    have St3 : own_St Z h3 b1 va3 kb3 (0 : Int32) [] := ⟨(E_b1.ext E2).keep Kq3, Fv3, Fc3, Sl3.2.2.2⟩
    refine RestW.via (fun t k => st3.trans k) ?_
    show RestW p.tables e below s _ _ _ (T3.setTop (mkF m 14 #[.val (.int p0), .val (.int p1), .val (.int p2), .val (.int p3)] [(.ref b1)]))
    refine RestW.ret X3 hS (by rw [e3]; first | exact (Nat.le_of_eq (congrArg Array.size e3)) | exact Nat.le_refl _) (v := some (.ref b1)) (fun h => by rw [Bd.returns] at h; cases h) hlk (fun fs hr => retOut X3 hx Bd.returns rfl (Or.inr (Or.inr (Or.inr (Or.inr ⟨rfl, rfl, rfl⟩)))) (hb hby d1_14) hr) ?_ (by decide) (by decide)
    rw [e3]
    exact ⟨b1, va3, kb3, rfl, N3, K3, sz_b1, (by have e := own_mkl_0 hc1 p1 p2 p3; rw [e, hc1]; exact St3), Or.inl ⟨hc1, own_IB_warm I X3.warmed, sl3, va3, kb3, own_Lit_warm Li3 X3.warmed.wide, Sl3⟩⟩
  · refine RestW.via (fun t k => XS.ifYes X0.here hx rfl (pc0 := 1) (pc' := 15) rfl (hb hby d1_1) rfl ((if0 _ _).trans (feq hc1).2) (by decide) (by decide) k) ?_
    show RestW p.tables e below s _ _ _ (s₁.setTop (mkF m 15 #[.val (.int p0), .val (.int p1), .val (.int p2), .val (.int p3)] []))
    refine RestW.via (fun t k => XS.iloadN X0.here hx rfl (hb hby d1_15) rfl k) ?_
    show RestW p.tables e below s _ _ _ (s₁.setTop (mkF m 16 #[.val (.int p0), .val (.int p1), .val (.int p2), .val (.int p3)] [(.int p0)]))
    refine RestW.via (fun t k => XS.iconst X0.here hx rfl (hb hby d1_16) k) ?_
    show RestW p.tables e below s _ _ _ (s₁.setTop (mkF m 17 #[.val (.int p0), .val (.int p1), .val (.int p2), .val (.int p3)] [(.int (1 : Int32)), (.int p0)]))
    by_cases hc17 : p0 = (1 : Int32)
    · refine RestW.via (fun t k => XS.icmpNo X0.here hx rfl (hb hby d1_17) rfl (teq hc17).2 k) ?_
      show RestW p.tables e below s _ _ _ (s₁.setTop (mkF m 20 #[.val (.int p0), .val (.int p1), .val (.int p2), .val (.int p3)] []))
      obtain ⟨T4, h4, X4, e4, E4, A4, D4, -, st4⟩ := newO X0 hx hZ hown (hw _ (List.mem_of_getElem? (i := 7) rfl)) (hw _ (List.mem_of_getElem? (i := 8) rfl)) (hw _ (List.mem_of_getElem? (i := 9) rfl)) eh0 (g := (mkF m 20 #[.val (.int p0), .val (.int p1), .val (.int p2), .val (.int p3)] [])) rfl (hb hby d1_20) (by decide) (by decide)
      obtain ⟨b4, gq4⟩ : ∃ z, z = h0.size := ⟨_, rfl⟩
      rw [← gq4] at A4 D4 st4
      have sz_b4 : h0.size ≤ b4 := Nat.le_trans (Keep.refl h0 []).1 (Nat.le_of_eq gq4.symm)
      have g_b4 : n0 ≤ b4 := Nat.le_trans Z0 sz_b4
      have K4 : Keep h0 h4 [] := (Keep.refl h0 []).ext E4
      have E_b4 := A4
      have F_value_b4 : Fld Z h4 b4 "java/lang/String" "value" "[B" .null := D4 (Or.inr (hw _ (List.mem_of_getElem? (i := 23) rfl))) (ty := (.array .byte)) (by decide)
      have F_coder_b4 : Fld Z h4 b4 "java/lang/String" "coder" "B" (.int (0 : Int32)) := D4 (Or.inr (hw _ (List.mem_of_getElem? (i := 24) rfl))) (ty := .byte) (by decide)
      refine RestW.via (fun t k => st4 t k) ?_
      show RestW p.tables e below s _ _ _ (T4.setTop (mkF m 23 #[.val (.int p0), .val (.int p1), .val (.int p2), .val (.int p3)] [(.ref b4)]))
      refine RestW.via (fun t k => XS.dup X4.here hx rfl (hb hby d1_23) rfl rfl k) ?_
      show RestW p.tables e below s _ _ _ (T4.setTop (mkF m 24 #[.val (.int p0), .val (.int p1), .val (.int p2), .val (.int p3)] [(.ref b4), (.ref b4)]))
      refine RestW.via (fun t k => XS.iconst X4.here hx rfl (hb hby d1_24) k) ?_
      show RestW p.tables e below s _ _ _ (T4.setTop (mkF m 25 #[.val (.int p0), .val (.int p1), .val (.int p2), .val (.int p3)] [(.int (1 : Int32)), (.ref b4), (.ref b4)]))
      obtain ⟨T5, h5, k5, X5, e5, E5, A5, st5⟩ := newP X4 hx hZ (hw _ (List.mem_of_getElem? (i := 10) rfl)) e4 (g := (mkF m 25 #[.val (.int p0), .val (.int p1), .val (.int p2), .val (.int p3)] [(.int (1 : Int32)), (.ref b4), (.ref b4)])) rfl (hb hby d1_25) rfl (by decide) (cap := 1) (by decide) (by decide) (by decide) (by decide)
      obtain ⟨b5, gq5⟩ : ∃ z, z = h4.size := ⟨_, rfl⟩
      rw [← gq5] at A5 st5
      have sz_b5 : h0.size ≤ b5 := Nat.le_trans K4.1 (Nat.le_of_eq gq5.symm)
      have g_b5 : n0 ≤ b5 := Nat.le_trans Z0 sz_b5
      have ne_b4_b5 : b4 ≠ b5 := Nat.ne_of_lt (Nat.lt_of_lt_of_le E_b4.lt (Nat.le_of_eq gq5.symm))
      have K5 : Keep h0 h5 [] := K4.ext E5
      have V_b5 := Arv.new A5 (by decide)
      have V_b5 : Arv Z h5 b5 k5 .char (1 : Int32) [(.int (0 : Int32))] (.int (0 : Int32)) := V_b5.pad (pad_rep [] (.int (0 : Int32)) 1)
      refine RestW.via (fun t k => st5 t k) ?_
      show RestW p.tables e below s _ _ _ (T5.setTop (mkF m 27 #[.val (.int p0), .val (.int p1), .val (.int p2), .val (.int p3)] [(.ref b5), (.ref b4), (.ref b4)]))
      refine RestW.via (fun t k => XS.dup X5.here hx rfl (hb hby d1_27) rfl rfl k) ?_
      show RestW p.tables e below s _ _ _ (T5.setTop (mkF m 28 #[.val (.int p0), .val (.int p1), .val (.int p2), .val (.int p3)] [(.ref b5), (.ref b5), (.ref b4), (.ref b4)]))
      refine RestW.via (fun t k => XS.iconst X5.here hx rfl (hb hby d1_28) k) ?_
      show RestW p.tables e below s _ _ _ (T5.setTop (mkF m 29 #[.val (.int p0), .val (.int p1), .val (.int p2), .val (.int p3)] [(.int (0 : Int32)), (.ref b5), (.ref b5), (.ref b4), (.ref b4)]))
      refine RestW.via (fun t k => XS.iloadN X5.here hx rfl (hb hby d1_29) rfl k) ?_
      show RestW p.tables e below s _ _ _ (T5.setTop (mkF m 30 #[.val (.int p0), .val (.int p1), .val (.int p2), .val (.int p3)] [(.int p1), (.int (0 : Int32)), (.ref b5), (.ref b5), (.ref b4), (.ref b4)]))
      obtain ⟨cl6, Ar6, qa6, Sa6, Pa6, Ha6, Ga6⟩ := id V_b5
      have hin6 := inb_of (j := (0 : Int32)) Sa6 ⟨by decide, by decide⟩
      obtain ⟨T6, h6, X6, e6, W6, st6⟩ := stC X5 hx hZ e5 Ar6 (j := (0 : Int32)) hin6 (g := (mkF m 30 #[.val (.int p0), .val (.int p1), .val (.int p2), .val (.int p3)] [(.int p1), (.int (0 : Int32)), (.ref b5), (.ref b5), (.ref b4), (.ref b4)])) rfl rfl (hb hby d1_30)
      refine RestW.via (fun t k => st6 t k) ?_
      have N6 := Fr.snoc X6 N0 g_b5
      have K6 : Keep h0 h6 [] := K5.wr W6 (Or.inr sz_b5)
      have V6 : Arv Z h6 b5 k5 .char (1 : Int32) [(.int p1)] (.int (0 : Int32)) := by have q := Arv.set Ar6 qa6 Sa6 Pa6 Ha6 Ga6 (fits_nar_char _) W6 0 rfl (Nat.le_of_ble_eq_true rfl); rw [own_nc h1] at q; exact q
      show RestW p.tables e below s _ _ _ (T6.setTop (mkF m 31 #[.val (.int p0), .val (.int p1), .val (.int p2), .val (.int p3)] [(.ref b5), (.ref b4), (.ref b4)]))
      obtain ⟨_, _, ⟨T7, L7, k7, n7⟩, -, X7, ⟨Lc7, hQ7, l7, y7, z7⟩, st7⟩ := X6.specialBack hx (y := (⟨"java/lang/String", "<init>", "([C)V"⟩ : MethodName)) rfl hown (mvT hZ (hw _ (List.mem_of_getElem? (i := 11) rfl))) (mvT hZ (hw _ (List.mem_of_getElem? (i := 12) rfl))) (mvT hZ (hw _ (List.mem_of_getElem? (i := 13) rfl))) (by decide) (backOf (W := 1) (rmSI1 l Z aw hw [] b4 b5 k5 ic p1 h6 n0 (Nat.le_trans Z0 K6.1) ((E_b4.ext E5).wr W6) ((F_value_b4.ext E5).other W6 (Or.inl ne_b4_b5)) ((F_coder_b4.ext E5).other W6 (Or.inl ne_b4_b5)) g_b4 V6 h1.2 (O.keep K6 all0) CS) hZ (hw _ (List.mem_of_getElem? (i := 13) rfl)) (hw _ (List.mem_of_getElem? (i := 9) rfl)) (by decide) (by decide)) (g := (mkF m 31 #[.val (.int p0), .val (.int p1), .val (.int p2), .val (.int p3)] [(.ref b5), (.ref b4), (.ref b4)])) rfl (by rw [hml]; rfl) (Steps.refl _) (a := b4) (argsL := [(.ref b5)]) (rest := [(.ref b4)]) (lenOf pd_5 rfl) rfl (by show 2 * 0 + _ ≤ _; exact Nat.le_of_eq rfl) (hb hby d1_31) (fun _ _ => ⟨rfl, e6, (by decide : 2 + 1 ≤ _), (by decide : 5 + 1 ≤ _)⟩)
      dsimp only [Pt.U, Pt.locs, Pt.cells, Pt.slots] at X7 l7 y7 z7 st7 hQ7
      subst l7 y7 z7
      obtain ⟨h7, e7⟩ : ∃ z, T7.heap = z := ⟨_, rfl⟩
      rw [e7] at hQ7
      obtain ⟨rfl, Nq7, Kq7, va7, kb7, sd7, Fv7, Fc7, Vq7, nb7⟩ := hQ7
      have N7 := Fr.app N6 Nq7
      have K7 : Keep h0 h7 [] := K6.trans Kq7 (allS (Or.inr sz_b4) all0)
      have St7 : own_St Z h7 b4 va7 kb7 (1 : Int32) [(.int (own_by p1))] := ⟨((E_b4.ext E5).wr W6).keep Kq7, Fv7, Fc7, Vq7⟩
      refine RestW.via (fun t k => st7.trans k) ?_
      show RestW p.tables e below s _ _ _ (T7.setTop (mkF m 34 #[.val (.int p0), .val (.int p1), .val (.int p2), .val (.int p3)] [(.ref b4)]))
      refine RestW.ret X7 hS (by rw [e7]; first | exact (Nat.le_trans (Nat.le_trans (Nat.le_trans (Nat.le_trans (Nat.le_refl _) E4.1) E5.1) (Keep.of_wr W6).1) Kq7.1) | exact Nat.le_refl _) (v := some (.ref b4)) (fun h => by rw [Bd.returns] at h; cases h) hlk (fun fs hr => retOut X7 hx Bd.returns rfl (Or.inr (Or.inr (Or.inr (Or.inr ⟨rfl, rfl, rfl⟩)))) (hb hby d1_34) hr) ?_ (by decide) (by decide)
      rw [e7]
      exact ⟨b4, va7, kb7, rfl, N7, K7, sz_b4, (by have e := own_mkl_1 hc17 p1 p2 p3; rw [e, hc17]; exact St7), Or.inr ⟨hc1, own_IB_warm I X7.warmed⟩⟩
    · refine RestW.via (fun t k => XS.icmpYes X0.here hx rfl (pc0 := 17) (pc' := 35) rfl (hb hby d1_17) rfl (feq hc17).2 (by decide) (by decide) k) ?_
      show RestW p.tables e below s _ _ _ (s₁.setTop (mkF m 35 #[.val (.int p0), .val (.int p1), .val (.int p2), .val (.int p3)] []))
      refine RestW.via (fun t k => XS.iloadN X0.here hx rfl (hb hby d1_35) rfl k) ?_
      show RestW p.tables e below s _ _ _ (s₁.setTop (mkF m 36 #[.val (.int p0), .val (.int p1), .val (.int p2), .val (.int p3)] [(.int p0)]))
      refine RestW.via (fun t k => XS.iconst X0.here hx rfl (hb hby d1_36) k) ?_
      show RestW p.tables e below s _ _ _ (s₁.setTop (mkF m 37 #[.val (.int p0), .val (.int p1), .val (.int p2), .val (.int p3)] [(.int (2 : Int32)), (.int p0)]))
      by_cases hc37 : p0 = (2 : Int32)
      · refine RestW.via (fun t k => XS.icmpNo X0.here hx rfl (hb hby d1_37) rfl (teq hc37).2 k) ?_
        show RestW p.tables e below s _ _ _ (s₁.setTop (mkF m 40 #[.val (.int p0), .val (.int p1), .val (.int p2), .val (.int p3)] []))
        obtain ⟨T8, h8, X8, e8, E8, A8, D8, -, st8⟩ := newO X0 hx hZ hown (hw _ (List.mem_of_getElem? (i := 7) rfl)) (hw _ (List.mem_of_getElem? (i := 8) rfl)) (hw _ (List.mem_of_getElem? (i := 9) rfl)) eh0 (g := (mkF m 40 #[.val (.int p0), .val (.int p1), .val (.int p2), .val (.int p3)] [])) rfl (hb hby d1_40) (by decide) (by decide)
        obtain ⟨b8, gq8⟩ : ∃ z, z = h0.size := ⟨_, rfl⟩
        rw [← gq8] at A8 D8 st8
        have sz_b8 : h0.size ≤ b8 := Nat.le_trans (Keep.refl h0 []).1 (Nat.le_of_eq gq8.symm)
        have g_b8 : n0 ≤ b8 := Nat.le_trans Z0 sz_b8
        have K8 : Keep h0 h8 [] := (Keep.refl h0 []).ext E8
        have E_b8 := A8
        have F_value_b8 : Fld Z h8 b8 "java/lang/String" "value" "[B" .null := D8 (Or.inr (hw _ (List.mem_of_getElem? (i := 23) rfl))) (ty := (.array .byte)) (by decide)
        have F_coder_b8 : Fld Z h8 b8 "java/lang/String" "coder" "B" (.int (0 : Int32)) := D8 (Or.inr (hw _ (List.mem_of_getElem? (i := 24) rfl))) (ty := .byte) (by decide)
        refine RestW.via (fun t k => st8 t k) ?_
        show RestW p.tables e below s _ _ _ (T8.setTop (mkF m 43 #[.val (.int p0), .val (.int p1), .val (.int p2), .val (.int p3)] [(.ref b8)]))
        refine RestW.via (fun t k => XS.dup X8.here hx rfl (hb hby d1_43) rfl rfl k) ?_
        show RestW p.tables e below s _ _ _ (T8.setTop (mkF m 44 #[.val (.int p0), .val (.int p1), .val (.int p2), .val (.int p3)] [(.ref b8), (.ref b8)]))
        refine RestW.via (fun t k => XS.iconst X8.here hx rfl (hb hby d1_44) k) ?_
        show RestW p.tables e below s _ _ _ (T8.setTop (mkF m 45 #[.val (.int p0), .val (.int p1), .val (.int p2), .val (.int p3)] [(.int (2 : Int32)), (.ref b8), (.ref b8)]))
        obtain ⟨T9, h9, k9, X9, e9, E9, A9, st9⟩ := newP X8 hx hZ (hw _ (List.mem_of_getElem? (i := 10) rfl)) e8 (g := (mkF m 45 #[.val (.int p0), .val (.int p1), .val (.int p2), .val (.int p3)] [(.int (2 : Int32)), (.ref b8), (.ref b8)])) rfl (hb hby d1_45) rfl (by decide) (cap := 2) (by decide) (by decide) (by decide) (by decide)
        obtain ⟨b9, gq9⟩ : ∃ z, z = h8.size := ⟨_, rfl⟩
        rw [← gq9] at A9 st9
        have sz_b9 : h0.size ≤ b9 := Nat.le_trans K8.1 (Nat.le_of_eq gq9.symm)
        have g_b9 : n0 ≤ b9 := Nat.le_trans Z0 sz_b9
        have ne_b8_b9 : b8 ≠ b9 := Nat.ne_of_lt (Nat.lt_of_lt_of_le E_b8.lt (Nat.le_of_eq gq9.symm))
        have K9 : Keep h0 h9 [] := K8.ext E9
        have V_b9 := Arv.new A9 (by decide)
        have V_b9 : Arv Z h9 b9 k9 .char (2 : Int32) [(.int (0 : Int32)), (.int (0 : Int32))] (.int (0 : Int32)) := V_b9.pad (pad_rep [] (.int (0 : Int32)) 2)
        refine RestW.via (fun t k => st9 t k) ?_
        show RestW p.tables e below s _ _ _ (T9.setTop (mkF m 47 #[.val (.int p0), .val (.int p1), .val (.int p2), .val (.int p3)] [(.ref b9), (.ref b8), (.ref b8)]))
        refine RestW.via (fun t k => XS.dup X9.here hx rfl (hb hby d1_47) rfl rfl k) ?_
        show RestW p.tables e below s _ _ _ (T9.setTop (mkF m 48 #[.val (.int p0), .val (.int p1), .val (.int p2), .val (.int p3)] [(.ref b9), (.ref b9), (.ref b8), (.ref b8)]))
        refine RestW.via (fun t k => XS.iconst X9.here hx rfl (hb hby d1_48) k) ?_
        show RestW p.tables e below s _ _ _ (T9.setTop (mkF m 49 #[.val (.int p0), .val (.int p1), .val (.int p2), .val (.int p3)] [(.int (0 : Int32)), (.ref b9), (.ref b9), (.ref b8), (.ref b8)]))
        refine RestW.via (fun t k => XS.iloadN X9.here hx rfl (hb hby d1_49) rfl k) ?_
        show RestW p.tables e below s _ _ _ (T9.setTop (mkF m 50 #[.val (.int p0), .val (.int p1), .val (.int p2), .val (.int p3)] [(.int p1), (.int (0 : Int32)), (.ref b9), (.ref b9), (.ref b8), (.ref b8)]))
        obtain ⟨cl10, Ar10, qa10, Sa10, Pa10, Ha10, Ga10⟩ := id V_b9
        have hin10 := inb_of (j := (0 : Int32)) Sa10 ⟨by decide, by decide⟩
        obtain ⟨T10, h10, X10, e10, W10, st10⟩ := stC X9 hx hZ e9 Ar10 (j := (0 : Int32)) hin10 (g := (mkF m 50 #[.val (.int p0), .val (.int p1), .val (.int p2), .val (.int p3)] [(.int p1), (.int (0 : Int32)), (.ref b9), (.ref b9), (.ref b8), (.ref b8)])) rfl rfl (hb hby d1_50)
        refine RestW.via (fun t k => st10 t k) ?_
        have N10 := Fr.snoc X10 N0 g_b9
        have K10 : Keep h0 h10 [] := K9.wr W10 (Or.inr sz_b9)
        have V10 : Arv Z h10 b9 k9 .char (2 : Int32) [(.int p1), (.int (0 : Int32))] (.int (0 : Int32)) := by have q := Arv.set Ar10 qa10 Sa10 Pa10 Ha10 Ga10 (fits_nar_char _) W10 0 rfl (Nat.le_of_ble_eq_true rfl); rw [own_nc h1] at q; exact q
        show RestW p.tables e below s _ _ _ (T10.setTop (mkF m 51 #[.val (.int p0), .val (.int p1), .val (.int p2), .val (.int p3)] [(.ref b9), (.ref b8), (.ref b8)]))
        refine RestW.via (fun t k => XS.dup X10.here hx rfl (hb hby d1_51) rfl rfl k) ?_
        show RestW p.tables e below s _ _ _ (T10.setTop (mkF m 52 #[.val (.int p0), .val (.int p1), .val (.int p2), .val (.int p3)] [(.ref b9), (.ref b9), (.ref b8), (.ref b8)]))
        refine RestW.via (fun t k => XS.iconst X10.here hx rfl (hb hby d1_52) k) ?_
        show RestW p.tables e below s _ _ _ (T10.setTop (mkF m 53 #[.val (.int p0), .val (.int p1), .val (.int p2), .val (.int p3)] [(.int (1 : Int32)), (.ref b9), (.ref b9), (.ref b8), (.ref b8)]))
        refine RestW.via (fun t k => XS.iloadN X10.here hx rfl (hb hby d1_53) rfl k) ?_
        show RestW p.tables e below s _ _ _ (T10.setTop (mkF m 54 #[.val (.int p0), .val (.int p1), .val (.int p2), .val (.int p3)] [(.int p2), (.int (1 : Int32)), (.ref b9), (.ref b9), (.ref b8), (.ref b8)]))
        obtain ⟨cl11, Ar11, qa11, Sa11, Pa11, Ha11, Ga11⟩ := id V10
        have hin11 := inb_of (j := (1 : Int32)) Sa11 ⟨by decide, by decide⟩
        obtain ⟨T11, h11, X11, e11, W11, st11⟩ := stC X10 hx hZ e10 Ar11 (j := (1 : Int32)) hin11 (g := (mkF m 54 #[.val (.int p0), .val (.int p1), .val (.int p2), .val (.int p3)] [(.int p2), (.int (1 : Int32)), (.ref b9), (.ref b9), (.ref b8), (.ref b8)])) rfl rfl (hb hby d1_54)
        refine RestW.via (fun t k => st11 t k) ?_
        have N11 := Fr.snoc X11 N10 g_b9
        have K11 : Keep h0 h11 [] := K10.wr W11 (Or.inr sz_b9)
        have V11 : Arv Z h11 b9 k9 .char (2 : Int32) [(.int p1), (.int p2)] (.int (0 : Int32)) := by have q := Arv.set Ar11 qa11 Sa11 Pa11 Ha11 Ga11 (fits_nar_char _) W11 1 rfl (Nat.le_of_ble_eq_true rfl); rw [own_nc h2] at q; exact q
        show RestW p.tables e below s _ _ _ (T11.setTop (mkF m 55 #[.val (.int p0), .val (.int p1), .val (.int p2), .val (.int p3)] [(.ref b9), (.ref b8), (.ref b8)]))
        obtain ⟨_, _, ⟨T12, L12, k12, n12⟩, -, X12, ⟨Lc12, hQ12, l12, y12, z12⟩, st12⟩ := X11.specialBack hx (y := (⟨"java/lang/String", "<init>", "([C)V"⟩ : MethodName)) rfl hown (mvT hZ (hw _ (List.mem_of_getElem? (i := 11) rfl))) (mvT hZ (hw _ (List.mem_of_getElem? (i := 12) rfl))) (mvT hZ (hw _ (List.mem_of_getElem? (i := 13) rfl))) (by decide) (backOf (W := 1) (rmSI2 l Z aw hw [] b8 b9 k9 ic p1 p2 h11 n0 (Nat.le_trans Z0 K11.1) (((E_b8.ext E9).wr W10).wr W11) (((F_value_b8.ext E9).other W10 (Or.inl ne_b8_b9)).other W11 (Or.inl ne_b8_b9)) (((F_coder_b8.ext E9).other W10 (Or.inl ne_b8_b9)).other W11 (Or.inl ne_b8_b9)) g_b8 V11 h1.2 h2.2 (O.keep K11 all0) CS) hZ (hw _ (List.mem_of_getElem? (i := 13) rfl)) (hw _ (List.mem_of_getElem? (i := 9) rfl)) (by decide) (by decide)) (g := (mkF m 55 #[.val (.int p0), .val (.int p1), .val (.int p2), .val (.int p3)] [(.ref b9), (.ref b8), (.ref b8)])) rfl (by rw [hml]; rfl) (Steps.refl _) (a := b8) (argsL := [(.ref b9)]) (rest := [(.ref b8)]) (lenOf pd_5 rfl) rfl (by show 2 * 0 + _ ≤ _; exact Nat.le_of_eq rfl) (hb hby d1_55) (fun _ _ => ⟨rfl, e11, (by decide : 2 + 1 ≤ _), (by decide : 6 + 2 ≤ _)⟩)
        dsimp only [Pt.U, Pt.locs, Pt.cells, Pt.slots] at X12 l12 y12 z12 st12 hQ12
        subst l12 y12 z12
        obtain ⟨h12, e12⟩ : ∃ z, T12.heap = z := ⟨_, rfl⟩
        rw [e12] at hQ12
        obtain ⟨rfl, Nq12, Kq12, va12, kb12, sd12, Fv12, Fc12, Vq12, nb12⟩ := hQ12
        have N12 := Fr.app N11 Nq12
        have K12 : Keep h0 h12 [] := K11.trans Kq12 (allS (Or.inr sz_b8) all0)
        have St12 : own_St Z h12 b8 va12 kb12 (2 : Int32) [(.int (own_by p1)), (.int (own_by p2))] := ⟨(((E_b8.ext E9).wr W10).wr W11).keep Kq12, Fv12, Fc12, Vq12⟩
        refine RestW.via (fun t k => st12.trans k) ?_
        show RestW p.tables e below s _ _ _ (T12.setTop (mkF m 58 #[.val (.int p0), .val (.int p1), .val (.int p2), .val (.int p3)] [(.ref b8)]))
        refine RestW.ret X12 hS (by rw [e12]; first | exact (Nat.le_trans (Nat.le_trans (Nat.le_trans (Nat.le_trans (Nat.le_trans (Nat.le_refl _) E8.1) E9.1) (Keep.of_wr W10).1) (Keep.of_wr W11).1) Kq12.1) | exact Nat.le_refl _) (v := some (.ref b8)) (fun h => by rw [Bd.returns] at h; cases h) hlk (fun fs hr => retOut X12 hx Bd.returns rfl (Or.inr (Or.inr (Or.inr (Or.inr ⟨rfl, rfl, rfl⟩)))) (hb hby d1_58) hr) ?_ (by decide) (by decide)
        rw [e12]
        exact ⟨b8, va12, kb12, rfl, N12, K12, sz_b8, (by have e := own_mkl_2 hc37 p1 p2 p3; rw [e, hc37]; exact St12), Or.inr ⟨hc1, own_IB_warm I X12.warmed⟩⟩
      · refine RestW.via (fun t k => XS.icmpYes X0.here hx rfl (pc0 := 37) (pc' := 59) rfl (hb hby d1_37) rfl (feq hc37).2 (by decide) (by decide) k) ?_
        show RestW p.tables e below s _ _ _ (s₁.setTop (mkF m 59 #[.val (.int p0), .val (.int p1), .val (.int p2), .val (.int p3)] []))
        obtain ⟨T13, h13, X13, e13, E13, A13, D13, -, st13⟩ := newO X0 hx hZ hown (hw _ (List.mem_of_getElem? (i := 7) rfl)) (hw _ (List.mem_of_getElem? (i := 8) rfl)) (hw _ (List.mem_of_getElem? (i := 9) rfl)) eh0 (g := (mkF m 59 #[.val (.int p0), .val (.int p1), .val (.int p2), .val (.int p3)] [])) rfl (hb hby d1_59) (by decide) (by decide)
        obtain ⟨b13, gq13⟩ : ∃ z, z = h0.size := ⟨_, rfl⟩
        rw [← gq13] at A13 D13 st13
        have sz_b13 : h0.size ≤ b13 := Nat.le_trans (Keep.refl h0 []).1 (Nat.le_of_eq gq13.symm)
        have g_b13 : n0 ≤ b13 := Nat.le_trans Z0 sz_b13
        have K13 : Keep h0 h13 [] := (Keep.refl h0 []).ext E13
        have E_b13 := A13
        have F_value_b13 : Fld Z h13 b13 "java/lang/String" "value" "[B" .null := D13 (Or.inr (hw _ (List.mem_of_getElem? (i := 23) rfl))) (ty := (.array .byte)) (by decide)
        have F_coder_b13 : Fld Z h13 b13 "java/lang/String" "coder" "B" (.int (0 : Int32)) := D13 (Or.inr (hw _ (List.mem_of_getElem? (i := 24) rfl))) (ty := .byte) (by decide)
        refine RestW.via (fun t k => st13 t k) ?_
        show RestW p.tables e below s _ _ _ (T13.setTop (mkF m 62 #[.val (.int p0), .val (.int p1), .val (.int p2), .val (.int p3)] [(.ref b13)]))
        refine RestW.via (fun t k => XS.dup X13.here hx rfl (hb hby d1_62) rfl rfl k) ?_
        show RestW p.tables e below s _ _ _ (T13.setTop (mkF m 63 #[.val (.int p0), .val (.int p1), .val (.int p2), .val (.int p3)] [(.ref b13), (.ref b13)]))
        refine RestW.via (fun t k => XS.iconst X13.here hx rfl (hb hby d1_63) k) ?_
        show RestW p.tables e below s _ _ _ (T13.setTop (mkF m 64 #[.val (.int p0), .val (.int p1), .val (.int p2), .val (.int p3)] [(.int (3 : Int32)), (.ref b13), (.ref b13)]))
        obtain ⟨T14, h14, k14, X14, e14, E14, A14, st14⟩ := newP X13 hx hZ (hw _ (List.mem_of_getElem? (i := 10) rfl)) e13 (g := (mkF m 64 #[.val (.int p0), .val (.int p1), .val (.int p2), .val (.int p3)] [(.int (3 : Int32)), (.ref b13), (.ref b13)])) rfl (hb hby d1_64) rfl (by decide) (cap := 3) (by decide) (by decide) (by decide) (by decide)
        obtain ⟨b14, gq14⟩ : ∃ z, z = h13.size := ⟨_, rfl⟩
        rw [← gq14] at A14 st14
        have sz_b14 : h0.size ≤ b14 := Nat.le_trans K13.1 (Nat.le_of_eq gq14.symm)
        have g_b14 : n0 ≤ b14 := Nat.le_trans Z0 sz_b14
        have ne_b13_b14 : b13 ≠ b14 := Nat.ne_of_lt (Nat.lt_of_lt_of_le E_b13.lt (Nat.le_of_eq gq14.symm))
        have K14 : Keep h0 h14 [] := K13.ext E14
        have V_b14 := Arv.new A14 (by decide)
        have V_b14 : Arv Z h14 b14 k14 .char (3 : Int32) [(.int (0 : Int32)), (.int (0 : Int32)), (.int (0 : Int32))] (.int (0 : Int32)) := V_b14.pad (pad_rep [] (.int (0 : Int32)) 3)
        refine RestW.via (fun t k => st14 t k) ?_
        show RestW p.tables e below s _ _ _ (T14.setTop (mkF m 66 #[.val (.int p0), .val (.int p1), .val (.int p2), .val (.int p3)] [(.ref b14), (.ref b13), (.ref b13)]))
        refine RestW.via (fun t k => XS.dup X14.here hx rfl (hb hby d1_66) rfl rfl k) ?_
        show RestW p.tables e below s _ _ _ (T14.setTop (mkF m 67 #[.val (.int p0), .val (.int p1), .val (.int p2), .val (.int p3)] [(.ref b14), (.ref b14), (.ref b13), (.ref b13)]))
        refine RestW.via (fun t k => XS.iconst X14.here hx rfl (hb hby d1_67) k) ?_
        show RestW p.tables e below s _ _ _ (T14.setTop (mkF m 68 #[.val (.int p0), .val (.int p1), .val (.int p2), .val (.int p3)] [(.int (0 : Int32)), (.ref b14), (.ref b14), (.ref b13), (.ref b13)]))
        refine RestW.via (fun t k => XS.iloadN X14.here hx rfl (hb hby d1_68) rfl k) ?_
        show RestW p.tables e below s _ _ _ (T14.setTop (mkF m 69 #[.val (.int p0), .val (.int p1), .val (.int p2), .val (.int p3)] [(.int p1), (.int (0 : Int32)), (.ref b14), (.ref b14), (.ref b13), (.ref b13)]))
        obtain ⟨cl15, Ar15, qa15, Sa15, Pa15, Ha15, Ga15⟩ := id V_b14
        have hin15 := inb_of (j := (0 : Int32)) Sa15 ⟨by decide, by decide⟩
        obtain ⟨T15, h15, X15, e15, W15, st15⟩ := stC X14 hx hZ e14 Ar15 (j := (0 : Int32)) hin15 (g := (mkF m 69 #[.val (.int p0), .val (.int p1), .val (.int p2), .val (.int p3)] [(.int p1), (.int (0 : Int32)), (.ref b14), (.ref b14), (.ref b13), (.ref b13)])) rfl rfl (hb hby d1_69)
        refine RestW.via (fun t k => st15 t k) ?_
        have N15 := Fr.snoc X15 N0 g_b14
        have K15 : Keep h0 h15 [] := K14.wr W15 (Or.inr sz_b14)
        have V15 : Arv Z h15 b14 k14 .char (3 : Int32) [(.int p1), (.int (0 : Int32)), (.int (0 : Int32))] (.int (0 : Int32)) := by have q := Arv.set Ar15 qa15 Sa15 Pa15 Ha15 Ga15 (fits_nar_char _) W15 0 rfl (Nat.le_of_ble_eq_true rfl); rw [own_nc h1] at q; exact q
        show RestW p.tables e below s _ _ _ (T15.setTop (mkF m 70 #[.val (.int p0), .val (.int p1), .val (.int p2), .val (.int p3)] [(.ref b14), (.ref b13), (.ref b13)]))
        refine RestW.via (fun t k => XS.dup X15.here hx rfl (hb hby d1_70) rfl rfl k) ?_
        show RestW p.tables e below s _ _ _ (T15.setTop (mkF m 71 #[.val (.int p0), .val (.int p1), .val (.int p2), .val (.int p3)] [(.ref b14), (.ref b14), (.ref b13), (.ref b13)]))
        refine RestW.via (fun t k => XS.iconst X15.here hx rfl (hb hby d1_71) k) ?_
        show RestW p.tables e below s _ _ _ (T15.setTop (mkF m 72 #[.val (.int p0), .val (.int p1), .val (.int p2), .val (.int p3)] [(.int (1 : Int32)), (.ref b14), (.ref b14), (.ref b13), (.ref b13)]))
        refine RestW.via (fun t k => XS.iloadN X15.here hx rfl (hb hby d1_72) rfl k) ?_
        show RestW p.tables e below s _ _ _ (T15.setTop (mkF m 73 #[.val (.int p0), .val (.int p1), .val (.int p2), .val (.int p3)] [(.int p2), (.int (1 : Int32)), (.ref b14), (.ref b14), (.ref b13), (.ref b13)]))
        obtain ⟨cl16, Ar16, qa16, Sa16, Pa16, Ha16, Ga16⟩ := id V15
        have hin16 := inb_of (j := (1 : Int32)) Sa16 ⟨by decide, by decide⟩
        obtain ⟨T16, h16, X16, e16, W16, st16⟩ := stC X15 hx hZ e15 Ar16 (j := (1 : Int32)) hin16 (g := (mkF m 73 #[.val (.int p0), .val (.int p1), .val (.int p2), .val (.int p3)] [(.int p2), (.int (1 : Int32)), (.ref b14), (.ref b14), (.ref b13), (.ref b13)])) rfl rfl (hb hby d1_73)
        refine RestW.via (fun t k => st16 t k) ?_
        have N16 := Fr.snoc X16 N15 g_b14
        have K16 : Keep h0 h16 [] := K15.wr W16 (Or.inr sz_b14)
        have V16 : Arv Z h16 b14 k14 .char (3 : Int32) [(.int p1), (.int p2), (.int (0 : Int32))] (.int (0 : Int32)) := by have q := Arv.set Ar16 qa16 Sa16 Pa16 Ha16 Ga16 (fits_nar_char _) W16 1 rfl (Nat.le_of_ble_eq_true rfl); rw [own_nc h2] at q; exact q
        show RestW p.tables e below s _ _ _ (T16.setTop (mkF m 74 #[.val (.int p0), .val (.int p1), .val (.int p2), .val (.int p3)] [(.ref b14), (.ref b13), (.ref b13)]))
        refine RestW.via (fun t k => XS.dup X16.here hx rfl (hb hby d1_74) rfl rfl k) ?_
        show RestW p.tables e below s _ _ _ (T16.setTop (mkF m 75 #[.val (.int p0), .val (.int p1), .val (.int p2), .val (.int p3)] [(.ref b14), (.ref b14), (.ref b13), (.ref b13)]))
        refine RestW.via (fun t k => XS.iconst X16.here hx rfl (hb hby d1_75) k) ?_
        show RestW p.tables e below s _ _ _ (T16.setTop (mkF m 76 #[.val (.int p0), .val (.int p1), .val (.int p2), .val (.int p3)] [(.int (2 : Int32)), (.ref b14), (.ref b14), (.ref b13), (.ref b13)]))
        refine RestW.via (fun t k => XS.iloadN X16.here hx rfl (hb hby d1_76) rfl k) ?_
        show RestW p.tables e below s _ _ _ (T16.setTop (mkF m 77 #[.val (.int p0), .val (.int p1), .val (.int p2), .val (.int p3)] [(.int p3), (.int (2 : Int32)), (.ref b14), (.ref b14), (.ref b13), (.ref b13)]))
        obtain ⟨cl17, Ar17, qa17, Sa17, Pa17, Ha17, Ga17⟩ := id V16
        have hin17 := inb_of (j := (2 : Int32)) Sa17 ⟨by decide, by decide⟩
        obtain ⟨T17, h17, X17, e17, W17, st17⟩ := stC X16 hx hZ e16 Ar17 (j := (2 : Int32)) hin17 (g := (mkF m 77 #[.val (.int p0), .val (.int p1), .val (.int p2), .val (.int p3)] [(.int p3), (.int (2 : Int32)), (.ref b14), (.ref b14), (.ref b13), (.ref b13)])) rfl rfl (hb hby d1_77)
        refine RestW.via (fun t k => st17 t k) ?_
        have N17 := Fr.snoc X17 N16 g_b14
        have K17 : Keep h0 h17 [] := K16.wr W17 (Or.inr sz_b14)
        have V17 : Arv Z h17 b14 k14 .char (3 : Int32) [(.int p1), (.int p2), (.int p3)] (.int (0 : Int32)) := by have q := Arv.set Ar17 qa17 Sa17 Pa17 Ha17 Ga17 (fits_nar_char _) W17 2 rfl (Nat.le_of_ble_eq_true rfl); rw [own_nc h3] at q; exact q
        show RestW p.tables e below s _ _ _ (T17.setTop (mkF m 78 #[.val (.int p0), .val (.int p1), .val (.int p2), .val (.int p3)] [(.ref b14), (.ref b13), (.ref b13)]))
        obtain ⟨_, _, ⟨T18, L18, k18, n18⟩, -, X18, ⟨Lc18, hQ18, l18, y18, z18⟩, st18⟩ := X17.specialBack hx (y := (⟨"java/lang/String", "<init>", "([C)V"⟩ : MethodName)) rfl hown (mvT hZ (hw _ (List.mem_of_getElem? (i := 11) rfl))) (mvT hZ (hw _ (List.mem_of_getElem? (i := 12) rfl))) (mvT hZ (hw _ (List.mem_of_getElem? (i := 13) rfl))) (by decide) (backOf (W := 1) (rmSI3 l Z aw hw [] b13 b14 k14 ic p1 p2 p3 h17 n0 (Nat.le_trans Z0 K17.1) ((((E_b13.ext E14).wr W15).wr W16).wr W17) ((((F_value_b13.ext E14).other W15 (Or.inl ne_b13_b14)).other W16 (Or.inl ne_b13_b14)).other W17 (Or.inl ne_b13_b14)) ((((F_coder_b13.ext E14).other W15 (Or.inl ne_b13_b14)).other W16 (Or.inl ne_b13_b14)).other W17 (Or.inl ne_b13_b14)) g_b13 V17 h1.2 h2.2 h3.2 (O.keep K17 all0) CS) hZ (hw _ (List.mem_of_getElem? (i := 13) rfl)) (hw _ (List.mem_of_getElem? (i := 9) rfl)) (by decide) (by decide)) (g := (mkF m 78 #[.val (.int p0), .val (.int p1), .val (.int p2), .val (.int p3)] [(.ref b14), (.ref b13), (.ref b13)])) rfl (by rw [hml]; rfl) (Steps.refl _) (a := b13) (argsL := [(.ref b14)]) (rest := [(.ref b13)]) (lenOf pd_5 rfl) rfl (by show 2 * 0 + _ ≤ _; exact Nat.le_of_eq rfl) (hb hby d1_78) (fun _ _ => ⟨rfl, e17, (by decide : 2 + 1 ≤ _), (by decide : 7 + 3 ≤ _)⟩)
        dsimp only [Pt.U, Pt.locs, Pt.cells, Pt.slots] at X18 l18 y18 z18 st18 hQ18
        subst l18 y18 z18
        obtain ⟨h18, e18⟩ : ∃ z, T18.heap = z := ⟨_, rfl⟩
        rw [e18] at hQ18
        obtain ⟨rfl, Nq18, Kq18, va18, kb18, sd18, Fv18, Fc18, Vq18, nb18⟩ := hQ18
        have N18 := Fr.app N17 Nq18
        have K18 : Keep h0 h18 [] := K17.trans Kq18 (allS (Or.inr sz_b13) all0)
        have St18 : own_St Z h18 b13 va18 kb18 (3 : Int32) [(.int (own_by p1)), (.int (own_by p2)), (.int (own_by p3))] := ⟨((((E_b13.ext E14).wr W15).wr W16).wr W17).keep Kq18, Fv18, Fc18, Vq18⟩
        refine RestW.via (fun t k => st18.trans k) ?_
        show RestW p.tables e below s _ _ _ (T18.setTop (mkF m 81 #[.val (.int p0), .val (.int p1), .val (.int p2), .val (.int p3)] [(.ref b13)]))
        refine RestW.ret X18 hS (by rw [e18]; first | exact (Nat.le_trans (Nat.le_trans (Nat.le_trans (Nat.le_trans (Nat.le_trans (Nat.le_trans (Nat.le_refl _) E13.1) E14.1) (Keep.of_wr W15).1) (Keep.of_wr W16).1) (Keep.of_wr W17).1) Kq18.1) | exact Nat.le_refl _) (v := some (.ref b13)) (fun h => by rw [Bd.returns] at h; cases h) hlk (fun fs hr => retOut X18 hx Bd.returns rfl (Or.inr (Or.inr (Or.inr (Or.inr ⟨rfl, rfl, rfl⟩)))) (hb hby d1_81) hr) ?_ (by decide) (by decide)
        rw [e18]
        exact ⟨b13, va18, kb18, rfl, N18, K18, sz_b13, (by have e := own_mkl_3 (own_three hp0 hc1 hc17 hc37) p1 p2 p3; rw [e, (own_three hp0 hc1 hc17 hc37)]; exact St18), Or.inr ⟨hc1, own_IB_warm I X18.warmed⟩⟩
theorem ef_MKw (m : MethodId) (p0 : Int32) (p1 : Int32) (p2 : Int32) (p3 : Int32) : entryFrame m #[(.int p0), (.int p1), (.int p2), (.int p3)] 4 = mkF m 0 #[.val (.int p0), .val (.int p1), .val (.int p2), .val (.int p3)] [] := by first | (simp [entryFrame, mkF, argsToLocals, Value.category, maxLocals]; done) | rfl
def QMKw (Z : State) (p0 : Int32) (p1 : Int32) (p2 : Int32) (p3 : Int32) (ic : Int32) (la : Addr) (lb : Addr) (lk : ClassId) (h0 : Heap) (n0 : Nat) (v : Option Value) (h : Heap) (L : List Loc) (vm : Vm) : Prop := ∃ t va k, v = some (.ref t) ∧ Fr n0 L ∧ Keep h0 h [] ∧ h0.size ≤ t ∧ own_St Z h t va k p0 ((own_mkl p0 p1 p2 p3).map Value.int)
set_option maxRecDepth 65536 in
set_option maxHeartbeats 40000000 in
theorem rmMKw (l : Launch) (Z : State) (aw : Array Value) (hw : ∀ d ∈ tables_1, d.before aw Z = true) (ws : List Jvm.Cond) (p0 : Int32) (p1 : Int32) (p2 : Int32) (p3 : Int32) (ic : Int32) (la : Addr) (lb : Addr) (lk : ClassId) (h0 : Heap) (n0 : Nat) (Z0 : n0 ≤ h0.size) (hp0 : own_n4 p0) (h1 : own_ch p1) (h2 : own_ch p2) (h3 : own_ch p3) (O : Old Z n0 h0) (CS : own_CS Z ic) (hcw : Jvm.Lit.compactW.before aw Z = true) (SL : own_St Z h0 la lb lk (0 : Int32) []) :
    MetFree l (⟨"com/example/surnia/surnia/rdf/UriRefEqualsPinLaw", "mk", "(ICCC)Ljava/lang/String;"⟩ : MethodName) (head1 (Jvm.Cond.code (⟨"com/example/surnia/surnia/rdf/UriRefEqualsPinLaw", "mk", "(ICCC)Ljava/lang/String;"⟩ : MethodName) method_2_code 4 (some (.object "java/lang/String")) :: ws) ({ frames := 4, cells := 3, slots := 10, locals := 66 } : Room)) (fun a U => a = #[(.int p0), (.int p1), (.int p2), (.int p3)] ∧ Z.Warmed39 U.vm ∧ U.heap = h0 ∧ (fun vm => Lit (Z.setVm vm) "java/lang/String" 7 la) U.vm) (fun _ _ _ _ _ => True) (fun _ U o U' => ∃ v L, o = .returned v ∧ QMKw Z p0 p1 p2 p3 ic la lb lk h0 n0 v U'.heap L U'.vm ∧ ReturnedEndW U o U' L ({ frames := 4, cells := 3, slots := 10, locals := 66 } : Room).cells ({ frames := 4, cells := 3, slots := 10, locals := 66 } : Room).slots) := by
  refine MetFree.of_bodySF (plainFor_of_name pn_3) hisR ?_
  intro p e s m args below meth c s₁ Bd hml0 hP hK
  obtain ⟨rfl, hZ, hh, hVP⟩ := hP
  have hx := Bd.exec
  have hby := Bd.bytes
  have hml : c.maxLocals = 4 := hml0
  have hown : s.vm.findClass "com/example/surnia/surnia/rdf/UriRefEqualsPinLaw" = some m.cls := findClass_of_methodNamed Bd.named
  have hnm := (name_of_methodNamed Bd.named Bd.method).1
  have hlk : meth.locks = false := BodyLoose.notSynchronized Bd
  have X0 : Stand p l e ({ frames := 4, cells := 3, slots := 10, locals := 66 } : Room) (s.setVm s.vm) m #[(.int p0), (.int p1), (.int p2), (.int p3)] below meth c s₁ [] 0 0 := Stand.of_body Bd
  have hS : s.Since s.vm h0.size := (State.WarmedH.refl s).since _
  have eh0 : s₁.heap = h0 := by rw [← hh, Bd.state]; rfl
  have N0 := Fr.nil n0
  show RestW p.tables e below s (QMKw Z p0 p1 p2 p3 ic la lb lk h0 n0) _ _ (s₁.setTop (entryFrame m #[(.int p0), (.int p1), (.int p2), (.int p3)] 4))
  refine RestW.via (fun t k => castTop (ef_MKw m p0 p1 p2 p3) k) ?_
  have Li0 := hVP
  show RestW p.tables e below s _ _ _ (s₁.setTop (mkF m 0 #[.val (.int p0), .val (.int p1), .val (.int p2), .val (.int p3)] []))
  refine RestW.via (fun t k => XS.iloadN X0.here hx rfl (hb hby d1_0) rfl k) ?_
  show RestW p.tables e below s _ _ _ (s₁.setTop (mkF m 1 #[.val (.int p0), .val (.int p1), .val (.int p2), .val (.int p3)] [(.int p0)]))
  by_cases hc1 : p0 = (0 : Int32)
  · refine RestW.via (fun t k => XS.ifNo X0.here hx rfl (hb hby d1_1) rfl ((if0 _ _).trans (teq hc1).2) k) ?_
    show RestW p.tables e below s _ _ _ (s₁.setTop (mkF m 4 #[.val (.int p0), .val (.int p1), .val (.int p2), .val (.int p3)] []))
    obtain ⟨T1, h1, X1, e1, E1, A1, D1, -, st1⟩ := newO X0 hx hZ hown (hw _ (List.mem_of_getElem? (i := 7) rfl)) (hw _ (List.mem_of_getElem? (i := 8) rfl)) (hw _ (List.mem_of_getElem? (i := 9) rfl)) eh0 (g := (mkF m 4 #[.val (.int p0), .val (.int p1), .val (.int p2), .val (.int p3)] [])) rfl (hb hby d1_4) (by decide) (by decide)
    obtain ⟨b1, gq1⟩ : ∃ z, z = h0.size := ⟨_, rfl⟩
    rw [← gq1] at A1 D1 st1
    have sz_b1 : h0.size ≤ b1 := Nat.le_trans (Keep.refl h0 []).1 (Nat.le_of_eq gq1.symm)
    have g_b1 : n0 ≤ b1 := Nat.le_trans Z0 sz_b1
    have ne_la_b1 : la ≠ b1 := Nat.ne_of_lt (Nat.lt_of_lt_of_le SL.1.lt (Nat.le_of_eq gq1.symm))
    have ne_lb_b1 : lb ≠ b1 := Nat.ne_of_lt (Nat.lt_of_lt_of_le SL.2.2.2.lt (Nat.le_of_eq gq1.symm))
    have K1 : Keep h0 h1 [] := (Keep.refl h0 []).ext E1
    have E_b1 := A1
    have F_value_b1 : Fld Z h1 b1 "java/lang/String" "value" "[B" .null := D1 (Or.inr (hw _ (List.mem_of_getElem? (i := 23) rfl))) (ty := (.array .byte)) (by decide)
    have F_coder_b1 : Fld Z h1 b1 "java/lang/String" "coder" "B" (.int (0 : Int32)) := D1 (Or.inr (hw _ (List.mem_of_getElem? (i := 24) rfl))) (ty := .byte) (by decide)
    refine RestW.via (fun t k => st1 t k) ?_
    show RestW p.tables e below s _ _ _ (T1.setTop (mkF m 7 #[.val (.int p0), .val (.int p1), .val (.int p2), .val (.int p3)] [(.ref b1)]))
    refine RestW.via (fun t k => XS.dup X1.here hx rfl (hb hby d1_7) rfl rfl k) ?_
    show RestW p.tables e below s _ _ _ (T1.setTop (mkF m 8 #[.val (.int p0), .val (.int p1), .val (.int p2), .val (.int p3)] [(.ref b1), (.ref b1)]))
    refine RestW.via (fun t k => XS.iconst X1.here hx rfl (hb hby d1_8) k) ?_
    show RestW p.tables e below s _ _ _ (T1.setTop (mkF m 9 #[.val (.int p0), .val (.int p1), .val (.int p2), .val (.int p3)] [(.int (0 : Int32)), (.ref b1), (.ref b1)]))
    obtain ⟨T2, h2, k2, X2, e2, E2, A2, st2⟩ := newP X1 hx hZ (hw _ (List.mem_of_getElem? (i := 10) rfl)) e1 (g := (mkF m 9 #[.val (.int p0), .val (.int p1), .val (.int p2), .val (.int p3)] [(.int (0 : Int32)), (.ref b1), (.ref b1)])) rfl (hb hby d1_9) rfl (by decide) (cap := 0) (by decide) (by decide) (by decide) (by decide)
    obtain ⟨b2, gq2⟩ : ∃ z, z = h1.size := ⟨_, rfl⟩
    rw [← gq2] at A2 st2
    have sz_b2 : h0.size ≤ b2 := Nat.le_trans K1.1 (Nat.le_of_eq gq2.symm)
    have g_b2 : n0 ≤ b2 := Nat.le_trans Z0 sz_b2
    have ne_la_b2 : la ≠ b2 := Nat.ne_of_lt (Nat.lt_of_lt_of_le (SL.1.ext E1).lt (Nat.le_of_eq gq2.symm))
    have ne_lb_b2 : lb ≠ b2 := Nat.ne_of_lt (Nat.lt_of_lt_of_le (SL.2.2.2.ext E1).lt (Nat.le_of_eq gq2.symm))
    have ne_b1_b2 : b1 ≠ b2 := Nat.ne_of_lt (Nat.lt_of_lt_of_le E_b1.lt (Nat.le_of_eq gq2.symm))
    have K2 : Keep h0 h2 [] := K1.ext E2
    have V_b2 := Arv.new A2 (by decide)
    have V_b2 : Arv Z h2 b2 k2 .char (0 : Int32) [] (.int (0 : Int32)) := V_b2.pad (pad_rep [] (.int (0 : Int32)) 0)
    refine RestW.via (fun t k => st2 t k) ?_
    show RestW p.tables e below s _ _ _ (T2.setTop (mkF m 11 #[.val (.int p0), .val (.int p1), .val (.int p2), .val (.int p3)] [(.ref b2), (.ref b1), (.ref b1)]))
    obtain ⟨_, _, ⟨T3, L3, k3, n3⟩, -, X3, hSq3, gr3, ⟨Lc3, hQ3, l3, y3, z3⟩, st3⟩ := X2.specialBackS hx (y := (⟨"java/lang/String", "<init>", "([C)V"⟩ : MethodName)) rfl hown (mvT hZ (hw _ (List.mem_of_getElem? (i := 11) rfl))) (mvT hZ (hw _ (List.mem_of_getElem? (i := 12) rfl))) (mvT hZ (hw _ (List.mem_of_getElem? (i := 13) rfl))) (by decide) (own_backV (W := 1) (rmSI0w l Z aw hw [] b1 b2 k2 la lb lk h2 n0 (Nat.le_trans Z0 K2.1) (E_b1.ext E2) (F_value_b1.ext E2) (F_coder_b1.ext E2) g_b1 V_b2 (O.keep K2 all0) (own_St_keep (own_St_keep SL ((Keep.refl _ []).ext E1) nin0 nin0) ((Keep.refl _ []).ext E2) nin0 nin0)) hZ (hw _ (List.mem_of_getElem? (i := 13) rfl)) (hw _ (List.mem_of_getElem? (i := 9) rfl)) (by decide) (by decide) (fun vm' hw' => own_Lit_warm (s := s) Li0 hw'.wide)) (g := (mkF m 11 #[.val (.int p0), .val (.int p1), .val (.int p2), .val (.int p3)] [(.ref b2), (.ref b1), (.ref b1)])) rfl (by rw [hml]; rfl) (Steps.refl _) (a := b1) (argsL := [(.ref b2)]) (rest := [(.ref b1)]) (lenOf pd_5 rfl) rfl (by show 2 * 0 + _ ≤ _; exact Nat.le_of_eq rfl) (hb hby d1_11) (fun _ _ => ⟨rfl, e2, (by decide : 2 + 0 ≤ _), (by decide : 4 + 0 ≤ _)⟩)
    dsimp only [Pt.U, Pt.locs, Pt.cells, Pt.slots] at X3 l3 y3 z3 st3 hQ3 hSq3 gr3
    subst l3 y3 z3
    obtain ⟨X3, hS, hZ, hown⟩ := rebS hS (by rw [e2]; first | exact (Nat.le_trans (Nat.le_trans (Nat.le_refl _) E1.1) E2.1) | exact Nat.le_refl _) X3 hSq3 gr3 hZ hown
    obtain ⟨h3, e3⟩ : ∃ z, T3.heap = z := ⟨_, rfl⟩
    rw [e3] at hQ3
    obtain ⟨rfl, Nq3, Kq3, Fc3, Fv3, Sl3, nb3⟩ := hQ3
    have N3 := Fr.app N0 Nq3
    have K3 : Keep h0 h3 [] := K2.trans Kq3 (allS (Or.inr sz_b1) all0)
    have St3 : own_St Z h3 b1 lb lk (0 : Int32) [] := ⟨(E_b1.ext E2).keep Kq3, Fv3, Fc3, Sl3.2.2.2⟩
    refine RestW.via (fun t k => st3.trans k) ?_
    show RestW p.tables e below s _ _ _ (T3.setTop (mkF m 14 #[.val (.int p0), .val (.int p1), .val (.int p2), .val (.int p3)] [(.ref b1)]))
    refine RestW.ret X3 hS (by rw [e3]; first | exact (Nat.le_of_eq (congrArg Array.size e3)) | exact Nat.le_refl _) (v := some (.ref b1)) (fun h => by rw [Bd.returns] at h; cases h) hlk (fun fs hr => retOut X3 hx Bd.returns rfl (Or.inr (Or.inr (Or.inr (Or.inr ⟨rfl, rfl, rfl⟩)))) (hb hby d1_14) hr) ?_ (by decide) (by decide)
    rw [e3]
    exact ⟨b1, lb, lk, rfl, N3, K3, sz_b1, (by have e := own_mkl_0 hc1 p1 p2 p3; rw [e, hc1]; exact St3)⟩
  · refine RestW.via (fun t k => XS.ifYes X0.here hx rfl (pc0 := 1) (pc' := 15) rfl (hb hby d1_1) rfl ((if0 _ _).trans (feq hc1).2) (by decide) (by decide) k) ?_
    show RestW p.tables e below s _ _ _ (s₁.setTop (mkF m 15 #[.val (.int p0), .val (.int p1), .val (.int p2), .val (.int p3)] []))
    refine RestW.via (fun t k => XS.iloadN X0.here hx rfl (hb hby d1_15) rfl k) ?_
    show RestW p.tables e below s _ _ _ (s₁.setTop (mkF m 16 #[.val (.int p0), .val (.int p1), .val (.int p2), .val (.int p3)] [(.int p0)]))
    refine RestW.via (fun t k => XS.iconst X0.here hx rfl (hb hby d1_16) k) ?_
    show RestW p.tables e below s _ _ _ (s₁.setTop (mkF m 17 #[.val (.int p0), .val (.int p1), .val (.int p2), .val (.int p3)] [(.int (1 : Int32)), (.int p0)]))
    by_cases hc17 : p0 = (1 : Int32)
    · refine RestW.via (fun t k => XS.icmpNo X0.here hx rfl (hb hby d1_17) rfl (teq hc17).2 k) ?_
      show RestW p.tables e below s _ _ _ (s₁.setTop (mkF m 20 #[.val (.int p0), .val (.int p1), .val (.int p2), .val (.int p3)] []))
      obtain ⟨T4, h4, X4, e4, E4, A4, D4, -, st4⟩ := newO X0 hx hZ hown (hw _ (List.mem_of_getElem? (i := 7) rfl)) (hw _ (List.mem_of_getElem? (i := 8) rfl)) (hw _ (List.mem_of_getElem? (i := 9) rfl)) eh0 (g := (mkF m 20 #[.val (.int p0), .val (.int p1), .val (.int p2), .val (.int p3)] [])) rfl (hb hby d1_20) (by decide) (by decide)
      obtain ⟨b4, gq4⟩ : ∃ z, z = h0.size := ⟨_, rfl⟩
      rw [← gq4] at A4 D4 st4
      have sz_b4 : h0.size ≤ b4 := Nat.le_trans (Keep.refl h0 []).1 (Nat.le_of_eq gq4.symm)
      have g_b4 : n0 ≤ b4 := Nat.le_trans Z0 sz_b4
      have ne_la_b4 : la ≠ b4 := Nat.ne_of_lt (Nat.lt_of_lt_of_le SL.1.lt (Nat.le_of_eq gq4.symm))
      have ne_lb_b4 : lb ≠ b4 := Nat.ne_of_lt (Nat.lt_of_lt_of_le SL.2.2.2.lt (Nat.le_of_eq gq4.symm))
      have K4 : Keep h0 h4 [] := (Keep.refl h0 []).ext E4
      have E_b4 := A4
      have F_value_b4 : Fld Z h4 b4 "java/lang/String" "value" "[B" .null := D4 (Or.inr (hw _ (List.mem_of_getElem? (i := 23) rfl))) (ty := (.array .byte)) (by decide)
      have F_coder_b4 : Fld Z h4 b4 "java/lang/String" "coder" "B" (.int (0 : Int32)) := D4 (Or.inr (hw _ (List.mem_of_getElem? (i := 24) rfl))) (ty := .byte) (by decide)
      refine RestW.via (fun t k => st4 t k) ?_
      show RestW p.tables e below s _ _ _ (T4.setTop (mkF m 23 #[.val (.int p0), .val (.int p1), .val (.int p2), .val (.int p3)] [(.ref b4)]))
      refine RestW.via (fun t k => XS.dup X4.here hx rfl (hb hby d1_23) rfl rfl k) ?_
      show RestW p.tables e below s _ _ _ (T4.setTop (mkF m 24 #[.val (.int p0), .val (.int p1), .val (.int p2), .val (.int p3)] [(.ref b4), (.ref b4)]))
      refine RestW.via (fun t k => XS.iconst X4.here hx rfl (hb hby d1_24) k) ?_
      show RestW p.tables e below s _ _ _ (T4.setTop (mkF m 25 #[.val (.int p0), .val (.int p1), .val (.int p2), .val (.int p3)] [(.int (1 : Int32)), (.ref b4), (.ref b4)]))
      obtain ⟨T5, h5, k5, X5, e5, E5, A5, st5⟩ := newP X4 hx hZ (hw _ (List.mem_of_getElem? (i := 10) rfl)) e4 (g := (mkF m 25 #[.val (.int p0), .val (.int p1), .val (.int p2), .val (.int p3)] [(.int (1 : Int32)), (.ref b4), (.ref b4)])) rfl (hb hby d1_25) rfl (by decide) (cap := 1) (by decide) (by decide) (by decide) (by decide)
      obtain ⟨b5, gq5⟩ : ∃ z, z = h4.size := ⟨_, rfl⟩
      rw [← gq5] at A5 st5
      have sz_b5 : h0.size ≤ b5 := Nat.le_trans K4.1 (Nat.le_of_eq gq5.symm)
      have g_b5 : n0 ≤ b5 := Nat.le_trans Z0 sz_b5
      have ne_la_b5 : la ≠ b5 := Nat.ne_of_lt (Nat.lt_of_lt_of_le (SL.1.ext E4).lt (Nat.le_of_eq gq5.symm))
      have ne_lb_b5 : lb ≠ b5 := Nat.ne_of_lt (Nat.lt_of_lt_of_le (SL.2.2.2.ext E4).lt (Nat.le_of_eq gq5.symm))
      have ne_b4_b5 : b4 ≠ b5 := Nat.ne_of_lt (Nat.lt_of_lt_of_le E_b4.lt (Nat.le_of_eq gq5.symm))
      have K5 : Keep h0 h5 [] := K4.ext E5
      have V_b5 := Arv.new A5 (by decide)
      have V_b5 : Arv Z h5 b5 k5 .char (1 : Int32) [(.int (0 : Int32))] (.int (0 : Int32)) := V_b5.pad (pad_rep [] (.int (0 : Int32)) 1)
      refine RestW.via (fun t k => st5 t k) ?_
      show RestW p.tables e below s _ _ _ (T5.setTop (mkF m 27 #[.val (.int p0), .val (.int p1), .val (.int p2), .val (.int p3)] [(.ref b5), (.ref b4), (.ref b4)]))
      refine RestW.via (fun t k => XS.dup X5.here hx rfl (hb hby d1_27) rfl rfl k) ?_
      show RestW p.tables e below s _ _ _ (T5.setTop (mkF m 28 #[.val (.int p0), .val (.int p1), .val (.int p2), .val (.int p3)] [(.ref b5), (.ref b5), (.ref b4), (.ref b4)]))
      refine RestW.via (fun t k => XS.iconst X5.here hx rfl (hb hby d1_28) k) ?_
      show RestW p.tables e below s _ _ _ (T5.setTop (mkF m 29 #[.val (.int p0), .val (.int p1), .val (.int p2), .val (.int p3)] [(.int (0 : Int32)), (.ref b5), (.ref b5), (.ref b4), (.ref b4)]))
      refine RestW.via (fun t k => XS.iloadN X5.here hx rfl (hb hby d1_29) rfl k) ?_
      show RestW p.tables e below s _ _ _ (T5.setTop (mkF m 30 #[.val (.int p0), .val (.int p1), .val (.int p2), .val (.int p3)] [(.int p1), (.int (0 : Int32)), (.ref b5), (.ref b5), (.ref b4), (.ref b4)]))
      obtain ⟨cl6, Ar6, qa6, Sa6, Pa6, Ha6, Ga6⟩ := id V_b5
      have hin6 := inb_of (j := (0 : Int32)) Sa6 ⟨by decide, by decide⟩
      obtain ⟨T6, h6, X6, e6, W6, st6⟩ := stC X5 hx hZ e5 Ar6 (j := (0 : Int32)) hin6 (g := (mkF m 30 #[.val (.int p0), .val (.int p1), .val (.int p2), .val (.int p3)] [(.int p1), (.int (0 : Int32)), (.ref b5), (.ref b5), (.ref b4), (.ref b4)])) rfl rfl (hb hby d1_30)
      refine RestW.via (fun t k => st6 t k) ?_
      have N6 := Fr.snoc X6 N0 g_b5
      have K6 : Keep h0 h6 [] := K5.wr W6 (Or.inr sz_b5)
      have V6 : Arv Z h6 b5 k5 .char (1 : Int32) [(.int p1)] (.int (0 : Int32)) := by have q := Arv.set Ar6 qa6 Sa6 Pa6 Ha6 Ga6 (fits_nar_char _) W6 0 rfl (Nat.le_of_ble_eq_true rfl); rw [own_nc h1] at q; exact q
      show RestW p.tables e below s _ _ _ (T6.setTop (mkF m 31 #[.val (.int p0), .val (.int p1), .val (.int p2), .val (.int p3)] [(.ref b5), (.ref b4), (.ref b4)]))
      obtain ⟨_, _, ⟨T7, L7, k7, n7⟩, -, X7, ⟨Lc7, hQ7, l7, y7, z7⟩, st7⟩ := X6.specialBack hx (y := (⟨"java/lang/String", "<init>", "([C)V"⟩ : MethodName)) rfl hown (mvT hZ (hw _ (List.mem_of_getElem? (i := 11) rfl))) (mvT hZ (hw _ (List.mem_of_getElem? (i := 12) rfl))) (mvT hZ (hw _ (List.mem_of_getElem? (i := 13) rfl))) (by decide) (backOf (W := 1) (rmSI1 l Z aw hw [] b4 b5 k5 ic p1 h6 n0 (Nat.le_trans Z0 K6.1) ((E_b4.ext E5).wr W6) ((F_value_b4.ext E5).other W6 (Or.inl ne_b4_b5)) ((F_coder_b4.ext E5).other W6 (Or.inl ne_b4_b5)) g_b4 V6 h1.2 (O.keep K6 all0) CS) hZ (hw _ (List.mem_of_getElem? (i := 13) rfl)) (hw _ (List.mem_of_getElem? (i := 9) rfl)) (by decide) (by decide)) (g := (mkF m 31 #[.val (.int p0), .val (.int p1), .val (.int p2), .val (.int p3)] [(.ref b5), (.ref b4), (.ref b4)])) rfl (by rw [hml]; rfl) (Steps.refl _) (a := b4) (argsL := [(.ref b5)]) (rest := [(.ref b4)]) (lenOf pd_5 rfl) rfl (by show 2 * 0 + _ ≤ _; exact Nat.le_of_eq rfl) (hb hby d1_31) (fun _ _ => ⟨rfl, e6, (by decide : 2 + 1 ≤ _), (by decide : 5 + 1 ≤ _)⟩)
      dsimp only [Pt.U, Pt.locs, Pt.cells, Pt.slots] at X7 l7 y7 z7 st7 hQ7
      subst l7 y7 z7
      obtain ⟨h7, e7⟩ : ∃ z, T7.heap = z := ⟨_, rfl⟩
      rw [e7] at hQ7
      obtain ⟨rfl, Nq7, Kq7, va7, kb7, sd7, Fv7, Fc7, Vq7, nb7⟩ := hQ7
      have N7 := Fr.app N6 Nq7
      have K7 : Keep h0 h7 [] := K6.trans Kq7 (allS (Or.inr sz_b4) all0)
      have St7 : own_St Z h7 b4 va7 kb7 (1 : Int32) [(.int (own_by p1))] := ⟨((E_b4.ext E5).wr W6).keep Kq7, Fv7, Fc7, Vq7⟩
      refine RestW.via (fun t k => st7.trans k) ?_
      show RestW p.tables e below s _ _ _ (T7.setTop (mkF m 34 #[.val (.int p0), .val (.int p1), .val (.int p2), .val (.int p3)] [(.ref b4)]))
      refine RestW.ret X7 hS (by rw [e7]; first | exact (Nat.le_trans (Nat.le_trans (Nat.le_trans (Nat.le_trans (Nat.le_refl _) E4.1) E5.1) (Keep.of_wr W6).1) Kq7.1) | exact Nat.le_refl _) (v := some (.ref b4)) (fun h => by rw [Bd.returns] at h; cases h) hlk (fun fs hr => retOut X7 hx Bd.returns rfl (Or.inr (Or.inr (Or.inr (Or.inr ⟨rfl, rfl, rfl⟩)))) (hb hby d1_34) hr) ?_ (by decide) (by decide)
      rw [e7]
      exact ⟨b4, va7, kb7, rfl, N7, K7, sz_b4, (by have e := own_mkl_1 hc17 p1 p2 p3; rw [e, hc17]; exact St7)⟩
    · refine RestW.via (fun t k => XS.icmpYes X0.here hx rfl (pc0 := 17) (pc' := 35) rfl (hb hby d1_17) rfl (feq hc17).2 (by decide) (by decide) k) ?_
      show RestW p.tables e below s _ _ _ (s₁.setTop (mkF m 35 #[.val (.int p0), .val (.int p1), .val (.int p2), .val (.int p3)] []))
      refine RestW.via (fun t k => XS.iloadN X0.here hx rfl (hb hby d1_35) rfl k) ?_
      show RestW p.tables e below s _ _ _ (s₁.setTop (mkF m 36 #[.val (.int p0), .val (.int p1), .val (.int p2), .val (.int p3)] [(.int p0)]))
      refine RestW.via (fun t k => XS.iconst X0.here hx rfl (hb hby d1_36) k) ?_
      show RestW p.tables e below s _ _ _ (s₁.setTop (mkF m 37 #[.val (.int p0), .val (.int p1), .val (.int p2), .val (.int p3)] [(.int (2 : Int32)), (.int p0)]))
      by_cases hc37 : p0 = (2 : Int32)
      · refine RestW.via (fun t k => XS.icmpNo X0.here hx rfl (hb hby d1_37) rfl (teq hc37).2 k) ?_
        show RestW p.tables e below s _ _ _ (s₁.setTop (mkF m 40 #[.val (.int p0), .val (.int p1), .val (.int p2), .val (.int p3)] []))
        obtain ⟨T8, h8, X8, e8, E8, A8, D8, -, st8⟩ := newO X0 hx hZ hown (hw _ (List.mem_of_getElem? (i := 7) rfl)) (hw _ (List.mem_of_getElem? (i := 8) rfl)) (hw _ (List.mem_of_getElem? (i := 9) rfl)) eh0 (g := (mkF m 40 #[.val (.int p0), .val (.int p1), .val (.int p2), .val (.int p3)] [])) rfl (hb hby d1_40) (by decide) (by decide)
        obtain ⟨b8, gq8⟩ : ∃ z, z = h0.size := ⟨_, rfl⟩
        rw [← gq8] at A8 D8 st8
        have sz_b8 : h0.size ≤ b8 := Nat.le_trans (Keep.refl h0 []).1 (Nat.le_of_eq gq8.symm)
        have g_b8 : n0 ≤ b8 := Nat.le_trans Z0 sz_b8
        have ne_la_b8 : la ≠ b8 := Nat.ne_of_lt (Nat.lt_of_lt_of_le SL.1.lt (Nat.le_of_eq gq8.symm))
        have ne_lb_b8 : lb ≠ b8 := Nat.ne_of_lt (Nat.lt_of_lt_of_le SL.2.2.2.lt (Nat.le_of_eq gq8.symm))
        have K8 : Keep h0 h8 [] := (Keep.refl h0 []).ext E8
        have E_b8 := A8
        have F_value_b8 : Fld Z h8 b8 "java/lang/String" "value" "[B" .null := D8 (Or.inr (hw _ (List.mem_of_getElem? (i := 23) rfl))) (ty := (.array .byte)) (by decide)
        have F_coder_b8 : Fld Z h8 b8 "java/lang/String" "coder" "B" (.int (0 : Int32)) := D8 (Or.inr (hw _ (List.mem_of_getElem? (i := 24) rfl))) (ty := .byte) (by decide)
        refine RestW.via (fun t k => st8 t k) ?_
        show RestW p.tables e below s _ _ _ (T8.setTop (mkF m 43 #[.val (.int p0), .val (.int p1), .val (.int p2), .val (.int p3)] [(.ref b8)]))
        refine RestW.via (fun t k => XS.dup X8.here hx rfl (hb hby d1_43) rfl rfl k) ?_
        show RestW p.tables e below s _ _ _ (T8.setTop (mkF m 44 #[.val (.int p0), .val (.int p1), .val (.int p2), .val (.int p3)] [(.ref b8), (.ref b8)]))
        refine RestW.via (fun t k => XS.iconst X8.here hx rfl (hb hby d1_44) k) ?_
        show RestW p.tables e below s _ _ _ (T8.setTop (mkF m 45 #[.val (.int p0), .val (.int p1), .val (.int p2), .val (.int p3)] [(.int (2 : Int32)), (.ref b8), (.ref b8)]))
        obtain ⟨T9, h9, k9, X9, e9, E9, A9, st9⟩ := newP X8 hx hZ (hw _ (List.mem_of_getElem? (i := 10) rfl)) e8 (g := (mkF m 45 #[.val (.int p0), .val (.int p1), .val (.int p2), .val (.int p3)] [(.int (2 : Int32)), (.ref b8), (.ref b8)])) rfl (hb hby d1_45) rfl (by decide) (cap := 2) (by decide) (by decide) (by decide) (by decide)
        obtain ⟨b9, gq9⟩ : ∃ z, z = h8.size := ⟨_, rfl⟩
        rw [← gq9] at A9 st9
        have sz_b9 : h0.size ≤ b9 := Nat.le_trans K8.1 (Nat.le_of_eq gq9.symm)
        have g_b9 : n0 ≤ b9 := Nat.le_trans Z0 sz_b9
        have ne_la_b9 : la ≠ b9 := Nat.ne_of_lt (Nat.lt_of_lt_of_le (SL.1.ext E8).lt (Nat.le_of_eq gq9.symm))
        have ne_lb_b9 : lb ≠ b9 := Nat.ne_of_lt (Nat.lt_of_lt_of_le (SL.2.2.2.ext E8).lt (Nat.le_of_eq gq9.symm))
        have ne_b8_b9 : b8 ≠ b9 := Nat.ne_of_lt (Nat.lt_of_lt_of_le E_b8.lt (Nat.le_of_eq gq9.symm))
        have K9 : Keep h0 h9 [] := K8.ext E9
        have V_b9 := Arv.new A9 (by decide)
        have V_b9 : Arv Z h9 b9 k9 .char (2 : Int32) [(.int (0 : Int32)), (.int (0 : Int32))] (.int (0 : Int32)) := V_b9.pad (pad_rep [] (.int (0 : Int32)) 2)
        refine RestW.via (fun t k => st9 t k) ?_
        show RestW p.tables e below s _ _ _ (T9.setTop (mkF m 47 #[.val (.int p0), .val (.int p1), .val (.int p2), .val (.int p3)] [(.ref b9), (.ref b8), (.ref b8)]))
        refine RestW.via (fun t k => XS.dup X9.here hx rfl (hb hby d1_47) rfl rfl k) ?_
        show RestW p.tables e below s _ _ _ (T9.setTop (mkF m 48 #[.val (.int p0), .val (.int p1), .val (.int p2), .val (.int p3)] [(.ref b9), (.ref b9), (.ref b8), (.ref b8)]))
        refine RestW.via (fun t k => XS.iconst X9.here hx rfl (hb hby d1_48) k) ?_
        show RestW p.tables e below s _ _ _ (T9.setTop (mkF m 49 #[.val (.int p0), .val (.int p1), .val (.int p2), .val (.int p3)] [(.int (0 : Int32)), (.ref b9), (.ref b9), (.ref b8), (.ref b8)]))
        refine RestW.via (fun t k => XS.iloadN X9.here hx rfl (hb hby d1_49) rfl k) ?_
        show RestW p.tables e below s _ _ _ (T9.setTop (mkF m 50 #[.val (.int p0), .val (.int p1), .val (.int p2), .val (.int p3)] [(.int p1), (.int (0 : Int32)), (.ref b9), (.ref b9), (.ref b8), (.ref b8)]))
        obtain ⟨cl10, Ar10, qa10, Sa10, Pa10, Ha10, Ga10⟩ := id V_b9
        have hin10 := inb_of (j := (0 : Int32)) Sa10 ⟨by decide, by decide⟩
        obtain ⟨T10, h10, X10, e10, W10, st10⟩ := stC X9 hx hZ e9 Ar10 (j := (0 : Int32)) hin10 (g := (mkF m 50 #[.val (.int p0), .val (.int p1), .val (.int p2), .val (.int p3)] [(.int p1), (.int (0 : Int32)), (.ref b9), (.ref b9), (.ref b8), (.ref b8)])) rfl rfl (hb hby d1_50)
        refine RestW.via (fun t k => st10 t k) ?_
        have N10 := Fr.snoc X10 N0 g_b9
        have K10 : Keep h0 h10 [] := K9.wr W10 (Or.inr sz_b9)
        have V10 : Arv Z h10 b9 k9 .char (2 : Int32) [(.int p1), (.int (0 : Int32))] (.int (0 : Int32)) := by have q := Arv.set Ar10 qa10 Sa10 Pa10 Ha10 Ga10 (fits_nar_char _) W10 0 rfl (Nat.le_of_ble_eq_true rfl); rw [own_nc h1] at q; exact q
        show RestW p.tables e below s _ _ _ (T10.setTop (mkF m 51 #[.val (.int p0), .val (.int p1), .val (.int p2), .val (.int p3)] [(.ref b9), (.ref b8), (.ref b8)]))
        refine RestW.via (fun t k => XS.dup X10.here hx rfl (hb hby d1_51) rfl rfl k) ?_
        show RestW p.tables e below s _ _ _ (T10.setTop (mkF m 52 #[.val (.int p0), .val (.int p1), .val (.int p2), .val (.int p3)] [(.ref b9), (.ref b9), (.ref b8), (.ref b8)]))
        refine RestW.via (fun t k => XS.iconst X10.here hx rfl (hb hby d1_52) k) ?_
        show RestW p.tables e below s _ _ _ (T10.setTop (mkF m 53 #[.val (.int p0), .val (.int p1), .val (.int p2), .val (.int p3)] [(.int (1 : Int32)), (.ref b9), (.ref b9), (.ref b8), (.ref b8)]))
        refine RestW.via (fun t k => XS.iloadN X10.here hx rfl (hb hby d1_53) rfl k) ?_
        show RestW p.tables e below s _ _ _ (T10.setTop (mkF m 54 #[.val (.int p0), .val (.int p1), .val (.int p2), .val (.int p3)] [(.int p2), (.int (1 : Int32)), (.ref b9), (.ref b9), (.ref b8), (.ref b8)]))
        obtain ⟨cl11, Ar11, qa11, Sa11, Pa11, Ha11, Ga11⟩ := id V10
        have hin11 := inb_of (j := (1 : Int32)) Sa11 ⟨by decide, by decide⟩
        obtain ⟨T11, h11, X11, e11, W11, st11⟩ := stC X10 hx hZ e10 Ar11 (j := (1 : Int32)) hin11 (g := (mkF m 54 #[.val (.int p0), .val (.int p1), .val (.int p2), .val (.int p3)] [(.int p2), (.int (1 : Int32)), (.ref b9), (.ref b9), (.ref b8), (.ref b8)])) rfl rfl (hb hby d1_54)
        refine RestW.via (fun t k => st11 t k) ?_
        have N11 := Fr.snoc X11 N10 g_b9
        have K11 : Keep h0 h11 [] := K10.wr W11 (Or.inr sz_b9)
        have V11 : Arv Z h11 b9 k9 .char (2 : Int32) [(.int p1), (.int p2)] (.int (0 : Int32)) := by have q := Arv.set Ar11 qa11 Sa11 Pa11 Ha11 Ga11 (fits_nar_char _) W11 1 rfl (Nat.le_of_ble_eq_true rfl); rw [own_nc h2] at q; exact q
        show RestW p.tables e below s _ _ _ (T11.setTop (mkF m 55 #[.val (.int p0), .val (.int p1), .val (.int p2), .val (.int p3)] [(.ref b9), (.ref b8), (.ref b8)]))
        obtain ⟨_, _, ⟨T12, L12, k12, n12⟩, -, X12, ⟨Lc12, hQ12, l12, y12, z12⟩, st12⟩ := X11.specialBack hx (y := (⟨"java/lang/String", "<init>", "([C)V"⟩ : MethodName)) rfl hown (mvT hZ (hw _ (List.mem_of_getElem? (i := 11) rfl))) (mvT hZ (hw _ (List.mem_of_getElem? (i := 12) rfl))) (mvT hZ (hw _ (List.mem_of_getElem? (i := 13) rfl))) (by decide) (backOf (W := 1) (rmSI2 l Z aw hw [] b8 b9 k9 ic p1 p2 h11 n0 (Nat.le_trans Z0 K11.1) (((E_b8.ext E9).wr W10).wr W11) (((F_value_b8.ext E9).other W10 (Or.inl ne_b8_b9)).other W11 (Or.inl ne_b8_b9)) (((F_coder_b8.ext E9).other W10 (Or.inl ne_b8_b9)).other W11 (Or.inl ne_b8_b9)) g_b8 V11 h1.2 h2.2 (O.keep K11 all0) CS) hZ (hw _ (List.mem_of_getElem? (i := 13) rfl)) (hw _ (List.mem_of_getElem? (i := 9) rfl)) (by decide) (by decide)) (g := (mkF m 55 #[.val (.int p0), .val (.int p1), .val (.int p2), .val (.int p3)] [(.ref b9), (.ref b8), (.ref b8)])) rfl (by rw [hml]; rfl) (Steps.refl _) (a := b8) (argsL := [(.ref b9)]) (rest := [(.ref b8)]) (lenOf pd_5 rfl) rfl (by show 2 * 0 + _ ≤ _; exact Nat.le_of_eq rfl) (hb hby d1_55) (fun _ _ => ⟨rfl, e11, (by decide : 2 + 1 ≤ _), (by decide : 6 + 2 ≤ _)⟩)
        dsimp only [Pt.U, Pt.locs, Pt.cells, Pt.slots] at X12 l12 y12 z12 st12 hQ12
        subst l12 y12 z12
        obtain ⟨h12, e12⟩ : ∃ z, T12.heap = z := ⟨_, rfl⟩
        rw [e12] at hQ12
        obtain ⟨rfl, Nq12, Kq12, va12, kb12, sd12, Fv12, Fc12, Vq12, nb12⟩ := hQ12
        have N12 := Fr.app N11 Nq12
        have K12 : Keep h0 h12 [] := K11.trans Kq12 (allS (Or.inr sz_b8) all0)
        have St12 : own_St Z h12 b8 va12 kb12 (2 : Int32) [(.int (own_by p1)), (.int (own_by p2))] := ⟨(((E_b8.ext E9).wr W10).wr W11).keep Kq12, Fv12, Fc12, Vq12⟩
        refine RestW.via (fun t k => st12.trans k) ?_
        show RestW p.tables e below s _ _ _ (T12.setTop (mkF m 58 #[.val (.int p0), .val (.int p1), .val (.int p2), .val (.int p3)] [(.ref b8)]))
        refine RestW.ret X12 hS (by rw [e12]; first | exact (Nat.le_trans (Nat.le_trans (Nat.le_trans (Nat.le_trans (Nat.le_trans (Nat.le_refl _) E8.1) E9.1) (Keep.of_wr W10).1) (Keep.of_wr W11).1) Kq12.1) | exact Nat.le_refl _) (v := some (.ref b8)) (fun h => by rw [Bd.returns] at h; cases h) hlk (fun fs hr => retOut X12 hx Bd.returns rfl (Or.inr (Or.inr (Or.inr (Or.inr ⟨rfl, rfl, rfl⟩)))) (hb hby d1_58) hr) ?_ (by decide) (by decide)
        rw [e12]
        exact ⟨b8, va12, kb12, rfl, N12, K12, sz_b8, (by have e := own_mkl_2 hc37 p1 p2 p3; rw [e, hc37]; exact St12)⟩
      · refine RestW.via (fun t k => XS.icmpYes X0.here hx rfl (pc0 := 37) (pc' := 59) rfl (hb hby d1_37) rfl (feq hc37).2 (by decide) (by decide) k) ?_
        show RestW p.tables e below s _ _ _ (s₁.setTop (mkF m 59 #[.val (.int p0), .val (.int p1), .val (.int p2), .val (.int p3)] []))
        obtain ⟨T13, h13, X13, e13, E13, A13, D13, -, st13⟩ := newO X0 hx hZ hown (hw _ (List.mem_of_getElem? (i := 7) rfl)) (hw _ (List.mem_of_getElem? (i := 8) rfl)) (hw _ (List.mem_of_getElem? (i := 9) rfl)) eh0 (g := (mkF m 59 #[.val (.int p0), .val (.int p1), .val (.int p2), .val (.int p3)] [])) rfl (hb hby d1_59) (by decide) (by decide)
        obtain ⟨b13, gq13⟩ : ∃ z, z = h0.size := ⟨_, rfl⟩
        rw [← gq13] at A13 D13 st13
        have sz_b13 : h0.size ≤ b13 := Nat.le_trans (Keep.refl h0 []).1 (Nat.le_of_eq gq13.symm)
        have g_b13 : n0 ≤ b13 := Nat.le_trans Z0 sz_b13
        have ne_la_b13 : la ≠ b13 := Nat.ne_of_lt (Nat.lt_of_lt_of_le SL.1.lt (Nat.le_of_eq gq13.symm))
        have ne_lb_b13 : lb ≠ b13 := Nat.ne_of_lt (Nat.lt_of_lt_of_le SL.2.2.2.lt (Nat.le_of_eq gq13.symm))
        have K13 : Keep h0 h13 [] := (Keep.refl h0 []).ext E13
        have E_b13 := A13
        have F_value_b13 : Fld Z h13 b13 "java/lang/String" "value" "[B" .null := D13 (Or.inr (hw _ (List.mem_of_getElem? (i := 23) rfl))) (ty := (.array .byte)) (by decide)
        have F_coder_b13 : Fld Z h13 b13 "java/lang/String" "coder" "B" (.int (0 : Int32)) := D13 (Or.inr (hw _ (List.mem_of_getElem? (i := 24) rfl))) (ty := .byte) (by decide)
        refine RestW.via (fun t k => st13 t k) ?_
        show RestW p.tables e below s _ _ _ (T13.setTop (mkF m 62 #[.val (.int p0), .val (.int p1), .val (.int p2), .val (.int p3)] [(.ref b13)]))
        refine RestW.via (fun t k => XS.dup X13.here hx rfl (hb hby d1_62) rfl rfl k) ?_
        show RestW p.tables e below s _ _ _ (T13.setTop (mkF m 63 #[.val (.int p0), .val (.int p1), .val (.int p2), .val (.int p3)] [(.ref b13), (.ref b13)]))
        refine RestW.via (fun t k => XS.iconst X13.here hx rfl (hb hby d1_63) k) ?_
        show RestW p.tables e below s _ _ _ (T13.setTop (mkF m 64 #[.val (.int p0), .val (.int p1), .val (.int p2), .val (.int p3)] [(.int (3 : Int32)), (.ref b13), (.ref b13)]))
        obtain ⟨T14, h14, k14, X14, e14, E14, A14, st14⟩ := newP X13 hx hZ (hw _ (List.mem_of_getElem? (i := 10) rfl)) e13 (g := (mkF m 64 #[.val (.int p0), .val (.int p1), .val (.int p2), .val (.int p3)] [(.int (3 : Int32)), (.ref b13), (.ref b13)])) rfl (hb hby d1_64) rfl (by decide) (cap := 3) (by decide) (by decide) (by decide) (by decide)
        obtain ⟨b14, gq14⟩ : ∃ z, z = h13.size := ⟨_, rfl⟩
        rw [← gq14] at A14 st14
        have sz_b14 : h0.size ≤ b14 := Nat.le_trans K13.1 (Nat.le_of_eq gq14.symm)
        have g_b14 : n0 ≤ b14 := Nat.le_trans Z0 sz_b14
        have ne_la_b14 : la ≠ b14 := Nat.ne_of_lt (Nat.lt_of_lt_of_le (SL.1.ext E13).lt (Nat.le_of_eq gq14.symm))
        have ne_lb_b14 : lb ≠ b14 := Nat.ne_of_lt (Nat.lt_of_lt_of_le (SL.2.2.2.ext E13).lt (Nat.le_of_eq gq14.symm))
        have ne_b13_b14 : b13 ≠ b14 := Nat.ne_of_lt (Nat.lt_of_lt_of_le E_b13.lt (Nat.le_of_eq gq14.symm))
        have K14 : Keep h0 h14 [] := K13.ext E14
        have V_b14 := Arv.new A14 (by decide)
        have V_b14 : Arv Z h14 b14 k14 .char (3 : Int32) [(.int (0 : Int32)), (.int (0 : Int32)), (.int (0 : Int32))] (.int (0 : Int32)) := V_b14.pad (pad_rep [] (.int (0 : Int32)) 3)
        refine RestW.via (fun t k => st14 t k) ?_
        show RestW p.tables e below s _ _ _ (T14.setTop (mkF m 66 #[.val (.int p0), .val (.int p1), .val (.int p2), .val (.int p3)] [(.ref b14), (.ref b13), (.ref b13)]))
        refine RestW.via (fun t k => XS.dup X14.here hx rfl (hb hby d1_66) rfl rfl k) ?_
        show RestW p.tables e below s _ _ _ (T14.setTop (mkF m 67 #[.val (.int p0), .val (.int p1), .val (.int p2), .val (.int p3)] [(.ref b14), (.ref b14), (.ref b13), (.ref b13)]))
        refine RestW.via (fun t k => XS.iconst X14.here hx rfl (hb hby d1_67) k) ?_
        show RestW p.tables e below s _ _ _ (T14.setTop (mkF m 68 #[.val (.int p0), .val (.int p1), .val (.int p2), .val (.int p3)] [(.int (0 : Int32)), (.ref b14), (.ref b14), (.ref b13), (.ref b13)]))
        refine RestW.via (fun t k => XS.iloadN X14.here hx rfl (hb hby d1_68) rfl k) ?_
        show RestW p.tables e below s _ _ _ (T14.setTop (mkF m 69 #[.val (.int p0), .val (.int p1), .val (.int p2), .val (.int p3)] [(.int p1), (.int (0 : Int32)), (.ref b14), (.ref b14), (.ref b13), (.ref b13)]))
        obtain ⟨cl15, Ar15, qa15, Sa15, Pa15, Ha15, Ga15⟩ := id V_b14
        have hin15 := inb_of (j := (0 : Int32)) Sa15 ⟨by decide, by decide⟩
        obtain ⟨T15, h15, X15, e15, W15, st15⟩ := stC X14 hx hZ e14 Ar15 (j := (0 : Int32)) hin15 (g := (mkF m 69 #[.val (.int p0), .val (.int p1), .val (.int p2), .val (.int p3)] [(.int p1), (.int (0 : Int32)), (.ref b14), (.ref b14), (.ref b13), (.ref b13)])) rfl rfl (hb hby d1_69)
        refine RestW.via (fun t k => st15 t k) ?_
        have N15 := Fr.snoc X15 N0 g_b14
        have K15 : Keep h0 h15 [] := K14.wr W15 (Or.inr sz_b14)
        have V15 : Arv Z h15 b14 k14 .char (3 : Int32) [(.int p1), (.int (0 : Int32)), (.int (0 : Int32))] (.int (0 : Int32)) := by have q := Arv.set Ar15 qa15 Sa15 Pa15 Ha15 Ga15 (fits_nar_char _) W15 0 rfl (Nat.le_of_ble_eq_true rfl); rw [own_nc h1] at q; exact q
        show RestW p.tables e below s _ _ _ (T15.setTop (mkF m 70 #[.val (.int p0), .val (.int p1), .val (.int p2), .val (.int p3)] [(.ref b14), (.ref b13), (.ref b13)]))
        refine RestW.via (fun t k => XS.dup X15.here hx rfl (hb hby d1_70) rfl rfl k) ?_
        show RestW p.tables e below s _ _ _ (T15.setTop (mkF m 71 #[.val (.int p0), .val (.int p1), .val (.int p2), .val (.int p3)] [(.ref b14), (.ref b14), (.ref b13), (.ref b13)]))
        refine RestW.via (fun t k => XS.iconst X15.here hx rfl (hb hby d1_71) k) ?_
        show RestW p.tables e below s _ _ _ (T15.setTop (mkF m 72 #[.val (.int p0), .val (.int p1), .val (.int p2), .val (.int p3)] [(.int (1 : Int32)), (.ref b14), (.ref b14), (.ref b13), (.ref b13)]))
        refine RestW.via (fun t k => XS.iloadN X15.here hx rfl (hb hby d1_72) rfl k) ?_
        show RestW p.tables e below s _ _ _ (T15.setTop (mkF m 73 #[.val (.int p0), .val (.int p1), .val (.int p2), .val (.int p3)] [(.int p2), (.int (1 : Int32)), (.ref b14), (.ref b14), (.ref b13), (.ref b13)]))
        obtain ⟨cl16, Ar16, qa16, Sa16, Pa16, Ha16, Ga16⟩ := id V15
        have hin16 := inb_of (j := (1 : Int32)) Sa16 ⟨by decide, by decide⟩
        obtain ⟨T16, h16, X16, e16, W16, st16⟩ := stC X15 hx hZ e15 Ar16 (j := (1 : Int32)) hin16 (g := (mkF m 73 #[.val (.int p0), .val (.int p1), .val (.int p2), .val (.int p3)] [(.int p2), (.int (1 : Int32)), (.ref b14), (.ref b14), (.ref b13), (.ref b13)])) rfl rfl (hb hby d1_73)
        refine RestW.via (fun t k => st16 t k) ?_
        have N16 := Fr.snoc X16 N15 g_b14
        have K16 : Keep h0 h16 [] := K15.wr W16 (Or.inr sz_b14)
        have V16 : Arv Z h16 b14 k14 .char (3 : Int32) [(.int p1), (.int p2), (.int (0 : Int32))] (.int (0 : Int32)) := by have q := Arv.set Ar16 qa16 Sa16 Pa16 Ha16 Ga16 (fits_nar_char _) W16 1 rfl (Nat.le_of_ble_eq_true rfl); rw [own_nc h2] at q; exact q
        show RestW p.tables e below s _ _ _ (T16.setTop (mkF m 74 #[.val (.int p0), .val (.int p1), .val (.int p2), .val (.int p3)] [(.ref b14), (.ref b13), (.ref b13)]))
        refine RestW.via (fun t k => XS.dup X16.here hx rfl (hb hby d1_74) rfl rfl k) ?_
        show RestW p.tables e below s _ _ _ (T16.setTop (mkF m 75 #[.val (.int p0), .val (.int p1), .val (.int p2), .val (.int p3)] [(.ref b14), (.ref b14), (.ref b13), (.ref b13)]))
        refine RestW.via (fun t k => XS.iconst X16.here hx rfl (hb hby d1_75) k) ?_
        show RestW p.tables e below s _ _ _ (T16.setTop (mkF m 76 #[.val (.int p0), .val (.int p1), .val (.int p2), .val (.int p3)] [(.int (2 : Int32)), (.ref b14), (.ref b14), (.ref b13), (.ref b13)]))
        refine RestW.via (fun t k => XS.iloadN X16.here hx rfl (hb hby d1_76) rfl k) ?_
        show RestW p.tables e below s _ _ _ (T16.setTop (mkF m 77 #[.val (.int p0), .val (.int p1), .val (.int p2), .val (.int p3)] [(.int p3), (.int (2 : Int32)), (.ref b14), (.ref b14), (.ref b13), (.ref b13)]))
        obtain ⟨cl17, Ar17, qa17, Sa17, Pa17, Ha17, Ga17⟩ := id V16
        have hin17 := inb_of (j := (2 : Int32)) Sa17 ⟨by decide, by decide⟩
        obtain ⟨T17, h17, X17, e17, W17, st17⟩ := stC X16 hx hZ e16 Ar17 (j := (2 : Int32)) hin17 (g := (mkF m 77 #[.val (.int p0), .val (.int p1), .val (.int p2), .val (.int p3)] [(.int p3), (.int (2 : Int32)), (.ref b14), (.ref b14), (.ref b13), (.ref b13)])) rfl rfl (hb hby d1_77)
        refine RestW.via (fun t k => st17 t k) ?_
        have N17 := Fr.snoc X17 N16 g_b14
        have K17 : Keep h0 h17 [] := K16.wr W17 (Or.inr sz_b14)
        have V17 : Arv Z h17 b14 k14 .char (3 : Int32) [(.int p1), (.int p2), (.int p3)] (.int (0 : Int32)) := by have q := Arv.set Ar17 qa17 Sa17 Pa17 Ha17 Ga17 (fits_nar_char _) W17 2 rfl (Nat.le_of_ble_eq_true rfl); rw [own_nc h3] at q; exact q
        show RestW p.tables e below s _ _ _ (T17.setTop (mkF m 78 #[.val (.int p0), .val (.int p1), .val (.int p2), .val (.int p3)] [(.ref b14), (.ref b13), (.ref b13)]))
        obtain ⟨_, _, ⟨T18, L18, k18, n18⟩, -, X18, ⟨Lc18, hQ18, l18, y18, z18⟩, st18⟩ := X17.specialBack hx (y := (⟨"java/lang/String", "<init>", "([C)V"⟩ : MethodName)) rfl hown (mvT hZ (hw _ (List.mem_of_getElem? (i := 11) rfl))) (mvT hZ (hw _ (List.mem_of_getElem? (i := 12) rfl))) (mvT hZ (hw _ (List.mem_of_getElem? (i := 13) rfl))) (by decide) (backOf (W := 1) (rmSI3 l Z aw hw [] b13 b14 k14 ic p1 p2 p3 h17 n0 (Nat.le_trans Z0 K17.1) ((((E_b13.ext E14).wr W15).wr W16).wr W17) ((((F_value_b13.ext E14).other W15 (Or.inl ne_b13_b14)).other W16 (Or.inl ne_b13_b14)).other W17 (Or.inl ne_b13_b14)) ((((F_coder_b13.ext E14).other W15 (Or.inl ne_b13_b14)).other W16 (Or.inl ne_b13_b14)).other W17 (Or.inl ne_b13_b14)) g_b13 V17 h1.2 h2.2 h3.2 (O.keep K17 all0) CS) hZ (hw _ (List.mem_of_getElem? (i := 13) rfl)) (hw _ (List.mem_of_getElem? (i := 9) rfl)) (by decide) (by decide)) (g := (mkF m 78 #[.val (.int p0), .val (.int p1), .val (.int p2), .val (.int p3)] [(.ref b14), (.ref b13), (.ref b13)])) rfl (by rw [hml]; rfl) (Steps.refl _) (a := b13) (argsL := [(.ref b14)]) (rest := [(.ref b13)]) (lenOf pd_5 rfl) rfl (by show 2 * 0 + _ ≤ _; exact Nat.le_of_eq rfl) (hb hby d1_78) (fun _ _ => ⟨rfl, e17, (by decide : 2 + 1 ≤ _), (by decide : 7 + 3 ≤ _)⟩)
        dsimp only [Pt.U, Pt.locs, Pt.cells, Pt.slots] at X18 l18 y18 z18 st18 hQ18
        subst l18 y18 z18
        obtain ⟨h18, e18⟩ : ∃ z, T18.heap = z := ⟨_, rfl⟩
        rw [e18] at hQ18
        obtain ⟨rfl, Nq18, Kq18, va18, kb18, sd18, Fv18, Fc18, Vq18, nb18⟩ := hQ18
        have N18 := Fr.app N17 Nq18
        have K18 : Keep h0 h18 [] := K17.trans Kq18 (allS (Or.inr sz_b13) all0)
        have St18 : own_St Z h18 b13 va18 kb18 (3 : Int32) [(.int (own_by p1)), (.int (own_by p2)), (.int (own_by p3))] := ⟨((((E_b13.ext E14).wr W15).wr W16).wr W17).keep Kq18, Fv18, Fc18, Vq18⟩
        refine RestW.via (fun t k => st18.trans k) ?_
        show RestW p.tables e below s _ _ _ (T18.setTop (mkF m 81 #[.val (.int p0), .val (.int p1), .val (.int p2), .val (.int p3)] [(.ref b13)]))
        refine RestW.ret X18 hS (by rw [e18]; first | exact (Nat.le_trans (Nat.le_trans (Nat.le_trans (Nat.le_trans (Nat.le_trans (Nat.le_trans (Nat.le_refl _) E13.1) E14.1) (Keep.of_wr W15).1) (Keep.of_wr W16).1) (Keep.of_wr W17).1) Kq18.1) | exact Nat.le_refl _) (v := some (.ref b13)) (fun h => by rw [Bd.returns] at h; cases h) hlk (fun fs hr => retOut X18 hx Bd.returns rfl (Or.inr (Or.inr (Or.inr (Or.inr ⟨rfl, rfl, rfl⟩)))) (hb hby d1_81) hr) ?_ (by decide) (by decide)
        rw [e18]
        exact ⟨b13, va18, kb18, rfl, N18, K18, sz_b13, (by have e := own_mkl_3 (own_three hp0 hc1 hc17 hc37) p1 p2 p3; rw [e, (own_three hp0 hc1 hc17 hc37)]; exact St18)⟩
theorem d6_0 : decode jdk_30_method_1_code 0 = .ok (.aload_n 0, 1) := by decide +kernel
theorem d6_1 : decode jdk_30_method_1_code 1 = .ok (.invokespecial 1, 3) := by decide +kernel
theorem d6_4 : decode jdk_30_method_1_code 4 = .ok (.return_, 1) := by decide +kernel
theorem pn_4 : plainName "java/lang/Record" = true := by first | (simp [plainName, overriddenIn]; done) | decide +kernel
theorem ef_RI (m : MethodId) (a0 : Addr) : entryFrame m #[(.ref a0)] 1 = mkF m 0 #[.val (.ref a0)] [] := by first | (simp [entryFrame, mkF, argsToLocals, Value.category, maxLocals]; done) | rfl
def QRI (Z : State) (a0 : Addr) (h0 : Heap) (n0 : Nat) (v : Option Value) (h : Heap) (L : List Loc) : Prop := v = none ∧ Fr n0 L ∧ h = h0 ∧ L = []
set_option maxRecDepth 65536 in
set_option maxHeartbeats 40000000 in
theorem rmRI (l : Launch) (Z : State) (aw : Array Value) (hw : ∀ d ∈ tables_1, d.before aw Z = true) (ws : List Jvm.Cond) (a0 : Addr) (h0 : Heap) (n0 : Nat) (Z0 : n0 ≤ h0.size)  :
    MetFree l (⟨"java/lang/Record", "<init>", "()V"⟩ : MethodName) (head1 (Jvm.Cond.code (⟨"java/lang/Record", "<init>", "()V"⟩ : MethodName) jdk_30_method_1_code 1 none :: ws) ({ frames := 1, cells := 0, slots := 0, locals := 12 } : Room)) (fun a U => a = #[(.ref a0)] ∧ Z.Warmed39 U.vm ∧ U.heap = h0) (fun _ _ _ _ _ => True) (fun _ U o U' => ∃ v L, o = .returned v ∧ QRI Z a0 h0 n0 v U'.heap L ∧ FrameEnd U o U' L ({ frames := 1, cells := 0, slots := 0, locals := 12 } : Room).cells ({ frames := 1, cells := 0, slots := 0, locals := 12 } : Room).slots) := by
  refine MetFree.of_bodySF (plainFor_of_name pn_4) hisR ?_
  intro p e s m args below meth c s₁ Bd hml0 hP hK
  obtain ⟨rfl, hZ, hh⟩ := hP
  have hx := Bd.exec
  have hby := Bd.bytes
  have hml : c.maxLocals = 1 := hml0
  have hown : s.vm.findClass "java/lang/Record" = some m.cls := findClass_of_methodNamed Bd.named
  have hnm := (name_of_methodNamed Bd.named Bd.method).1
  have hlk : meth.locks = false := BodyLoose.notSynchronized Bd
  have X0 : Stand p l e ({ frames := 1, cells := 0, slots := 0, locals := 12 } : Room) s m #[(.ref a0)] below meth c s₁ [] 0 0 := Stand.of_body Bd
  have _u := trivial
  have eh0 : s₁.heap = h0 := by rw [← hh, Bd.state]; rfl
  have N0 := Fr.nil n0
  show Rest p.tables e below s (QRI Z a0 h0 n0) _ _ (s₁.setTop (entryFrame m #[(.ref a0)] 1))
  refine Rest.via (fun t k => castTop (ef_RI m a0) k) ?_
  show Rest p.tables e below s _ _ _ (s₁.setTop (mkF m 0 #[.val (.ref a0)] []))
  refine Rest.via (fun t k => XS.aloadN X0.here hx rfl (hb hby d6_0) rfl rfl k) ?_
  show Rest p.tables e below s _ _ _ (s₁.setTop (mkF m 1 #[.val (.ref a0)] [(.ref a0)]))
  obtain ⟨T1, X1, e1, st1⟩ := initO X0 hx hZ hown (hw _ (List.mem_of_getElem? (i := 37) rfl)) (hw _ (List.mem_of_getElem? (i := 19) rfl)) (hw _ (List.mem_of_getElem? (i := 20) rfl)) eh0 (g := (mkF m 1 #[.val (.ref a0)] [(.ref a0)])) rfl (by rw [hml]; rfl) rfl (hb hby d6_1) (by decide) (W := 0) (by show 2 * 0 + _ ≤ _; exact Nat.le_of_eq rfl) (by decide)
  refine Rest.via (fun t k => st1 t k) ?_
  show Rest p.tables e below s _ _ _ (T1.setTop (mkF m 4 #[.val (.ref a0)] []))
  refine Rest.ret X1 (v := none) (fun _ => rfl) hlk (fun fs hr => X1.returnOut hx Bd.returns (hb hby d6_4) hr) ?_ (by decide) (by decide)
  rw [e1]
  exact ⟨rfl, N0, rfl, rfl⟩
theorem d7_0 : decode jdk_31_method_11_code 0 = .ok (.aload_n 0, 1) := by decide +kernel
theorem d7_1 : decode jdk_31_method_11_code 1 = .ok (.ifnonnull 12, 3) := by decide +kernel
theorem d7_13 : decode jdk_31_method_11_code 13 = .ok (.aload_n 0, 1) := by decide +kernel
theorem d7_14 : decode jdk_31_method_11_code 14 = .ok (.areturn, 1) := by decide +kernel
theorem pn_5 : plainName "java/util/Objects" = true := by first | (simp [plainName, overriddenIn]; done) | decide +kernel
theorem ef_RN (m : MethodId) (a0 : Addr) (a1 : Addr) : entryFrame m #[(.ref a0), (.ref a1)] 2 = mkF m 0 #[.val (.ref a0), .val (.ref a1)] [] := by first | (simp [entryFrame, mkF, argsToLocals, Value.category, maxLocals]; done) | rfl
def QRN (Z : State) (a0 : Addr) (a1 : Addr) (h0 : Heap) (n0 : Nat) (v : Option Value) (h : Heap) (L : List Loc) : Prop := v = some (.ref a0) ∧ Fr n0 L ∧ h = h0
set_option maxRecDepth 65536 in
set_option maxHeartbeats 40000000 in
theorem rmRN (l : Launch) (Z : State) (aw : Array Value) (hw : ∀ d ∈ tables_1, d.before aw Z = true) (ws : List Jvm.Cond) (a0 : Addr) (a1 : Addr) (h0 : Heap) (n0 : Nat) (Z0 : n0 ≤ h0.size)  :
    MetFree l (⟨"java/util/Objects", "requireNonNull", "(Ljava/lang/Object;Ljava/lang/String;)Ljava/lang/Object;"⟩ : MethodName) (head1 (Jvm.Cond.code (⟨"java/util/Objects", "requireNonNull", "(Ljava/lang/Object;Ljava/lang/String;)Ljava/lang/Object;"⟩ : MethodName) jdk_31_method_11_code 2 (some (.object "java/lang/Object")) :: ws) ({ frames := 0, cells := 0, slots := 0, locals := 0 } : Room)) (fun a U => a = #[(.ref a0), (.ref a1)] ∧ Z.Warmed39 U.vm ∧ U.heap = h0) (fun _ _ _ _ _ => True) (fun _ U o U' => ∃ v L, o = .returned v ∧ QRN Z a0 a1 h0 n0 v U'.heap L ∧ FrameEnd U o U' L ({ frames := 0, cells := 0, slots := 0, locals := 0 } : Room).cells ({ frames := 0, cells := 0, slots := 0, locals := 0 } : Room).slots) := by
  refine MetFree.of_bodySF (plainFor_of_name pn_5) hisR ?_
  intro p e s m args below meth c s₁ Bd hml0 hP hK
  obtain ⟨rfl, hZ, hh⟩ := hP
  have hx := Bd.exec
  have hby := Bd.bytes
  have hml : c.maxLocals = 2 := hml0
  have hown : s.vm.findClass "java/util/Objects" = some m.cls := findClass_of_methodNamed Bd.named
  have hnm := (name_of_methodNamed Bd.named Bd.method).1
  have hlk : meth.locks = false := BodyLoose.notSynchronized Bd
  have X0 : Stand p l e ({ frames := 0, cells := 0, slots := 0, locals := 0 } : Room) s m #[(.ref a0), (.ref a1)] below meth c s₁ [] 0 0 := Stand.of_body Bd
  have _u := trivial
  have eh0 : s₁.heap = h0 := by rw [← hh, Bd.state]; rfl
  have N0 := Fr.nil n0
  show Rest p.tables e below s (QRN Z a0 a1 h0 n0) _ _ (s₁.setTop (entryFrame m #[(.ref a0), (.ref a1)] 2))
  refine Rest.via (fun t k => castTop (ef_RN m a0 a1) k) ?_
  show Rest p.tables e below s _ _ _ (s₁.setTop (mkF m 0 #[.val (.ref a0), .val (.ref a1)] []))
  refine Rest.via (fun t k => XS.aloadN X0.here hx rfl (hb hby d7_0) rfl rfl k) ?_
  show Rest p.tables e below s _ _ _ (s₁.setTop (mkF m 1 #[.val (.ref a0), .val (.ref a1)] [(.ref a0)]))
  refine Rest.via (fun t k => XS.ifnonnullYes X0.here hx rfl (pc0 := 1) (pc' := 13) rfl (hb hby d7_1) rfl (by decide) (by decide) k) ?_
  show Rest p.tables e below s _ _ _ (s₁.setTop (mkF m 13 #[.val (.ref a0), .val (.ref a1)] []))
  refine Rest.via (fun t k => XS.aloadN X0.here hx rfl (hb hby d7_13) rfl rfl k) ?_
  show Rest p.tables e below s _ _ _ (s₁.setTop (mkF m 14 #[.val (.ref a0), .val (.ref a1)] [(.ref a0)]))
  refine Rest.ret X0 (v := some (.ref a0)) (fun h => by rw [Bd.returns] at h; cases h) hlk (fun fs hr => retOut X0 hx Bd.returns rfl (Or.inr (Or.inr (Or.inr (Or.inr ⟨rfl, rfl, rfl⟩)))) (hb hby d7_14) hr) ?_ (by decide) (by decide)
  rw [eh0]
  exact ⟨rfl, N0, rfl⟩
theorem pd_6 : parseMethodDescriptor "()V" = some ⟨[], none⟩ := by decide +kernel
theorem pd_7 : parseMethodDescriptor "(Ljava/lang/Object;Ljava/lang/String;)Ljava/lang/Object;" = some ⟨[(.object "java/lang/Object"), (.object "java/lang/String")], some (.object "java/lang/Object")⟩ := by decide +kernel
theorem d5_0 : decode prog_166_method_1_code 0 = .ok (.aload_n 0, 1) := by decide +kernel
theorem d5_1 : decode prog_166_method_1_code 1 = .ok (.invokespecial 1, 3) := by decide +kernel
theorem d5_4 : decode prog_166_method_1_code 4 = .ok (.aload_n 1, 1) := by decide +kernel
theorem d5_5 : decode prog_166_method_1_code 5 = .ok (.ldc 7, 2) := by decide +kernel
theorem d5_7 : decode prog_166_method_1_code 7 = .ok (.invokestatic 9, 3) := by decide +kernel
theorem d5_10 : decode prog_166_method_1_code 10 = .ok (.pop, 1) := by decide +kernel
theorem d5_11 : decode prog_166_method_1_code 11 = .ok (.aload_n 0, 1) := by decide +kernel
theorem d5_12 : decode prog_166_method_1_code 12 = .ok (.aload_n 1, 1) := by decide +kernel
theorem d5_13 : decode prog_166_method_1_code 13 = .ok (.putfield 15, 3) := by decide +kernel
theorem d5_16 : decode prog_166_method_1_code 16 = .ok (.return_, 1) := by decide +kernel
theorem pn_6 : plainName "com/example/surnia/surnia/rdf/UriRef" = true := by first | (simp [plainName, overriddenIn]; done) | decide +kernel
theorem ef_URc (m : MethodId) (a0 : Addr) (a1 : Addr) : entryFrame m #[(.ref a0), (.ref a1)] 2 = mkF m 0 #[.val (.ref a0), .val (.ref a1)] [] := by first | (simp [entryFrame, mkF, argsToLocals, Value.category, maxLocals]; done) | rfl
def QURc (Z : State) (a0 : Addr) (a1 : Addr) (Ts : List String) (h0 : Heap) (n0 : Nat) (v : Option Value) (h : Heap) (L : List Loc) (vm : Vm) : Prop := v = none ∧ Fr n0 L ∧ Keep h0 h [a0] ∧ Fld Z h a0 "com/example/surnia/surnia/rdf/UriRef" "value" "Ljava/lang/String;" (.ref a1) ∧ IB Z vm ("value" :: Ts) ∧ ∃ w, Lit (Z.setVm vm) "com/example/surnia/surnia/rdf/UriRef" 7 w
set_option maxRecDepth 65536 in
set_option maxHeartbeats 40000000 in
theorem rmURc (l : Launch) (Z : State) (aw : Array Value) (hw : ∀ d ∈ tables_1, d.before aw Z = true) (ws : List Jvm.Cond) (a0 : Addr) (a1 : Addr) (Ts : List String) (h0 : Heap) (n0 : Nat) (Z0 : n0 ≤ h0.size) (E_a0 : Exa Z h0 a0 "com/example/surnia/surnia/rdf/UriRef") (F_v : Fld Z h0 a0 "com/example/surnia/surnia/rdf/UriRef" "value" "Ljava/lang/String;" .null) (g_a0 : n0 ≤ a0) (O : Old Z n0 h0) (hcw : Jvm.Lit.compactW.before aw Z = true) (HV : Jvm.Lit.constHeld Z "com/example/surnia/surnia/rdf/UriRef" 7) (hnot : "value" ∉ Ts) :
    MetFree l (⟨"com/example/surnia/surnia/rdf/UriRef", "<init>", "(Ljava/lang/String;)V"⟩ : MethodName) (head1 (Jvm.Cond.code (⟨"com/example/surnia/surnia/rdf/UriRef", "<init>", "(Ljava/lang/String;)V"⟩ : MethodName) prog_166_method_1_code 2 none :: ws) ({ frames := 2, cells := 2, slots := 24, locals := 24 } : Room)) (fun a U => a = #[(.ref a0), (.ref a1)] ∧ Z.Warmed39 U.vm ∧ U.heap = h0 ∧ (fun vm => IB Z vm Ts) U.vm) (fun _ _ _ _ _ => True) (fun _ U o U' => ∃ v L, o = .returned v ∧ QURc Z a0 a1 Ts h0 n0 v U'.heap L U'.vm ∧ ReturnedEndW U o U' L ({ frames := 2, cells := 2, slots := 24, locals := 24 } : Room).cells ({ frames := 2, cells := 2, slots := 24, locals := 24 } : Room).slots) := by
  refine MetFree.of_bodySF (plainFor_of_name pn_6) hisR ?_
  intro p e s m args below meth c s₁ Bd hml0 hP hK
  obtain ⟨rfl, hZ, hh, hVP⟩ := hP
  have hx := Bd.exec
  have hby := Bd.bytes
  have hml : c.maxLocals = 2 := hml0
  have hown : s.vm.findClass "com/example/surnia/surnia/rdf/UriRef" = some m.cls := findClass_of_methodNamed Bd.named
  have hnm := (name_of_methodNamed Bd.named Bd.method).1
  have hlk : meth.locks = false := BodyLoose.notSynchronized Bd
  have X0 : Stand p l e ({ frames := 2, cells := 2, slots := 24, locals := 24 } : Room) (s.setVm s.vm) m #[(.ref a0), (.ref a1)] below meth c s₁ [] 0 0 := Stand.of_body Bd
  have hS : s.Since s.vm h0.size := (State.WarmedH.refl s).since _
  have eh0 : s₁.heap = h0 := by rw [← hh, Bd.state]; rfl
  have N0 := Fr.nil n0
  show RestW p.tables e below s (QURc Z a0 a1 Ts h0 n0) _ _ (s₁.setTop (entryFrame m #[(.ref a0), (.ref a1)] 2))
  refine RestW.via (fun t k => castTop (ef_URc m a0 a1) k) ?_
  have I := hVP
  show RestW p.tables e below s _ _ _ (s₁.setTop (mkF m 0 #[.val (.ref a0), .val (.ref a1)] []))
  refine RestW.via (fun t k => XS.aloadN X0.here hx rfl (hb hby d5_0) rfl rfl k) ?_
  show RestW p.tables e below s _ _ _ (s₁.setTop (mkF m 1 #[.val (.ref a0), .val (.ref a1)] [(.ref a0)]))
  obtain ⟨_, _, ⟨T1, L1, k1, n1⟩, -, X1, ⟨Lc1, hQ1, l1, y1, z1⟩, st1⟩ := X0.specialBack hx (y := (⟨"java/lang/Record", "<init>", "()V"⟩ : MethodName)) rfl hown (mvT hZ (hw _ (List.mem_of_getElem? (i := 32) rfl))) (mvT hZ (hw _ (List.mem_of_getElem? (i := 33) rfl))) (mvT hZ (hw _ (List.mem_of_getElem? (i := 36) rfl))) (by decide) (backOf (W := 0) (rmRI l Z aw hw [] a0  h0 n0 (Nat.le_trans Z0 (Keep.refl h0 [a0]).1) ) hZ (hw _ (List.mem_of_getElem? (i := 36) rfl)) (hw _ (List.mem_of_getElem? (i := 35) rfl)) (by decide) (by decide)) (g := (mkF m 1 #[.val (.ref a0), .val (.ref a1)] [(.ref a0)])) rfl (by rw [hml]; rfl) (Steps.refl _) (a := a0) (argsL := []) (rest := []) (lenOf pd_6 rfl) rfl (by show 2 * 0 + _ ≤ _; exact Nat.le_of_eq rfl) (hb hby d5_1) (fun _ _ => ⟨rfl, eh0, (by decide : 0 + 0 ≤ _), (by decide : 0 + 0 ≤ _)⟩)
  dsimp only [Pt.U, Pt.locs, Pt.cells, Pt.slots] at X1 l1 y1 z1 st1 hQ1
  subst l1 y1 z1
  obtain ⟨h1, e1⟩ : ∃ z, T1.heap = z := ⟨_, rfl⟩
  rw [e1] at hQ1
  obtain ⟨rfl, Nq1, hq1, hl1⟩ := hQ1
  subst hl1
  have N1 := Fr.app N0 Nq1
  have Kq1 : Keep h0 h1 [] := by rw [hq1]; exact Keep.refl _ _
  have K1 : Keep h0 h1 [a0] := (Keep.refl h0 [a0]).trans Kq1 all0
  refine RestW.via (fun t k => st1.trans k) ?_
  show RestW p.tables e below s _ _ _ (T1.setTop (mkF m 4 #[.val (.ref a0), .val (.ref a1)] []))
  refine RestW.via (fun t k => XS.aloadN X1.here hx rfl (hb hby d5_4) rfl rfl k) ?_
  show RestW p.tables e below s _ _ _ (T1.setTop (mkF m 5 #[.val (.ref a0), .val (.ref a1)] [(.ref a1)]))
  obtain ⟨sa2, T2, h2, kk2, sb2, kb2, X2, e2, E2, hS, hk2, hZ, hown, Ea2, Fc2, Fv2, Vb2, la2, lb2, I, Li2, st2⟩ := ldcSVL (s := s) (vm0 := s.vm) X1 hx hZ hown (hw _ (List.mem_of_getElem? (i := 38) rfl)) (own_wS hw) e1 hS (Nat.le_trans (Nat.le_refl _) Kq1.1) (by rw [hh]; exact (Fr.nil _)) (fun b cl q => by rw [hh]; exact O.2.2 b cl q) I hnot HV hcw (vs := [(.int (118 : Int32)), (.int (97 : Int32)), (.int (108 : Int32)), (.int (117 : Int32)), (.int (101 : Int32))]) (z := (5 : Int32)) (by decide) (by decide) rfl (g := (mkF m 5 #[.val (.ref a0), .val (.ref a1)] [(.ref a1)])) rfl (hb hby d5_5) (n := 20) (by decide) (by decide) (by decide) (by decide)
  refine RestW.via (fun t k => st2 t k) ?_
  have K2 : Keep h0 h2 [a0] := K1.ext E2
  have ne_sa2_a0 : sa2 ≠ a0 := Exa.ne Ea2 ((E_a0.keep Kq1).ext E2) (by decide)
  show RestW p.tables e below s _ _ _ (T2.setTop (mkF m 7 #[.val (.ref a0), .val (.ref a1)] [(.ref sa2), (.ref a1)]))
  obtain ⟨_, _, ⟨T3, L3, k3, n3⟩, -, X3, ⟨Lc3, hQ3, l3, y3, z3⟩, st3⟩ := Jvm.LawKit.callS X2 hx (y := (⟨"java/util/Objects", "requireNonNull", "(Ljava/lang/Object;Ljava/lang/String;)Ljava/lang/Object;"⟩ : MethodName)) hown (mvT hZ (hw _ (List.mem_of_getElem? (i := 39) rfl))) (mvT hZ (hw _ (List.mem_of_getElem? (i := 40) rfl))) (mvT hZ (hw _ (List.mem_of_getElem? (i := 41) rfl))) (mvT hZ (hw _ (List.mem_of_getElem? (i := 42) rfl))) (by decide) (backOf (W := 0) (rmRN l Z aw hw [] a1 sa2  h2 n0 (Nat.le_trans Z0 K2.1) ) hZ (hw _ (List.mem_of_getElem? (i := 42) rfl)) (hw _ (List.mem_of_getElem? (i := 41) rfl)) (by decide) (by decide)) (g := (mkF m 7 #[.val (.ref a0), .val (.ref a1)] [(.ref sa2), (.ref a1)])) rfl (by rw [hml]; rfl) (argsL := [(.ref a1), (.ref sa2)]) (rest := []) (lenOf pd_7 rfl) rfl (by show 2 * 0 + _ ≤ _; exact Nat.le_of_eq rfl) (hb hby d5_7) (fun _ _ => ⟨rfl, e2, (by decide : 2 + 0 ≤ _), (by decide : 24 + 0 ≤ _)⟩)
  dsimp only [Pt.U, Pt.locs, Pt.cells, Pt.slots] at X3 l3 y3 z3 st3 hQ3
  subst l3 y3 z3
  obtain ⟨rfl, Nq3, e3⟩ := hQ3
  have N3 := Fr.app N1 Nq3
  refine RestW.via (fun t k => st3 t k) ?_
  show RestW p.tables e below s _ _ _ (T3.setTop (mkF m 10 #[.val (.ref a0), .val (.ref a1)] [(.ref a1)]))
  refine RestW.via (fun t k => XS.pop X3.here hx rfl (hb hby d5_10) rfl rfl k) ?_
  show RestW p.tables e below s _ _ _ (T3.setTop (mkF m 11 #[.val (.ref a0), .val (.ref a1)] []))
  refine RestW.via (fun t k => XS.aloadN X3.here hx rfl (hb hby d5_11) rfl rfl k) ?_
  show RestW p.tables e below s _ _ _ (T3.setTop (mkF m 12 #[.val (.ref a0), .val (.ref a1)] [(.ref a0)]))
  refine RestW.via (fun t k => XS.aloadN X3.here hx rfl (hb hby d5_12) rfl rfl k) ?_
  show RestW p.tables e below s _ _ _ (T3.setTop (mkF m 13 #[.val (.ref a0), .val (.ref a1)] [(.ref a1), (.ref a0)]))
  have Fo4 := ((F_v.keep Kq1 nin0).ext E2)
  obtain ⟨T4, h4, X4, e4, W4, st4⟩ := putF X3 hx hZ hown (host := "") (Or.inl (hw _ (List.mem_of_getElem? (i := 43) rfl))) Via.refl e3 Fo4 ((E_a0.keep Kq1).ext E2) (Or.inr ⟨(hw _ (List.mem_of_getElem? (i := 44) rfl)), rfl, hnm⟩) (hw _ (List.mem_of_getElem? (i := 1) rfl)) (ty := (.object "java/lang/String")) (by decide) rfl rfl (g := (mkF m 13 #[.val (.ref a0), .val (.ref a1)] [(.ref a1), (.ref a0)])) rfl rfl (hb hby d5_13)
  refine RestW.via (fun t k => st4 t k) ?_
  have N4 := Fr.snoc X4 N3 g_a0
  have K4 : Keep h0 h4 [a0] := K2.wr W4 (Or.inl (List.mem_of_getElem? (i := 0) rfl))
  have Fw4 := Fo4.same W4
  show RestW p.tables e below s _ _ _ (T4.setTop (mkF m 16 #[.val (.ref a0), .val (.ref a1)] []))
  refine RestW.ret X4 hS (by rw [e4]; first | exact (Nat.le_trans hk2 (Keep.of_wr W4).1) | exact Nat.le_refl _) (v := none) (fun _ => rfl) hlk (fun fs hr => X4.returnOut hx Bd.returns (hb hby d5_16) hr) ?_ (by decide) (by decide)
  rw [e4]
  exact ⟨rfl, N4, K4, Fw4, own_IB_warm I X4.warmed, sa2, own_Lit_warm Li2 X4.warmed.wide⟩
theorem ef_URw (m : MethodId) (a0 : Addr) (a1 : Addr) : entryFrame m #[(.ref a0), (.ref a1)] 2 = mkF m 0 #[.val (.ref a0), .val (.ref a1)] [] := by first | (simp [entryFrame, mkF, argsToLocals, Value.category, maxLocals]; done) | rfl
def QURw (Z : State) (a0 : Addr) (a1 : Addr) (lv : Addr) (h0 : Heap) (n0 : Nat) (v : Option Value) (h : Heap) (L : List Loc) (vm : Vm) : Prop := v = none ∧ Fr n0 L ∧ Keep h0 h [a0] ∧ Fld Z h a0 "com/example/surnia/surnia/rdf/UriRef" "value" "Ljava/lang/String;" (.ref a1)
set_option maxRecDepth 65536 in
set_option maxHeartbeats 40000000 in
theorem rmURw (l : Launch) (Z : State) (aw : Array Value) (hw : ∀ d ∈ tables_1, d.before aw Z = true) (ws : List Jvm.Cond) (a0 : Addr) (a1 : Addr) (lv : Addr) (h0 : Heap) (n0 : Nat) (Z0 : n0 ≤ h0.size) (E_a0 : Exa Z h0 a0 "com/example/surnia/surnia/rdf/UriRef") (F_v : Fld Z h0 a0 "com/example/surnia/surnia/rdf/UriRef" "value" "Ljava/lang/String;" .null) (g_a0 : n0 ≤ a0) :
    MetFree l (⟨"com/example/surnia/surnia/rdf/UriRef", "<init>", "(Ljava/lang/String;)V"⟩ : MethodName) (head1 (Jvm.Cond.code (⟨"com/example/surnia/surnia/rdf/UriRef", "<init>", "(Ljava/lang/String;)V"⟩ : MethodName) prog_166_method_1_code 2 none :: ws) ({ frames := 2, cells := 0, slots := 0, locals := 24 } : Room)) (fun a U => a = #[(.ref a0), (.ref a1)] ∧ Z.Warmed39 U.vm ∧ U.heap = h0 ∧ (fun vm => Lit (Z.setVm vm) "com/example/surnia/surnia/rdf/UriRef" 7 lv) U.vm) (fun _ _ _ _ _ => True) (fun _ U o U' => ∃ v L, o = .returned v ∧ QURw Z a0 a1 lv h0 n0 v U'.heap L U'.vm ∧ ReturnedEndW U o U' L ({ frames := 2, cells := 0, slots := 0, locals := 24 } : Room).cells ({ frames := 2, cells := 0, slots := 0, locals := 24 } : Room).slots) := by
  refine MetFree.of_bodySF (plainFor_of_name pn_6) hisR ?_
  intro p e s m args below meth c s₁ Bd hml0 hP hK
  obtain ⟨rfl, hZ, hh, hVP⟩ := hP
  have hx := Bd.exec
  have hby := Bd.bytes
  have hml : c.maxLocals = 2 := hml0
  have hown : s.vm.findClass "com/example/surnia/surnia/rdf/UriRef" = some m.cls := findClass_of_methodNamed Bd.named
  have hnm := (name_of_methodNamed Bd.named Bd.method).1
  have hlk : meth.locks = false := BodyLoose.notSynchronized Bd
  have X0 : Stand p l e ({ frames := 2, cells := 0, slots := 0, locals := 24 } : Room) (s.setVm s.vm) m #[(.ref a0), (.ref a1)] below meth c s₁ [] 0 0 := Stand.of_body Bd
  have hS : s.Since s.vm h0.size := (State.WarmedH.refl s).since _
  have eh0 : s₁.heap = h0 := by rw [← hh, Bd.state]; rfl
  have N0 := Fr.nil n0
  show RestW p.tables e below s (QURw Z a0 a1 lv h0 n0) _ _ (s₁.setTop (entryFrame m #[(.ref a0), (.ref a1)] 2))
  refine RestW.via (fun t k => castTop (ef_URw m a0 a1) k) ?_
  have Li0 := hVP
  show RestW p.tables e below s _ _ _ (s₁.setTop (mkF m 0 #[.val (.ref a0), .val (.ref a1)] []))
  refine RestW.via (fun t k => XS.aloadN X0.here hx rfl (hb hby d5_0) rfl rfl k) ?_
  show RestW p.tables e below s _ _ _ (s₁.setTop (mkF m 1 #[.val (.ref a0), .val (.ref a1)] [(.ref a0)]))
  obtain ⟨_, _, ⟨T1, L1, k1, n1⟩, -, X1, ⟨Lc1, hQ1, l1, y1, z1⟩, st1⟩ := X0.specialBack hx (y := (⟨"java/lang/Record", "<init>", "()V"⟩ : MethodName)) rfl hown (mvT hZ (hw _ (List.mem_of_getElem? (i := 32) rfl))) (mvT hZ (hw _ (List.mem_of_getElem? (i := 33) rfl))) (mvT hZ (hw _ (List.mem_of_getElem? (i := 36) rfl))) (by decide) (backOf (W := 0) (rmRI l Z aw hw [] a0  h0 n0 (Nat.le_trans Z0 (Keep.refl h0 [a0]).1) ) hZ (hw _ (List.mem_of_getElem? (i := 36) rfl)) (hw _ (List.mem_of_getElem? (i := 35) rfl)) (by decide) (by decide)) (g := (mkF m 1 #[.val (.ref a0), .val (.ref a1)] [(.ref a0)])) rfl (by rw [hml]; rfl) (Steps.refl _) (a := a0) (argsL := []) (rest := []) (lenOf pd_6 rfl) rfl (by show 2 * 0 + _ ≤ _; exact Nat.le_of_eq rfl) (hb hby d5_1) (fun _ _ => ⟨rfl, eh0, (by decide : 0 + 0 ≤ _), (by decide : 0 + 0 ≤ _)⟩)
  dsimp only [Pt.U, Pt.locs, Pt.cells, Pt.slots] at X1 l1 y1 z1 st1 hQ1
  subst l1 y1 z1
  obtain ⟨h1, e1⟩ : ∃ z, T1.heap = z := ⟨_, rfl⟩
  rw [e1] at hQ1
  obtain ⟨rfl, Nq1, hq1, hl1⟩ := hQ1
  subst hl1
  have N1 := Fr.app N0 Nq1
  have Kq1 : Keep h0 h1 [] := by rw [hq1]; exact Keep.refl _ _
  have K1 : Keep h0 h1 [a0] := (Keep.refl h0 [a0]).trans Kq1 all0
  refine RestW.via (fun t k => st1.trans k) ?_
  show RestW p.tables e below s _ _ _ (T1.setTop (mkF m 4 #[.val (.ref a0), .val (.ref a1)] []))
  refine RestW.via (fun t k => XS.aloadN X1.here hx rfl (hb hby d5_4) rfl rfl k) ?_
  show RestW p.tables e below s _ _ _ (T1.setTop (mkF m 5 #[.val (.ref a0), .val (.ref a1)] [(.ref a1)]))
  refine RestW.via (fun t k => ldcAgain (s := s) (vm0 := s.vm) X1 hx hZ hown (hw _ (List.mem_of_getElem? (i := 38) rfl)) Li0 (g := (mkF m 5 #[.val (.ref a0), .val (.ref a1)] [(.ref a1)])) rfl (hb hby d5_5) t k) ?_
  show RestW p.tables e below s _ _ _ (T1.setTop (mkF m 7 #[.val (.ref a0), .val (.ref a1)] [(.ref lv), (.ref a1)]))
  obtain ⟨_, _, ⟨T2, L2, k2, n2⟩, -, X2, ⟨Lc2, hQ2, l2, y2, z2⟩, st2⟩ := Jvm.LawKit.callS X1 hx (y := (⟨"java/util/Objects", "requireNonNull", "(Ljava/lang/Object;Ljava/lang/String;)Ljava/lang/Object;"⟩ : MethodName)) hown (mvT hZ (hw _ (List.mem_of_getElem? (i := 39) rfl))) (mvT hZ (hw _ (List.mem_of_getElem? (i := 40) rfl))) (mvT hZ (hw _ (List.mem_of_getElem? (i := 41) rfl))) (mvT hZ (hw _ (List.mem_of_getElem? (i := 42) rfl))) (by decide) (backOf (W := 0) (rmRN l Z aw hw [] a1 lv  h1 n0 (Nat.le_trans Z0 K1.1) ) hZ (hw _ (List.mem_of_getElem? (i := 42) rfl)) (hw _ (List.mem_of_getElem? (i := 41) rfl)) (by decide) (by decide)) (g := (mkF m 7 #[.val (.ref a0), .val (.ref a1)] [(.ref lv), (.ref a1)])) rfl (by rw [hml]; rfl) (argsL := [(.ref a1), (.ref lv)]) (rest := []) (lenOf pd_7 rfl) rfl (by show 2 * 0 + _ ≤ _; exact Nat.le_of_eq rfl) (hb hby d5_7) (fun _ _ => ⟨rfl, e1, (by decide : 0 + 0 ≤ _), (by decide : 0 + 0 ≤ _)⟩)
  dsimp only [Pt.U, Pt.locs, Pt.cells, Pt.slots] at X2 l2 y2 z2 st2 hQ2
  subst l2 y2 z2
  obtain ⟨rfl, Nq2, e2⟩ := hQ2
  have N2 := Fr.app N1 Nq2
  refine RestW.via (fun t k => st2 t k) ?_
  show RestW p.tables e below s _ _ _ (T2.setTop (mkF m 10 #[.val (.ref a0), .val (.ref a1)] [(.ref a1)]))
  refine RestW.via (fun t k => XS.pop X2.here hx rfl (hb hby d5_10) rfl rfl k) ?_
  show RestW p.tables e below s _ _ _ (T2.setTop (mkF m 11 #[.val (.ref a0), .val (.ref a1)] []))
  refine RestW.via (fun t k => XS.aloadN X2.here hx rfl (hb hby d5_11) rfl rfl k) ?_
  show RestW p.tables e below s _ _ _ (T2.setTop (mkF m 12 #[.val (.ref a0), .val (.ref a1)] [(.ref a0)]))
  refine RestW.via (fun t k => XS.aloadN X2.here hx rfl (hb hby d5_12) rfl rfl k) ?_
  show RestW p.tables e below s _ _ _ (T2.setTop (mkF m 13 #[.val (.ref a0), .val (.ref a1)] [(.ref a1), (.ref a0)]))
  have Fo3 := (F_v.keep Kq1 nin0)
  obtain ⟨T3, h3, X3, e3, W3, st3⟩ := putF X2 hx hZ hown (host := "") (Or.inl (hw _ (List.mem_of_getElem? (i := 43) rfl))) Via.refl e2 Fo3 (E_a0.keep Kq1) (Or.inr ⟨(hw _ (List.mem_of_getElem? (i := 44) rfl)), rfl, hnm⟩) (hw _ (List.mem_of_getElem? (i := 1) rfl)) (ty := (.object "java/lang/String")) (by decide) rfl rfl (g := (mkF m 13 #[.val (.ref a0), .val (.ref a1)] [(.ref a1), (.ref a0)])) rfl rfl (hb hby d5_13)
  refine RestW.via (fun t k => st3 t k) ?_
  have N3 := Fr.snoc X3 N2 g_a0
  have K3 : Keep h0 h3 [a0] := K1.wr W3 (Or.inl (List.mem_of_getElem? (i := 0) rfl))
  have Fw3 := Fo3.same W3
  show RestW p.tables e below s _ _ _ (T3.setTop (mkF m 16 #[.val (.ref a0), .val (.ref a1)] []))
  refine RestW.ret X3 hS (by rw [e3]; first | exact (Nat.le_trans (Nat.le_trans (Nat.le_refl _) Kq1.1) (Keep.of_wr W3).1) | exact Nat.le_refl _) (v := none) (fun _ => rfl) hlk (fun fs hr => X3.returnOut hx Bd.returns (hb hby d5_16) hr) ?_ (by decide) (by decide)
  rw [e3]
  exact ⟨rfl, N3, K3, Fw3⟩
theorem d12_0 : decode prog_166_method_2_code 0 = .ok (.aload_n 1, 1) := by decide +kernel
theorem d12_1 : decode prog_166_method_2_code 1 = .ok (.instanceof 16, 3) := by decide +kernel
theorem d12_4 : decode prog_166_method_2_code 4 = .ok (.ifCond .eq 26, 3) := by decide +kernel
theorem d12_30 : decode prog_166_method_2_code 30 = .ok (.iconst 0, 1) := by decide +kernel
theorem d12_31 : decode prog_166_method_2_code 31 = .ok (.ireturn, 1) := by decide +kernel
theorem ef_UEn (m : MethodId) (a0 : Addr) : entryFrame m #[(.ref a0), .null] 3 = mkF m 0 #[.val (.ref a0), .val .null, .unset] [] := by first | (simp [entryFrame, mkF, argsToLocals, Value.category, maxLocals]; done) | rfl
def QUEn (Z : State) (a0 : Addr) (h0 : Heap) (n0 : Nat) (v : Option Value) (h : Heap) (L : List Loc) : Prop := v = some (.int (0 : Int32)) ∧ Fr n0 L ∧ h = h0
set_option maxRecDepth 65536 in
set_option maxHeartbeats 40000000 in
theorem rmUEn (l : Launch) (Z : State) (aw : Array Value) (hw : ∀ d ∈ tables_1, d.before aw Z = true) (ws : List Jvm.Cond) (a0 : Addr) (h0 : Heap) (n0 : Nat) (Z0 : n0 ≤ h0.size)  :
    MetFree l (⟨"com/example/surnia/surnia/rdf/UriRef", "equals", "(Ljava/lang/Object;)Z"⟩ : MethodName) (head1 (Jvm.Cond.code (⟨"com/example/surnia/surnia/rdf/UriRef", "equals", "(Ljava/lang/Object;)Z"⟩ : MethodName) prog_166_method_2_code 3 (some .boolean) :: ws) ({ frames := 0, cells := 0, slots := 0, locals := 0 } : Room)) (fun a U => a = #[(.ref a0), .null] ∧ Z.Warmed39 U.vm ∧ U.heap = h0) (fun _ _ _ _ _ => True) (fun _ U o U' => ∃ v L, o = .returned v ∧ QUEn Z a0 h0 n0 v U'.heap L ∧ FrameEnd U o U' L ({ frames := 0, cells := 0, slots := 0, locals := 0 } : Room).cells ({ frames := 0, cells := 0, slots := 0, locals := 0 } : Room).slots) := by
  refine MetFree.of_bodySF (plainFor_of_name pn_6) hisR ?_
  intro p e s m args below meth c s₁ Bd hml0 hP hK
  obtain ⟨rfl, hZ, hh⟩ := hP
  have hx := Bd.exec
  have hby := Bd.bytes
  have hml : c.maxLocals = 3 := hml0
  have hown : s.vm.findClass "com/example/surnia/surnia/rdf/UriRef" = some m.cls := findClass_of_methodNamed Bd.named
  have hnm := (name_of_methodNamed Bd.named Bd.method).1
  have hlk : meth.locks = false := BodyLoose.notSynchronized Bd
  have X0 : Stand p l e ({ frames := 0, cells := 0, slots := 0, locals := 0 } : Room) s m #[(.ref a0), .null] below meth c s₁ [] 0 0 := Stand.of_body Bd
  have _u := trivial
  have eh0 : s₁.heap = h0 := by rw [← hh, Bd.state]; rfl
  have N0 := Fr.nil n0
  show Rest p.tables e below s (QUEn Z a0 h0 n0) _ _ (s₁.setTop (entryFrame m #[(.ref a0), .null] 3))
  refine Rest.via (fun t k => castTop (ef_UEn m a0) k) ?_
  show Rest p.tables e below s _ _ _ (s₁.setTop (mkF m 0 #[.val (.ref a0), .val .null, .unset] []))
  refine Rest.via (fun t k => XS.aloadN X0.here hx rfl (hb hby d12_0) rfl rfl k) ?_
  show Rest p.tables e below s _ _ _ (s₁.setTop (mkF m 1 #[.val (.ref a0), .val .null, .unset] [.null]))
  refine Rest.via (fun t k => X0.instanceofNull hx (g := (mkF m 1 #[.val (.ref a0), .val .null, .unset] [.null])) rfl rfl (hb hby d12_1) t k) ?_
  show Rest p.tables e below s _ _ _ (s₁.setTop (mkF m 4 #[.val (.ref a0), .val .null, .unset] [(.int (0 : Int32))]))
  refine Rest.via (fun t k => XS.ifYes X0.here hx rfl (pc0 := 4) (pc' := 30) rfl (hb hby d12_4) rfl ((if0 _ _).trans (teq (by decide : (0 : Int32) = (0 : Int32))).1) (by decide) (by decide) k) ?_
  show Rest p.tables e below s _ _ _ (s₁.setTop (mkF m 30 #[.val (.ref a0), .val .null, .unset] []))
  refine Rest.via (fun t k => XS.iconst X0.here hx rfl (hb hby d12_30) k) ?_
  show Rest p.tables e below s _ _ _ (s₁.setTop (mkF m 31 #[.val (.ref a0), .val .null, .unset] [(.int (0 : Int32))]))
  refine Rest.ret X0 (v := some (.int (nar .boolean (0 : Int32)))) (fun h => by rw [Bd.returns] at h; cases h) hlk (fun fs hr => retN X0 hx (t := .boolean) Bd.returns (by simp) (hb hby d12_31) hr) ?_ (by decide) (by decide)
  rw [eh0]
  exact ⟨rfl, N0, rfl⟩
theorem ef_UEs (m : MethodId) (a0 : Addr) (a1 : Addr) : entryFrame m #[(.ref a0), (.ref a1)] 3 = mkF m 0 #[.val (.ref a0), .val (.ref a1), .unset] [] := by first | (simp [entryFrame, mkF, argsToLocals, Value.category, maxLocals]; done) | rfl
def QUEs (Z : State) (a0 : Addr) (a1 : Addr) (h0 : Heap) (n0 : Nat) (v : Option Value) (h : Heap) (L : List Loc) : Prop := v = some (.int (0 : Int32)) ∧ Fr n0 L ∧ h = h0
set_option maxRecDepth 65536 in
set_option maxHeartbeats 40000000 in
theorem rmUEs (l : Launch) (Z : State) (aw : Array Value) (hw : ∀ d ∈ tables_1, d.before aw Z = true) (ws : List Jvm.Cond) (a0 : Addr) (a1 : Addr) (h0 : Heap) (n0 : Nat) (Z0 : n0 ≤ h0.size) (E_a1 : Exa Z h0 a1 "java/lang/String") :
    MetFree l (⟨"com/example/surnia/surnia/rdf/UriRef", "equals", "(Ljava/lang/Object;)Z"⟩ : MethodName) (head1 (Jvm.Cond.code (⟨"com/example/surnia/surnia/rdf/UriRef", "equals", "(Ljava/lang/Object;)Z"⟩ : MethodName) prog_166_method_2_code 3 (some .boolean) :: ws) ({ frames := 0, cells := 0, slots := 0, locals := 0 } : Room)) (fun a U => a = #[(.ref a0), (.ref a1)] ∧ Z.Warmed39 U.vm ∧ U.heap = h0) (fun _ _ _ _ _ => True) (fun _ U o U' => ∃ v L, o = .returned v ∧ QUEs Z a0 a1 h0 n0 v U'.heap L ∧ FrameEnd U o U' L ({ frames := 0, cells := 0, slots := 0, locals := 0 } : Room).cells ({ frames := 0, cells := 0, slots := 0, locals := 0 } : Room).slots) := by
  refine MetFree.of_bodySF (plainFor_of_name pn_6) hisR ?_
  intro p e s m args below meth c s₁ Bd hml0 hP hK
  obtain ⟨rfl, hZ, hh⟩ := hP
  have hx := Bd.exec
  have hby := Bd.bytes
  have hml : c.maxLocals = 3 := hml0
  have hown : s.vm.findClass "com/example/surnia/surnia/rdf/UriRef" = some m.cls := findClass_of_methodNamed Bd.named
  have hnm := (name_of_methodNamed Bd.named Bd.method).1
  have hlk : meth.locks = false := BodyLoose.notSynchronized Bd
  have X0 : Stand p l e ({ frames := 0, cells := 0, slots := 0, locals := 0 } : Room) s m #[(.ref a0), (.ref a1)] below meth c s₁ [] 0 0 := Stand.of_body Bd
  have _u := trivial
  have eh0 : s₁.heap = h0 := by rw [← hh, Bd.state]; rfl
  have N0 := Fr.nil n0
  show Rest p.tables e below s (QUEs Z a0 a1 h0 n0) _ _ (s₁.setTop (entryFrame m #[(.ref a0), (.ref a1)] 3))
  refine Rest.via (fun t k => castTop (ef_UEs m a0 a1) k) ?_
  show Rest p.tables e below s _ _ _ (s₁.setTop (mkF m 0 #[.val (.ref a0), .val (.ref a1), .unset] []))
  refine Rest.via (fun t k => XS.aloadN X0.here hx rfl (hb hby d12_0) rfl rfl k) ?_
  show Rest p.tables e below s _ _ _ (s₁.setTop (mkF m 1 #[.val (.ref a0), .val (.ref a1), .unset] [(.ref a1)]))
  obtain ⟨T1, X1, e1, st1⟩ := instNo X0 hx hZ hown (hw _ (List.mem_of_getElem? (i := 64) rfl)) eh0 E_a1 (own_nostr (hw _ (List.mem_of_getElem? (i := 76) rfl)) (hw _ (List.mem_of_getElem? (i := 77) rfl)) (hw _ (List.mem_of_getElem? (i := 1) rfl)) (by decide) (by decide)) (g := (mkF m 1 #[.val (.ref a0), .val (.ref a1), .unset] [(.ref a1)])) rfl rfl (hb hby d12_1)
  refine Rest.via (fun t k => st1 t k) ?_
  show Rest p.tables e below s _ _ _ (T1.setTop (mkF m 4 #[.val (.ref a0), .val (.ref a1), .unset] [(.int (0 : Int32))]))
  refine Rest.via (fun t k => XS.ifYes X1.here hx rfl (pc0 := 4) (pc' := 30) rfl (hb hby d12_4) rfl ((if0 _ _).trans (teq (by decide : (0 : Int32) = (0 : Int32))).1) (by decide) (by decide) k) ?_
  show Rest p.tables e below s _ _ _ (T1.setTop (mkF m 30 #[.val (.ref a0), .val (.ref a1), .unset] []))
  refine Rest.via (fun t k => XS.iconst X1.here hx rfl (hb hby d12_30) k) ?_
  show Rest p.tables e below s _ _ _ (T1.setTop (mkF m 31 #[.val (.ref a0), .val (.ref a1), .unset] [(.int (0 : Int32))]))
  refine Rest.ret X1 (v := some (.int (nar .boolean (0 : Int32)))) (fun h => by rw [Bd.returns] at h; cases h) hlk (fun fs hr => retN X1 hx (t := .boolean) Bd.returns (by simp) (hb hby d12_31) hr) ?_ (by decide) (by decide)
  rw [e1]
  exact ⟨rfl, N0, rfl⟩
theorem pd_8 : parseMethodDescriptor "(Ljava/lang/Object;)Z" = some ⟨[(.object "java/lang/Object")], some .boolean⟩ := by decide +kernel
theorem d12_7 : decode prog_166_method_2_code 7 = .ok (.aload_n 1, 1) := by decide +kernel
theorem d12_8 : decode prog_166_method_2_code 8 = .ok (.checkcast 16, 3) := by decide +kernel
theorem d12_11 : decode prog_166_method_2_code 11 = .ok (.astore_n 2, 1) := by decide +kernel
theorem d12_12 : decode prog_166_method_2_code 12 = .ok (.aload_n 0, 1) := by decide +kernel
theorem d12_13 : decode prog_166_method_2_code 13 = .ok (.getfield 15, 3) := by decide +kernel
theorem d12_16 : decode prog_166_method_2_code 16 = .ok (.aload_n 2, 1) := by decide +kernel
theorem d12_17 : decode prog_166_method_2_code 17 = .ok (.getfield 15, 3) := by decide +kernel
theorem d12_20 : decode prog_166_method_2_code 20 = .ok (.invokevirtual 20, 3) := by decide +kernel
theorem d12_23 : decode prog_166_method_2_code 23 = .ok (.ifCond .eq 7, 3) := by decide +kernel
theorem d12_26 : decode prog_166_method_2_code 26 = .ok (.iconst 1, 1) := by decide +kernel
theorem d12_27 : decode prog_166_method_2_code 27 = .ok (.goto 4, 3) := by decide +kernel
theorem ef_UE (m : MethodId) (a0 : Addr) (a1 : Addr) : entryFrame m #[(.ref a0), (.ref a1)] 3 = mkF m 0 #[.val (.ref a0), .val (.ref a1), .unset] [] := by first | (simp [entryFrame, mkF, argsToLocals, Value.category, maxLocals]; done) | rfl
def QUE (Z : State) (a0 : Addr) (a1 : Addr) (t0 : Addr) (t1 : Addr) (va0 : Addr) (k0 : ClassId) (va1 : Addr) (k1 : ClassId) (ic : Int32) (n : Int32) (m0 : Int32) (xs : List Int32) (ys : List Int32) (h0 : Heap) (n0 : Nat) (v : Option Value) (h : Heap) (L : List Loc) : Prop := v = some (.int (if xs = ys then (1 : Int32) else 0)) ∧ Fr n0 L ∧ h = h0
set_option maxRecDepth 65536 in
set_option maxHeartbeats 40000000 in
theorem rmUE (l : Launch) (Z : State) (aw : Array Value) (hw : ∀ d ∈ tables_1, d.before aw Z = true) (ws : List Jvm.Cond) (a0 : Addr) (a1 : Addr) (t0 : Addr) (t1 : Addr) (va0 : Addr) (k0 : ClassId) (va1 : Addr) (k1 : ClassId) (ic : Int32) (n : Int32) (m0 : Int32) (xs : List Int32) (ys : List Int32) (h0 : Heap) (n0 : Nat) (Z0 : n0 ≤ h0.size) (E0 : Exa Z h0 a0 "com/example/surnia/surnia/rdf/UriRef") (E1 : Exa Z h0 a1 "com/example/surnia/surnia/rdf/UriRef") (F0 : Fld Z h0 a0 "com/example/surnia/surnia/rdf/UriRef" "value" "Ljava/lang/String;" (.ref t0)) (F1 : Fld Z h0 a1 "com/example/surnia/surnia/rdf/UriRef" "value" "Ljava/lang/String;" (.ref t1)) (hn : own_ok n xs) (hm : own_ok m0 ys) (S0 : own_St Z h0 t0 va0 k0 n (xs.map Value.int)) (S1 : own_St Z h0 t1 va1 k1 m0 (ys.map Value.int)) (n01 : t0 ≠ t1) (O : Old Z n0 h0) (CS : own_CS Z ic) :
    MetFree l (⟨"com/example/surnia/surnia/rdf/UriRef", "equals", "(Ljava/lang/Object;)Z"⟩ : MethodName) (head1 (Jvm.Cond.code (⟨"com/example/surnia/surnia/rdf/UriRef", "equals", "(Ljava/lang/Object;)Z"⟩ : MethodName) prog_166_method_2_code 3 (some .boolean) :: ws) ({ frames := 2, cells := 0, slots := 0, locals := 28 } : Room)) (fun a U => a = #[(.ref a0), (.ref a1)] ∧ Z.Warmed39 U.vm ∧ U.heap = h0) (fun _ _ _ _ _ => True) (fun _ U o U' => ∃ v L, o = .returned v ∧ QUE Z a0 a1 t0 t1 va0 k0 va1 k1 ic n m0 xs ys h0 n0 v U'.heap L ∧ FrameEnd U o U' L ({ frames := 2, cells := 0, slots := 0, locals := 28 } : Room).cells ({ frames := 2, cells := 0, slots := 0, locals := 28 } : Room).slots) := by
  refine MetFree.of_bodySF (plainFor_of_name pn_6) hisR ?_
  intro p e s m args below meth c s₁ Bd hml0 hP hK
  obtain ⟨rfl, hZ, hh⟩ := hP
  have hx := Bd.exec
  have hby := Bd.bytes
  have hml : c.maxLocals = 3 := hml0
  have hown : s.vm.findClass "com/example/surnia/surnia/rdf/UriRef" = some m.cls := findClass_of_methodNamed Bd.named
  have hnm := (name_of_methodNamed Bd.named Bd.method).1
  have hlk : meth.locks = false := BodyLoose.notSynchronized Bd
  have X0 : Stand p l e ({ frames := 2, cells := 0, slots := 0, locals := 28 } : Room) s m #[(.ref a0), (.ref a1)] below meth c s₁ [] 0 0 := Stand.of_body Bd
  have _u := trivial
  have eh0 : s₁.heap = h0 := by rw [← hh, Bd.state]; rfl
  have N0 := Fr.nil n0
  show Rest p.tables e below s (QUE Z a0 a1 t0 t1 va0 k0 va1 k1 ic n m0 xs ys h0 n0) _ _ (s₁.setTop (entryFrame m #[(.ref a0), (.ref a1)] 3))
  refine Rest.via (fun t k => castTop (ef_UE m a0 a1) k) ?_
  show Rest p.tables e below s _ _ _ (s₁.setTop (mkF m 0 #[.val (.ref a0), .val (.ref a1), .unset] []))
  refine Rest.via (fun t k => XS.aloadN X0.here hx rfl (hb hby d12_0) rfl rfl k) ?_
  show Rest p.tables e below s _ _ _ (s₁.setTop (mkF m 1 #[.val (.ref a0), .val (.ref a1), .unset] [(.ref a1)]))
  obtain ⟨T1, X1, e1, st1⟩ := instY X0 hx hZ hown (hw _ (List.mem_of_getElem? (i := 64) rfl)) eh0 (Ins.self E1) (g := (mkF m 1 #[.val (.ref a0), .val (.ref a1), .unset] [(.ref a1)])) rfl rfl (hb hby d12_1)
  refine Rest.via (fun t k => st1 t k) ?_
  show Rest p.tables e below s _ _ _ (T1.setTop (mkF m 4 #[.val (.ref a0), .val (.ref a1), .unset] [(.int (1 : Int32))]))
  refine Rest.via (fun t k => XS.ifNo X1.here hx rfl (hb hby d12_4) rfl ((if0 _ _).trans (feq (by decide : ¬ ((1 : Int32) = (0 : Int32)))).1) k) ?_
  show Rest p.tables e below s _ _ _ (T1.setTop (mkF m 7 #[.val (.ref a0), .val (.ref a1), .unset] []))
  refine Rest.via (fun t k => XS.aloadN X1.here hx rfl (hb hby d12_7) rfl rfl k) ?_
  show Rest p.tables e below s _ _ _ (T1.setTop (mkF m 8 #[.val (.ref a0), .val (.ref a1), .unset] [(.ref a1)]))
  obtain ⟨T2, X2, e2, st2⟩ := castY X1 hx hZ hown (hw _ (List.mem_of_getElem? (i := 64) rfl)) e1 (Ins.self E1) (g := (mkF m 8 #[.val (.ref a0), .val (.ref a1), .unset] [(.ref a1)])) rfl rfl (hb hby d12_8)
  refine Rest.via (fun t k => st2 t k) ?_
  show Rest p.tables e below s _ _ _ (T2.setTop (mkF m 11 #[.val (.ref a0), .val (.ref a1), .unset] [(.ref a1)]))
  refine Rest.via (fun t k => XS.astoreN X2.here hx rfl (hb hby d12_11) rfl rfl (l' := #[.val (.ref a0), .val (.ref a1), .val (.ref a1)]) rfl k) ?_
  show Rest p.tables e below s _ _ _ (T2.setTop (mkF m 12 #[.val (.ref a0), .val (.ref a1), .val (.ref a1)] []))
  refine Rest.via (fun t k => XS.aloadN X2.here hx rfl (hb hby d12_12) rfl rfl k) ?_
  show Rest p.tables e below s _ _ _ (T2.setTop (mkF m 13 #[.val (.ref a0), .val (.ref a1), .val (.ref a1)] [(.ref a0)]))
  obtain ⟨T3, X3, e3, st3⟩ := getF X2 hx hZ hown (host := "") (Or.inl (hw _ (List.mem_of_getElem? (i := 43) rfl))) Via.refl e2 F0 (g := (mkF m 13 #[.val (.ref a0), .val (.ref a1), .val (.ref a1)] [(.ref a0)])) rfl rfl (hb hby d12_13)
  refine Rest.via (fun t k => st3 t k) ?_
  show Rest p.tables e below s _ _ _ (T3.setTop (mkF m 16 #[.val (.ref a0), .val (.ref a1), .val (.ref a1)] [(.ref t0)]))
  refine Rest.via (fun t k => XS.aloadN X3.here hx rfl (hb hby d12_16) rfl rfl k) ?_
  show Rest p.tables e below s _ _ _ (T3.setTop (mkF m 17 #[.val (.ref a0), .val (.ref a1), .val (.ref a1)] [(.ref a1), (.ref t0)]))
  obtain ⟨T4, X4, e4, st4⟩ := getF X3 hx hZ hown (host := "") (Or.inl (hw _ (List.mem_of_getElem? (i := 43) rfl))) Via.refl e3 F1 (g := (mkF m 17 #[.val (.ref a0), .val (.ref a1), .val (.ref a1)] [(.ref a1), (.ref t0)])) rfl rfl (hb hby d12_17)
  refine Rest.via (fun t k => st4 t k) ?_
  show Rest p.tables e below s _ _ _ (T4.setTop (mkF m 20 #[.val (.ref a0), .val (.ref a1), .val (.ref a1)] [(.ref t1), (.ref t0)]))
  obtain ⟨cq5, kq5, q5a, q5b, q5c⟩ := isOf hZ e4 S0.1
  obtain ⟨_, _, ⟨T5, L5, k5, n5⟩, -, X5, ⟨Lc5, hQ5, l5, y5, z5⟩, st5⟩ := X4.virtualBack hx (y := (⟨"java/lang/String", "equals", "(Ljava/lang/Object;)Z"⟩ : MethodName)) (z := (⟨"java/lang/String", "equals", "(Ljava/lang/Object;)Z"⟩ : MethodName)) hown (mvT hZ (hw _ (List.mem_of_getElem? (i := 66) rfl))) (mvT hZ (hw _ (List.mem_of_getElem? (i := 67) rfl))) (notFace_of_selects (args := #[]) (mvT hZ (hw _ (List.mem_of_getElem? (i := 69) rfl)))) (mvT hZ (hw _ (List.mem_of_getElem? (i := 69) rfl))) (mvT hZ (hw _ (List.mem_of_getElem? (i := 68) rfl))) (by decide) (backOf (W := 0) (rmSE l Z aw hw [] t0 t1 va0 k0 va1 k1 ic n m0 xs ys h0 n0 (Nat.le_trans Z0 (Keep.refl h0 []).1) hn hm S0 S1 n01 (O.keep (Keep.refl h0 []) all0) CS) hZ (hw _ (List.mem_of_getElem? (i := 70) rfl)) (hw _ (List.mem_of_getElem? (i := 9) rfl)) (by decide) (by decide)) q5a q5c (g := (mkF m 20 #[.val (.ref a0), .val (.ref a1), .val (.ref a1)] [(.ref t1), (.ref t0)])) rfl (by rw [hml]; rfl) (Steps.refl _) (argsL := [(.ref t1)]) (rest := []) (lenOf pd_8 rfl) rfl (by show 2 * 0 + _ ≤ _; exact Nat.le_of_eq rfl) (hb hby d12_20) (fun _ _ => ⟨rfl, e4, (by decide : 0 + 0 ≤ _), (by decide : 0 + 0 ≤ _)⟩)
  dsimp only [Pt.U, Pt.locs, Pt.cells, Pt.slots] at X5 l5 y5 z5 st5 hQ5
  subst l5 y5 z5
  obtain ⟨rfl, Nq5, e5⟩ := hQ5
  have N5 := Fr.app N0 Nq5
  refine Rest.via (fun t k => st5.trans k) ?_
  show Rest p.tables e below s _ _ _ (T5.setTop (mkF m 23 #[.val (.ref a0), .val (.ref a1), .val (.ref a1)] [(.int (if xs = ys then (1 : Int32) else 0))]))
  by_cases hz : (if xs = ys then (1 : Int32) else 0) = (0 : Int32)
  · refine Rest.via (fun t k => XS.ifYes X5.here hx rfl (pc0 := 23) (pc' := 30) rfl (hb hby d12_23) rfl ((if0 _ _).trans (teq hz).1) (by decide) (by decide) k) ?_
    show Rest p.tables e below s _ _ _ (T5.setTop (mkF m 30 #[.val (.ref a0), .val (.ref a1), .val (.ref a1)] []))
    refine Rest.via (fun t k => XS.iconst X5.here hx rfl (hb hby d12_30) k) ?_
    show Rest p.tables e below s _ _ _ (T5.setTop (mkF m 31 #[.val (.ref a0), .val (.ref a1), .val (.ref a1)] [(.int (0 : Int32))]))
    refine Rest.ret X5 (v := some (.int (nar .boolean (0 : Int32)))) (fun h => by rw [Bd.returns] at h; cases h) hlk (fun fs hr => retN X5 hx (t := .boolean) Bd.returns (by simp) (hb hby d12_31) hr) ?_ (by decide) (by decide)
    rw [e5]
    exact ⟨by show some (Value.int (0 : Int32)) = _; rw [hz], N5, rfl⟩
  · refine Rest.via (fun t k => XS.ifNo X5.here hx rfl (hb hby d12_23) rfl ((if0 _ _).trans (feq hz).1) k) ?_
    show Rest p.tables e below s _ _ _ (T5.setTop (mkF m 26 #[.val (.ref a0), .val (.ref a1), .val (.ref a1)] []))
    refine Rest.via (fun t k => XS.iconst X5.here hx rfl (hb hby d12_26) k) ?_
    show Rest p.tables e below s _ _ _ (T5.setTop (mkF m 27 #[.val (.ref a0), .val (.ref a1), .val (.ref a1)] [(.int (1 : Int32))]))
    refine Rest.via (fun t k => XS.goto X5.here hx rfl (pc0 := 27) (pc' := 31) rfl (hb hby d12_27) (by decide) (by decide) k) ?_
    show Rest p.tables e below s _ _ _ (T5.setTop (mkF m 31 #[.val (.ref a0), .val (.ref a1), .val (.ref a1)] [(.int (1 : Int32))]))
    refine Rest.ret X5 (v := some (.int (nar .boolean (1 : Int32)))) (fun h => by rw [Bd.returns] at h; cases h) hlk (fun fs hr => retN X5 hx (t := .boolean) Bd.returns (by simp) (hb hby d12_31) hr) ?_ (by decide) (by decide)
    rw [e5]
    exact ⟨by show some (Value.int (1 : Int32)) = _; rw [own_ite1 hz], N5, rfl⟩
theorem own_swap {xs ys : List Int32} : (if ys = xs then (1 : Int32) else 0) = if xs = ys then (1 : Int32) else 0 := by
  by_cases h : xs = ys
  · rw [if_pos h, if_pos h.symm]
  · rw [if_neg h, if_neg (fun q => h q.symm)]
theorem pd_9 : parseMethodDescriptor "(ICCC)Ljava/lang/String;" = some ⟨[.int, .char, .char, .char], some (.object "java/lang/String")⟩ := by decide +kernel
theorem pd_10 : parseMethodDescriptor "(Ljava/lang/String;)V" = some ⟨[(.object "java/lang/String")], none⟩ := by decide +kernel
theorem pd_11 : parseMethodDescriptor "(ICCCICCC)Z" = some ⟨[.int, .char, .char, .char, .int, .char, .char, .char], some .boolean⟩ := by decide +kernel
theorem ef_0 (m : MethodId) (p0 : Int32) (p1 : Int32) (p2 : Int32) (p3 : Int32) (p4 : Int32) : entryFrame m #[(.int p0), (.int p1), (.int p2), (.int p3), (.int p4)] maxLocals = mkF m 0 #[.val (.int p0), .val (.int p1), .val (.int p2), .val (.int p3), .val (.int p4), .unset, .unset, .unset, .unset, .unset, .unset, .unset, .unset, .unset, .unset, .unset, .unset, .unset] [] := by first | (simp [entryFrame, mkF, argsToLocals, Value.category, maxLocals]; done) | rfl
def Q0 (Z : State) (p0 : Int32) (p1 : Int32) (p2 : Int32) (p3 : Int32) (p4 : Int32) (ic : Int32) (h0 : Heap) (n0 : Nat) (v : Option Value) (h : Heap) (L : List Loc) (vm : Vm) : Prop := v = some (.int 1) ∧ Fr n0 L
set_option maxRecDepth 65536 in
set_option maxHeartbeats 40000000 in
theorem rm0 (l : Launch) (Z : State) (aw : Array Value) (hw : ∀ d ∈ tables_1, d.before aw Z = true) (ws : List Jvm.Cond) (p0 : Int32) (p1 : Int32) (p2 : Int32) (p3 : Int32) (p4 : Int32) (ic : Int32) (h0 : Heap) (n0 : Nat) (Z0 : n0 ≤ h0.size) (O : Old Z n0 h0) (CS : own_CS Z ic) (hcw : Jvm.Lit.compactW.before aw Z = true) (HE : Jvm.Lit.constHeld Z "java/lang/String" 7) (HV : Jvm.Lit.constHeld Z "com/example/surnia/surnia/rdf/UriRef" 7) :
    MetFree l x (head1 (Jvm.Cond.code x code maxLocals ret :: ws) room_1) (fun a U => a = #[(.int p0), (.int p1), (.int p2), (.int p3), (.int p4)] ∧ Z.Warmed39 U.vm ∧ U.heap = h0 ∧ (fun vm => IB Z vm []) U.vm) (fun _ _ _ _ _ => True) (fun _ U o U' => ∃ v L, o = .returned v ∧ Q0 Z p0 p1 p2 p3 p4 ic h0 n0 v U'.heap L U'.vm ∧ ReturnedEndW U o U' L 12 46) := by
  refine MetFree.of_bodySF (plainFor_of_name pn_3) hisR ?_
  intro p e s m args below meth c s₁ Bd hml0 hP hK
  obtain ⟨rfl, hZ, hh, hVP⟩ := hP
  have hx := Bd.exec
  have hby := Bd.bytes
  have hml : c.maxLocals = 18 := hml0
  have hown : s.vm.findClass "com/example/surnia/surnia/rdf/UriRefEqualsPinLaw" = some m.cls := findClass_of_methodNamed Bd.named
  have hnm := (name_of_methodNamed Bd.named Bd.method).1
  have hlk : meth.locks = false := BodyLoose.notSynchronized Bd
  have X0 : Stand p l e room_1 (s.setVm s.vm) m #[(.int p0), (.int p1), (.int p2), (.int p3), (.int p4)] below meth c s₁ [] 0 0 := Stand.of_body Bd
  have hS : s.Since s.vm h0.size := (State.WarmedH.refl s).since _
  have eh0 : s₁.heap = h0 := by rw [← hh, Bd.state]; rfl
  have N0 := Fr.nil n0
  show RestW p.tables e below s (Q0 Z p0 p1 p2 p3 p4 ic h0 n0) _ _ (s₁.setTop (entryFrame m #[(.int p0), (.int p1), (.int p2), (.int p3), (.int p4)] maxLocals))
  refine RestW.via (fun t k => castTop (ef_0 m p0 p1 p2 p3 p4) k) ?_
  have I := hVP
  show RestW p.tables e below s _ _ _ (s₁.setTop (mkF m 0 #[.val (.int p0), .val (.int p1), .val (.int p2), .val (.int p3), .val (.int p4), .unset, .unset, .unset, .unset, .unset, .unset, .unset, .unset, .unset, .unset, .unset, .unset, .unset] []))
  refine RestW.via (fun t k => XS.iloadN X0.here hx rfl (hb hby at_0) rfl k) ?_
  show RestW p.tables e below s _ _ _ (s₁.setTop (mkF m 1 #[.val (.int p0), .val (.int p1), .val (.int p2), .val (.int p3), .val (.int p4), .unset, .unset, .unset, .unset, .unset, .unset, .unset, .unset, .unset, .unset, .unset, .unset, .unset] [(.int p0)]))
  refine RestW.via (fun t k => XS.iconst X0.here hx rfl (hb hby at_1) k) ?_
  show RestW p.tables e below s _ _ _ (s₁.setTop (mkF m 2 #[.val (.int p0), .val (.int p1), .val (.int p2), .val (.int p3), .val (.int p4), .unset, .unset, .unset, .unset, .unset, .unset, .unset, .unset, .unset, .unset, .unset, .unset, .unset] [(.int (3 : Int32)), (.int p0)]))
  refine RestW.via (fun t k => XS.iand X0.here hx rfl (hb hby at_2) rfl k) ?_
  show RestW p.tables e below s _ _ _ (s₁.setTop (mkF m 3 #[.val (.int p0), .val (.int p1), .val (.int p2), .val (.int p3), .val (.int p4), .unset, .unset, .unset, .unset, .unset, .unset, .unset, .unset, .unset, .unset, .unset, .unset, .unset] [(.int (p0 &&& (3 : Int32)))]))
  refine RestW.via (fun t k => XS.istore X0.here hx rfl (hb hby at_3) rfl (l' := #[.val (.int p0), .val (.int p1), .val (.int p2), .val (.int p3), .val (.int p4), .val (.int (p0 &&& (3 : Int32))), .unset, .unset, .unset, .unset, .unset, .unset, .unset, .unset, .unset, .unset, .unset, .unset]) rfl k) ?_
  show RestW p.tables e below s _ _ _ (s₁.setTop (mkF m 5 #[.val (.int p0), .val (.int p1), .val (.int p2), .val (.int p3), .val (.int p4), .val (.int (p0 &&& (3 : Int32))), .unset, .unset, .unset, .unset, .unset, .unset, .unset, .unset, .unset, .unset, .unset, .unset] []))
  obtain ⟨nA, hv_nA⟩ : ∃ z : Int32, z = (p0 &&& (3 : Int32)) := ⟨_, rfl⟩
  rw [← hv_nA]
  show RestW p.tables e below s _ _ _ (s₁.setTop (mkF m 5 #[.val (.int p0), .val (.int p1), .val (.int p2), .val (.int p3), .val (.int p4), .val (.int nA), .unset, .unset, .unset, .unset, .unset, .unset, .unset, .unset, .unset, .unset, .unset, .unset] []))
  refine RestW.via (fun t k => XS.iloadN X0.here hx rfl (hb hby at_5) rfl k) ?_
  show RestW p.tables e below s _ _ _ (s₁.setTop (mkF m 6 #[.val (.int p0), .val (.int p1), .val (.int p2), .val (.int p3), .val (.int p4), .val (.int nA), .unset, .unset, .unset, .unset, .unset, .unset, .unset, .unset, .unset, .unset, .unset, .unset] [(.int p1)]))
  refine RestW.via (fun t k => XS.sipush X0.here hx rfl (hb hby at_6) k) ?_
  show RestW p.tables e below s _ _ _ (s₁.setTop (mkF m 9 #[.val (.int p0), .val (.int p1), .val (.int p2), .val (.int p3), .val (.int p4), .val (.int nA), .unset, .unset, .unset, .unset, .unset, .unset, .unset, .unset, .unset, .unset, .unset, .unset] [(.int (255 : Int32)), (.int p1)]))
  refine RestW.via (fun t k => XS.iand X0.here hx rfl (hb hby at_9) rfl k) ?_
  show RestW p.tables e below s _ _ _ (s₁.setTop (mkF m 10 #[.val (.int p0), .val (.int p1), .val (.int p2), .val (.int p3), .val (.int p4), .val (.int nA), .unset, .unset, .unset, .unset, .unset, .unset, .unset, .unset, .unset, .unset, .unset, .unset] [(.int (p1 &&& (255 : Int32)))]))
  refine RestW.via (fun t k => XS.i2c X0.here hx rfl (hb hby at_10) rfl k) ?_
  show RestW p.tables e below s _ _ _ (s₁.setTop (mkF m 11 #[.val (.int p0), .val (.int p1), .val (.int p2), .val (.int p3), .val (.int p4), .val (.int nA), .unset, .unset, .unset, .unset, .unset, .unset, .unset, .unset, .unset, .unset, .unset, .unset] [(.int ((p1 &&& (255 : Int32)).toUInt32.toUInt16.toUInt32.toInt32))]))
  refine RestW.via (fun t k => XS.istore X0.here hx rfl (hb hby at_11) rfl (l' := #[.val (.int p0), .val (.int p1), .val (.int p2), .val (.int p3), .val (.int p4), .val (.int nA), .val (.int ((p1 &&& (255 : Int32)).toUInt32.toUInt16.toUInt32.toInt32)), .unset, .unset, .unset, .unset, .unset, .unset, .unset, .unset, .unset, .unset, .unset]) rfl k) ?_
  show RestW p.tables e below s _ _ _ (s₁.setTop (mkF m 13 #[.val (.int p0), .val (.int p1), .val (.int p2), .val (.int p3), .val (.int p4), .val (.int nA), .val (.int ((p1 &&& (255 : Int32)).toUInt32.toUInt16.toUInt32.toInt32)), .unset, .unset, .unset, .unset, .unset, .unset, .unset, .unset, .unset, .unset, .unset] []))
  obtain ⟨xa, hv_xa⟩ : ∃ z : Int32, z = ((p1 &&& (255 : Int32)).toUInt32.toUInt16.toUInt32.toInt32) := ⟨_, rfl⟩
  rw [← hv_xa]
  show RestW p.tables e below s _ _ _ (s₁.setTop (mkF m 13 #[.val (.int p0), .val (.int p1), .val (.int p2), .val (.int p3), .val (.int p4), .val (.int nA), .val (.int xa), .unset, .unset, .unset, .unset, .unset, .unset, .unset, .unset, .unset, .unset, .unset] []))
  refine RestW.via (fun t k => XS.iloadN X0.here hx rfl (hb hby at_13) rfl k) ?_
  show RestW p.tables e below s _ _ _ (s₁.setTop (mkF m 14 #[.val (.int p0), .val (.int p1), .val (.int p2), .val (.int p3), .val (.int p4), .val (.int nA), .val (.int xa), .unset, .unset, .unset, .unset, .unset, .unset, .unset, .unset, .unset, .unset, .unset] [(.int p1)]))
  refine RestW.via (fun t k => XS.bipush X0.here hx rfl (hb hby at_14) k) ?_
  show RestW p.tables e below s _ _ _ (s₁.setTop (mkF m 16 #[.val (.int p0), .val (.int p1), .val (.int p2), .val (.int p3), .val (.int p4), .val (.int nA), .val (.int xa), .unset, .unset, .unset, .unset, .unset, .unset, .unset, .unset, .unset, .unset, .unset] [(.int (8 : Int32)), (.int p1)]))
  refine RestW.via (fun t k => XS.iushr X0.here hx rfl (hb hby at_16) rfl k) ?_
  show RestW p.tables e below s _ _ _ (s₁.setTop (mkF m 17 #[.val (.int p0), .val (.int p1), .val (.int p2), .val (.int p3), .val (.int p4), .val (.int nA), .val (.int xa), .unset, .unset, .unset, .unset, .unset, .unset, .unset, .unset, .unset, .unset, .unset] [(.int ((p1.toUInt32 >>> ((8 : Int32) &&& 31).toUInt32).toInt32))]))
  refine RestW.via (fun t k => XS.sipush X0.here hx rfl (hb hby at_17) k) ?_
  show RestW p.tables e below s _ _ _ (s₁.setTop (mkF m 20 #[.val (.int p0), .val (.int p1), .val (.int p2), .val (.int p3), .val (.int p4), .val (.int nA), .val (.int xa), .unset, .unset, .unset, .unset, .unset, .unset, .unset, .unset, .unset, .unset, .unset] [(.int (255 : Int32)), (.int ((p1.toUInt32 >>> ((8 : Int32) &&& 31).toUInt32).toInt32))]))
  refine RestW.via (fun t k => XS.iand X0.here hx rfl (hb hby at_20) rfl k) ?_
  show RestW p.tables e below s _ _ _ (s₁.setTop (mkF m 21 #[.val (.int p0), .val (.int p1), .val (.int p2), .val (.int p3), .val (.int p4), .val (.int nA), .val (.int xa), .unset, .unset, .unset, .unset, .unset, .unset, .unset, .unset, .unset, .unset, .unset] [(.int (((p1.toUInt32 >>> ((8 : Int32) &&& 31).toUInt32).toInt32) &&& (255 : Int32)))]))
  refine RestW.via (fun t k => XS.i2c X0.here hx rfl (hb hby at_21) rfl k) ?_
  show RestW p.tables e below s _ _ _ (s₁.setTop (mkF m 22 #[.val (.int p0), .val (.int p1), .val (.int p2), .val (.int p3), .val (.int p4), .val (.int nA), .val (.int xa), .unset, .unset, .unset, .unset, .unset, .unset, .unset, .unset, .unset, .unset, .unset] [(.int ((((p1.toUInt32 >>> ((8 : Int32) &&& 31).toUInt32).toInt32) &&& (255 : Int32)).toUInt32.toUInt16.toUInt32.toInt32))]))
  refine RestW.via (fun t k => XS.istore X0.here hx rfl (hb hby at_22) rfl (l' := #[.val (.int p0), .val (.int p1), .val (.int p2), .val (.int p3), .val (.int p4), .val (.int nA), .val (.int xa), .val (.int ((((p1.toUInt32 >>> ((8 : Int32) &&& 31).toUInt32).toInt32) &&& (255 : Int32)).toUInt32.toUInt16.toUInt32.toInt32)), .unset, .unset, .unset, .unset, .unset, .unset, .unset, .unset, .unset, .unset]) rfl k) ?_
  show RestW p.tables e below s _ _ _ (s₁.setTop (mkF m 24 #[.val (.int p0), .val (.int p1), .val (.int p2), .val (.int p3), .val (.int p4), .val (.int nA), .val (.int xa), .val (.int ((((p1.toUInt32 >>> ((8 : Int32) &&& 31).toUInt32).toInt32) &&& (255 : Int32)).toUInt32.toUInt16.toUInt32.toInt32)), .unset, .unset, .unset, .unset, .unset, .unset, .unset, .unset, .unset, .unset] []))
  obtain ⟨xb, hv_xb⟩ : ∃ z : Int32, z = ((((p1.toUInt32 >>> ((8 : Int32) &&& 31).toUInt32).toInt32) &&& (255 : Int32)).toUInt32.toUInt16.toUInt32.toInt32) := ⟨_, rfl⟩
  rw [← hv_xb]
  show RestW p.tables e below s _ _ _ (s₁.setTop (mkF m 24 #[.val (.int p0), .val (.int p1), .val (.int p2), .val (.int p3), .val (.int p4), .val (.int nA), .val (.int xa), .val (.int xb), .unset, .unset, .unset, .unset, .unset, .unset, .unset, .unset, .unset, .unset] []))
  refine RestW.via (fun t k => XS.iloadN X0.here hx rfl (hb hby at_24) rfl k) ?_
  show RestW p.tables e below s _ _ _ (s₁.setTop (mkF m 25 #[.val (.int p0), .val (.int p1), .val (.int p2), .val (.int p3), .val (.int p4), .val (.int nA), .val (.int xa), .val (.int xb), .unset, .unset, .unset, .unset, .unset, .unset, .unset, .unset, .unset, .unset] [(.int p1)]))
  refine RestW.via (fun t k => XS.bipush X0.here hx rfl (hb hby at_25) k) ?_
  show RestW p.tables e below s _ _ _ (s₁.setTop (mkF m 27 #[.val (.int p0), .val (.int p1), .val (.int p2), .val (.int p3), .val (.int p4), .val (.int nA), .val (.int xa), .val (.int xb), .unset, .unset, .unset, .unset, .unset, .unset, .unset, .unset, .unset, .unset] [(.int (16 : Int32)), (.int p1)]))
  refine RestW.via (fun t k => XS.iushr X0.here hx rfl (hb hby at_27) rfl k) ?_
  show RestW p.tables e below s _ _ _ (s₁.setTop (mkF m 28 #[.val (.int p0), .val (.int p1), .val (.int p2), .val (.int p3), .val (.int p4), .val (.int nA), .val (.int xa), .val (.int xb), .unset, .unset, .unset, .unset, .unset, .unset, .unset, .unset, .unset, .unset] [(.int ((p1.toUInt32 >>> ((16 : Int32) &&& 31).toUInt32).toInt32))]))
  refine RestW.via (fun t k => XS.sipush X0.here hx rfl (hb hby at_28) k) ?_
  show RestW p.tables e below s _ _ _ (s₁.setTop (mkF m 31 #[.val (.int p0), .val (.int p1), .val (.int p2), .val (.int p3), .val (.int p4), .val (.int nA), .val (.int xa), .val (.int xb), .unset, .unset, .unset, .unset, .unset, .unset, .unset, .unset, .unset, .unset] [(.int (255 : Int32)), (.int ((p1.toUInt32 >>> ((16 : Int32) &&& 31).toUInt32).toInt32))]))
  refine RestW.via (fun t k => XS.iand X0.here hx rfl (hb hby at_31) rfl k) ?_
  show RestW p.tables e below s _ _ _ (s₁.setTop (mkF m 32 #[.val (.int p0), .val (.int p1), .val (.int p2), .val (.int p3), .val (.int p4), .val (.int nA), .val (.int xa), .val (.int xb), .unset, .unset, .unset, .unset, .unset, .unset, .unset, .unset, .unset, .unset] [(.int (((p1.toUInt32 >>> ((16 : Int32) &&& 31).toUInt32).toInt32) &&& (255 : Int32)))]))
  refine RestW.via (fun t k => XS.i2c X0.here hx rfl (hb hby at_32) rfl k) ?_
  show RestW p.tables e below s _ _ _ (s₁.setTop (mkF m 33 #[.val (.int p0), .val (.int p1), .val (.int p2), .val (.int p3), .val (.int p4), .val (.int nA), .val (.int xa), .val (.int xb), .unset, .unset, .unset, .unset, .unset, .unset, .unset, .unset, .unset, .unset] [(.int ((((p1.toUInt32 >>> ((16 : Int32) &&& 31).toUInt32).toInt32) &&& (255 : Int32)).toUInt32.toUInt16.toUInt32.toInt32))]))
  refine RestW.via (fun t k => XS.istore X0.here hx rfl (hb hby at_33) rfl (l' := #[.val (.int p0), .val (.int p1), .val (.int p2), .val (.int p3), .val (.int p4), .val (.int nA), .val (.int xa), .val (.int xb), .val (.int ((((p1.toUInt32 >>> ((16 : Int32) &&& 31).toUInt32).toInt32) &&& (255 : Int32)).toUInt32.toUInt16.toUInt32.toInt32)), .unset, .unset, .unset, .unset, .unset, .unset, .unset, .unset, .unset]) rfl k) ?_
  show RestW p.tables e below s _ _ _ (s₁.setTop (mkF m 35 #[.val (.int p0), .val (.int p1), .val (.int p2), .val (.int p3), .val (.int p4), .val (.int nA), .val (.int xa), .val (.int xb), .val (.int ((((p1.toUInt32 >>> ((16 : Int32) &&& 31).toUInt32).toInt32) &&& (255 : Int32)).toUInt32.toUInt16.toUInt32.toInt32)), .unset, .unset, .unset, .unset, .unset, .unset, .unset, .unset, .unset] []))
  obtain ⟨xc, hv_xc⟩ : ∃ z : Int32, z = ((((p1.toUInt32 >>> ((16 : Int32) &&& 31).toUInt32).toInt32) &&& (255 : Int32)).toUInt32.toUInt16.toUInt32.toInt32) := ⟨_, rfl⟩
  rw [← hv_xc]
  show RestW p.tables e below s _ _ _ (s₁.setTop (mkF m 35 #[.val (.int p0), .val (.int p1), .val (.int p2), .val (.int p3), .val (.int p4), .val (.int nA), .val (.int xa), .val (.int xb), .val (.int xc), .unset, .unset, .unset, .unset, .unset, .unset, .unset, .unset, .unset] []))
  have hnA : own_n4 nA := by rw [hv_nA]; exact own_m3 _
  have hxa : own_ch xa := by rw [hv_xa]; exact own_c8 _
  have hxb : own_ch xb := by rw [hv_xb]; exact own_c8 _
  have hxc : own_ch xc := by rw [hv_xc]; exact own_c8 _
  refine RestW.via (fun t k => XS.iload X0.here hx rfl (hb hby at_35) rfl k) ?_
  show RestW p.tables e below s _ _ _ (s₁.setTop (mkF m 37 #[.val (.int p0), .val (.int p1), .val (.int p2), .val (.int p3), .val (.int p4), .val (.int nA), .val (.int xa), .val (.int xb), .val (.int xc), .unset, .unset, .unset, .unset, .unset, .unset, .unset, .unset, .unset] [(.int p4)]))
  refine RestW.via (fun t k => XS.iconst X0.here hx rfl (hb hby at_37) k) ?_
  show RestW p.tables e below s _ _ _ (s₁.setTop (mkF m 38 #[.val (.int p0), .val (.int p1), .val (.int p2), .val (.int p3), .val (.int p4), .val (.int nA), .val (.int xa), .val (.int xb), .val (.int xc), .unset, .unset, .unset, .unset, .unset, .unset, .unset, .unset, .unset] [(.int (4 : Int32)), (.int p4)]))
  refine RestW.via (fun t k => XS.iand X0.here hx rfl (hb hby at_38) rfl k) ?_
  show RestW p.tables e below s _ _ _ (s₁.setTop (mkF m 39 #[.val (.int p0), .val (.int p1), .val (.int p2), .val (.int p3), .val (.int p4), .val (.int nA), .val (.int xa), .val (.int xb), .val (.int xc), .unset, .unset, .unset, .unset, .unset, .unset, .unset, .unset, .unset] [(.int (p4 &&& (4 : Int32)))]))
  have J96 : ∀ (nB : Int32), ∀ (ya : Int32), ∀ (yb : Int32), ∀ (yc : Int32), (own_n4 nB) → (own_ch ya) → (own_ch yb) → (own_ch yc) → RestW p.tables e below s (Q0 Z p0 p1 p2 p3 p4 ic h0 n0) 12 46 (s₁.setTop (mkF m 96 #[.val (.int p0), .val (.int p1), .val (.int p2), .val (.int p3), .val (.int p4), .val (.int nA), .val (.int xa), .val (.int xb), .val (.int xc), .val (.int nB), .val (.int ya), .val (.int yb), .val (.int yc), .unset, .unset, .unset, .unset, .unset] [])) := by
    intro nB ya yb yc hnB hya hyb hyc
    show RestW p.tables e below s _ _ _ (s₁.setTop (mkF m 96 #[.val (.int p0), .val (.int p1), .val (.int p2), .val (.int p3), .val (.int p4), .val (.int nA), .val (.int xa), .val (.int xb), .val (.int xc), .val (.int nB), .val (.int ya), .val (.int yb), .val (.int yc), .unset, .unset, .unset, .unset, .unset] []))
    obtain ⟨T1, h1, X1, e1, E1, A1, D1, -, st1⟩ := newO X0 hx hZ hown (hw _ (List.mem_of_getElem? (i := 0) rfl)) (hw _ (List.mem_of_getElem? (i := 1) rfl)) (hw _ (List.mem_of_getElem? (i := 2) rfl)) eh0 (g := (mkF m 96 #[.val (.int p0), .val (.int p1), .val (.int p2), .val (.int p3), .val (.int p4), .val (.int nA), .val (.int xa), .val (.int xb), .val (.int xc), .val (.int nB), .val (.int ya), .val (.int yb), .val (.int yc), .unset, .unset, .unset, .unset, .unset] [])) rfl (hb hby at_96) (by decide) (by decide)
    obtain ⟨b1, gq1⟩ : ∃ z, z = h0.size := ⟨_, rfl⟩
    rw [← gq1] at A1 D1 st1
    have sz_b1 : h0.size ≤ b1 := Nat.le_trans (Keep.refl h0 []).1 (Nat.le_of_eq gq1.symm)
    have g_b1 : n0 ≤ b1 := Nat.le_trans Z0 sz_b1
    have K1 : Keep h0 h1 [] := (Keep.refl h0 []).ext E1
    have E_b1 := A1
    have F_value_b1 : Fld Z h1 b1 "com/example/surnia/surnia/rdf/UriRef" "value" "Ljava/lang/String;" .null := D1 (Or.inr (hw _ (List.mem_of_getElem? (i := 44) rfl))) (ty := (.object "java/lang/String")) (by decide)
    refine RestW.via (fun t k => st1 t k) ?_
    show RestW p.tables e below s _ _ _ (T1.setTop (mkF m 99 #[.val (.int p0), .val (.int p1), .val (.int p2), .val (.int p3), .val (.int p4), .val (.int nA), .val (.int xa), .val (.int xb), .val (.int xc), .val (.int nB), .val (.int ya), .val (.int yb), .val (.int yc), .unset, .unset, .unset, .unset, .unset] [(.ref b1)]))
    refine RestW.via (fun t k => XS.dup X1.here hx rfl (hb hby at_99) rfl rfl k) ?_
    show RestW p.tables e below s _ _ _ (T1.setTop (mkF m 100 #[.val (.int p0), .val (.int p1), .val (.int p2), .val (.int p3), .val (.int p4), .val (.int nA), .val (.int xa), .val (.int xb), .val (.int xc), .val (.int nB), .val (.int ya), .val (.int yb), .val (.int yc), .unset, .unset, .unset, .unset, .unset] [(.ref b1), (.ref b1)]))
    refine RestW.via (fun t k => XS.iload X1.here hx rfl (hb hby at_100) rfl k) ?_
    show RestW p.tables e below s _ _ _ (T1.setTop (mkF m 102 #[.val (.int p0), .val (.int p1), .val (.int p2), .val (.int p3), .val (.int p4), .val (.int nA), .val (.int xa), .val (.int xb), .val (.int xc), .val (.int nB), .val (.int ya), .val (.int yb), .val (.int yc), .unset, .unset, .unset, .unset, .unset] [(.int nA), (.ref b1), (.ref b1)]))
    refine RestW.via (fun t k => XS.iload X1.here hx rfl (hb hby at_102) rfl k) ?_
    show RestW p.tables e below s _ _ _ (T1.setTop (mkF m 104 #[.val (.int p0), .val (.int p1), .val (.int p2), .val (.int p3), .val (.int p4), .val (.int nA), .val (.int xa), .val (.int xb), .val (.int xc), .val (.int nB), .val (.int ya), .val (.int yb), .val (.int yc), .unset, .unset, .unset, .unset, .unset] [(.int xa), (.int nA), (.ref b1), (.ref b1)]))
    refine RestW.via (fun t k => XS.iload X1.here hx rfl (hb hby at_104) rfl k) ?_
    show RestW p.tables e below s _ _ _ (T1.setTop (mkF m 106 #[.val (.int p0), .val (.int p1), .val (.int p2), .val (.int p3), .val (.int p4), .val (.int nA), .val (.int xa), .val (.int xb), .val (.int xc), .val (.int nB), .val (.int ya), .val (.int yb), .val (.int yc), .unset, .unset, .unset, .unset, .unset] [(.int xb), (.int xa), (.int nA), (.ref b1), (.ref b1)]))
    refine RestW.via (fun t k => XS.iload X1.here hx rfl (hb hby at_106) rfl k) ?_
    show RestW p.tables e below s _ _ _ (T1.setTop (mkF m 108 #[.val (.int p0), .val (.int p1), .val (.int p2), .val (.int p3), .val (.int p4), .val (.int nA), .val (.int xa), .val (.int xb), .val (.int xc), .val (.int nB), .val (.int ya), .val (.int yb), .val (.int yc), .unset, .unset, .unset, .unset, .unset] [(.int xc), (.int xb), (.int xa), (.int nA), (.ref b1), (.ref b1)]))
    obtain ⟨_, _, ⟨T2, L2, k2, n2⟩, -, X2, hSq2, gr2, ⟨Lc2, hQ2, l2, y2, z2⟩, st2⟩ := callSS X1 hx (y := (⟨"com/example/surnia/surnia/rdf/UriRefEqualsPinLaw", "mk", "(ICCC)Ljava/lang/String;"⟩ : MethodName)) hown (mvT hZ (hw _ (List.mem_of_getElem? (i := 3) rfl))) (mvT hZ (hw _ (List.mem_of_getElem? (i := 4) rfl))) (mvT hZ (hw _ (List.mem_of_getElem? (i := 5) rfl))) (mvT hZ (hw _ (List.mem_of_getElem? (i := 6) rfl))) (by decide) (own_backV (W := 2) (rmMKc l Z aw hw [] nA xa xb xc ic [] h1 n0 (Nat.le_trans Z0 K1.1) hnA hxa hxb hxc (O.keep K1 all0) CS hcw HE (by simp)) hZ (hw _ (List.mem_of_getElem? (i := 6) rfl)) (hw _ (List.mem_of_getElem? (i := 5) rfl)) (by decide) (by decide) (fun vm' hw' => own_IB_warm (s := s) I hw')) (g := (mkF m 108 #[.val (.int p0), .val (.int p1), .val (.int p2), .val (.int p3), .val (.int p4), .val (.int nA), .val (.int xa), .val (.int xb), .val (.int xc), .val (.int nB), .val (.int ya), .val (.int yb), .val (.int yc), .unset, .unset, .unset, .unset, .unset] [(.int xc), (.int xb), (.int xa), (.int nA), (.ref b1), (.ref b1)])) rfl (by rw [hml]; rfl) (argsL := [(.int nA), (.int xa), (.int xb), (.int xc)]) (rest := [(.ref b1), (.ref b1)]) (lenOf pd_9 rfl) rfl (by show 2 * 0 + _ ≤ _; exact Nat.le_of_eq rfl) (hb hby at_108) (fun _ _ => ⟨rfl, e1, (by decide : 1 + 4 ≤ _), (by decide : 1 + 10 ≤ _)⟩)
    dsimp only [Pt.U, Pt.locs, Pt.cells, Pt.slots] at X2 l2 y2 z2 st2 hQ2 hSq2 gr2
    subst l2 y2 z2
    obtain ⟨X2, hS, hZ, hown⟩ := rebS hS (by rw [e1]; first | exact (Nat.le_trans (Nat.le_refl _) E1.1) | exact Nat.le_refl _) X2 hSq2 gr2 hZ hown
    obtain ⟨h2, e2⟩ : ∃ z, T2.heap = z := ⟨_, rfl⟩
    rw [e2] at hQ2
    obtain ⟨ta2, va2, kb2, rfl, Nq2, Kq2, gt2, St2, Dj2⟩ := hQ2
    have N2 := Fr.app N0 Nq2
    have K2 : Keep h0 h2 [] := K1.trans Kq2 all0
    have ne_ta2_u : ta2 ≠ b1 := Exa.ne St2.1 (E_b1.keep Kq2) (by decide)
    have ne_u_va2 : b1 ≠ va2 := Exa.neArv (E_b1.keep Kq2) St2.2.2.2 (hw _ (List.mem_of_getElem? (i := 1) rfl))
    refine RestW.via (fun t k => st2.trans k) ?_
    show RestW p.tables e below s _ _ _ (T2.setTop (mkF m 111 #[.val (.int p0), .val (.int p1), .val (.int p2), .val (.int p3), .val (.int p4), .val (.int nA), .val (.int xa), .val (.int xb), .val (.int xc), .val (.int nB), .val (.int ya), .val (.int yb), .val (.int yc), .unset, .unset, .unset, .unset, .unset] [(.ref ta2), (.ref b1), (.ref b1)]))
    rcases Dj2 with ⟨hz0, I, la, lb, lk, Li, SL⟩ | ⟨hz0, I⟩
    · skip
      have ne_la_u : la ≠ b1 := Exa.ne SL.1 (E_b1.keep Kq2) (by decide)
      have ne_u_lb : b1 ≠ lb := Exa.neArv (E_b1.keep Kq2) SL.2.2.2 (hw _ (List.mem_of_getElem? (i := 1) rfl))
      show RestW p.tables e below s _ _ _ (T2.setTop (mkF m 111 #[.val (.int p0), .val (.int p1), .val (.int p2), .val (.int p3), .val (.int p4), .val (.int nA), .val (.int xa), .val (.int xb), .val (.int xc), .val (.int nB), .val (.int ya), .val (.int yb), .val (.int yc), .unset, .unset, .unset, .unset, .unset] [(.ref ta2), (.ref b1), (.ref b1)]))
      obtain ⟨_, _, ⟨T3, L3, k3, n3⟩, -, X3, hSq3, gr3, ⟨Lc3, hQ3, l3, y3, z3⟩, st3⟩ := X2.specialBackS hx (y := (⟨"com/example/surnia/surnia/rdf/UriRef", "<init>", "(Ljava/lang/String;)V"⟩ : MethodName)) rfl hown (mvT hZ (hw _ (List.mem_of_getElem? (i := 29) rfl))) (mvT hZ (hw _ (List.mem_of_getElem? (i := 30) rfl))) (mvT hZ (hw _ (List.mem_of_getElem? (i := 31) rfl))) (by decide) (own_backV (W := 1) (rmURc l Z aw hw [] b1 ta2 [""] h2 n0 (Nat.le_trans Z0 K2.1) (E_b1.keep Kq2) (F_value_b1.keep Kq2 nin0) g_b1 (O.keep K2 all0) hcw HV (by simp)) hZ (hw _ (List.mem_of_getElem? (i := 31) rfl)) (hw _ (List.mem_of_getElem? (i := 2) rfl)) (by decide) (by decide) (fun vm' hw' => own_IB_warm (s := s) I hw')) (g := (mkF m 111 #[.val (.int p0), .val (.int p1), .val (.int p2), .val (.int p3), .val (.int p4), .val (.int nA), .val (.int xa), .val (.int xb), .val (.int xc), .val (.int nB), .val (.int ya), .val (.int yb), .val (.int yc), .unset, .unset, .unset, .unset, .unset] [(.ref ta2), (.ref b1), (.ref b1)])) rfl (by rw [hml]; rfl) (Steps.refl _) (a := b1) (argsL := [(.ref ta2)]) (rest := [(.ref b1)]) (lenOf pd_10 rfl) rfl (by show 2 * 0 + _ ≤ _; exact Nat.le_of_eq rfl) (hb hby at_111) (fun _ _ => ⟨rfl, e2, (by decide : 5 + 2 ≤ _), (by decide : 11 + 24 ≤ _)⟩)
      dsimp only [Pt.U, Pt.locs, Pt.cells, Pt.slots] at X3 l3 y3 z3 st3 hQ3 hSq3 gr3
      subst l3 y3 z3
      obtain ⟨X3, hS, hZ, hown⟩ := rebS hS (by rw [e2]; first | exact (Nat.le_of_eq (congrArg Array.size e2)) | exact Nat.le_refl _) X3 hSq3 gr3 hZ hown
      obtain ⟨h3, e3⟩ : ∃ z, T3.heap = z := ⟨_, rfl⟩
      rw [e3] at hQ3
      obtain ⟨rfl, Nq3, Kq3, Fu3, I, lv, LV⟩ := hQ3
      have N3 := Fr.app N2 Nq3
      have K3 : Keep h0 h3 [] := K2.trans Kq3 (allS (Or.inr sz_b1) all0)
      have Li := own_Lit_warm Li hSq3.1
      refine RestW.via (fun t k => st3.trans k) ?_
      show RestW p.tables e below s _ _ _ (T3.setTop (mkF m 114 #[.val (.int p0), .val (.int p1), .val (.int p2), .val (.int p3), .val (.int p4), .val (.int nA), .val (.int xa), .val (.int xb), .val (.int xc), .val (.int nB), .val (.int ya), .val (.int yb), .val (.int yc), .unset, .unset, .unset, .unset, .unset] [(.ref b1)]))
      refine RestW.via (fun t k => XS.astore X3.here hx rfl (hb hby at_114) rfl rfl (l' := #[.val (.int p0), .val (.int p1), .val (.int p2), .val (.int p3), .val (.int p4), .val (.int nA), .val (.int xa), .val (.int xb), .val (.int xc), .val (.int nB), .val (.int ya), .val (.int yb), .val (.int yc), .val (.ref b1), .unset, .unset, .unset, .unset]) rfl k) ?_
      show RestW p.tables e below s _ _ _ (T3.setTop (mkF m 116 #[.val (.int p0), .val (.int p1), .val (.int p2), .val (.int p3), .val (.int p4), .val (.int nA), .val (.int xa), .val (.int xb), .val (.int xc), .val (.int nB), .val (.int ya), .val (.int yb), .val (.int yc), .val (.ref b1), .unset, .unset, .unset, .unset] []))
      refine RestW.via (fun t k => XS.iload X3.here hx rfl (hb hby at_116) rfl k) ?_
      show RestW p.tables e below s _ _ _ (T3.setTop (mkF m 118 #[.val (.int p0), .val (.int p1), .val (.int p2), .val (.int p3), .val (.int p4), .val (.int nA), .val (.int xa), .val (.int xb), .val (.int xc), .val (.int nB), .val (.int ya), .val (.int yb), .val (.int yc), .val (.ref b1), .unset, .unset, .unset, .unset] [(.int nB)]))
      refine RestW.via (fun t k => XS.iload X3.here hx rfl (hb hby at_118) rfl k) ?_
      show RestW p.tables e below s _ _ _ (T3.setTop (mkF m 120 #[.val (.int p0), .val (.int p1), .val (.int p2), .val (.int p3), .val (.int p4), .val (.int nA), .val (.int xa), .val (.int xb), .val (.int xc), .val (.int nB), .val (.int ya), .val (.int yb), .val (.int yc), .val (.ref b1), .unset, .unset, .unset, .unset] [(.int ya), (.int nB)]))
      refine RestW.via (fun t k => XS.iload X3.here hx rfl (hb hby at_120) rfl k) ?_
      show RestW p.tables e below s _ _ _ (T3.setTop (mkF m 122 #[.val (.int p0), .val (.int p1), .val (.int p2), .val (.int p3), .val (.int p4), .val (.int nA), .val (.int xa), .val (.int xb), .val (.int xc), .val (.int nB), .val (.int ya), .val (.int yb), .val (.int yc), .val (.ref b1), .unset, .unset, .unset, .unset] [(.int yb), (.int ya), (.int nB)]))
      refine RestW.via (fun t k => XS.iload X3.here hx rfl (hb hby at_122) rfl k) ?_
      show RestW p.tables e below s _ _ _ (T3.setTop (mkF m 124 #[.val (.int p0), .val (.int p1), .val (.int p2), .val (.int p3), .val (.int p4), .val (.int nA), .val (.int xa), .val (.int xb), .val (.int xc), .val (.int nB), .val (.int ya), .val (.int yb), .val (.int yc), .val (.ref b1), .unset, .unset, .unset, .unset] [(.int yc), (.int yb), (.int ya), (.int nB)]))
      obtain ⟨_, _, ⟨T4, L4, k4, n4⟩, -, X4, hSq4, gr4, ⟨Lc4, hQ4, l4, y4, z4⟩, st4⟩ := callSS X3 hx (y := (⟨"com/example/surnia/surnia/rdf/UriRefEqualsPinLaw", "mk", "(ICCC)Ljava/lang/String;"⟩ : MethodName)) hown (mvT hZ (hw _ (List.mem_of_getElem? (i := 3) rfl))) (mvT hZ (hw _ (List.mem_of_getElem? (i := 4) rfl))) (mvT hZ (hw _ (List.mem_of_getElem? (i := 5) rfl))) (mvT hZ (hw _ (List.mem_of_getElem? (i := 6) rfl))) (by decide) (own_backV (W := 0) (rmMKw l Z aw hw [] nB ya yb yc ic la lb lk h3 n0 (Nat.le_trans Z0 K3.1) hnB hya hyb hyc (O.keep K3 all0) CS hcw (own_St_keep SL Kq3 (ninS ne_la_u nin0) (ninS (Ne.symm ne_u_lb) nin0))) hZ (hw _ (List.mem_of_getElem? (i := 6) rfl)) (hw _ (List.mem_of_getElem? (i := 5) rfl)) (by decide) (by decide) (fun vm' hw' => own_Lit_warm (s := s) Li hw'.wide)) (g := (mkF m 124 #[.val (.int p0), .val (.int p1), .val (.int p2), .val (.int p3), .val (.int p4), .val (.int nA), .val (.int xa), .val (.int xb), .val (.int xc), .val (.int nB), .val (.int ya), .val (.int yb), .val (.int yc), .val (.ref b1), .unset, .unset, .unset, .unset] [(.int yc), (.int yb), (.int ya), (.int nB)])) rfl (by rw [hml]; rfl) (argsL := [(.int nB), (.int ya), (.int yb), (.int yc)]) (rest := []) (lenOf pd_9 rfl) rfl (by show 2 * 0 + _ ≤ _; exact Nat.le_of_eq rfl) (hb hby at_124) (fun _ _ => ⟨rfl, e3, (by decide : 7 + 3 ≤ _), (by decide : 35 + 10 ≤ _)⟩)
      dsimp only [Pt.U, Pt.locs, Pt.cells, Pt.slots] at X4 l4 y4 z4 st4 hQ4 hSq4 gr4
      subst l4 y4 z4
      obtain ⟨X4, hS, hZ, hown⟩ := rebS hS (by rw [e3]; first | exact (Nat.le_of_eq (congrArg Array.size e3)) | exact Nat.le_refl _) X4 hSq4 gr4 hZ hown
      obtain ⟨h4, e4⟩ : ∃ z, T4.heap = z := ⟨_, rfl⟩
      rw [e4] at hQ4
      obtain ⟨ta4, va4, kb4, rfl, Nq4, Kq4, gt4, St4⟩ := hQ4
      have N4 := Fr.app N3 Nq4
      have ne_tt : ta2 ≠ ta4 := Nat.ne_of_lt (Nat.lt_of_lt_of_le (St2.1.keep Kq3).lt gt4)
      have K4 : Keep h0 h4 [] := K3.trans Kq4 all0
      have LV := own_Lit_warm LV hSq4.1
      have ne_ta4_u : ta4 ≠ b1 := Exa.ne St4.1 (((E_b1.keep Kq2).keep Kq3).keep Kq4) (by decide)
      have ne_u_va4 : b1 ≠ va4 := Exa.neArv (((E_b1.keep Kq2).keep Kq3).keep Kq4) St4.2.2.2 (hw _ (List.mem_of_getElem? (i := 1) rfl))
      refine RestW.via (fun t k => st4.trans k) ?_
      show RestW p.tables e below s _ _ _ (T4.setTop (mkF m 127 #[.val (.int p0), .val (.int p1), .val (.int p2), .val (.int p3), .val (.int p4), .val (.int nA), .val (.int xa), .val (.int xb), .val (.int xc), .val (.int nB), .val (.int ya), .val (.int yb), .val (.int yc), .val (.ref b1), .unset, .unset, .unset, .unset] [(.ref ta4)]))
      refine RestW.via (fun t k => XS.astore X4.here hx rfl (hb hby at_127) rfl rfl (l' := #[.val (.int p0), .val (.int p1), .val (.int p2), .val (.int p3), .val (.int p4), .val (.int nA), .val (.int xa), .val (.int xb), .val (.int xc), .val (.int nB), .val (.int ya), .val (.int yb), .val (.int yc), .val (.ref b1), .val (.ref ta4), .unset, .unset, .unset]) rfl k) ?_
      show RestW p.tables e below s _ _ _ (T4.setTop (mkF m 129 #[.val (.int p0), .val (.int p1), .val (.int p2), .val (.int p3), .val (.int p4), .val (.int nA), .val (.int xa), .val (.int xb), .val (.int xc), .val (.int nB), .val (.int ya), .val (.int yb), .val (.int yc), .val (.ref b1), .val (.ref ta4), .unset, .unset, .unset] []))
      refine RestW.via (fun t k => XS.iload X4.here hx rfl (hb hby at_129) rfl k) ?_
      show RestW p.tables e below s _ _ _ (T4.setTop (mkF m 131 #[.val (.int p0), .val (.int p1), .val (.int p2), .val (.int p3), .val (.int p4), .val (.int nA), .val (.int xa), .val (.int xb), .val (.int xc), .val (.int nB), .val (.int ya), .val (.int yb), .val (.int yc), .val (.ref b1), .val (.ref ta4), .unset, .unset, .unset] [(.int nA)]))
      refine RestW.via (fun t k => XS.iload X4.here hx rfl (hb hby at_131) rfl k) ?_
      show RestW p.tables e below s _ _ _ (T4.setTop (mkF m 133 #[.val (.int p0), .val (.int p1), .val (.int p2), .val (.int p3), .val (.int p4), .val (.int nA), .val (.int xa), .val (.int xb), .val (.int xc), .val (.int nB), .val (.int ya), .val (.int yb), .val (.int yc), .val (.ref b1), .val (.ref ta4), .unset, .unset, .unset] [(.int xa), (.int nA)]))
      refine RestW.via (fun t k => XS.iload X4.here hx rfl (hb hby at_133) rfl k) ?_
      show RestW p.tables e below s _ _ _ (T4.setTop (mkF m 135 #[.val (.int p0), .val (.int p1), .val (.int p2), .val (.int p3), .val (.int p4), .val (.int nA), .val (.int xa), .val (.int xb), .val (.int xc), .val (.int nB), .val (.int ya), .val (.int yb), .val (.int yc), .val (.ref b1), .val (.ref ta4), .unset, .unset, .unset] [(.int xb), (.int xa), (.int nA)]))
      refine RestW.via (fun t k => XS.iload X4.here hx rfl (hb hby at_135) rfl k) ?_
      show RestW p.tables e below s _ _ _ (T4.setTop (mkF m 137 #[.val (.int p0), .val (.int p1), .val (.int p2), .val (.int p3), .val (.int p4), .val (.int nA), .val (.int xa), .val (.int xb), .val (.int xc), .val (.int nB), .val (.int ya), .val (.int yb), .val (.int yc), .val (.ref b1), .val (.ref ta4), .unset, .unset, .unset] [(.int xc), (.int xb), (.int xa), (.int nA)]))
      refine RestW.via (fun t k => XS.iload X4.here hx rfl (hb hby at_137) rfl k) ?_
      show RestW p.tables e below s _ _ _ (T4.setTop (mkF m 139 #[.val (.int p0), .val (.int p1), .val (.int p2), .val (.int p3), .val (.int p4), .val (.int nA), .val (.int xa), .val (.int xb), .val (.int xc), .val (.int nB), .val (.int ya), .val (.int yb), .val (.int yc), .val (.ref b1), .val (.ref ta4), .unset, .unset, .unset] [(.int nB), (.int xc), (.int xb), (.int xa), (.int nA)]))
      refine RestW.via (fun t k => XS.iload X4.here hx rfl (hb hby at_139) rfl k) ?_
      show RestW p.tables e below s _ _ _ (T4.setTop (mkF m 141 #[.val (.int p0), .val (.int p1), .val (.int p2), .val (.int p3), .val (.int p4), .val (.int nA), .val (.int xa), .val (.int xb), .val (.int xc), .val (.int nB), .val (.int ya), .val (.int yb), .val (.int yc), .val (.ref b1), .val (.ref ta4), .unset, .unset, .unset] [(.int ya), (.int nB), (.int xc), (.int xb), (.int xa), (.int nA)]))
      refine RestW.via (fun t k => XS.iload X4.here hx rfl (hb hby at_141) rfl k) ?_
      show RestW p.tables e below s _ _ _ (T4.setTop (mkF m 143 #[.val (.int p0), .val (.int p1), .val (.int p2), .val (.int p3), .val (.int p4), .val (.int nA), .val (.int xa), .val (.int xb), .val (.int xc), .val (.int nB), .val (.int ya), .val (.int yb), .val (.int yc), .val (.ref b1), .val (.ref ta4), .unset, .unset, .unset] [(.int yb), (.int ya), (.int nB), (.int xc), (.int xb), (.int xa), (.int nA)]))
      refine RestW.via (fun t k => XS.iload X4.here hx rfl (hb hby at_143) rfl k) ?_
      show RestW p.tables e below s _ _ _ (T4.setTop (mkF m 145 #[.val (.int p0), .val (.int p1), .val (.int p2), .val (.int p3), .val (.int p4), .val (.int nA), .val (.int xa), .val (.int xb), .val (.int xc), .val (.int nB), .val (.int ya), .val (.int yb), .val (.int yc), .val (.ref b1), .val (.ref ta4), .unset, .unset, .unset] [(.int yc), (.int yb), (.int ya), (.int nB), (.int xc), (.int xb), (.int xa), (.int nA)]))
      obtain ⟨_, _, ⟨T5, L5, k5, n5⟩, -, X5, ⟨Lc5, hQ5, l5, y5, z5⟩, st5⟩ := Jvm.LawKit.callS X4 hx (y := (⟨"com/example/surnia/surnia/rdf/UriRefEqualsPinLaw", "same", "(ICCCICCC)Z"⟩ : MethodName)) hown (mvT hZ (hw _ (List.mem_of_getElem? (i := 56) rfl))) (mvT hZ (hw _ (List.mem_of_getElem? (i := 57) rfl))) (mvT hZ (hw _ (List.mem_of_getElem? (i := 5) rfl))) (mvT hZ (hw _ (List.mem_of_getElem? (i := 58) rfl))) (by decide) (backOf (W := 0) (rmSM l Z aw hw [] nA xa xb xc nB ya yb yc  h4 n0 (Nat.le_trans Z0 K4.1) ) hZ (hw _ (List.mem_of_getElem? (i := 58) rfl)) (hw _ (List.mem_of_getElem? (i := 5) rfl)) (by decide) (by decide)) (g := (mkF m 145 #[.val (.int p0), .val (.int p1), .val (.int p2), .val (.int p3), .val (.int p4), .val (.int nA), .val (.int xa), .val (.int xb), .val (.int xc), .val (.int nB), .val (.int ya), .val (.int yb), .val (.int yc), .val (.ref b1), .val (.ref ta4), .unset, .unset, .unset] [(.int yc), (.int yb), (.int ya), (.int nB), (.int xc), (.int xb), (.int xa), (.int nA)])) rfl (by rw [hml]; rfl) (argsL := [(.int nA), (.int xa), (.int xb), (.int xc), (.int nB), (.int ya), (.int yb), (.int yc)]) (rest := []) (lenOf pd_11 rfl) rfl (by show 2 * 0 + _ ≤ _; exact Nat.le_of_eq rfl) (hb hby at_145) (fun _ _ => ⟨rfl, e4, (by decide : 10 + 0 ≤ _), (by decide : 45 + 0 ≤ _)⟩)
      dsimp only [Pt.U, Pt.locs, Pt.cells, Pt.slots] at X5 l5 y5 z5 st5 hQ5
      subst l5 y5 z5
      obtain ⟨rfl, Nq5, e5⟩ := hQ5
      have N5 := Fr.app N4 Nq5
      refine RestW.via (fun t k => st5 t k) ?_
      show RestW p.tables e below s _ _ _ (T5.setTop (mkF m 148 #[.val (.int p0), .val (.int p1), .val (.int p2), .val (.int p3), .val (.int p4), .val (.int nA), .val (.int xa), .val (.int xb), .val (.int xc), .val (.int nB), .val (.int ya), .val (.int yb), .val (.int yc), .val (.ref b1), .val (.ref ta4), .unset, .unset, .unset] [(.int (own_same nA xa xb xc nB ya yb yc))]))
      refine RestW.via (fun t k => XS.istore X5.here hx rfl (hb hby at_148) rfl (l' := #[.val (.int p0), .val (.int p1), .val (.int p2), .val (.int p3), .val (.int p4), .val (.int nA), .val (.int xa), .val (.int xb), .val (.int xc), .val (.int nB), .val (.int ya), .val (.int yb), .val (.int yc), .val (.ref b1), .val (.ref ta4), .val (.int (own_same nA xa xb xc nB ya yb yc)), .unset, .unset]) rfl k) ?_
      show RestW p.tables e below s _ _ _ (T5.setTop (mkF m 150 #[.val (.int p0), .val (.int p1), .val (.int p2), .val (.int p3), .val (.int p4), .val (.int nA), .val (.int xa), .val (.int xb), .val (.int xc), .val (.int nB), .val (.int ya), .val (.int yb), .val (.int yc), .val (.ref b1), .val (.ref ta4), .val (.int (own_same nA xa xb xc nB ya yb yc)), .unset, .unset] []))
      refine RestW.via (fun t k => XS.iload X5.here hx rfl (hb hby at_150) rfl k) ?_
      show RestW p.tables e below s _ _ _ (T5.setTop (mkF m 152 #[.val (.int p0), .val (.int p1), .val (.int p2), .val (.int p3), .val (.int p4), .val (.int nA), .val (.int xa), .val (.int xb), .val (.int xc), .val (.int nB), .val (.int ya), .val (.int yb), .val (.int yc), .val (.ref b1), .val (.ref ta4), .val (.int (own_same nA xa xb xc nB ya yb yc)), .unset, .unset] [(.int p4)]))
      refine RestW.via (fun t k => XS.iconst X5.here hx rfl (hb hby at_152) k) ?_
      show RestW p.tables e below s _ _ _ (T5.setTop (mkF m 153 #[.val (.int p0), .val (.int p1), .val (.int p2), .val (.int p3), .val (.int p4), .val (.int nA), .val (.int xa), .val (.int xb), .val (.int xc), .val (.int nB), .val (.int ya), .val (.int yb), .val (.int yc), .val (.ref b1), .val (.ref ta4), .val (.int (own_same nA xa xb xc nB ya yb yc)), .unset, .unset] [(.int (3 : Int32)), (.int p4)]))
      refine RestW.via (fun t k => XS.iand X5.here hx rfl (hb hby at_153) rfl k) ?_
      show RestW p.tables e below s _ _ _ (T5.setTop (mkF m 154 #[.val (.int p0), .val (.int p1), .val (.int p2), .val (.int p3), .val (.int p4), .val (.int nA), .val (.int xa), .val (.int xb), .val (.int xc), .val (.int nB), .val (.int ya), .val (.int yb), .val (.int yc), .val (.ref b1), .val (.ref ta4), .val (.int (own_same nA xa xb xc nB ya yb yc)), .unset, .unset] [(.int (p4 &&& (3 : Int32)))]))
      refine RestW.via (fun t k => XS.istore X5.here hx rfl (hb hby at_154) rfl (l' := #[.val (.int p0), .val (.int p1), .val (.int p2), .val (.int p3), .val (.int p4), .val (.int nA), .val (.int xa), .val (.int xb), .val (.int xc), .val (.int nB), .val (.int ya), .val (.int yb), .val (.int yc), .val (.ref b1), .val (.ref ta4), .val (.int (own_same nA xa xb xc nB ya yb yc)), .val (.int (p4 &&& (3 : Int32))), .unset]) rfl k) ?_
      show RestW p.tables e below s _ _ _ (T5.setTop (mkF m 156 #[.val (.int p0), .val (.int p1), .val (.int p2), .val (.int p3), .val (.int p4), .val (.int nA), .val (.int xa), .val (.int xb), .val (.int xc), .val (.int nB), .val (.int ya), .val (.int yb), .val (.int yc), .val (.ref b1), .val (.ref ta4), .val (.int (own_same nA xa xb xc nB ya yb yc)), .val (.int (p4 &&& (3 : Int32))), .unset] []))
      refine RestW.via (fun t k => XS.iload X5.here hx rfl (hb hby at_156) rfl k) ?_
      show RestW p.tables e below s _ _ _ (T5.setTop (mkF m 158 #[.val (.int p0), .val (.int p1), .val (.int p2), .val (.int p3), .val (.int p4), .val (.int nA), .val (.int xa), .val (.int xb), .val (.int xc), .val (.int nB), .val (.int ya), .val (.int yb), .val (.int yc), .val (.ref b1), .val (.ref ta4), .val (.int (own_same nA xa xb xc nB ya yb yc)), .val (.int (p4 &&& (3 : Int32))), .unset] [(.int (p4 &&& (3 : Int32)))]))
      refine RestW.via (fun t k => XS.iconst X5.here hx rfl (hb hby at_158) k) ?_
      show RestW p.tables e below s _ _ _ (T5.setTop (mkF m 159 #[.val (.int p0), .val (.int p1), .val (.int p2), .val (.int p3), .val (.int p4), .val (.int nA), .val (.int xa), .val (.int xb), .val (.int xc), .val (.int nB), .val (.int ya), .val (.int yb), .val (.int yc), .val (.ref b1), .val (.ref ta4), .val (.int (own_same nA xa xb xc nB ya yb yc)), .val (.int (p4 &&& (3 : Int32))), .unset] [(.int (2 : Int32)), (.int (p4 &&& (3 : Int32)))]))
      by_cases hk2 : (p4 &&& (3 : Int32)) = (2 : Int32)
      · refine RestW.via (fun t k => XS.icmpNo X5.here hx rfl (hb hby at_159) rfl (teq hk2).2 k) ?_
        show RestW p.tables e below s _ _ _ (T5.setTop (mkF m 162 #[.val (.int p0), .val (.int p1), .val (.int p2), .val (.int p3), .val (.int p4), .val (.int nA), .val (.int xa), .val (.int xb), .val (.int xc), .val (.int nB), .val (.int ya), .val (.int yb), .val (.int yc), .val (.ref b1), .val (.ref ta4), .val (.int (own_same nA xa xb xc nB ya yb yc)), .val (.int (p4 &&& (3 : Int32))), .unset] []))
        refine RestW.via (fun t k => XS.aload X5.here hx rfl (hb hby at_162) rfl rfl k) ?_
        show RestW p.tables e below s _ _ _ (T5.setTop (mkF m 164 #[.val (.int p0), .val (.int p1), .val (.int p2), .val (.int p3), .val (.int p4), .val (.int nA), .val (.int xa), .val (.int xb), .val (.int xc), .val (.int nB), .val (.int ya), .val (.int yb), .val (.int yc), .val (.ref b1), .val (.ref ta4), .val (.int (own_same nA xa xb xc nB ya yb yc)), .val (.int (p4 &&& (3 : Int32))), .unset] [(.ref b1)]))
        refine RestW.via (fun t k => XS.aconstNull X5.here hx rfl (hb hby at_164) k) ?_
        show RestW p.tables e below s _ _ _ (T5.setTop (mkF m 165 #[.val (.int p0), .val (.int p1), .val (.int p2), .val (.int p3), .val (.int p4), .val (.int nA), .val (.int xa), .val (.int xb), .val (.int xc), .val (.int nB), .val (.int ya), .val (.int yb), .val (.int yc), .val (.ref b1), .val (.ref ta4), .val (.int (own_same nA xa xb xc nB ya yb yc)), .val (.int (p4 &&& (3 : Int32))), .unset] [.null, (.ref b1)]))
        obtain ⟨cq6, kq6, q6a, q6b, q6c⟩ := isOf hZ e5 (((E_b1.keep Kq2).keep Kq3).keep Kq4)
        obtain ⟨_, _, ⟨T6, L6, k6, n6⟩, -, X6, ⟨Lc6, hQ6, l6, y6, z6⟩, st6⟩ := X5.virtualBack hx (y := (⟨"com/example/surnia/surnia/rdf/UriRef", "equals", "(Ljava/lang/Object;)Z"⟩ : MethodName)) (z := (⟨"com/example/surnia/surnia/rdf/UriRef", "equals", "(Ljava/lang/Object;)Z"⟩ : MethodName)) hown (mvT hZ (hw _ (List.mem_of_getElem? (i := 59) rfl))) (mvT hZ (hw _ (List.mem_of_getElem? (i := 60) rfl))) (notFace_of_selects (args := #[]) (mvT hZ (hw _ (List.mem_of_getElem? (i := 62) rfl)))) (mvT hZ (hw _ (List.mem_of_getElem? (i := 62) rfl))) (mvT hZ (hw _ (List.mem_of_getElem? (i := 61) rfl))) (by decide) (backOf (W := 0) (rmUEn l Z aw hw [] b1  h4 n0 (Nat.le_trans Z0 K4.1) ) hZ (hw _ (List.mem_of_getElem? (i := 63) rfl)) (hw _ (List.mem_of_getElem? (i := 2) rfl)) (by decide) (by decide)) q6a q6c (g := (mkF m 165 #[.val (.int p0), .val (.int p1), .val (.int p2), .val (.int p3), .val (.int p4), .val (.int nA), .val (.int xa), .val (.int xb), .val (.int xc), .val (.int nB), .val (.int ya), .val (.int yb), .val (.int yc), .val (.ref b1), .val (.ref ta4), .val (.int (own_same nA xa xb xc nB ya yb yc)), .val (.int (p4 &&& (3 : Int32))), .unset] [.null, (.ref b1)])) rfl (by rw [hml]; rfl) (Steps.refl _) (argsL := [.null]) (rest := []) (lenOf pd_8 rfl) rfl (by show 2 * 0 + _ ≤ _; exact Nat.le_of_eq rfl) (hb hby at_165) (fun _ _ => ⟨rfl, e5, (by decide : 10 + 0 ≤ _), (by decide : 45 + 0 ≤ _)⟩)
        dsimp only [Pt.U, Pt.locs, Pt.cells, Pt.slots] at X6 l6 y6 z6 st6 hQ6
        subst l6 y6 z6
        obtain ⟨rfl, Nq6, e6⟩ := hQ6
        have N6 := Fr.app N5 Nq6
        refine RestW.via (fun t k => st6.trans k) ?_
        show RestW p.tables e below s _ _ _ (T6.setTop (mkF m 168 #[.val (.int p0), .val (.int p1), .val (.int p2), .val (.int p3), .val (.int p4), .val (.int nA), .val (.int xa), .val (.int xb), .val (.int xc), .val (.int nB), .val (.int ya), .val (.int yb), .val (.int yc), .val (.ref b1), .val (.ref ta4), .val (.int (own_same nA xa xb xc nB ya yb yc)), .val (.int (p4 &&& (3 : Int32))), .unset] [(.int (0 : Int32))]))
        refine RestW.via (fun t k => XS.ifNo X6.here hx rfl (hb hby at_168) rfl ((if0 _ _).trans (teq (by decide : (0 : Int32) = (0 : Int32))).2) k) ?_
        show RestW p.tables e below s _ _ _ (T6.setTop (mkF m 171 #[.val (.int p0), .val (.int p1), .val (.int p2), .val (.int p3), .val (.int p4), .val (.int nA), .val (.int xa), .val (.int xb), .val (.int xc), .val (.int nB), .val (.int ya), .val (.int yb), .val (.int yc), .val (.ref b1), .val (.ref ta4), .val (.int (own_same nA xa xb xc nB ya yb yc)), .val (.int (p4 &&& (3 : Int32))), .unset] []))
        refine RestW.via (fun t k => XS.iconst X6.here hx rfl (hb hby at_171) k) ?_
        show RestW p.tables e below s _ _ _ (T6.setTop (mkF m 172 #[.val (.int p0), .val (.int p1), .val (.int p2), .val (.int p3), .val (.int p4), .val (.int nA), .val (.int xa), .val (.int xb), .val (.int xc), .val (.int nB), .val (.int ya), .val (.int yb), .val (.int yc), .val (.ref b1), .val (.ref ta4), .val (.int (own_same nA xa xb xc nB ya yb yc)), .val (.int (p4 &&& (3 : Int32))), .unset] [(.int (1 : Int32))]))
        refine RestW.via (fun t k => XS.goto X6.here hx rfl (pc0 := 172) (pc' := 176) rfl (hb hby at_172) (by decide) (by decide) k) ?_
        show RestW p.tables e below s _ _ _ (T6.setTop (mkF m 176 #[.val (.int p0), .val (.int p1), .val (.int p2), .val (.int p3), .val (.int p4), .val (.int nA), .val (.int xa), .val (.int xb), .val (.int xc), .val (.int nB), .val (.int ya), .val (.int yb), .val (.int yc), .val (.ref b1), .val (.ref ta4), .val (.int (own_same nA xa xb xc nB ya yb yc)), .val (.int (p4 &&& (3 : Int32))), .unset] [(.int (1 : Int32))]))
        refine RestW.ret X6 hS (by rw [e6]; first | exact (Nat.le_of_eq (congrArg Array.size e4)) | exact Nat.le_refl _) (v := some (.int (nar .boolean (1 : Int32)))) (fun h => by rw [Bd.returns] at h; cases h) hlk (fun fs hr => retN X6 hx (t := .boolean) Bd.returns (by simp) (hb hby at_176) hr) ?_ (by decide) (by decide)
        rw [e6]
        exact ⟨rfl, N6⟩
      · refine RestW.via (fun t k => XS.icmpYes X5.here hx rfl (pc0 := 159) (pc' := 177) rfl (hb hby at_159) rfl (feq hk2).2 (by decide) (by decide) k) ?_
        show RestW p.tables e below s _ _ _ (T5.setTop (mkF m 177 #[.val (.int p0), .val (.int p1), .val (.int p2), .val (.int p3), .val (.int p4), .val (.int nA), .val (.int xa), .val (.int xb), .val (.int xc), .val (.int nB), .val (.int ya), .val (.int yb), .val (.int yc), .val (.ref b1), .val (.ref ta4), .val (.int (own_same nA xa xb xc nB ya yb yc)), .val (.int (p4 &&& (3 : Int32))), .unset] []))
        refine RestW.via (fun t k => XS.iload X5.here hx rfl (hb hby at_177) rfl k) ?_
        show RestW p.tables e below s _ _ _ (T5.setTop (mkF m 179 #[.val (.int p0), .val (.int p1), .val (.int p2), .val (.int p3), .val (.int p4), .val (.int nA), .val (.int xa), .val (.int xb), .val (.int xc), .val (.int nB), .val (.int ya), .val (.int yb), .val (.int yc), .val (.ref b1), .val (.ref ta4), .val (.int (own_same nA xa xb xc nB ya yb yc)), .val (.int (p4 &&& (3 : Int32))), .unset] [(.int (p4 &&& (3 : Int32)))]))
        refine RestW.via (fun t k => XS.iconst X5.here hx rfl (hb hby at_179) k) ?_
        show RestW p.tables e below s _ _ _ (T5.setTop (mkF m 180 #[.val (.int p0), .val (.int p1), .val (.int p2), .val (.int p3), .val (.int p4), .val (.int nA), .val (.int xa), .val (.int xb), .val (.int xc), .val (.int nB), .val (.int ya), .val (.int yb), .val (.int yc), .val (.ref b1), .val (.ref ta4), .val (.int (own_same nA xa xb xc nB ya yb yc)), .val (.int (p4 &&& (3 : Int32))), .unset] [(.int (3 : Int32)), (.int (p4 &&& (3 : Int32)))]))
        by_cases hk3 : (p4 &&& (3 : Int32)) = (3 : Int32)
        · refine RestW.via (fun t k => XS.icmpNo X5.here hx rfl (hb hby at_180) rfl (teq hk3).2 k) ?_
          show RestW p.tables e below s _ _ _ (T5.setTop (mkF m 183 #[.val (.int p0), .val (.int p1), .val (.int p2), .val (.int p3), .val (.int p4), .val (.int nA), .val (.int xa), .val (.int xb), .val (.int xc), .val (.int nB), .val (.int ya), .val (.int yb), .val (.int yc), .val (.ref b1), .val (.ref ta4), .val (.int (own_same nA xa xb xc nB ya yb yc)), .val (.int (p4 &&& (3 : Int32))), .unset] []))
          refine RestW.via (fun t k => XS.aload X5.here hx rfl (hb hby at_183) rfl rfl k) ?_
          show RestW p.tables e below s _ _ _ (T5.setTop (mkF m 185 #[.val (.int p0), .val (.int p1), .val (.int p2), .val (.int p3), .val (.int p4), .val (.int nA), .val (.int xa), .val (.int xb), .val (.int xc), .val (.int nB), .val (.int ya), .val (.int yb), .val (.int yc), .val (.ref b1), .val (.ref ta4), .val (.int (own_same nA xa xb xc nB ya yb yc)), .val (.int (p4 &&& (3 : Int32))), .unset] [(.ref b1)]))
          refine RestW.via (fun t k => XS.aload X5.here hx rfl (hb hby at_185) rfl rfl k) ?_
          show RestW p.tables e below s _ _ _ (T5.setTop (mkF m 187 #[.val (.int p0), .val (.int p1), .val (.int p2), .val (.int p3), .val (.int p4), .val (.int nA), .val (.int xa), .val (.int xb), .val (.int xc), .val (.int nB), .val (.int ya), .val (.int yb), .val (.int yc), .val (.ref b1), .val (.ref ta4), .val (.int (own_same nA xa xb xc nB ya yb yc)), .val (.int (p4 &&& (3 : Int32))), .unset] [(.ref ta4), (.ref b1)]))
          obtain ⟨cq7, kq7, q7a, q7b, q7c⟩ := isOf hZ e5 (((E_b1.keep Kq2).keep Kq3).keep Kq4)
          obtain ⟨_, _, ⟨T7, L7, k7, n7⟩, -, X7, ⟨Lc7, hQ7, l7, y7, z7⟩, st7⟩ := X5.virtualBack hx (y := (⟨"com/example/surnia/surnia/rdf/UriRef", "equals", "(Ljava/lang/Object;)Z"⟩ : MethodName)) (z := (⟨"com/example/surnia/surnia/rdf/UriRef", "equals", "(Ljava/lang/Object;)Z"⟩ : MethodName)) hown (mvT hZ (hw _ (List.mem_of_getElem? (i := 59) rfl))) (mvT hZ (hw _ (List.mem_of_getElem? (i := 60) rfl))) (notFace_of_selects (args := #[]) (mvT hZ (hw _ (List.mem_of_getElem? (i := 62) rfl)))) (mvT hZ (hw _ (List.mem_of_getElem? (i := 62) rfl))) (mvT hZ (hw _ (List.mem_of_getElem? (i := 61) rfl))) (by decide) (backOf (W := 0) (rmUEs l Z aw hw [] b1 ta4  h4 n0 (Nat.le_trans Z0 K4.1) St4.1) hZ (hw _ (List.mem_of_getElem? (i := 63) rfl)) (hw _ (List.mem_of_getElem? (i := 2) rfl)) (by decide) (by decide)) q7a q7c (g := (mkF m 187 #[.val (.int p0), .val (.int p1), .val (.int p2), .val (.int p3), .val (.int p4), .val (.int nA), .val (.int xa), .val (.int xb), .val (.int xc), .val (.int nB), .val (.int ya), .val (.int yb), .val (.int yc), .val (.ref b1), .val (.ref ta4), .val (.int (own_same nA xa xb xc nB ya yb yc)), .val (.int (p4 &&& (3 : Int32))), .unset] [(.ref ta4), (.ref b1)])) rfl (by rw [hml]; rfl) (Steps.refl _) (argsL := [(.ref ta4)]) (rest := []) (lenOf pd_8 rfl) rfl (by show 2 * 0 + _ ≤ _; exact Nat.le_of_eq rfl) (hb hby at_187) (fun _ _ => ⟨rfl, e5, (by decide : 10 + 0 ≤ _), (by decide : 45 + 0 ≤ _)⟩)
          dsimp only [Pt.U, Pt.locs, Pt.cells, Pt.slots] at X7 l7 y7 z7 st7 hQ7
          subst l7 y7 z7
          obtain ⟨rfl, Nq7, e7⟩ := hQ7
          have N7 := Fr.app N5 Nq7
          refine RestW.via (fun t k => st7.trans k) ?_
          show RestW p.tables e below s _ _ _ (T7.setTop (mkF m 190 #[.val (.int p0), .val (.int p1), .val (.int p2), .val (.int p3), .val (.int p4), .val (.int nA), .val (.int xa), .val (.int xb), .val (.int xc), .val (.int nB), .val (.int ya), .val (.int yb), .val (.int yc), .val (.ref b1), .val (.ref ta4), .val (.int (own_same nA xa xb xc nB ya yb yc)), .val (.int (p4 &&& (3 : Int32))), .unset] [(.int (0 : Int32))]))
          refine RestW.via (fun t k => XS.ifNo X7.here hx rfl (hb hby at_190) rfl ((if0 _ _).trans (teq (by decide : (0 : Int32) = (0 : Int32))).2) k) ?_
          show RestW p.tables e below s _ _ _ (T7.setTop (mkF m 193 #[.val (.int p0), .val (.int p1), .val (.int p2), .val (.int p3), .val (.int p4), .val (.int nA), .val (.int xa), .val (.int xb), .val (.int xc), .val (.int nB), .val (.int ya), .val (.int yb), .val (.int yc), .val (.ref b1), .val (.ref ta4), .val (.int (own_same nA xa xb xc nB ya yb yc)), .val (.int (p4 &&& (3 : Int32))), .unset] []))
          refine RestW.via (fun t k => XS.iconst X7.here hx rfl (hb hby at_193) k) ?_
          show RestW p.tables e below s _ _ _ (T7.setTop (mkF m 194 #[.val (.int p0), .val (.int p1), .val (.int p2), .val (.int p3), .val (.int p4), .val (.int nA), .val (.int xa), .val (.int xb), .val (.int xc), .val (.int nB), .val (.int ya), .val (.int yb), .val (.int yc), .val (.ref b1), .val (.ref ta4), .val (.int (own_same nA xa xb xc nB ya yb yc)), .val (.int (p4 &&& (3 : Int32))), .unset] [(.int (1 : Int32))]))
          refine RestW.via (fun t k => XS.goto X7.here hx rfl (pc0 := 194) (pc' := 198) rfl (hb hby at_194) (by decide) (by decide) k) ?_
          show RestW p.tables e below s _ _ _ (T7.setTop (mkF m 198 #[.val (.int p0), .val (.int p1), .val (.int p2), .val (.int p3), .val (.int p4), .val (.int nA), .val (.int xa), .val (.int xb), .val (.int xc), .val (.int nB), .val (.int ya), .val (.int yb), .val (.int yc), .val (.ref b1), .val (.ref ta4), .val (.int (own_same nA xa xb xc nB ya yb yc)), .val (.int (p4 &&& (3 : Int32))), .unset] [(.int (1 : Int32))]))
          refine RestW.ret X7 hS (by rw [e7]; first | exact (Nat.le_of_eq (congrArg Array.size e4)) | exact Nat.le_refl _) (v := some (.int (nar .boolean (1 : Int32)))) (fun h => by rw [Bd.returns] at h; cases h) hlk (fun fs hr => retN X7 hx (t := .boolean) Bd.returns (by simp) (hb hby at_198) hr) ?_ (by decide) (by decide)
          rw [e7]
          exact ⟨rfl, N7⟩
        · refine RestW.via (fun t k => XS.icmpYes X5.here hx rfl (pc0 := 180) (pc' := 199) rfl (hb hby at_180) rfl (feq hk3).2 (by decide) (by decide) k) ?_
          show RestW p.tables e below s _ _ _ (T5.setTop (mkF m 199 #[.val (.int p0), .val (.int p1), .val (.int p2), .val (.int p3), .val (.int p4), .val (.int nA), .val (.int xa), .val (.int xb), .val (.int xc), .val (.int nB), .val (.int ya), .val (.int yb), .val (.int yc), .val (.ref b1), .val (.ref ta4), .val (.int (own_same nA xa xb xc nB ya yb yc)), .val (.int (p4 &&& (3 : Int32))), .unset] []))
          obtain ⟨T8, h8, X8, e8, E8, A8, D8, -, st8⟩ := newO X5 hx hZ hown (hw _ (List.mem_of_getElem? (i := 0) rfl)) (hw _ (List.mem_of_getElem? (i := 1) rfl)) (hw _ (List.mem_of_getElem? (i := 2) rfl)) e5 (g := (mkF m 199 #[.val (.int p0), .val (.int p1), .val (.int p2), .val (.int p3), .val (.int p4), .val (.int nA), .val (.int xa), .val (.int xb), .val (.int xc), .val (.int nB), .val (.int ya), .val (.int yb), .val (.int yc), .val (.ref b1), .val (.ref ta4), .val (.int (own_same nA xa xb xc nB ya yb yc)), .val (.int (p4 &&& (3 : Int32))), .unset] [])) rfl (hb hby at_199) (by decide) (by decide)
          obtain ⟨b8, gq8⟩ : ∃ z, z = h4.size := ⟨_, rfl⟩
          rw [← gq8] at A8 D8 st8
          have sz_b8 : h0.size ≤ b8 := Nat.le_trans K4.1 (Nat.le_of_eq gq8.symm)
          have g_b8 : n0 ≤ b8 := Nat.le_trans Z0 sz_b8
          have ne_b1_b8 : b1 ≠ b8 := Nat.ne_of_lt (Nat.lt_of_lt_of_le (((E_b1.keep Kq2).keep Kq3).keep Kq4).lt (Nat.le_of_eq gq8.symm))
          have ne_ta2_b8 : ta2 ≠ b8 := Nat.ne_of_lt (Nat.lt_of_lt_of_le ((St2.1.keep Kq3).keep Kq4).lt (Nat.le_of_eq gq8.symm))
          have ne_va2_b8 : va2 ≠ b8 := Nat.ne_of_lt (Nat.lt_of_lt_of_le ((St2.2.2.2.keep Kq3 (ninS (Ne.symm ne_u_va2) nin0)).keep Kq4 nin0).lt (Nat.le_of_eq gq8.symm))
          have ne_la_b8 : la ≠ b8 := Nat.ne_of_lt (Nat.lt_of_lt_of_le ((SL.1.keep Kq3).keep Kq4).lt (Nat.le_of_eq gq8.symm))
          have ne_lb_b8 : lb ≠ b8 := Nat.ne_of_lt (Nat.lt_of_lt_of_le ((SL.2.2.2.keep Kq3 (ninS (Ne.symm ne_u_lb) nin0)).keep Kq4 nin0).lt (Nat.le_of_eq gq8.symm))
          have ne_ta4_b8 : ta4 ≠ b8 := Nat.ne_of_lt (Nat.lt_of_lt_of_le St4.1.lt (Nat.le_of_eq gq8.symm))
          have ne_va4_b8 : va4 ≠ b8 := Nat.ne_of_lt (Nat.lt_of_lt_of_le St4.2.2.2.lt (Nat.le_of_eq gq8.symm))
          have K8 : Keep h0 h8 [] := K4.ext E8
          have E_b8 := A8
          have F_value_b8 : Fld Z h8 b8 "com/example/surnia/surnia/rdf/UriRef" "value" "Ljava/lang/String;" .null := D8 (Or.inr (hw _ (List.mem_of_getElem? (i := 44) rfl))) (ty := (.object "java/lang/String")) (by decide)
          refine RestW.via (fun t k => st8 t k) ?_
          show RestW p.tables e below s _ _ _ (T8.setTop (mkF m 202 #[.val (.int p0), .val (.int p1), .val (.int p2), .val (.int p3), .val (.int p4), .val (.int nA), .val (.int xa), .val (.int xb), .val (.int xc), .val (.int nB), .val (.int ya), .val (.int yb), .val (.int yc), .val (.ref b1), .val (.ref ta4), .val (.int (own_same nA xa xb xc nB ya yb yc)), .val (.int (p4 &&& (3 : Int32))), .unset] [(.ref b8)]))
          refine RestW.via (fun t k => XS.dup X8.here hx rfl (hb hby at_202) rfl rfl k) ?_
          show RestW p.tables e below s _ _ _ (T8.setTop (mkF m 203 #[.val (.int p0), .val (.int p1), .val (.int p2), .val (.int p3), .val (.int p4), .val (.int nA), .val (.int xa), .val (.int xb), .val (.int xc), .val (.int nB), .val (.int ya), .val (.int yb), .val (.int yc), .val (.ref b1), .val (.ref ta4), .val (.int (own_same nA xa xb xc nB ya yb yc)), .val (.int (p4 &&& (3 : Int32))), .unset] [(.ref b8), (.ref b8)]))
          refine RestW.via (fun t k => XS.aload X8.here hx rfl (hb hby at_203) rfl rfl k) ?_
          show RestW p.tables e below s _ _ _ (T8.setTop (mkF m 205 #[.val (.int p0), .val (.int p1), .val (.int p2), .val (.int p3), .val (.int p4), .val (.int nA), .val (.int xa), .val (.int xb), .val (.int xc), .val (.int nB), .val (.int ya), .val (.int yb), .val (.int yc), .val (.ref b1), .val (.ref ta4), .val (.int (own_same nA xa xb xc nB ya yb yc)), .val (.int (p4 &&& (3 : Int32))), .unset] [(.ref ta4), (.ref b8), (.ref b8)]))
          obtain ⟨_, _, ⟨T9, L9, k9, n9⟩, -, X9, hSq9, gr9, ⟨Lc9, hQ9, l9, y9, z9⟩, st9⟩ := X8.specialBackS hx (y := (⟨"com/example/surnia/surnia/rdf/UriRef", "<init>", "(Ljava/lang/String;)V"⟩ : MethodName)) rfl hown (mvT hZ (hw _ (List.mem_of_getElem? (i := 29) rfl))) (mvT hZ (hw _ (List.mem_of_getElem? (i := 30) rfl))) (mvT hZ (hw _ (List.mem_of_getElem? (i := 31) rfl))) (by decide) (own_backV (W := 1) (rmURw l Z aw hw [] b8 ta4 lv h8 n0 (Nat.le_trans Z0 K8.1) E_b8 F_value_b8 g_b8) hZ (hw _ (List.mem_of_getElem? (i := 31) rfl)) (hw _ (List.mem_of_getElem? (i := 2) rfl)) (by decide) (by decide) (fun vm' hw' => own_Lit_warm (s := s) LV hw'.wide)) (g := (mkF m 205 #[.val (.int p0), .val (.int p1), .val (.int p2), .val (.int p3), .val (.int p4), .val (.int nA), .val (.int xa), .val (.int xb), .val (.int xc), .val (.int nB), .val (.int ya), .val (.int yb), .val (.int yc), .val (.ref b1), .val (.ref ta4), .val (.int (own_same nA xa xb xc nB ya yb yc)), .val (.int (p4 &&& (3 : Int32))), .unset] [(.ref ta4), (.ref b8), (.ref b8)])) rfl (by rw [hml]; rfl) (Steps.refl _) (a := b8) (argsL := [(.ref ta4)]) (rest := [(.ref b8)]) (lenOf pd_10 rfl) rfl (by show 2 * 0 + _ ≤ _; exact Nat.le_of_eq rfl) (hb hby at_205) (fun _ _ => ⟨rfl, e8, (by decide : 11 + 0 ≤ _), (by decide : 46 + 0 ≤ _)⟩)
          dsimp only [Pt.U, Pt.locs, Pt.cells, Pt.slots] at X9 l9 y9 z9 st9 hQ9 hSq9 gr9
          subst l9 y9 z9
          obtain ⟨X9, hS, hZ, hown⟩ := rebS hS (by rw [e8]; first | exact (Nat.le_trans (Nat.le_of_eq (congrArg Array.size e4)) E8.1) | exact Nat.le_refl _) X9 hSq9 gr9 hZ hown
          obtain ⟨h9, e9⟩ : ∃ z, T9.heap = z := ⟨_, rfl⟩
          rw [e9] at hQ9
          obtain ⟨rfl, Nq9, Kq9, Fu9⟩ := hQ9
          have N9 := Fr.app N5 Nq9
          have K9 : Keep h0 h9 [] := K8.trans Kq9 (allS (Or.inr sz_b8) all0)
          refine RestW.via (fun t k => st9.trans k) ?_
          show RestW p.tables e below s _ _ _ (T9.setTop (mkF m 208 #[.val (.int p0), .val (.int p1), .val (.int p2), .val (.int p3), .val (.int p4), .val (.int nA), .val (.int xa), .val (.int xb), .val (.int xc), .val (.int nB), .val (.int ya), .val (.int yb), .val (.int yc), .val (.ref b1), .val (.ref ta4), .val (.int (own_same nA xa xb xc nB ya yb yc)), .val (.int (p4 &&& (3 : Int32))), .unset] [(.ref b8)]))
          refine RestW.via (fun t k => XS.astore X9.here hx rfl (hb hby at_208) rfl rfl (l' := #[.val (.int p0), .val (.int p1), .val (.int p2), .val (.int p3), .val (.int p4), .val (.int nA), .val (.int xa), .val (.int xb), .val (.int xc), .val (.int nB), .val (.int ya), .val (.int yb), .val (.int yc), .val (.ref b1), .val (.ref ta4), .val (.int (own_same nA xa xb xc nB ya yb yc)), .val (.int (p4 &&& (3 : Int32))), .val (.ref b8)]) rfl k) ?_
          show RestW p.tables e below s _ _ _ (T9.setTop (mkF m 210 #[.val (.int p0), .val (.int p1), .val (.int p2), .val (.int p3), .val (.int p4), .val (.int nA), .val (.int xa), .val (.int xb), .val (.int xc), .val (.int nB), .val (.int ya), .val (.int yb), .val (.int yc), .val (.ref b1), .val (.ref ta4), .val (.int (own_same nA xa xb xc nB ya yb yc)), .val (.int (p4 &&& (3 : Int32))), .val (.ref b8)] []))
          refine RestW.via (fun t k => XS.aload X9.here hx rfl (hb hby at_210) rfl rfl k) ?_
          show RestW p.tables e below s _ _ _ (T9.setTop (mkF m 212 #[.val (.int p0), .val (.int p1), .val (.int p2), .val (.int p3), .val (.int p4), .val (.int nA), .val (.int xa), .val (.int xb), .val (.int xc), .val (.int nB), .val (.int ya), .val (.int yb), .val (.int yc), .val (.ref b1), .val (.ref ta4), .val (.int (own_same nA xa xb xc nB ya yb yc)), .val (.int (p4 &&& (3 : Int32))), .val (.ref b8)] [(.ref b1)]))
          refine RestW.via (fun t k => XS.aload X9.here hx rfl (hb hby at_212) rfl rfl k) ?_
          show RestW p.tables e below s _ _ _ (T9.setTop (mkF m 214 #[.val (.int p0), .val (.int p1), .val (.int p2), .val (.int p3), .val (.int p4), .val (.int nA), .val (.int xa), .val (.int xb), .val (.int xc), .val (.int nB), .val (.int ya), .val (.int yb), .val (.int yc), .val (.ref b1), .val (.ref ta4), .val (.int (own_same nA xa xb xc nB ya yb yc)), .val (.int (p4 &&& (3 : Int32))), .val (.ref b8)] [(.ref b8), (.ref b1)]))
          obtain ⟨cq10, kq10, q10a, q10b, q10c⟩ := isOf hZ e9 (((((E_b1.keep Kq2).keep Kq3).keep Kq4).ext E8).keep Kq9)
          obtain ⟨_, _, ⟨T10, L10, k10, n10⟩, -, X10, ⟨Lc10, hQ10, l10, y10, z10⟩, st10⟩ := X9.virtualBack hx (y := (⟨"com/example/surnia/surnia/rdf/UriRef", "equals", "(Ljava/lang/Object;)Z"⟩ : MethodName)) (z := (⟨"com/example/surnia/surnia/rdf/UriRef", "equals", "(Ljava/lang/Object;)Z"⟩ : MethodName)) hown (mvT hZ (hw _ (List.mem_of_getElem? (i := 59) rfl))) (mvT hZ (hw _ (List.mem_of_getElem? (i := 60) rfl))) (notFace_of_selects (args := #[]) (mvT hZ (hw _ (List.mem_of_getElem? (i := 62) rfl)))) (mvT hZ (hw _ (List.mem_of_getElem? (i := 62) rfl))) (mvT hZ (hw _ (List.mem_of_getElem? (i := 61) rfl))) (by decide) (backOf (W := 0) (rmUE l Z aw hw [] b1 b8 ta2 ta4 va2 kb2 va4 kb4 ic nA nB (own_mkl nA xa xb xc) (own_mkl nB ya yb yc) h9 n0 (Nat.le_trans Z0 K9.1) (((((E_b1.keep Kq2).keep Kq3).keep Kq4).ext E8).keep Kq9) (E_b8.keep Kq9) (((Fu3.keep Kq4 nin0).ext E8).keep Kq9 (ninS ne_b1_b8 nin0)) Fu9 (own_mkl_ok hnA) (own_mkl_ok hnB) (own_St_keep (own_St_keep (own_St_keep (own_St_keep St2 Kq3 (ninS ne_ta2_u nin0) (ninS (Ne.symm ne_u_va2) nin0)) Kq4 nin0 nin0) ((Keep.refl _ []).ext E8) nin0 nin0) Kq9 (ninS ne_ta2_b8 nin0) (ninS ne_va2_b8 nin0)) (own_St_keep (own_St_keep St4 ((Keep.refl _ []).ext E8) nin0 nin0) Kq9 (ninS ne_ta4_b8 nin0) (ninS ne_va4_b8 nin0)) ne_tt (O.keep K9 all0) CS) hZ (hw _ (List.mem_of_getElem? (i := 63) rfl)) (hw _ (List.mem_of_getElem? (i := 2) rfl)) (by decide) (by decide)) q10a q10c (g := (mkF m 214 #[.val (.int p0), .val (.int p1), .val (.int p2), .val (.int p3), .val (.int p4), .val (.int nA), .val (.int xa), .val (.int xb), .val (.int xc), .val (.int nB), .val (.int ya), .val (.int yb), .val (.int yc), .val (.ref b1), .val (.ref ta4), .val (.int (own_same nA xa xb xc nB ya yb yc)), .val (.int (p4 &&& (3 : Int32))), .val (.ref b8)] [(.ref b8), (.ref b1)])) rfl (by rw [hml]; rfl) (Steps.refl _) (argsL := [(.ref b8)]) (rest := []) (lenOf pd_8 rfl) rfl (by show 2 * 0 + _ ≤ _; exact Nat.le_of_eq rfl) (hb hby at_214) (fun _ _ => ⟨rfl, e9, (by decide : 11 + 0 ≤ _), (by decide : 46 + 0 ≤ _)⟩)
          dsimp only [Pt.U, Pt.locs, Pt.cells, Pt.slots] at X10 l10 y10 z10 st10 hQ10
          subst l10 y10 z10
          obtain ⟨rfl, Nq10, e10⟩ := hQ10
          have N10 := Fr.app N9 Nq10
          refine RestW.via (fun t k => st10.trans k) ?_
          show RestW p.tables e below s _ _ _ (T10.setTop (mkF m 217 #[.val (.int p0), .val (.int p1), .val (.int p2), .val (.int p3), .val (.int p4), .val (.int nA), .val (.int xa), .val (.int xb), .val (.int xc), .val (.int nB), .val (.int ya), .val (.int yb), .val (.int yc), .val (.ref b1), .val (.ref ta4), .val (.int (own_same nA xa xb xc nB ya yb yc)), .val (.int (p4 &&& (3 : Int32))), .val (.ref b8)] [(.int (if (own_mkl nA xa xb xc) = (own_mkl nB ya yb yc) then (1 : Int32) else 0))]))
          refine RestW.via (fun t k => XS.iload X10.here hx rfl (hb hby at_217) rfl k) ?_
          show RestW p.tables e below s _ _ _ (T10.setTop (mkF m 219 #[.val (.int p0), .val (.int p1), .val (.int p2), .val (.int p3), .val (.int p4), .val (.int nA), .val (.int xa), .val (.int xb), .val (.int xc), .val (.int nB), .val (.int ya), .val (.int yb), .val (.int yc), .val (.ref b1), .val (.ref ta4), .val (.int (own_same nA xa xb xc nB ya yb yc)), .val (.int (p4 &&& (3 : Int32))), .val (.ref b8)] [(.int (own_same nA xa xb xc nB ya yb yc)), (.int (if (own_mkl nA xa xb xc) = (own_mkl nB ya yb yc) then (1 : Int32) else 0))]))
          refine RestW.via (fun t k => XS.icmpNo X10.here hx rfl (hb hby at_219) rfl (teq ((own_law hnA hnB hxa hxb hxc hya hyb hyc) : (if (own_mkl nA xa xb xc) = (own_mkl nB ya yb yc) then (1 : Int32) else 0) = (own_same nA xa xb xc nB ya yb yc))).2 k) ?_
          show RestW p.tables e below s _ _ _ (T10.setTop (mkF m 222 #[.val (.int p0), .val (.int p1), .val (.int p2), .val (.int p3), .val (.int p4), .val (.int nA), .val (.int xa), .val (.int xb), .val (.int xc), .val (.int nB), .val (.int ya), .val (.int yb), .val (.int yc), .val (.ref b1), .val (.ref ta4), .val (.int (own_same nA xa xb xc nB ya yb yc)), .val (.int (p4 &&& (3 : Int32))), .val (.ref b8)] []))
          refine RestW.via (fun t k => XS.aload X10.here hx rfl (hb hby at_222) rfl rfl k) ?_
          show RestW p.tables e below s _ _ _ (T10.setTop (mkF m 224 #[.val (.int p0), .val (.int p1), .val (.int p2), .val (.int p3), .val (.int p4), .val (.int nA), .val (.int xa), .val (.int xb), .val (.int xc), .val (.int nB), .val (.int ya), .val (.int yb), .val (.int yc), .val (.ref b1), .val (.ref ta4), .val (.int (own_same nA xa xb xc nB ya yb yc)), .val (.int (p4 &&& (3 : Int32))), .val (.ref b8)] [(.ref b8)]))
          refine RestW.via (fun t k => XS.aload X10.here hx rfl (hb hby at_224) rfl rfl k) ?_
          show RestW p.tables e below s _ _ _ (T10.setTop (mkF m 226 #[.val (.int p0), .val (.int p1), .val (.int p2), .val (.int p3), .val (.int p4), .val (.int nA), .val (.int xa), .val (.int xb), .val (.int xc), .val (.int nB), .val (.int ya), .val (.int yb), .val (.int yc), .val (.ref b1), .val (.ref ta4), .val (.int (own_same nA xa xb xc nB ya yb yc)), .val (.int (p4 &&& (3 : Int32))), .val (.ref b8)] [(.ref b1), (.ref b8)]))
          obtain ⟨cq11, kq11, q11a, q11b, q11c⟩ := isOf hZ e10 (E_b8.keep Kq9)
          obtain ⟨_, _, ⟨T11, L11, k11, n11⟩, -, X11, ⟨Lc11, hQ11, l11, y11, z11⟩, st11⟩ := X10.virtualBack hx (y := (⟨"com/example/surnia/surnia/rdf/UriRef", "equals", "(Ljava/lang/Object;)Z"⟩ : MethodName)) (z := (⟨"com/example/surnia/surnia/rdf/UriRef", "equals", "(Ljava/lang/Object;)Z"⟩ : MethodName)) hown (mvT hZ (hw _ (List.mem_of_getElem? (i := 59) rfl))) (mvT hZ (hw _ (List.mem_of_getElem? (i := 60) rfl))) (notFace_of_selects (args := #[]) (mvT hZ (hw _ (List.mem_of_getElem? (i := 62) rfl)))) (mvT hZ (hw _ (List.mem_of_getElem? (i := 62) rfl))) (mvT hZ (hw _ (List.mem_of_getElem? (i := 61) rfl))) (by decide) (backOf (W := 0) (rmUE l Z aw hw [] b8 b1 ta4 ta2 va4 kb4 va2 kb2 ic nB nA (own_mkl nB ya yb yc) (own_mkl nA xa xb xc) h9 n0 (Nat.le_trans Z0 K9.1) (E_b8.keep Kq9) (((((E_b1.keep Kq2).keep Kq3).keep Kq4).ext E8).keep Kq9) Fu9 (((Fu3.keep Kq4 nin0).ext E8).keep Kq9 (ninS ne_b1_b8 nin0)) (own_mkl_ok hnB) (own_mkl_ok hnA) (own_St_keep (own_St_keep St4 ((Keep.refl _ []).ext E8) nin0 nin0) Kq9 (ninS ne_ta4_b8 nin0) (ninS ne_va4_b8 nin0)) (own_St_keep (own_St_keep (own_St_keep (own_St_keep St2 Kq3 (ninS ne_ta2_u nin0) (ninS (Ne.symm ne_u_va2) nin0)) Kq4 nin0 nin0) ((Keep.refl _ []).ext E8) nin0 nin0) Kq9 (ninS ne_ta2_b8 nin0) (ninS ne_va2_b8 nin0)) (Ne.symm ne_tt) (O.keep K9 all0) CS) hZ (hw _ (List.mem_of_getElem? (i := 63) rfl)) (hw _ (List.mem_of_getElem? (i := 2) rfl)) (by decide) (by decide)) q11a q11c (g := (mkF m 226 #[.val (.int p0), .val (.int p1), .val (.int p2), .val (.int p3), .val (.int p4), .val (.int nA), .val (.int xa), .val (.int xb), .val (.int xc), .val (.int nB), .val (.int ya), .val (.int yb), .val (.int yc), .val (.ref b1), .val (.ref ta4), .val (.int (own_same nA xa xb xc nB ya yb yc)), .val (.int (p4 &&& (3 : Int32))), .val (.ref b8)] [(.ref b1), (.ref b8)])) rfl (by rw [hml]; rfl) (Steps.refl _) (argsL := [(.ref b1)]) (rest := []) (lenOf pd_8 rfl) rfl (by show 2 * 0 + _ ≤ _; exact Nat.le_of_eq rfl) (hb hby at_226) (fun _ _ => ⟨rfl, e10, (by decide : 11 + 0 ≤ _), (by decide : 46 + 0 ≤ _)⟩)
          dsimp only [Pt.U, Pt.locs, Pt.cells, Pt.slots] at X11 l11 y11 z11 st11 hQ11
          subst l11 y11 z11
          obtain ⟨rfl, Nq11, e11⟩ := hQ11
          have N11 := Fr.app N10 Nq11
          refine RestW.via (fun t k => st11.trans k) ?_
          show RestW p.tables e below s _ _ _ (T11.setTop (mkF m 229 #[.val (.int p0), .val (.int p1), .val (.int p2), .val (.int p3), .val (.int p4), .val (.int nA), .val (.int xa), .val (.int xb), .val (.int xc), .val (.int nB), .val (.int ya), .val (.int yb), .val (.int yc), .val (.ref b1), .val (.ref ta4), .val (.int (own_same nA xa xb xc nB ya yb yc)), .val (.int (p4 &&& (3 : Int32))), .val (.ref b8)] [(.int (if (own_mkl nB ya yb yc) = (own_mkl nA xa xb xc) then (1 : Int32) else 0))]))
          refine RestW.via (fun t k => XS.iload X11.here hx rfl (hb hby at_229) rfl k) ?_
          show RestW p.tables e below s _ _ _ (T11.setTop (mkF m 231 #[.val (.int p0), .val (.int p1), .val (.int p2), .val (.int p3), .val (.int p4), .val (.int nA), .val (.int xa), .val (.int xb), .val (.int xc), .val (.int nB), .val (.int ya), .val (.int yb), .val (.int yc), .val (.ref b1), .val (.ref ta4), .val (.int (own_same nA xa xb xc nB ya yb yc)), .val (.int (p4 &&& (3 : Int32))), .val (.ref b8)] [(.int (own_same nA xa xb xc nB ya yb yc)), (.int (if (own_mkl nB ya yb yc) = (own_mkl nA xa xb xc) then (1 : Int32) else 0))]))
          refine RestW.via (fun t k => XS.icmpNo X11.here hx rfl (hb hby at_231) rfl (teq (own_swap.trans (own_law hnA hnB hxa hxb hxc hya hyb hyc) : (if (own_mkl nB ya yb yc) = (own_mkl nA xa xb xc) then (1 : Int32) else 0) = (own_same nA xa xb xc nB ya yb yc))).2 k) ?_
          show RestW p.tables e below s _ _ _ (T11.setTop (mkF m 234 #[.val (.int p0), .val (.int p1), .val (.int p2), .val (.int p3), .val (.int p4), .val (.int nA), .val (.int xa), .val (.int xb), .val (.int xc), .val (.int nB), .val (.int ya), .val (.int yb), .val (.int yc), .val (.ref b1), .val (.ref ta4), .val (.int (own_same nA xa xb xc nB ya yb yc)), .val (.int (p4 &&& (3 : Int32))), .val (.ref b8)] []))
          refine RestW.via (fun t k => XS.iconst X11.here hx rfl (hb hby at_234) k) ?_
          show RestW p.tables e below s _ _ _ (T11.setTop (mkF m 235 #[.val (.int p0), .val (.int p1), .val (.int p2), .val (.int p3), .val (.int p4), .val (.int nA), .val (.int xa), .val (.int xb), .val (.int xc), .val (.int nB), .val (.int ya), .val (.int yb), .val (.int yc), .val (.ref b1), .val (.ref ta4), .val (.int (own_same nA xa xb xc nB ya yb yc)), .val (.int (p4 &&& (3 : Int32))), .val (.ref b8)] [(.int (1 : Int32))]))
          refine RestW.via (fun t k => XS.goto X11.here hx rfl (pc0 := 235) (pc' := 239) rfl (hb hby at_235) (by decide) (by decide) k) ?_
          show RestW p.tables e below s _ _ _ (T11.setTop (mkF m 239 #[.val (.int p0), .val (.int p1), .val (.int p2), .val (.int p3), .val (.int p4), .val (.int nA), .val (.int xa), .val (.int xb), .val (.int xc), .val (.int nB), .val (.int ya), .val (.int yb), .val (.int yc), .val (.ref b1), .val (.ref ta4), .val (.int (own_same nA xa xb xc nB ya yb yc)), .val (.int (p4 &&& (3 : Int32))), .val (.ref b8)] [(.int (1 : Int32))]))
          refine RestW.ret X11 hS (by rw [e11]; first | exact (Nat.le_of_eq (congrArg Array.size e9)) | exact Nat.le_refl _) (v := some (.int (nar .boolean (1 : Int32)))) (fun h => by rw [Bd.returns] at h; cases h) hlk (fun fs hr => retN X11 hx (t := .boolean) Bd.returns (by simp) (hb hby at_239) hr) ?_ (by decide) (by decide)
          rw [e11]
          exact ⟨rfl, N11⟩
    · skip
      show RestW p.tables e below s _ _ _ (T2.setTop (mkF m 111 #[.val (.int p0), .val (.int p1), .val (.int p2), .val (.int p3), .val (.int p4), .val (.int nA), .val (.int xa), .val (.int xb), .val (.int xc), .val (.int nB), .val (.int ya), .val (.int yb), .val (.int yc), .unset, .unset, .unset, .unset, .unset] [(.ref ta2), (.ref b1), (.ref b1)]))
      obtain ⟨_, _, ⟨T12, L12, k12, n12⟩, -, X12, hSq12, gr12, ⟨Lc12, hQ12, l12, y12, z12⟩, st12⟩ := X2.specialBackS hx (y := (⟨"com/example/surnia/surnia/rdf/UriRef", "<init>", "(Ljava/lang/String;)V"⟩ : MethodName)) rfl hown (mvT hZ (hw _ (List.mem_of_getElem? (i := 29) rfl))) (mvT hZ (hw _ (List.mem_of_getElem? (i := 30) rfl))) (mvT hZ (hw _ (List.mem_of_getElem? (i := 31) rfl))) (by decide) (own_backV (W := 1) (rmURc l Z aw hw [] b1 ta2 [] h2 n0 (Nat.le_trans Z0 K2.1) (E_b1.keep Kq2) (F_value_b1.keep Kq2 nin0) g_b1 (O.keep K2 all0) hcw HV (by simp)) hZ (hw _ (List.mem_of_getElem? (i := 31) rfl)) (hw _ (List.mem_of_getElem? (i := 2) rfl)) (by decide) (by decide) (fun vm' hw' => own_IB_warm (s := s) I hw')) (g := (mkF m 111 #[.val (.int p0), .val (.int p1), .val (.int p2), .val (.int p3), .val (.int p4), .val (.int nA), .val (.int xa), .val (.int xb), .val (.int xc), .val (.int nB), .val (.int ya), .val (.int yb), .val (.int yc), .unset, .unset, .unset, .unset, .unset] [(.ref ta2), (.ref b1), (.ref b1)])) rfl (by rw [hml]; rfl) (Steps.refl _) (a := b1) (argsL := [(.ref ta2)]) (rest := [(.ref b1)]) (lenOf pd_10 rfl) rfl (by show 2 * 0 + _ ≤ _; exact Nat.le_of_eq rfl) (hb hby at_111) (fun _ _ => ⟨rfl, e2, (by decide : 5 + 2 ≤ _), (by decide : 11 + 24 ≤ _)⟩)
      dsimp only [Pt.U, Pt.locs, Pt.cells, Pt.slots] at X12 l12 y12 z12 st12 hQ12 hSq12 gr12
      subst l12 y12 z12
      obtain ⟨X12, hS, hZ, hown⟩ := rebS hS (by rw [e2]; first | exact (Nat.le_of_eq (congrArg Array.size e2)) | exact Nat.le_refl _) X12 hSq12 gr12 hZ hown
      obtain ⟨h12, e12⟩ : ∃ z, T12.heap = z := ⟨_, rfl⟩
      rw [e12] at hQ12
      obtain ⟨rfl, Nq12, Kq12, Fu12, I, lv, LV⟩ := hQ12
      have N12 := Fr.app N2 Nq12
      have K12 : Keep h0 h12 [] := K2.trans Kq12 (allS (Or.inr sz_b1) all0)
      refine RestW.via (fun t k => st12.trans k) ?_
      show RestW p.tables e below s _ _ _ (T12.setTop (mkF m 114 #[.val (.int p0), .val (.int p1), .val (.int p2), .val (.int p3), .val (.int p4), .val (.int nA), .val (.int xa), .val (.int xb), .val (.int xc), .val (.int nB), .val (.int ya), .val (.int yb), .val (.int yc), .unset, .unset, .unset, .unset, .unset] [(.ref b1)]))
      refine RestW.via (fun t k => XS.astore X12.here hx rfl (hb hby at_114) rfl rfl (l' := #[.val (.int p0), .val (.int p1), .val (.int p2), .val (.int p3), .val (.int p4), .val (.int nA), .val (.int xa), .val (.int xb), .val (.int xc), .val (.int nB), .val (.int ya), .val (.int yb), .val (.int yc), .val (.ref b1), .unset, .unset, .unset, .unset]) rfl k) ?_
      show RestW p.tables e below s _ _ _ (T12.setTop (mkF m 116 #[.val (.int p0), .val (.int p1), .val (.int p2), .val (.int p3), .val (.int p4), .val (.int nA), .val (.int xa), .val (.int xb), .val (.int xc), .val (.int nB), .val (.int ya), .val (.int yb), .val (.int yc), .val (.ref b1), .unset, .unset, .unset, .unset] []))
      refine RestW.via (fun t k => XS.iload X12.here hx rfl (hb hby at_116) rfl k) ?_
      show RestW p.tables e below s _ _ _ (T12.setTop (mkF m 118 #[.val (.int p0), .val (.int p1), .val (.int p2), .val (.int p3), .val (.int p4), .val (.int nA), .val (.int xa), .val (.int xb), .val (.int xc), .val (.int nB), .val (.int ya), .val (.int yb), .val (.int yc), .val (.ref b1), .unset, .unset, .unset, .unset] [(.int nB)]))
      refine RestW.via (fun t k => XS.iload X12.here hx rfl (hb hby at_118) rfl k) ?_
      show RestW p.tables e below s _ _ _ (T12.setTop (mkF m 120 #[.val (.int p0), .val (.int p1), .val (.int p2), .val (.int p3), .val (.int p4), .val (.int nA), .val (.int xa), .val (.int xb), .val (.int xc), .val (.int nB), .val (.int ya), .val (.int yb), .val (.int yc), .val (.ref b1), .unset, .unset, .unset, .unset] [(.int ya), (.int nB)]))
      refine RestW.via (fun t k => XS.iload X12.here hx rfl (hb hby at_120) rfl k) ?_
      show RestW p.tables e below s _ _ _ (T12.setTop (mkF m 122 #[.val (.int p0), .val (.int p1), .val (.int p2), .val (.int p3), .val (.int p4), .val (.int nA), .val (.int xa), .val (.int xb), .val (.int xc), .val (.int nB), .val (.int ya), .val (.int yb), .val (.int yc), .val (.ref b1), .unset, .unset, .unset, .unset] [(.int yb), (.int ya), (.int nB)]))
      refine RestW.via (fun t k => XS.iload X12.here hx rfl (hb hby at_122) rfl k) ?_
      show RestW p.tables e below s _ _ _ (T12.setTop (mkF m 124 #[.val (.int p0), .val (.int p1), .val (.int p2), .val (.int p3), .val (.int p4), .val (.int nA), .val (.int xa), .val (.int xb), .val (.int xc), .val (.int nB), .val (.int ya), .val (.int yb), .val (.int yc), .val (.ref b1), .unset, .unset, .unset, .unset] [(.int yc), (.int yb), (.int ya), (.int nB)]))
      obtain ⟨_, _, ⟨T13, L13, k13, n13⟩, -, X13, hSq13, gr13, ⟨Lc13, hQ13, l13, y13, z13⟩, st13⟩ := callSS X12 hx (y := (⟨"com/example/surnia/surnia/rdf/UriRefEqualsPinLaw", "mk", "(ICCC)Ljava/lang/String;"⟩ : MethodName)) hown (mvT hZ (hw _ (List.mem_of_getElem? (i := 3) rfl))) (mvT hZ (hw _ (List.mem_of_getElem? (i := 4) rfl))) (mvT hZ (hw _ (List.mem_of_getElem? (i := 5) rfl))) (mvT hZ (hw _ (List.mem_of_getElem? (i := 6) rfl))) (by decide) (own_backV (W := 0) (rmMKc l Z aw hw [] nB ya yb yc ic ["value"] h12 n0 (Nat.le_trans Z0 K12.1) hnB hya hyb hyc (O.keep K12 all0) CS hcw HE (by simp)) hZ (hw _ (List.mem_of_getElem? (i := 6) rfl)) (hw _ (List.mem_of_getElem? (i := 5) rfl)) (by decide) (by decide) (fun vm' hw' => own_IB_warm (s := s) I hw')) (g := (mkF m 124 #[.val (.int p0), .val (.int p1), .val (.int p2), .val (.int p3), .val (.int p4), .val (.int nA), .val (.int xa), .val (.int xb), .val (.int xc), .val (.int nB), .val (.int ya), .val (.int yb), .val (.int yc), .val (.ref b1), .unset, .unset, .unset, .unset] [(.int yc), (.int yb), (.int ya), (.int nB)])) rfl (by rw [hml]; rfl) (argsL := [(.int nB), (.int ya), (.int yb), (.int yc)]) (rest := []) (lenOf pd_9 rfl) rfl (by show 2 * 0 + _ ≤ _; exact Nat.le_of_eq rfl) (hb hby at_124) (fun _ _ => ⟨rfl, e12, (by decide : 7 + 4 ≤ _), (by decide : 35 + 10 ≤ _)⟩)
      dsimp only [Pt.U, Pt.locs, Pt.cells, Pt.slots] at X13 l13 y13 z13 st13 hQ13 hSq13 gr13
      subst l13 y13 z13
      obtain ⟨X13, hS, hZ, hown⟩ := rebS hS (by rw [e12]; first | exact (Nat.le_of_eq (congrArg Array.size e12)) | exact Nat.le_refl _) X13 hSq13 gr13 hZ hown
      obtain ⟨h13, e13⟩ : ∃ z, T13.heap = z := ⟨_, rfl⟩
      rw [e13] at hQ13
      obtain ⟨ta13, va13, kb13, rfl, Nq13, Kq13, gt13, St13, Dj13⟩ := hQ13
      have N13 := Fr.app N12 Nq13
      have ne_tt : ta2 ≠ ta13 := Nat.ne_of_lt (Nat.lt_of_lt_of_le (St2.1.keep Kq12).lt gt13)
      have K13 : Keep h0 h13 [] := K12.trans Kq13 all0
      have LV := own_Lit_warm LV hSq13.1
      have ne_ta13_u : ta13 ≠ b1 := Exa.ne St13.1 (((E_b1.keep Kq2).keep Kq12).keep Kq13) (by decide)
      have ne_u_va13 : b1 ≠ va13 := Exa.neArv (((E_b1.keep Kq2).keep Kq12).keep Kq13) St13.2.2.2 (hw _ (List.mem_of_getElem? (i := 1) rfl))
      refine RestW.via (fun t k => st13.trans k) ?_
      show RestW p.tables e below s _ _ _ (T13.setTop (mkF m 127 #[.val (.int p0), .val (.int p1), .val (.int p2), .val (.int p3), .val (.int p4), .val (.int nA), .val (.int xa), .val (.int xb), .val (.int xc), .val (.int nB), .val (.int ya), .val (.int yb), .val (.int yc), .val (.ref b1), .unset, .unset, .unset, .unset] [(.ref ta13)]))
      refine RestW.via (fun t k => XS.astore X13.here hx rfl (hb hby at_127) rfl rfl (l' := #[.val (.int p0), .val (.int p1), .val (.int p2), .val (.int p3), .val (.int p4), .val (.int nA), .val (.int xa), .val (.int xb), .val (.int xc), .val (.int nB), .val (.int ya), .val (.int yb), .val (.int yc), .val (.ref b1), .val (.ref ta13), .unset, .unset, .unset]) rfl k) ?_
      show RestW p.tables e below s _ _ _ (T13.setTop (mkF m 129 #[.val (.int p0), .val (.int p1), .val (.int p2), .val (.int p3), .val (.int p4), .val (.int nA), .val (.int xa), .val (.int xb), .val (.int xc), .val (.int nB), .val (.int ya), .val (.int yb), .val (.int yc), .val (.ref b1), .val (.ref ta13), .unset, .unset, .unset] []))
      refine RestW.via (fun t k => XS.iload X13.here hx rfl (hb hby at_129) rfl k) ?_
      show RestW p.tables e below s _ _ _ (T13.setTop (mkF m 131 #[.val (.int p0), .val (.int p1), .val (.int p2), .val (.int p3), .val (.int p4), .val (.int nA), .val (.int xa), .val (.int xb), .val (.int xc), .val (.int nB), .val (.int ya), .val (.int yb), .val (.int yc), .val (.ref b1), .val (.ref ta13), .unset, .unset, .unset] [(.int nA)]))
      refine RestW.via (fun t k => XS.iload X13.here hx rfl (hb hby at_131) rfl k) ?_
      show RestW p.tables e below s _ _ _ (T13.setTop (mkF m 133 #[.val (.int p0), .val (.int p1), .val (.int p2), .val (.int p3), .val (.int p4), .val (.int nA), .val (.int xa), .val (.int xb), .val (.int xc), .val (.int nB), .val (.int ya), .val (.int yb), .val (.int yc), .val (.ref b1), .val (.ref ta13), .unset, .unset, .unset] [(.int xa), (.int nA)]))
      refine RestW.via (fun t k => XS.iload X13.here hx rfl (hb hby at_133) rfl k) ?_
      show RestW p.tables e below s _ _ _ (T13.setTop (mkF m 135 #[.val (.int p0), .val (.int p1), .val (.int p2), .val (.int p3), .val (.int p4), .val (.int nA), .val (.int xa), .val (.int xb), .val (.int xc), .val (.int nB), .val (.int ya), .val (.int yb), .val (.int yc), .val (.ref b1), .val (.ref ta13), .unset, .unset, .unset] [(.int xb), (.int xa), (.int nA)]))
      refine RestW.via (fun t k => XS.iload X13.here hx rfl (hb hby at_135) rfl k) ?_
      show RestW p.tables e below s _ _ _ (T13.setTop (mkF m 137 #[.val (.int p0), .val (.int p1), .val (.int p2), .val (.int p3), .val (.int p4), .val (.int nA), .val (.int xa), .val (.int xb), .val (.int xc), .val (.int nB), .val (.int ya), .val (.int yb), .val (.int yc), .val (.ref b1), .val (.ref ta13), .unset, .unset, .unset] [(.int xc), (.int xb), (.int xa), (.int nA)]))
      refine RestW.via (fun t k => XS.iload X13.here hx rfl (hb hby at_137) rfl k) ?_
      show RestW p.tables e below s _ _ _ (T13.setTop (mkF m 139 #[.val (.int p0), .val (.int p1), .val (.int p2), .val (.int p3), .val (.int p4), .val (.int nA), .val (.int xa), .val (.int xb), .val (.int xc), .val (.int nB), .val (.int ya), .val (.int yb), .val (.int yc), .val (.ref b1), .val (.ref ta13), .unset, .unset, .unset] [(.int nB), (.int xc), (.int xb), (.int xa), (.int nA)]))
      refine RestW.via (fun t k => XS.iload X13.here hx rfl (hb hby at_139) rfl k) ?_
      show RestW p.tables e below s _ _ _ (T13.setTop (mkF m 141 #[.val (.int p0), .val (.int p1), .val (.int p2), .val (.int p3), .val (.int p4), .val (.int nA), .val (.int xa), .val (.int xb), .val (.int xc), .val (.int nB), .val (.int ya), .val (.int yb), .val (.int yc), .val (.ref b1), .val (.ref ta13), .unset, .unset, .unset] [(.int ya), (.int nB), (.int xc), (.int xb), (.int xa), (.int nA)]))
      refine RestW.via (fun t k => XS.iload X13.here hx rfl (hb hby at_141) rfl k) ?_
      show RestW p.tables e below s _ _ _ (T13.setTop (mkF m 143 #[.val (.int p0), .val (.int p1), .val (.int p2), .val (.int p3), .val (.int p4), .val (.int nA), .val (.int xa), .val (.int xb), .val (.int xc), .val (.int nB), .val (.int ya), .val (.int yb), .val (.int yc), .val (.ref b1), .val (.ref ta13), .unset, .unset, .unset] [(.int yb), (.int ya), (.int nB), (.int xc), (.int xb), (.int xa), (.int nA)]))
      refine RestW.via (fun t k => XS.iload X13.here hx rfl (hb hby at_143) rfl k) ?_
      show RestW p.tables e below s _ _ _ (T13.setTop (mkF m 145 #[.val (.int p0), .val (.int p1), .val (.int p2), .val (.int p3), .val (.int p4), .val (.int nA), .val (.int xa), .val (.int xb), .val (.int xc), .val (.int nB), .val (.int ya), .val (.int yb), .val (.int yc), .val (.ref b1), .val (.ref ta13), .unset, .unset, .unset] [(.int yc), (.int yb), (.int ya), (.int nB), (.int xc), (.int xb), (.int xa), (.int nA)]))
      obtain ⟨_, _, ⟨T14, L14, k14, n14⟩, -, X14, ⟨Lc14, hQ14, l14, y14, z14⟩, st14⟩ := Jvm.LawKit.callS X13 hx (y := (⟨"com/example/surnia/surnia/rdf/UriRefEqualsPinLaw", "same", "(ICCCICCC)Z"⟩ : MethodName)) hown (mvT hZ (hw _ (List.mem_of_getElem? (i := 56) rfl))) (mvT hZ (hw _ (List.mem_of_getElem? (i := 57) rfl))) (mvT hZ (hw _ (List.mem_of_getElem? (i := 5) rfl))) (mvT hZ (hw _ (List.mem_of_getElem? (i := 58) rfl))) (by decide) (backOf (W := 0) (rmSM l Z aw hw [] nA xa xb xc nB ya yb yc  h13 n0 (Nat.le_trans Z0 K13.1) ) hZ (hw _ (List.mem_of_getElem? (i := 58) rfl)) (hw _ (List.mem_of_getElem? (i := 5) rfl)) (by decide) (by decide)) (g := (mkF m 145 #[.val (.int p0), .val (.int p1), .val (.int p2), .val (.int p3), .val (.int p4), .val (.int nA), .val (.int xa), .val (.int xb), .val (.int xc), .val (.int nB), .val (.int ya), .val (.int yb), .val (.int yc), .val (.ref b1), .val (.ref ta13), .unset, .unset, .unset] [(.int yc), (.int yb), (.int ya), (.int nB), (.int xc), (.int xb), (.int xa), (.int nA)])) rfl (by rw [hml]; rfl) (argsL := [(.int nA), (.int xa), (.int xb), (.int xc), (.int nB), (.int ya), (.int yb), (.int yc)]) (rest := []) (lenOf pd_11 rfl) rfl (by show 2 * 0 + _ ≤ _; exact Nat.le_of_eq rfl) (hb hby at_145) (fun _ _ => ⟨rfl, e13, (by decide : 11 + 0 ≤ _), (by decide : 45 + 0 ≤ _)⟩)
      dsimp only [Pt.U, Pt.locs, Pt.cells, Pt.slots] at X14 l14 y14 z14 st14 hQ14
      subst l14 y14 z14
      obtain ⟨rfl, Nq14, e14⟩ := hQ14
      have N14 := Fr.app N13 Nq14
      refine RestW.via (fun t k => st14 t k) ?_
      show RestW p.tables e below s _ _ _ (T14.setTop (mkF m 148 #[.val (.int p0), .val (.int p1), .val (.int p2), .val (.int p3), .val (.int p4), .val (.int nA), .val (.int xa), .val (.int xb), .val (.int xc), .val (.int nB), .val (.int ya), .val (.int yb), .val (.int yc), .val (.ref b1), .val (.ref ta13), .unset, .unset, .unset] [(.int (own_same nA xa xb xc nB ya yb yc))]))
      refine RestW.via (fun t k => XS.istore X14.here hx rfl (hb hby at_148) rfl (l' := #[.val (.int p0), .val (.int p1), .val (.int p2), .val (.int p3), .val (.int p4), .val (.int nA), .val (.int xa), .val (.int xb), .val (.int xc), .val (.int nB), .val (.int ya), .val (.int yb), .val (.int yc), .val (.ref b1), .val (.ref ta13), .val (.int (own_same nA xa xb xc nB ya yb yc)), .unset, .unset]) rfl k) ?_
      show RestW p.tables e below s _ _ _ (T14.setTop (mkF m 150 #[.val (.int p0), .val (.int p1), .val (.int p2), .val (.int p3), .val (.int p4), .val (.int nA), .val (.int xa), .val (.int xb), .val (.int xc), .val (.int nB), .val (.int ya), .val (.int yb), .val (.int yc), .val (.ref b1), .val (.ref ta13), .val (.int (own_same nA xa xb xc nB ya yb yc)), .unset, .unset] []))
      refine RestW.via (fun t k => XS.iload X14.here hx rfl (hb hby at_150) rfl k) ?_
      show RestW p.tables e below s _ _ _ (T14.setTop (mkF m 152 #[.val (.int p0), .val (.int p1), .val (.int p2), .val (.int p3), .val (.int p4), .val (.int nA), .val (.int xa), .val (.int xb), .val (.int xc), .val (.int nB), .val (.int ya), .val (.int yb), .val (.int yc), .val (.ref b1), .val (.ref ta13), .val (.int (own_same nA xa xb xc nB ya yb yc)), .unset, .unset] [(.int p4)]))
      refine RestW.via (fun t k => XS.iconst X14.here hx rfl (hb hby at_152) k) ?_
      show RestW p.tables e below s _ _ _ (T14.setTop (mkF m 153 #[.val (.int p0), .val (.int p1), .val (.int p2), .val (.int p3), .val (.int p4), .val (.int nA), .val (.int xa), .val (.int xb), .val (.int xc), .val (.int nB), .val (.int ya), .val (.int yb), .val (.int yc), .val (.ref b1), .val (.ref ta13), .val (.int (own_same nA xa xb xc nB ya yb yc)), .unset, .unset] [(.int (3 : Int32)), (.int p4)]))
      refine RestW.via (fun t k => XS.iand X14.here hx rfl (hb hby at_153) rfl k) ?_
      show RestW p.tables e below s _ _ _ (T14.setTop (mkF m 154 #[.val (.int p0), .val (.int p1), .val (.int p2), .val (.int p3), .val (.int p4), .val (.int nA), .val (.int xa), .val (.int xb), .val (.int xc), .val (.int nB), .val (.int ya), .val (.int yb), .val (.int yc), .val (.ref b1), .val (.ref ta13), .val (.int (own_same nA xa xb xc nB ya yb yc)), .unset, .unset] [(.int (p4 &&& (3 : Int32)))]))
      refine RestW.via (fun t k => XS.istore X14.here hx rfl (hb hby at_154) rfl (l' := #[.val (.int p0), .val (.int p1), .val (.int p2), .val (.int p3), .val (.int p4), .val (.int nA), .val (.int xa), .val (.int xb), .val (.int xc), .val (.int nB), .val (.int ya), .val (.int yb), .val (.int yc), .val (.ref b1), .val (.ref ta13), .val (.int (own_same nA xa xb xc nB ya yb yc)), .val (.int (p4 &&& (3 : Int32))), .unset]) rfl k) ?_
      show RestW p.tables e below s _ _ _ (T14.setTop (mkF m 156 #[.val (.int p0), .val (.int p1), .val (.int p2), .val (.int p3), .val (.int p4), .val (.int nA), .val (.int xa), .val (.int xb), .val (.int xc), .val (.int nB), .val (.int ya), .val (.int yb), .val (.int yc), .val (.ref b1), .val (.ref ta13), .val (.int (own_same nA xa xb xc nB ya yb yc)), .val (.int (p4 &&& (3 : Int32))), .unset] []))
      refine RestW.via (fun t k => XS.iload X14.here hx rfl (hb hby at_156) rfl k) ?_
      show RestW p.tables e below s _ _ _ (T14.setTop (mkF m 158 #[.val (.int p0), .val (.int p1), .val (.int p2), .val (.int p3), .val (.int p4), .val (.int nA), .val (.int xa), .val (.int xb), .val (.int xc), .val (.int nB), .val (.int ya), .val (.int yb), .val (.int yc), .val (.ref b1), .val (.ref ta13), .val (.int (own_same nA xa xb xc nB ya yb yc)), .val (.int (p4 &&& (3 : Int32))), .unset] [(.int (p4 &&& (3 : Int32)))]))
      refine RestW.via (fun t k => XS.iconst X14.here hx rfl (hb hby at_158) k) ?_
      show RestW p.tables e below s _ _ _ (T14.setTop (mkF m 159 #[.val (.int p0), .val (.int p1), .val (.int p2), .val (.int p3), .val (.int p4), .val (.int nA), .val (.int xa), .val (.int xb), .val (.int xc), .val (.int nB), .val (.int ya), .val (.int yb), .val (.int yc), .val (.ref b1), .val (.ref ta13), .val (.int (own_same nA xa xb xc nB ya yb yc)), .val (.int (p4 &&& (3 : Int32))), .unset] [(.int (2 : Int32)), (.int (p4 &&& (3 : Int32)))]))
      by_cases hk2 : (p4 &&& (3 : Int32)) = (2 : Int32)
      · refine RestW.via (fun t k => XS.icmpNo X14.here hx rfl (hb hby at_159) rfl (teq hk2).2 k) ?_
        show RestW p.tables e below s _ _ _ (T14.setTop (mkF m 162 #[.val (.int p0), .val (.int p1), .val (.int p2), .val (.int p3), .val (.int p4), .val (.int nA), .val (.int xa), .val (.int xb), .val (.int xc), .val (.int nB), .val (.int ya), .val (.int yb), .val (.int yc), .val (.ref b1), .val (.ref ta13), .val (.int (own_same nA xa xb xc nB ya yb yc)), .val (.int (p4 &&& (3 : Int32))), .unset] []))
        refine RestW.via (fun t k => XS.aload X14.here hx rfl (hb hby at_162) rfl rfl k) ?_
        show RestW p.tables e below s _ _ _ (T14.setTop (mkF m 164 #[.val (.int p0), .val (.int p1), .val (.int p2), .val (.int p3), .val (.int p4), .val (.int nA), .val (.int xa), .val (.int xb), .val (.int xc), .val (.int nB), .val (.int ya), .val (.int yb), .val (.int yc), .val (.ref b1), .val (.ref ta13), .val (.int (own_same nA xa xb xc nB ya yb yc)), .val (.int (p4 &&& (3 : Int32))), .unset] [(.ref b1)]))
        refine RestW.via (fun t k => XS.aconstNull X14.here hx rfl (hb hby at_164) k) ?_
        show RestW p.tables e below s _ _ _ (T14.setTop (mkF m 165 #[.val (.int p0), .val (.int p1), .val (.int p2), .val (.int p3), .val (.int p4), .val (.int nA), .val (.int xa), .val (.int xb), .val (.int xc), .val (.int nB), .val (.int ya), .val (.int yb), .val (.int yc), .val (.ref b1), .val (.ref ta13), .val (.int (own_same nA xa xb xc nB ya yb yc)), .val (.int (p4 &&& (3 : Int32))), .unset] [.null, (.ref b1)]))
        obtain ⟨cq15, kq15, q15a, q15b, q15c⟩ := isOf hZ e14 (((E_b1.keep Kq2).keep Kq12).keep Kq13)
        obtain ⟨_, _, ⟨T15, L15, k15, n15⟩, -, X15, ⟨Lc15, hQ15, l15, y15, z15⟩, st15⟩ := X14.virtualBack hx (y := (⟨"com/example/surnia/surnia/rdf/UriRef", "equals", "(Ljava/lang/Object;)Z"⟩ : MethodName)) (z := (⟨"com/example/surnia/surnia/rdf/UriRef", "equals", "(Ljava/lang/Object;)Z"⟩ : MethodName)) hown (mvT hZ (hw _ (List.mem_of_getElem? (i := 59) rfl))) (mvT hZ (hw _ (List.mem_of_getElem? (i := 60) rfl))) (notFace_of_selects (args := #[]) (mvT hZ (hw _ (List.mem_of_getElem? (i := 62) rfl)))) (mvT hZ (hw _ (List.mem_of_getElem? (i := 62) rfl))) (mvT hZ (hw _ (List.mem_of_getElem? (i := 61) rfl))) (by decide) (backOf (W := 0) (rmUEn l Z aw hw [] b1  h13 n0 (Nat.le_trans Z0 K13.1) ) hZ (hw _ (List.mem_of_getElem? (i := 63) rfl)) (hw _ (List.mem_of_getElem? (i := 2) rfl)) (by decide) (by decide)) q15a q15c (g := (mkF m 165 #[.val (.int p0), .val (.int p1), .val (.int p2), .val (.int p3), .val (.int p4), .val (.int nA), .val (.int xa), .val (.int xb), .val (.int xc), .val (.int nB), .val (.int ya), .val (.int yb), .val (.int yc), .val (.ref b1), .val (.ref ta13), .val (.int (own_same nA xa xb xc nB ya yb yc)), .val (.int (p4 &&& (3 : Int32))), .unset] [.null, (.ref b1)])) rfl (by rw [hml]; rfl) (Steps.refl _) (argsL := [.null]) (rest := []) (lenOf pd_8 rfl) rfl (by show 2 * 0 + _ ≤ _; exact Nat.le_of_eq rfl) (hb hby at_165) (fun _ _ => ⟨rfl, e14, (by decide : 11 + 0 ≤ _), (by decide : 45 + 0 ≤ _)⟩)
        dsimp only [Pt.U, Pt.locs, Pt.cells, Pt.slots] at X15 l15 y15 z15 st15 hQ15
        subst l15 y15 z15
        obtain ⟨rfl, Nq15, e15⟩ := hQ15
        have N15 := Fr.app N14 Nq15
        refine RestW.via (fun t k => st15.trans k) ?_
        show RestW p.tables e below s _ _ _ (T15.setTop (mkF m 168 #[.val (.int p0), .val (.int p1), .val (.int p2), .val (.int p3), .val (.int p4), .val (.int nA), .val (.int xa), .val (.int xb), .val (.int xc), .val (.int nB), .val (.int ya), .val (.int yb), .val (.int yc), .val (.ref b1), .val (.ref ta13), .val (.int (own_same nA xa xb xc nB ya yb yc)), .val (.int (p4 &&& (3 : Int32))), .unset] [(.int (0 : Int32))]))
        refine RestW.via (fun t k => XS.ifNo X15.here hx rfl (hb hby at_168) rfl ((if0 _ _).trans (teq (by decide : (0 : Int32) = (0 : Int32))).2) k) ?_
        show RestW p.tables e below s _ _ _ (T15.setTop (mkF m 171 #[.val (.int p0), .val (.int p1), .val (.int p2), .val (.int p3), .val (.int p4), .val (.int nA), .val (.int xa), .val (.int xb), .val (.int xc), .val (.int nB), .val (.int ya), .val (.int yb), .val (.int yc), .val (.ref b1), .val (.ref ta13), .val (.int (own_same nA xa xb xc nB ya yb yc)), .val (.int (p4 &&& (3 : Int32))), .unset] []))
        refine RestW.via (fun t k => XS.iconst X15.here hx rfl (hb hby at_171) k) ?_
        show RestW p.tables e below s _ _ _ (T15.setTop (mkF m 172 #[.val (.int p0), .val (.int p1), .val (.int p2), .val (.int p3), .val (.int p4), .val (.int nA), .val (.int xa), .val (.int xb), .val (.int xc), .val (.int nB), .val (.int ya), .val (.int yb), .val (.int yc), .val (.ref b1), .val (.ref ta13), .val (.int (own_same nA xa xb xc nB ya yb yc)), .val (.int (p4 &&& (3 : Int32))), .unset] [(.int (1 : Int32))]))
        refine RestW.via (fun t k => XS.goto X15.here hx rfl (pc0 := 172) (pc' := 176) rfl (hb hby at_172) (by decide) (by decide) k) ?_
        show RestW p.tables e below s _ _ _ (T15.setTop (mkF m 176 #[.val (.int p0), .val (.int p1), .val (.int p2), .val (.int p3), .val (.int p4), .val (.int nA), .val (.int xa), .val (.int xb), .val (.int xc), .val (.int nB), .val (.int ya), .val (.int yb), .val (.int yc), .val (.ref b1), .val (.ref ta13), .val (.int (own_same nA xa xb xc nB ya yb yc)), .val (.int (p4 &&& (3 : Int32))), .unset] [(.int (1 : Int32))]))
        refine RestW.ret X15 hS (by rw [e15]; first | exact (Nat.le_of_eq (congrArg Array.size e13)) | exact Nat.le_refl _) (v := some (.int (nar .boolean (1 : Int32)))) (fun h => by rw [Bd.returns] at h; cases h) hlk (fun fs hr => retN X15 hx (t := .boolean) Bd.returns (by simp) (hb hby at_176) hr) ?_ (by decide) (by decide)
        rw [e15]
        exact ⟨rfl, N15⟩
      · refine RestW.via (fun t k => XS.icmpYes X14.here hx rfl (pc0 := 159) (pc' := 177) rfl (hb hby at_159) rfl (feq hk2).2 (by decide) (by decide) k) ?_
        show RestW p.tables e below s _ _ _ (T14.setTop (mkF m 177 #[.val (.int p0), .val (.int p1), .val (.int p2), .val (.int p3), .val (.int p4), .val (.int nA), .val (.int xa), .val (.int xb), .val (.int xc), .val (.int nB), .val (.int ya), .val (.int yb), .val (.int yc), .val (.ref b1), .val (.ref ta13), .val (.int (own_same nA xa xb xc nB ya yb yc)), .val (.int (p4 &&& (3 : Int32))), .unset] []))
        refine RestW.via (fun t k => XS.iload X14.here hx rfl (hb hby at_177) rfl k) ?_
        show RestW p.tables e below s _ _ _ (T14.setTop (mkF m 179 #[.val (.int p0), .val (.int p1), .val (.int p2), .val (.int p3), .val (.int p4), .val (.int nA), .val (.int xa), .val (.int xb), .val (.int xc), .val (.int nB), .val (.int ya), .val (.int yb), .val (.int yc), .val (.ref b1), .val (.ref ta13), .val (.int (own_same nA xa xb xc nB ya yb yc)), .val (.int (p4 &&& (3 : Int32))), .unset] [(.int (p4 &&& (3 : Int32)))]))
        refine RestW.via (fun t k => XS.iconst X14.here hx rfl (hb hby at_179) k) ?_
        show RestW p.tables e below s _ _ _ (T14.setTop (mkF m 180 #[.val (.int p0), .val (.int p1), .val (.int p2), .val (.int p3), .val (.int p4), .val (.int nA), .val (.int xa), .val (.int xb), .val (.int xc), .val (.int nB), .val (.int ya), .val (.int yb), .val (.int yc), .val (.ref b1), .val (.ref ta13), .val (.int (own_same nA xa xb xc nB ya yb yc)), .val (.int (p4 &&& (3 : Int32))), .unset] [(.int (3 : Int32)), (.int (p4 &&& (3 : Int32)))]))
        by_cases hk3 : (p4 &&& (3 : Int32)) = (3 : Int32)
        · refine RestW.via (fun t k => XS.icmpNo X14.here hx rfl (hb hby at_180) rfl (teq hk3).2 k) ?_
          show RestW p.tables e below s _ _ _ (T14.setTop (mkF m 183 #[.val (.int p0), .val (.int p1), .val (.int p2), .val (.int p3), .val (.int p4), .val (.int nA), .val (.int xa), .val (.int xb), .val (.int xc), .val (.int nB), .val (.int ya), .val (.int yb), .val (.int yc), .val (.ref b1), .val (.ref ta13), .val (.int (own_same nA xa xb xc nB ya yb yc)), .val (.int (p4 &&& (3 : Int32))), .unset] []))
          refine RestW.via (fun t k => XS.aload X14.here hx rfl (hb hby at_183) rfl rfl k) ?_
          show RestW p.tables e below s _ _ _ (T14.setTop (mkF m 185 #[.val (.int p0), .val (.int p1), .val (.int p2), .val (.int p3), .val (.int p4), .val (.int nA), .val (.int xa), .val (.int xb), .val (.int xc), .val (.int nB), .val (.int ya), .val (.int yb), .val (.int yc), .val (.ref b1), .val (.ref ta13), .val (.int (own_same nA xa xb xc nB ya yb yc)), .val (.int (p4 &&& (3 : Int32))), .unset] [(.ref b1)]))
          refine RestW.via (fun t k => XS.aload X14.here hx rfl (hb hby at_185) rfl rfl k) ?_
          show RestW p.tables e below s _ _ _ (T14.setTop (mkF m 187 #[.val (.int p0), .val (.int p1), .val (.int p2), .val (.int p3), .val (.int p4), .val (.int nA), .val (.int xa), .val (.int xb), .val (.int xc), .val (.int nB), .val (.int ya), .val (.int yb), .val (.int yc), .val (.ref b1), .val (.ref ta13), .val (.int (own_same nA xa xb xc nB ya yb yc)), .val (.int (p4 &&& (3 : Int32))), .unset] [(.ref ta13), (.ref b1)]))
          obtain ⟨cq16, kq16, q16a, q16b, q16c⟩ := isOf hZ e14 (((E_b1.keep Kq2).keep Kq12).keep Kq13)
          obtain ⟨_, _, ⟨T16, L16, k16, n16⟩, -, X16, ⟨Lc16, hQ16, l16, y16, z16⟩, st16⟩ := X14.virtualBack hx (y := (⟨"com/example/surnia/surnia/rdf/UriRef", "equals", "(Ljava/lang/Object;)Z"⟩ : MethodName)) (z := (⟨"com/example/surnia/surnia/rdf/UriRef", "equals", "(Ljava/lang/Object;)Z"⟩ : MethodName)) hown (mvT hZ (hw _ (List.mem_of_getElem? (i := 59) rfl))) (mvT hZ (hw _ (List.mem_of_getElem? (i := 60) rfl))) (notFace_of_selects (args := #[]) (mvT hZ (hw _ (List.mem_of_getElem? (i := 62) rfl)))) (mvT hZ (hw _ (List.mem_of_getElem? (i := 62) rfl))) (mvT hZ (hw _ (List.mem_of_getElem? (i := 61) rfl))) (by decide) (backOf (W := 0) (rmUEs l Z aw hw [] b1 ta13  h13 n0 (Nat.le_trans Z0 K13.1) St13.1) hZ (hw _ (List.mem_of_getElem? (i := 63) rfl)) (hw _ (List.mem_of_getElem? (i := 2) rfl)) (by decide) (by decide)) q16a q16c (g := (mkF m 187 #[.val (.int p0), .val (.int p1), .val (.int p2), .val (.int p3), .val (.int p4), .val (.int nA), .val (.int xa), .val (.int xb), .val (.int xc), .val (.int nB), .val (.int ya), .val (.int yb), .val (.int yc), .val (.ref b1), .val (.ref ta13), .val (.int (own_same nA xa xb xc nB ya yb yc)), .val (.int (p4 &&& (3 : Int32))), .unset] [(.ref ta13), (.ref b1)])) rfl (by rw [hml]; rfl) (Steps.refl _) (argsL := [(.ref ta13)]) (rest := []) (lenOf pd_8 rfl) rfl (by show 2 * 0 + _ ≤ _; exact Nat.le_of_eq rfl) (hb hby at_187) (fun _ _ => ⟨rfl, e14, (by decide : 11 + 0 ≤ _), (by decide : 45 + 0 ≤ _)⟩)
          dsimp only [Pt.U, Pt.locs, Pt.cells, Pt.slots] at X16 l16 y16 z16 st16 hQ16
          subst l16 y16 z16
          obtain ⟨rfl, Nq16, e16⟩ := hQ16
          have N16 := Fr.app N14 Nq16
          refine RestW.via (fun t k => st16.trans k) ?_
          show RestW p.tables e below s _ _ _ (T16.setTop (mkF m 190 #[.val (.int p0), .val (.int p1), .val (.int p2), .val (.int p3), .val (.int p4), .val (.int nA), .val (.int xa), .val (.int xb), .val (.int xc), .val (.int nB), .val (.int ya), .val (.int yb), .val (.int yc), .val (.ref b1), .val (.ref ta13), .val (.int (own_same nA xa xb xc nB ya yb yc)), .val (.int (p4 &&& (3 : Int32))), .unset] [(.int (0 : Int32))]))
          refine RestW.via (fun t k => XS.ifNo X16.here hx rfl (hb hby at_190) rfl ((if0 _ _).trans (teq (by decide : (0 : Int32) = (0 : Int32))).2) k) ?_
          show RestW p.tables e below s _ _ _ (T16.setTop (mkF m 193 #[.val (.int p0), .val (.int p1), .val (.int p2), .val (.int p3), .val (.int p4), .val (.int nA), .val (.int xa), .val (.int xb), .val (.int xc), .val (.int nB), .val (.int ya), .val (.int yb), .val (.int yc), .val (.ref b1), .val (.ref ta13), .val (.int (own_same nA xa xb xc nB ya yb yc)), .val (.int (p4 &&& (3 : Int32))), .unset] []))
          refine RestW.via (fun t k => XS.iconst X16.here hx rfl (hb hby at_193) k) ?_
          show RestW p.tables e below s _ _ _ (T16.setTop (mkF m 194 #[.val (.int p0), .val (.int p1), .val (.int p2), .val (.int p3), .val (.int p4), .val (.int nA), .val (.int xa), .val (.int xb), .val (.int xc), .val (.int nB), .val (.int ya), .val (.int yb), .val (.int yc), .val (.ref b1), .val (.ref ta13), .val (.int (own_same nA xa xb xc nB ya yb yc)), .val (.int (p4 &&& (3 : Int32))), .unset] [(.int (1 : Int32))]))
          refine RestW.via (fun t k => XS.goto X16.here hx rfl (pc0 := 194) (pc' := 198) rfl (hb hby at_194) (by decide) (by decide) k) ?_
          show RestW p.tables e below s _ _ _ (T16.setTop (mkF m 198 #[.val (.int p0), .val (.int p1), .val (.int p2), .val (.int p3), .val (.int p4), .val (.int nA), .val (.int xa), .val (.int xb), .val (.int xc), .val (.int nB), .val (.int ya), .val (.int yb), .val (.int yc), .val (.ref b1), .val (.ref ta13), .val (.int (own_same nA xa xb xc nB ya yb yc)), .val (.int (p4 &&& (3 : Int32))), .unset] [(.int (1 : Int32))]))
          refine RestW.ret X16 hS (by rw [e16]; first | exact (Nat.le_of_eq (congrArg Array.size e13)) | exact Nat.le_refl _) (v := some (.int (nar .boolean (1 : Int32)))) (fun h => by rw [Bd.returns] at h; cases h) hlk (fun fs hr => retN X16 hx (t := .boolean) Bd.returns (by simp) (hb hby at_198) hr) ?_ (by decide) (by decide)
          rw [e16]
          exact ⟨rfl, N16⟩
        · refine RestW.via (fun t k => XS.icmpYes X14.here hx rfl (pc0 := 180) (pc' := 199) rfl (hb hby at_180) rfl (feq hk3).2 (by decide) (by decide) k) ?_
          show RestW p.tables e below s _ _ _ (T14.setTop (mkF m 199 #[.val (.int p0), .val (.int p1), .val (.int p2), .val (.int p3), .val (.int p4), .val (.int nA), .val (.int xa), .val (.int xb), .val (.int xc), .val (.int nB), .val (.int ya), .val (.int yb), .val (.int yc), .val (.ref b1), .val (.ref ta13), .val (.int (own_same nA xa xb xc nB ya yb yc)), .val (.int (p4 &&& (3 : Int32))), .unset] []))
          obtain ⟨T17, h17, X17, e17, E17, A17, D17, -, st17⟩ := newO X14 hx hZ hown (hw _ (List.mem_of_getElem? (i := 0) rfl)) (hw _ (List.mem_of_getElem? (i := 1) rfl)) (hw _ (List.mem_of_getElem? (i := 2) rfl)) e14 (g := (mkF m 199 #[.val (.int p0), .val (.int p1), .val (.int p2), .val (.int p3), .val (.int p4), .val (.int nA), .val (.int xa), .val (.int xb), .val (.int xc), .val (.int nB), .val (.int ya), .val (.int yb), .val (.int yc), .val (.ref b1), .val (.ref ta13), .val (.int (own_same nA xa xb xc nB ya yb yc)), .val (.int (p4 &&& (3 : Int32))), .unset] [])) rfl (hb hby at_199) (by decide) (by decide)
          obtain ⟨b17, gq17⟩ : ∃ z, z = h13.size := ⟨_, rfl⟩
          rw [← gq17] at A17 D17 st17
          have sz_b17 : h0.size ≤ b17 := Nat.le_trans K13.1 (Nat.le_of_eq gq17.symm)
          have g_b17 : n0 ≤ b17 := Nat.le_trans Z0 sz_b17
          have ne_b1_b17 : b1 ≠ b17 := Nat.ne_of_lt (Nat.lt_of_lt_of_le (((E_b1.keep Kq2).keep Kq12).keep Kq13).lt (Nat.le_of_eq gq17.symm))
          have ne_ta2_b17 : ta2 ≠ b17 := Nat.ne_of_lt (Nat.lt_of_lt_of_le ((St2.1.keep Kq12).keep Kq13).lt (Nat.le_of_eq gq17.symm))
          have ne_va2_b17 : va2 ≠ b17 := Nat.ne_of_lt (Nat.lt_of_lt_of_le ((St2.2.2.2.keep Kq12 (ninS (Ne.symm ne_u_va2) nin0)).keep Kq13 nin0).lt (Nat.le_of_eq gq17.symm))
          have ne_ta13_b17 : ta13 ≠ b17 := Nat.ne_of_lt (Nat.lt_of_lt_of_le St13.1.lt (Nat.le_of_eq gq17.symm))
          have ne_va13_b17 : va13 ≠ b17 := Nat.ne_of_lt (Nat.lt_of_lt_of_le St13.2.2.2.lt (Nat.le_of_eq gq17.symm))
          have K17 : Keep h0 h17 [] := K13.ext E17
          have E_b17 := A17
          have F_value_b17 : Fld Z h17 b17 "com/example/surnia/surnia/rdf/UriRef" "value" "Ljava/lang/String;" .null := D17 (Or.inr (hw _ (List.mem_of_getElem? (i := 44) rfl))) (ty := (.object "java/lang/String")) (by decide)
          refine RestW.via (fun t k => st17 t k) ?_
          show RestW p.tables e below s _ _ _ (T17.setTop (mkF m 202 #[.val (.int p0), .val (.int p1), .val (.int p2), .val (.int p3), .val (.int p4), .val (.int nA), .val (.int xa), .val (.int xb), .val (.int xc), .val (.int nB), .val (.int ya), .val (.int yb), .val (.int yc), .val (.ref b1), .val (.ref ta13), .val (.int (own_same nA xa xb xc nB ya yb yc)), .val (.int (p4 &&& (3 : Int32))), .unset] [(.ref b17)]))
          refine RestW.via (fun t k => XS.dup X17.here hx rfl (hb hby at_202) rfl rfl k) ?_
          show RestW p.tables e below s _ _ _ (T17.setTop (mkF m 203 #[.val (.int p0), .val (.int p1), .val (.int p2), .val (.int p3), .val (.int p4), .val (.int nA), .val (.int xa), .val (.int xb), .val (.int xc), .val (.int nB), .val (.int ya), .val (.int yb), .val (.int yc), .val (.ref b1), .val (.ref ta13), .val (.int (own_same nA xa xb xc nB ya yb yc)), .val (.int (p4 &&& (3 : Int32))), .unset] [(.ref b17), (.ref b17)]))
          refine RestW.via (fun t k => XS.aload X17.here hx rfl (hb hby at_203) rfl rfl k) ?_
          show RestW p.tables e below s _ _ _ (T17.setTop (mkF m 205 #[.val (.int p0), .val (.int p1), .val (.int p2), .val (.int p3), .val (.int p4), .val (.int nA), .val (.int xa), .val (.int xb), .val (.int xc), .val (.int nB), .val (.int ya), .val (.int yb), .val (.int yc), .val (.ref b1), .val (.ref ta13), .val (.int (own_same nA xa xb xc nB ya yb yc)), .val (.int (p4 &&& (3 : Int32))), .unset] [(.ref ta13), (.ref b17), (.ref b17)]))
          obtain ⟨_, _, ⟨T18, L18, k18, n18⟩, -, X18, hSq18, gr18, ⟨Lc18, hQ18, l18, y18, z18⟩, st18⟩ := X17.specialBackS hx (y := (⟨"com/example/surnia/surnia/rdf/UriRef", "<init>", "(Ljava/lang/String;)V"⟩ : MethodName)) rfl hown (mvT hZ (hw _ (List.mem_of_getElem? (i := 29) rfl))) (mvT hZ (hw _ (List.mem_of_getElem? (i := 30) rfl))) (mvT hZ (hw _ (List.mem_of_getElem? (i := 31) rfl))) (by decide) (own_backV (W := 1) (rmURw l Z aw hw [] b17 ta13 lv h17 n0 (Nat.le_trans Z0 K17.1) E_b17 F_value_b17 g_b17) hZ (hw _ (List.mem_of_getElem? (i := 31) rfl)) (hw _ (List.mem_of_getElem? (i := 2) rfl)) (by decide) (by decide) (fun vm' hw' => own_Lit_warm (s := s) LV hw'.wide)) (g := (mkF m 205 #[.val (.int p0), .val (.int p1), .val (.int p2), .val (.int p3), .val (.int p4), .val (.int nA), .val (.int xa), .val (.int xb), .val (.int xc), .val (.int nB), .val (.int ya), .val (.int yb), .val (.int yc), .val (.ref b1), .val (.ref ta13), .val (.int (own_same nA xa xb xc nB ya yb yc)), .val (.int (p4 &&& (3 : Int32))), .unset] [(.ref ta13), (.ref b17), (.ref b17)])) rfl (by rw [hml]; rfl) (Steps.refl _) (a := b17) (argsL := [(.ref ta13)]) (rest := [(.ref b17)]) (lenOf pd_10 rfl) rfl (by show 2 * 0 + _ ≤ _; exact Nat.le_of_eq rfl) (hb hby at_205) (fun _ _ => ⟨rfl, e17, (by decide : 12 + 0 ≤ _), (by decide : 46 + 0 ≤ _)⟩)
          dsimp only [Pt.U, Pt.locs, Pt.cells, Pt.slots] at X18 l18 y18 z18 st18 hQ18 hSq18 gr18
          subst l18 y18 z18
          obtain ⟨X18, hS, hZ, hown⟩ := rebS hS (by rw [e17]; first | exact (Nat.le_trans (Nat.le_of_eq (congrArg Array.size e13)) E17.1) | exact Nat.le_refl _) X18 hSq18 gr18 hZ hown
          obtain ⟨h18, e18⟩ : ∃ z, T18.heap = z := ⟨_, rfl⟩
          rw [e18] at hQ18
          obtain ⟨rfl, Nq18, Kq18, Fu18⟩ := hQ18
          have N18 := Fr.app N14 Nq18
          have K18 : Keep h0 h18 [] := K17.trans Kq18 (allS (Or.inr sz_b17) all0)
          refine RestW.via (fun t k => st18.trans k) ?_
          show RestW p.tables e below s _ _ _ (T18.setTop (mkF m 208 #[.val (.int p0), .val (.int p1), .val (.int p2), .val (.int p3), .val (.int p4), .val (.int nA), .val (.int xa), .val (.int xb), .val (.int xc), .val (.int nB), .val (.int ya), .val (.int yb), .val (.int yc), .val (.ref b1), .val (.ref ta13), .val (.int (own_same nA xa xb xc nB ya yb yc)), .val (.int (p4 &&& (3 : Int32))), .unset] [(.ref b17)]))
          refine RestW.via (fun t k => XS.astore X18.here hx rfl (hb hby at_208) rfl rfl (l' := #[.val (.int p0), .val (.int p1), .val (.int p2), .val (.int p3), .val (.int p4), .val (.int nA), .val (.int xa), .val (.int xb), .val (.int xc), .val (.int nB), .val (.int ya), .val (.int yb), .val (.int yc), .val (.ref b1), .val (.ref ta13), .val (.int (own_same nA xa xb xc nB ya yb yc)), .val (.int (p4 &&& (3 : Int32))), .val (.ref b17)]) rfl k) ?_
          show RestW p.tables e below s _ _ _ (T18.setTop (mkF m 210 #[.val (.int p0), .val (.int p1), .val (.int p2), .val (.int p3), .val (.int p4), .val (.int nA), .val (.int xa), .val (.int xb), .val (.int xc), .val (.int nB), .val (.int ya), .val (.int yb), .val (.int yc), .val (.ref b1), .val (.ref ta13), .val (.int (own_same nA xa xb xc nB ya yb yc)), .val (.int (p4 &&& (3 : Int32))), .val (.ref b17)] []))
          refine RestW.via (fun t k => XS.aload X18.here hx rfl (hb hby at_210) rfl rfl k) ?_
          show RestW p.tables e below s _ _ _ (T18.setTop (mkF m 212 #[.val (.int p0), .val (.int p1), .val (.int p2), .val (.int p3), .val (.int p4), .val (.int nA), .val (.int xa), .val (.int xb), .val (.int xc), .val (.int nB), .val (.int ya), .val (.int yb), .val (.int yc), .val (.ref b1), .val (.ref ta13), .val (.int (own_same nA xa xb xc nB ya yb yc)), .val (.int (p4 &&& (3 : Int32))), .val (.ref b17)] [(.ref b1)]))
          refine RestW.via (fun t k => XS.aload X18.here hx rfl (hb hby at_212) rfl rfl k) ?_
          show RestW p.tables e below s _ _ _ (T18.setTop (mkF m 214 #[.val (.int p0), .val (.int p1), .val (.int p2), .val (.int p3), .val (.int p4), .val (.int nA), .val (.int xa), .val (.int xb), .val (.int xc), .val (.int nB), .val (.int ya), .val (.int yb), .val (.int yc), .val (.ref b1), .val (.ref ta13), .val (.int (own_same nA xa xb xc nB ya yb yc)), .val (.int (p4 &&& (3 : Int32))), .val (.ref b17)] [(.ref b17), (.ref b1)]))
          obtain ⟨cq19, kq19, q19a, q19b, q19c⟩ := isOf hZ e18 (((((E_b1.keep Kq2).keep Kq12).keep Kq13).ext E17).keep Kq18)
          obtain ⟨_, _, ⟨T19, L19, k19, n19⟩, -, X19, ⟨Lc19, hQ19, l19, y19, z19⟩, st19⟩ := X18.virtualBack hx (y := (⟨"com/example/surnia/surnia/rdf/UriRef", "equals", "(Ljava/lang/Object;)Z"⟩ : MethodName)) (z := (⟨"com/example/surnia/surnia/rdf/UriRef", "equals", "(Ljava/lang/Object;)Z"⟩ : MethodName)) hown (mvT hZ (hw _ (List.mem_of_getElem? (i := 59) rfl))) (mvT hZ (hw _ (List.mem_of_getElem? (i := 60) rfl))) (notFace_of_selects (args := #[]) (mvT hZ (hw _ (List.mem_of_getElem? (i := 62) rfl)))) (mvT hZ (hw _ (List.mem_of_getElem? (i := 62) rfl))) (mvT hZ (hw _ (List.mem_of_getElem? (i := 61) rfl))) (by decide) (backOf (W := 0) (rmUE l Z aw hw [] b1 b17 ta2 ta13 va2 kb2 va13 kb13 ic nA nB (own_mkl nA xa xb xc) (own_mkl nB ya yb yc) h18 n0 (Nat.le_trans Z0 K18.1) (((((E_b1.keep Kq2).keep Kq12).keep Kq13).ext E17).keep Kq18) (E_b17.keep Kq18) (((Fu12.keep Kq13 nin0).ext E17).keep Kq18 (ninS ne_b1_b17 nin0)) Fu18 (own_mkl_ok hnA) (own_mkl_ok hnB) (own_St_keep (own_St_keep (own_St_keep (own_St_keep St2 Kq12 (ninS ne_ta2_u nin0) (ninS (Ne.symm ne_u_va2) nin0)) Kq13 nin0 nin0) ((Keep.refl _ []).ext E17) nin0 nin0) Kq18 (ninS ne_ta2_b17 nin0) (ninS ne_va2_b17 nin0)) (own_St_keep (own_St_keep St13 ((Keep.refl _ []).ext E17) nin0 nin0) Kq18 (ninS ne_ta13_b17 nin0) (ninS ne_va13_b17 nin0)) ne_tt (O.keep K18 all0) CS) hZ (hw _ (List.mem_of_getElem? (i := 63) rfl)) (hw _ (List.mem_of_getElem? (i := 2) rfl)) (by decide) (by decide)) q19a q19c (g := (mkF m 214 #[.val (.int p0), .val (.int p1), .val (.int p2), .val (.int p3), .val (.int p4), .val (.int nA), .val (.int xa), .val (.int xb), .val (.int xc), .val (.int nB), .val (.int ya), .val (.int yb), .val (.int yc), .val (.ref b1), .val (.ref ta13), .val (.int (own_same nA xa xb xc nB ya yb yc)), .val (.int (p4 &&& (3 : Int32))), .val (.ref b17)] [(.ref b17), (.ref b1)])) rfl (by rw [hml]; rfl) (Steps.refl _) (argsL := [(.ref b17)]) (rest := []) (lenOf pd_8 rfl) rfl (by show 2 * 0 + _ ≤ _; exact Nat.le_of_eq rfl) (hb hby at_214) (fun _ _ => ⟨rfl, e18, (by decide : 12 + 0 ≤ _), (by decide : 46 + 0 ≤ _)⟩)
          dsimp only [Pt.U, Pt.locs, Pt.cells, Pt.slots] at X19 l19 y19 z19 st19 hQ19
          subst l19 y19 z19
          obtain ⟨rfl, Nq19, e19⟩ := hQ19
          have N19 := Fr.app N18 Nq19
          refine RestW.via (fun t k => st19.trans k) ?_
          show RestW p.tables e below s _ _ _ (T19.setTop (mkF m 217 #[.val (.int p0), .val (.int p1), .val (.int p2), .val (.int p3), .val (.int p4), .val (.int nA), .val (.int xa), .val (.int xb), .val (.int xc), .val (.int nB), .val (.int ya), .val (.int yb), .val (.int yc), .val (.ref b1), .val (.ref ta13), .val (.int (own_same nA xa xb xc nB ya yb yc)), .val (.int (p4 &&& (3 : Int32))), .val (.ref b17)] [(.int (if (own_mkl nA xa xb xc) = (own_mkl nB ya yb yc) then (1 : Int32) else 0))]))
          refine RestW.via (fun t k => XS.iload X19.here hx rfl (hb hby at_217) rfl k) ?_
          show RestW p.tables e below s _ _ _ (T19.setTop (mkF m 219 #[.val (.int p0), .val (.int p1), .val (.int p2), .val (.int p3), .val (.int p4), .val (.int nA), .val (.int xa), .val (.int xb), .val (.int xc), .val (.int nB), .val (.int ya), .val (.int yb), .val (.int yc), .val (.ref b1), .val (.ref ta13), .val (.int (own_same nA xa xb xc nB ya yb yc)), .val (.int (p4 &&& (3 : Int32))), .val (.ref b17)] [(.int (own_same nA xa xb xc nB ya yb yc)), (.int (if (own_mkl nA xa xb xc) = (own_mkl nB ya yb yc) then (1 : Int32) else 0))]))
          refine RestW.via (fun t k => XS.icmpNo X19.here hx rfl (hb hby at_219) rfl (teq ((own_law hnA hnB hxa hxb hxc hya hyb hyc) : (if (own_mkl nA xa xb xc) = (own_mkl nB ya yb yc) then (1 : Int32) else 0) = (own_same nA xa xb xc nB ya yb yc))).2 k) ?_
          show RestW p.tables e below s _ _ _ (T19.setTop (mkF m 222 #[.val (.int p0), .val (.int p1), .val (.int p2), .val (.int p3), .val (.int p4), .val (.int nA), .val (.int xa), .val (.int xb), .val (.int xc), .val (.int nB), .val (.int ya), .val (.int yb), .val (.int yc), .val (.ref b1), .val (.ref ta13), .val (.int (own_same nA xa xb xc nB ya yb yc)), .val (.int (p4 &&& (3 : Int32))), .val (.ref b17)] []))
          refine RestW.via (fun t k => XS.aload X19.here hx rfl (hb hby at_222) rfl rfl k) ?_
          show RestW p.tables e below s _ _ _ (T19.setTop (mkF m 224 #[.val (.int p0), .val (.int p1), .val (.int p2), .val (.int p3), .val (.int p4), .val (.int nA), .val (.int xa), .val (.int xb), .val (.int xc), .val (.int nB), .val (.int ya), .val (.int yb), .val (.int yc), .val (.ref b1), .val (.ref ta13), .val (.int (own_same nA xa xb xc nB ya yb yc)), .val (.int (p4 &&& (3 : Int32))), .val (.ref b17)] [(.ref b17)]))
          refine RestW.via (fun t k => XS.aload X19.here hx rfl (hb hby at_224) rfl rfl k) ?_
          show RestW p.tables e below s _ _ _ (T19.setTop (mkF m 226 #[.val (.int p0), .val (.int p1), .val (.int p2), .val (.int p3), .val (.int p4), .val (.int nA), .val (.int xa), .val (.int xb), .val (.int xc), .val (.int nB), .val (.int ya), .val (.int yb), .val (.int yc), .val (.ref b1), .val (.ref ta13), .val (.int (own_same nA xa xb xc nB ya yb yc)), .val (.int (p4 &&& (3 : Int32))), .val (.ref b17)] [(.ref b1), (.ref b17)]))
          obtain ⟨cq20, kq20, q20a, q20b, q20c⟩ := isOf hZ e19 (E_b17.keep Kq18)
          obtain ⟨_, _, ⟨T20, L20, k20, n20⟩, -, X20, ⟨Lc20, hQ20, l20, y20, z20⟩, st20⟩ := X19.virtualBack hx (y := (⟨"com/example/surnia/surnia/rdf/UriRef", "equals", "(Ljava/lang/Object;)Z"⟩ : MethodName)) (z := (⟨"com/example/surnia/surnia/rdf/UriRef", "equals", "(Ljava/lang/Object;)Z"⟩ : MethodName)) hown (mvT hZ (hw _ (List.mem_of_getElem? (i := 59) rfl))) (mvT hZ (hw _ (List.mem_of_getElem? (i := 60) rfl))) (notFace_of_selects (args := #[]) (mvT hZ (hw _ (List.mem_of_getElem? (i := 62) rfl)))) (mvT hZ (hw _ (List.mem_of_getElem? (i := 62) rfl))) (mvT hZ (hw _ (List.mem_of_getElem? (i := 61) rfl))) (by decide) (backOf (W := 0) (rmUE l Z aw hw [] b17 b1 ta13 ta2 va13 kb13 va2 kb2 ic nB nA (own_mkl nB ya yb yc) (own_mkl nA xa xb xc) h18 n0 (Nat.le_trans Z0 K18.1) (E_b17.keep Kq18) (((((E_b1.keep Kq2).keep Kq12).keep Kq13).ext E17).keep Kq18) Fu18 (((Fu12.keep Kq13 nin0).ext E17).keep Kq18 (ninS ne_b1_b17 nin0)) (own_mkl_ok hnB) (own_mkl_ok hnA) (own_St_keep (own_St_keep St13 ((Keep.refl _ []).ext E17) nin0 nin0) Kq18 (ninS ne_ta13_b17 nin0) (ninS ne_va13_b17 nin0)) (own_St_keep (own_St_keep (own_St_keep (own_St_keep St2 Kq12 (ninS ne_ta2_u nin0) (ninS (Ne.symm ne_u_va2) nin0)) Kq13 nin0 nin0) ((Keep.refl _ []).ext E17) nin0 nin0) Kq18 (ninS ne_ta2_b17 nin0) (ninS ne_va2_b17 nin0)) (Ne.symm ne_tt) (O.keep K18 all0) CS) hZ (hw _ (List.mem_of_getElem? (i := 63) rfl)) (hw _ (List.mem_of_getElem? (i := 2) rfl)) (by decide) (by decide)) q20a q20c (g := (mkF m 226 #[.val (.int p0), .val (.int p1), .val (.int p2), .val (.int p3), .val (.int p4), .val (.int nA), .val (.int xa), .val (.int xb), .val (.int xc), .val (.int nB), .val (.int ya), .val (.int yb), .val (.int yc), .val (.ref b1), .val (.ref ta13), .val (.int (own_same nA xa xb xc nB ya yb yc)), .val (.int (p4 &&& (3 : Int32))), .val (.ref b17)] [(.ref b1), (.ref b17)])) rfl (by rw [hml]; rfl) (Steps.refl _) (argsL := [(.ref b1)]) (rest := []) (lenOf pd_8 rfl) rfl (by show 2 * 0 + _ ≤ _; exact Nat.le_of_eq rfl) (hb hby at_226) (fun _ _ => ⟨rfl, e19, (by decide : 12 + 0 ≤ _), (by decide : 46 + 0 ≤ _)⟩)
          dsimp only [Pt.U, Pt.locs, Pt.cells, Pt.slots] at X20 l20 y20 z20 st20 hQ20
          subst l20 y20 z20
          obtain ⟨rfl, Nq20, e20⟩ := hQ20
          have N20 := Fr.app N19 Nq20
          refine RestW.via (fun t k => st20.trans k) ?_
          show RestW p.tables e below s _ _ _ (T20.setTop (mkF m 229 #[.val (.int p0), .val (.int p1), .val (.int p2), .val (.int p3), .val (.int p4), .val (.int nA), .val (.int xa), .val (.int xb), .val (.int xc), .val (.int nB), .val (.int ya), .val (.int yb), .val (.int yc), .val (.ref b1), .val (.ref ta13), .val (.int (own_same nA xa xb xc nB ya yb yc)), .val (.int (p4 &&& (3 : Int32))), .val (.ref b17)] [(.int (if (own_mkl nB ya yb yc) = (own_mkl nA xa xb xc) then (1 : Int32) else 0))]))
          refine RestW.via (fun t k => XS.iload X20.here hx rfl (hb hby at_229) rfl k) ?_
          show RestW p.tables e below s _ _ _ (T20.setTop (mkF m 231 #[.val (.int p0), .val (.int p1), .val (.int p2), .val (.int p3), .val (.int p4), .val (.int nA), .val (.int xa), .val (.int xb), .val (.int xc), .val (.int nB), .val (.int ya), .val (.int yb), .val (.int yc), .val (.ref b1), .val (.ref ta13), .val (.int (own_same nA xa xb xc nB ya yb yc)), .val (.int (p4 &&& (3 : Int32))), .val (.ref b17)] [(.int (own_same nA xa xb xc nB ya yb yc)), (.int (if (own_mkl nB ya yb yc) = (own_mkl nA xa xb xc) then (1 : Int32) else 0))]))
          refine RestW.via (fun t k => XS.icmpNo X20.here hx rfl (hb hby at_231) rfl (teq (own_swap.trans (own_law hnA hnB hxa hxb hxc hya hyb hyc) : (if (own_mkl nB ya yb yc) = (own_mkl nA xa xb xc) then (1 : Int32) else 0) = (own_same nA xa xb xc nB ya yb yc))).2 k) ?_
          show RestW p.tables e below s _ _ _ (T20.setTop (mkF m 234 #[.val (.int p0), .val (.int p1), .val (.int p2), .val (.int p3), .val (.int p4), .val (.int nA), .val (.int xa), .val (.int xb), .val (.int xc), .val (.int nB), .val (.int ya), .val (.int yb), .val (.int yc), .val (.ref b1), .val (.ref ta13), .val (.int (own_same nA xa xb xc nB ya yb yc)), .val (.int (p4 &&& (3 : Int32))), .val (.ref b17)] []))
          refine RestW.via (fun t k => XS.iconst X20.here hx rfl (hb hby at_234) k) ?_
          show RestW p.tables e below s _ _ _ (T20.setTop (mkF m 235 #[.val (.int p0), .val (.int p1), .val (.int p2), .val (.int p3), .val (.int p4), .val (.int nA), .val (.int xa), .val (.int xb), .val (.int xc), .val (.int nB), .val (.int ya), .val (.int yb), .val (.int yc), .val (.ref b1), .val (.ref ta13), .val (.int (own_same nA xa xb xc nB ya yb yc)), .val (.int (p4 &&& (3 : Int32))), .val (.ref b17)] [(.int (1 : Int32))]))
          refine RestW.via (fun t k => XS.goto X20.here hx rfl (pc0 := 235) (pc' := 239) rfl (hb hby at_235) (by decide) (by decide) k) ?_
          show RestW p.tables e below s _ _ _ (T20.setTop (mkF m 239 #[.val (.int p0), .val (.int p1), .val (.int p2), .val (.int p3), .val (.int p4), .val (.int nA), .val (.int xa), .val (.int xb), .val (.int xc), .val (.int nB), .val (.int ya), .val (.int yb), .val (.int yc), .val (.ref b1), .val (.ref ta13), .val (.int (own_same nA xa xb xc nB ya yb yc)), .val (.int (p4 &&& (3 : Int32))), .val (.ref b17)] [(.int (1 : Int32))]))
          refine RestW.ret X20 hS (by rw [e20]; first | exact (Nat.le_of_eq (congrArg Array.size e18)) | exact Nat.le_refl _) (v := some (.int (nar .boolean (1 : Int32)))) (fun h => by rw [Bd.returns] at h; cases h) hlk (fun fs hr => retN X20 hx (t := .boolean) Bd.returns (by simp) (hb hby at_239) hr) ?_ (by decide) (by decide)
          rw [e20]
          exact ⟨rfl, N20⟩
  show RestW p.tables e below s _ _ _ (s₁.setTop (mkF m 39 #[.val (.int p0), .val (.int p1), .val (.int p2), .val (.int p3), .val (.int p4), .val (.int nA), .val (.int xa), .val (.int xb), .val (.int xc), .unset, .unset, .unset, .unset, .unset, .unset, .unset, .unset, .unset] [(.int (p4 &&& (4 : Int32)))]))
  by_cases hk4 : (p4 &&& (4 : Int32)) = (0 : Int32)
  · refine RestW.via (fun t k => XS.ifYes X0.here hx rfl (pc0 := 39) (pc' := 61) rfl (hb hby at_39) rfl ((if0 _ _).trans (teq hk4).1) (by decide) (by decide) k) ?_
    show RestW p.tables e below s _ _ _ (s₁.setTop (mkF m 61 #[.val (.int p0), .val (.int p1), .val (.int p2), .val (.int p3), .val (.int p4), .val (.int nA), .val (.int xa), .val (.int xb), .val (.int xc), .unset, .unset, .unset, .unset, .unset, .unset, .unset, .unset, .unset] []))
    refine RestW.via (fun t k => XS.iloadN X0.here hx rfl (hb hby at_61) rfl k) ?_
    show RestW p.tables e below s _ _ _ (s₁.setTop (mkF m 62 #[.val (.int p0), .val (.int p1), .val (.int p2), .val (.int p3), .val (.int p4), .val (.int nA), .val (.int xa), .val (.int xb), .val (.int xc), .unset, .unset, .unset, .unset, .unset, .unset, .unset, .unset, .unset] [(.int p2)]))
    refine RestW.via (fun t k => XS.iconst X0.here hx rfl (hb hby at_62) k) ?_
    show RestW p.tables e below s _ _ _ (s₁.setTop (mkF m 63 #[.val (.int p0), .val (.int p1), .val (.int p2), .val (.int p3), .val (.int p4), .val (.int nA), .val (.int xa), .val (.int xb), .val (.int xc), .unset, .unset, .unset, .unset, .unset, .unset, .unset, .unset, .unset] [(.int (3 : Int32)), (.int p2)]))
    refine RestW.via (fun t k => XS.iand X0.here hx rfl (hb hby at_63) rfl k) ?_
    show RestW p.tables e below s _ _ _ (s₁.setTop (mkF m 64 #[.val (.int p0), .val (.int p1), .val (.int p2), .val (.int p3), .val (.int p4), .val (.int nA), .val (.int xa), .val (.int xb), .val (.int xc), .unset, .unset, .unset, .unset, .unset, .unset, .unset, .unset, .unset] [(.int (p2 &&& (3 : Int32)))]))
    refine RestW.via (fun t k => XS.istore X0.here hx rfl (hb hby at_64) rfl (l' := #[.val (.int p0), .val (.int p1), .val (.int p2), .val (.int p3), .val (.int p4), .val (.int nA), .val (.int xa), .val (.int xb), .val (.int xc), .val (.int (p2 &&& (3 : Int32))), .unset, .unset, .unset, .unset, .unset, .unset, .unset, .unset]) rfl k) ?_
    show RestW p.tables e below s _ _ _ (s₁.setTop (mkF m 66 #[.val (.int p0), .val (.int p1), .val (.int p2), .val (.int p3), .val (.int p4), .val (.int nA), .val (.int xa), .val (.int xb), .val (.int xc), .val (.int (p2 &&& (3 : Int32))), .unset, .unset, .unset, .unset, .unset, .unset, .unset, .unset] []))
    refine RestW.via (fun t k => XS.iloadN X0.here hx rfl (hb hby at_66) rfl k) ?_
    show RestW p.tables e below s _ _ _ (s₁.setTop (mkF m 67 #[.val (.int p0), .val (.int p1), .val (.int p2), .val (.int p3), .val (.int p4), .val (.int nA), .val (.int xa), .val (.int xb), .val (.int xc), .val (.int (p2 &&& (3 : Int32))), .unset, .unset, .unset, .unset, .unset, .unset, .unset, .unset] [(.int p3)]))
    refine RestW.via (fun t k => XS.sipush X0.here hx rfl (hb hby at_67) k) ?_
    show RestW p.tables e below s _ _ _ (s₁.setTop (mkF m 70 #[.val (.int p0), .val (.int p1), .val (.int p2), .val (.int p3), .val (.int p4), .val (.int nA), .val (.int xa), .val (.int xb), .val (.int xc), .val (.int (p2 &&& (3 : Int32))), .unset, .unset, .unset, .unset, .unset, .unset, .unset, .unset] [(.int (255 : Int32)), (.int p3)]))
    refine RestW.via (fun t k => XS.iand X0.here hx rfl (hb hby at_70) rfl k) ?_
    show RestW p.tables e below s _ _ _ (s₁.setTop (mkF m 71 #[.val (.int p0), .val (.int p1), .val (.int p2), .val (.int p3), .val (.int p4), .val (.int nA), .val (.int xa), .val (.int xb), .val (.int xc), .val (.int (p2 &&& (3 : Int32))), .unset, .unset, .unset, .unset, .unset, .unset, .unset, .unset] [(.int (p3 &&& (255 : Int32)))]))
    refine RestW.via (fun t k => XS.i2c X0.here hx rfl (hb hby at_71) rfl k) ?_
    show RestW p.tables e below s _ _ _ (s₁.setTop (mkF m 72 #[.val (.int p0), .val (.int p1), .val (.int p2), .val (.int p3), .val (.int p4), .val (.int nA), .val (.int xa), .val (.int xb), .val (.int xc), .val (.int (p2 &&& (3 : Int32))), .unset, .unset, .unset, .unset, .unset, .unset, .unset, .unset] [(.int ((p3 &&& (255 : Int32)).toUInt32.toUInt16.toUInt32.toInt32))]))
    refine RestW.via (fun t k => XS.istore X0.here hx rfl (hb hby at_72) rfl (l' := #[.val (.int p0), .val (.int p1), .val (.int p2), .val (.int p3), .val (.int p4), .val (.int nA), .val (.int xa), .val (.int xb), .val (.int xc), .val (.int (p2 &&& (3 : Int32))), .val (.int ((p3 &&& (255 : Int32)).toUInt32.toUInt16.toUInt32.toInt32)), .unset, .unset, .unset, .unset, .unset, .unset, .unset]) rfl k) ?_
    show RestW p.tables e below s _ _ _ (s₁.setTop (mkF m 74 #[.val (.int p0), .val (.int p1), .val (.int p2), .val (.int p3), .val (.int p4), .val (.int nA), .val (.int xa), .val (.int xb), .val (.int xc), .val (.int (p2 &&& (3 : Int32))), .val (.int ((p3 &&& (255 : Int32)).toUInt32.toUInt16.toUInt32.toInt32)), .unset, .unset, .unset, .unset, .unset, .unset, .unset] []))
    refine RestW.via (fun t k => XS.iloadN X0.here hx rfl (hb hby at_74) rfl k) ?_
    show RestW p.tables e below s _ _ _ (s₁.setTop (mkF m 75 #[.val (.int p0), .val (.int p1), .val (.int p2), .val (.int p3), .val (.int p4), .val (.int nA), .val (.int xa), .val (.int xb), .val (.int xc), .val (.int (p2 &&& (3 : Int32))), .val (.int ((p3 &&& (255 : Int32)).toUInt32.toUInt16.toUInt32.toInt32)), .unset, .unset, .unset, .unset, .unset, .unset, .unset] [(.int p3)]))
    refine RestW.via (fun t k => XS.bipush X0.here hx rfl (hb hby at_75) k) ?_
    show RestW p.tables e below s _ _ _ (s₁.setTop (mkF m 77 #[.val (.int p0), .val (.int p1), .val (.int p2), .val (.int p3), .val (.int p4), .val (.int nA), .val (.int xa), .val (.int xb), .val (.int xc), .val (.int (p2 &&& (3 : Int32))), .val (.int ((p3 &&& (255 : Int32)).toUInt32.toUInt16.toUInt32.toInt32)), .unset, .unset, .unset, .unset, .unset, .unset, .unset] [(.int (8 : Int32)), (.int p3)]))
    refine RestW.via (fun t k => XS.iushr X0.here hx rfl (hb hby at_77) rfl k) ?_
    show RestW p.tables e below s _ _ _ (s₁.setTop (mkF m 78 #[.val (.int p0), .val (.int p1), .val (.int p2), .val (.int p3), .val (.int p4), .val (.int nA), .val (.int xa), .val (.int xb), .val (.int xc), .val (.int (p2 &&& (3 : Int32))), .val (.int ((p3 &&& (255 : Int32)).toUInt32.toUInt16.toUInt32.toInt32)), .unset, .unset, .unset, .unset, .unset, .unset, .unset] [(.int ((p3.toUInt32 >>> ((8 : Int32) &&& 31).toUInt32).toInt32))]))
    refine RestW.via (fun t k => XS.sipush X0.here hx rfl (hb hby at_78) k) ?_
    show RestW p.tables e below s _ _ _ (s₁.setTop (mkF m 81 #[.val (.int p0), .val (.int p1), .val (.int p2), .val (.int p3), .val (.int p4), .val (.int nA), .val (.int xa), .val (.int xb), .val (.int xc), .val (.int (p2 &&& (3 : Int32))), .val (.int ((p3 &&& (255 : Int32)).toUInt32.toUInt16.toUInt32.toInt32)), .unset, .unset, .unset, .unset, .unset, .unset, .unset] [(.int (255 : Int32)), (.int ((p3.toUInt32 >>> ((8 : Int32) &&& 31).toUInt32).toInt32))]))
    refine RestW.via (fun t k => XS.iand X0.here hx rfl (hb hby at_81) rfl k) ?_
    show RestW p.tables e below s _ _ _ (s₁.setTop (mkF m 82 #[.val (.int p0), .val (.int p1), .val (.int p2), .val (.int p3), .val (.int p4), .val (.int nA), .val (.int xa), .val (.int xb), .val (.int xc), .val (.int (p2 &&& (3 : Int32))), .val (.int ((p3 &&& (255 : Int32)).toUInt32.toUInt16.toUInt32.toInt32)), .unset, .unset, .unset, .unset, .unset, .unset, .unset] [(.int (((p3.toUInt32 >>> ((8 : Int32) &&& 31).toUInt32).toInt32) &&& (255 : Int32)))]))
    refine RestW.via (fun t k => XS.i2c X0.here hx rfl (hb hby at_82) rfl k) ?_
    show RestW p.tables e below s _ _ _ (s₁.setTop (mkF m 83 #[.val (.int p0), .val (.int p1), .val (.int p2), .val (.int p3), .val (.int p4), .val (.int nA), .val (.int xa), .val (.int xb), .val (.int xc), .val (.int (p2 &&& (3 : Int32))), .val (.int ((p3 &&& (255 : Int32)).toUInt32.toUInt16.toUInt32.toInt32)), .unset, .unset, .unset, .unset, .unset, .unset, .unset] [(.int ((((p3.toUInt32 >>> ((8 : Int32) &&& 31).toUInt32).toInt32) &&& (255 : Int32)).toUInt32.toUInt16.toUInt32.toInt32))]))
    refine RestW.via (fun t k => XS.istore X0.here hx rfl (hb hby at_83) rfl (l' := #[.val (.int p0), .val (.int p1), .val (.int p2), .val (.int p3), .val (.int p4), .val (.int nA), .val (.int xa), .val (.int xb), .val (.int xc), .val (.int (p2 &&& (3 : Int32))), .val (.int ((p3 &&& (255 : Int32)).toUInt32.toUInt16.toUInt32.toInt32)), .val (.int ((((p3.toUInt32 >>> ((8 : Int32) &&& 31).toUInt32).toInt32) &&& (255 : Int32)).toUInt32.toUInt16.toUInt32.toInt32)), .unset, .unset, .unset, .unset, .unset, .unset]) rfl k) ?_
    show RestW p.tables e below s _ _ _ (s₁.setTop (mkF m 85 #[.val (.int p0), .val (.int p1), .val (.int p2), .val (.int p3), .val (.int p4), .val (.int nA), .val (.int xa), .val (.int xb), .val (.int xc), .val (.int (p2 &&& (3 : Int32))), .val (.int ((p3 &&& (255 : Int32)).toUInt32.toUInt16.toUInt32.toInt32)), .val (.int ((((p3.toUInt32 >>> ((8 : Int32) &&& 31).toUInt32).toInt32) &&& (255 : Int32)).toUInt32.toUInt16.toUInt32.toInt32)), .unset, .unset, .unset, .unset, .unset, .unset] []))
    refine RestW.via (fun t k => XS.iloadN X0.here hx rfl (hb hby at_85) rfl k) ?_
    show RestW p.tables e below s _ _ _ (s₁.setTop (mkF m 86 #[.val (.int p0), .val (.int p1), .val (.int p2), .val (.int p3), .val (.int p4), .val (.int nA), .val (.int xa), .val (.int xb), .val (.int xc), .val (.int (p2 &&& (3 : Int32))), .val (.int ((p3 &&& (255 : Int32)).toUInt32.toUInt16.toUInt32.toInt32)), .val (.int ((((p3.toUInt32 >>> ((8 : Int32) &&& 31).toUInt32).toInt32) &&& (255 : Int32)).toUInt32.toUInt16.toUInt32.toInt32)), .unset, .unset, .unset, .unset, .unset, .unset] [(.int p3)]))
    refine RestW.via (fun t k => XS.bipush X0.here hx rfl (hb hby at_86) k) ?_
    show RestW p.tables e below s _ _ _ (s₁.setTop (mkF m 88 #[.val (.int p0), .val (.int p1), .val (.int p2), .val (.int p3), .val (.int p4), .val (.int nA), .val (.int xa), .val (.int xb), .val (.int xc), .val (.int (p2 &&& (3 : Int32))), .val (.int ((p3 &&& (255 : Int32)).toUInt32.toUInt16.toUInt32.toInt32)), .val (.int ((((p3.toUInt32 >>> ((8 : Int32) &&& 31).toUInt32).toInt32) &&& (255 : Int32)).toUInt32.toUInt16.toUInt32.toInt32)), .unset, .unset, .unset, .unset, .unset, .unset] [(.int (16 : Int32)), (.int p3)]))
    refine RestW.via (fun t k => XS.iushr X0.here hx rfl (hb hby at_88) rfl k) ?_
    show RestW p.tables e below s _ _ _ (s₁.setTop (mkF m 89 #[.val (.int p0), .val (.int p1), .val (.int p2), .val (.int p3), .val (.int p4), .val (.int nA), .val (.int xa), .val (.int xb), .val (.int xc), .val (.int (p2 &&& (3 : Int32))), .val (.int ((p3 &&& (255 : Int32)).toUInt32.toUInt16.toUInt32.toInt32)), .val (.int ((((p3.toUInt32 >>> ((8 : Int32) &&& 31).toUInt32).toInt32) &&& (255 : Int32)).toUInt32.toUInt16.toUInt32.toInt32)), .unset, .unset, .unset, .unset, .unset, .unset] [(.int ((p3.toUInt32 >>> ((16 : Int32) &&& 31).toUInt32).toInt32))]))
    refine RestW.via (fun t k => XS.sipush X0.here hx rfl (hb hby at_89) k) ?_
    show RestW p.tables e below s _ _ _ (s₁.setTop (mkF m 92 #[.val (.int p0), .val (.int p1), .val (.int p2), .val (.int p3), .val (.int p4), .val (.int nA), .val (.int xa), .val (.int xb), .val (.int xc), .val (.int (p2 &&& (3 : Int32))), .val (.int ((p3 &&& (255 : Int32)).toUInt32.toUInt16.toUInt32.toInt32)), .val (.int ((((p3.toUInt32 >>> ((8 : Int32) &&& 31).toUInt32).toInt32) &&& (255 : Int32)).toUInt32.toUInt16.toUInt32.toInt32)), .unset, .unset, .unset, .unset, .unset, .unset] [(.int (255 : Int32)), (.int ((p3.toUInt32 >>> ((16 : Int32) &&& 31).toUInt32).toInt32))]))
    refine RestW.via (fun t k => XS.iand X0.here hx rfl (hb hby at_92) rfl k) ?_
    show RestW p.tables e below s _ _ _ (s₁.setTop (mkF m 93 #[.val (.int p0), .val (.int p1), .val (.int p2), .val (.int p3), .val (.int p4), .val (.int nA), .val (.int xa), .val (.int xb), .val (.int xc), .val (.int (p2 &&& (3 : Int32))), .val (.int ((p3 &&& (255 : Int32)).toUInt32.toUInt16.toUInt32.toInt32)), .val (.int ((((p3.toUInt32 >>> ((8 : Int32) &&& 31).toUInt32).toInt32) &&& (255 : Int32)).toUInt32.toUInt16.toUInt32.toInt32)), .unset, .unset, .unset, .unset, .unset, .unset] [(.int (((p3.toUInt32 >>> ((16 : Int32) &&& 31).toUInt32).toInt32) &&& (255 : Int32)))]))
    refine RestW.via (fun t k => XS.i2c X0.here hx rfl (hb hby at_93) rfl k) ?_
    show RestW p.tables e below s _ _ _ (s₁.setTop (mkF m 94 #[.val (.int p0), .val (.int p1), .val (.int p2), .val (.int p3), .val (.int p4), .val (.int nA), .val (.int xa), .val (.int xb), .val (.int xc), .val (.int (p2 &&& (3 : Int32))), .val (.int ((p3 &&& (255 : Int32)).toUInt32.toUInt16.toUInt32.toInt32)), .val (.int ((((p3.toUInt32 >>> ((8 : Int32) &&& 31).toUInt32).toInt32) &&& (255 : Int32)).toUInt32.toUInt16.toUInt32.toInt32)), .unset, .unset, .unset, .unset, .unset, .unset] [(.int ((((p3.toUInt32 >>> ((16 : Int32) &&& 31).toUInt32).toInt32) &&& (255 : Int32)).toUInt32.toUInt16.toUInt32.toInt32))]))
    refine RestW.via (fun t k => XS.istore X0.here hx rfl (hb hby at_94) rfl (l' := #[.val (.int p0), .val (.int p1), .val (.int p2), .val (.int p3), .val (.int p4), .val (.int nA), .val (.int xa), .val (.int xb), .val (.int xc), .val (.int (p2 &&& (3 : Int32))), .val (.int ((p3 &&& (255 : Int32)).toUInt32.toUInt16.toUInt32.toInt32)), .val (.int ((((p3.toUInt32 >>> ((8 : Int32) &&& 31).toUInt32).toInt32) &&& (255 : Int32)).toUInt32.toUInt16.toUInt32.toInt32)), .val (.int ((((p3.toUInt32 >>> ((16 : Int32) &&& 31).toUInt32).toInt32) &&& (255 : Int32)).toUInt32.toUInt16.toUInt32.toInt32)), .unset, .unset, .unset, .unset, .unset]) rfl k) ?_
    show RestW p.tables e below s _ _ _ (s₁.setTop (mkF m 96 #[.val (.int p0), .val (.int p1), .val (.int p2), .val (.int p3), .val (.int p4), .val (.int nA), .val (.int xa), .val (.int xb), .val (.int xc), .val (.int (p2 &&& (3 : Int32))), .val (.int ((p3 &&& (255 : Int32)).toUInt32.toUInt16.toUInt32.toInt32)), .val (.int ((((p3.toUInt32 >>> ((8 : Int32) &&& 31).toUInt32).toInt32) &&& (255 : Int32)).toUInt32.toUInt16.toUInt32.toInt32)), .val (.int ((((p3.toUInt32 >>> ((16 : Int32) &&& 31).toUInt32).toInt32) &&& (255 : Int32)).toUInt32.toUInt16.toUInt32.toInt32)), .unset, .unset, .unset, .unset, .unset] []))
    exact J96 _ _ _ _ (own_m3 _) (own_c8 _) (own_c8 _) (own_c8 _)
  · refine RestW.via (fun t k => XS.ifNo X0.here hx rfl (hb hby at_39) rfl ((if0 _ _).trans (feq hk4).1) k) ?_
    show RestW p.tables e below s _ _ _ (s₁.setTop (mkF m 42 #[.val (.int p0), .val (.int p1), .val (.int p2), .val (.int p3), .val (.int p4), .val (.int nA), .val (.int xa), .val (.int xb), .val (.int xc), .unset, .unset, .unset, .unset, .unset, .unset, .unset, .unset, .unset] []))
    refine RestW.via (fun t k => XS.iload X0.here hx rfl (hb hby at_42) rfl k) ?_
    show RestW p.tables e below s _ _ _ (s₁.setTop (mkF m 44 #[.val (.int p0), .val (.int p1), .val (.int p2), .val (.int p3), .val (.int p4), .val (.int nA), .val (.int xa), .val (.int xb), .val (.int xc), .unset, .unset, .unset, .unset, .unset, .unset, .unset, .unset, .unset] [(.int nA)]))
    refine RestW.via (fun t k => XS.istore X0.here hx rfl (hb hby at_44) rfl (l' := #[.val (.int p0), .val (.int p1), .val (.int p2), .val (.int p3), .val (.int p4), .val (.int nA), .val (.int xa), .val (.int xb), .val (.int xc), .val (.int nA), .unset, .unset, .unset, .unset, .unset, .unset, .unset, .unset]) rfl k) ?_
    show RestW p.tables e below s _ _ _ (s₁.setTop (mkF m 46 #[.val (.int p0), .val (.int p1), .val (.int p2), .val (.int p3), .val (.int p4), .val (.int nA), .val (.int xa), .val (.int xb), .val (.int xc), .val (.int nA), .unset, .unset, .unset, .unset, .unset, .unset, .unset, .unset] []))
    refine RestW.via (fun t k => XS.iload X0.here hx rfl (hb hby at_46) rfl k) ?_
    show RestW p.tables e below s _ _ _ (s₁.setTop (mkF m 48 #[.val (.int p0), .val (.int p1), .val (.int p2), .val (.int p3), .val (.int p4), .val (.int nA), .val (.int xa), .val (.int xb), .val (.int xc), .val (.int nA), .unset, .unset, .unset, .unset, .unset, .unset, .unset, .unset] [(.int xa)]))
    refine RestW.via (fun t k => XS.istore X0.here hx rfl (hb hby at_48) rfl (l' := #[.val (.int p0), .val (.int p1), .val (.int p2), .val (.int p3), .val (.int p4), .val (.int nA), .val (.int xa), .val (.int xb), .val (.int xc), .val (.int nA), .val (.int xa), .unset, .unset, .unset, .unset, .unset, .unset, .unset]) rfl k) ?_
    show RestW p.tables e below s _ _ _ (s₁.setTop (mkF m 50 #[.val (.int p0), .val (.int p1), .val (.int p2), .val (.int p3), .val (.int p4), .val (.int nA), .val (.int xa), .val (.int xb), .val (.int xc), .val (.int nA), .val (.int xa), .unset, .unset, .unset, .unset, .unset, .unset, .unset] []))
    refine RestW.via (fun t k => XS.iload X0.here hx rfl (hb hby at_50) rfl k) ?_
    show RestW p.tables e below s _ _ _ (s₁.setTop (mkF m 52 #[.val (.int p0), .val (.int p1), .val (.int p2), .val (.int p3), .val (.int p4), .val (.int nA), .val (.int xa), .val (.int xb), .val (.int xc), .val (.int nA), .val (.int xa), .unset, .unset, .unset, .unset, .unset, .unset, .unset] [(.int xb)]))
    refine RestW.via (fun t k => XS.istore X0.here hx rfl (hb hby at_52) rfl (l' := #[.val (.int p0), .val (.int p1), .val (.int p2), .val (.int p3), .val (.int p4), .val (.int nA), .val (.int xa), .val (.int xb), .val (.int xc), .val (.int nA), .val (.int xa), .val (.int xb), .unset, .unset, .unset, .unset, .unset, .unset]) rfl k) ?_
    show RestW p.tables e below s _ _ _ (s₁.setTop (mkF m 54 #[.val (.int p0), .val (.int p1), .val (.int p2), .val (.int p3), .val (.int p4), .val (.int nA), .val (.int xa), .val (.int xb), .val (.int xc), .val (.int nA), .val (.int xa), .val (.int xb), .unset, .unset, .unset, .unset, .unset, .unset] []))
    refine RestW.via (fun t k => XS.iload X0.here hx rfl (hb hby at_54) rfl k) ?_
    show RestW p.tables e below s _ _ _ (s₁.setTop (mkF m 56 #[.val (.int p0), .val (.int p1), .val (.int p2), .val (.int p3), .val (.int p4), .val (.int nA), .val (.int xa), .val (.int xb), .val (.int xc), .val (.int nA), .val (.int xa), .val (.int xb), .unset, .unset, .unset, .unset, .unset, .unset] [(.int xc)]))
    refine RestW.via (fun t k => XS.istore X0.here hx rfl (hb hby at_56) rfl (l' := #[.val (.int p0), .val (.int p1), .val (.int p2), .val (.int p3), .val (.int p4), .val (.int nA), .val (.int xa), .val (.int xb), .val (.int xc), .val (.int nA), .val (.int xa), .val (.int xb), .val (.int xc), .unset, .unset, .unset, .unset, .unset]) rfl k) ?_
    show RestW p.tables e below s _ _ _ (s₁.setTop (mkF m 58 #[.val (.int p0), .val (.int p1), .val (.int p2), .val (.int p3), .val (.int p4), .val (.int nA), .val (.int xa), .val (.int xb), .val (.int xc), .val (.int nA), .val (.int xa), .val (.int xb), .val (.int xc), .unset, .unset, .unset, .unset, .unset] []))
    refine RestW.via (fun t k => XS.goto X0.here hx rfl (pc0 := 58) (pc' := 96) rfl (hb hby at_58) (by decide) (by decide) k) ?_
    show RestW p.tables e below s _ _ _ (s₁.setTop (mkF m 96 #[.val (.int p0), .val (.int p1), .val (.int p2), .val (.int p3), .val (.int p4), .val (.int nA), .val (.int xa), .val (.int xb), .val (.int xc), .val (.int nA), .val (.int xa), .val (.int xb), .val (.int xc), .unset, .unset, .unset, .unset, .unset] []))
    exact J96 _ _ _ _ hnA hxa hxb hxc
set_option maxRecDepth 65536 in
set_option maxHeartbeats 40000000 in
theorem comes_1 {Post : Tables → Env → Array Value → State → Outcome → State → Prop} (hpost : ∀ tb e args s v u, (limb_1_1.after args s (.returned v) u = true ∧ limb_1_2.after args s (.returned v) u = true ∧ True) → Jvm.D.FramedW s (.returned v) u (Jvm.fieldLocs frame_1_writes args s ++ Jvm.arrayLocs frame_1_arrays args s ++ Jvm.staticLocs frame_1_statics s) 32 2176 → Post tb e args s (.returned v) u) :
    ArmFor flags0 classFile x code maxLocals ret World_1 tables_1 room_1 Calls_1 rest_1 Pre_1 Post := by
  intro l hfl _ _ p e ha hc hk s m args below hf hA hF happ hP
  obtain ⟨hcalls, hrest, hpre⟩ := hP
  obtain ⟨-, -, -, hnamed, -, -, -, hat⟩ := (Spec.applies_iff hf).mp happ
  obtain ⟨hg, hn⟩ := and_e (Cond.before_iff.mp (show (Jvm.Cond.and given_1 narrow_1).before args s = true from hpre))
  obtain ⟨hcnt, hg0⟩ := and_e hg
  obtain ⟨ha0, hg1⟩ := and_e hg0
  obtain ⟨ha1, hg2⟩ := and_e hg1
  obtain ⟨ha2, hg3⟩ := and_e hg2
  obtain ⟨ha3, hg4⟩ := and_e hg3
  have ha4 := hg4
  obtain ⟨w0, w1, w2, w3, w4, rfl⟩ : ∃ w0 w1 w2 w3 w4 : Value, args = #[w0, w1, w2, w3, w4] := by
    have hs : args.size = 5 := by simpa [Cond.value, given_1] using hcnt
    obtain ⟨L⟩ := args
    match L, hs with
    | [w0, w1, w2, w3, w4], _ => exact ⟨w0, w1, w2, w3, w4, rfl⟩
  have hw := fun d (hd : d ∈ tables_1) => atoms_spec (ws := Jvm.Cond.code x code maxLocals ret :: tables_1) hat d (List.mem_cons_of_mem _ hd)
  obtain ⟨hsets, hown0⟩ := atoms_of _ (rest_1_c_eq ▸ (show rest_1_c.before _ s = true from hrest))
  have hr0 := Cond.before_iff.mp hown0
  have hfit : Fit s := fun {y c} hc i hi => by
    obtain ⟨ha, rfl⟩ := Array.getElem?_eq_some_iff.mp hc
    have q := List.all_eq_true.mp ((Array.all_eq_true_iff_forall_mem.mp hF) _ (Array.getElem_mem ha)) i (List.mem_range.mpr hi)
    simpa [Array.getElem?_eq_getElem hi] using q
  obtain ⟨i0, ei0⟩ := is_v ha0
  obtain rfl : w0 = (.int i0) := Option.some.inj ei0
  obtain ⟨i1, ei1⟩ := is_v ha1
  obtain rfl : w1 = (.int i1) := Option.some.inj ei1
  obtain ⟨i2, ei2⟩ := is_v ha2
  obtain rfl : w2 = (.int i2) := Option.some.inj ei2
  obtain ⟨i3, ei3⟩ := is_v ha3
  obtain rfl : w3 = (.int i3) := Option.some.inj ei3
  obtain ⟨i4, ei4⟩ := is_v ha4
  obtain rfl : w4 = (.int i4) := Option.some.inj ei4
  obtain ⟨ic, eic⟩ := is_v (Cond.before_iff.mp (hsets _ (List.mem_of_getElem? (i := 1) rfl)))
  have CS : own_CS s ic := ⟨Sta.start eic (Or.inl (hsets _ (List.mem_of_getElem? (i := 0) rfl))), gotF (Cond.eq_ints eic (Term.int_eval (0))) (not_v (Cond.before_iff.mp (hsets _ (List.mem_of_getElem? (i := 2) rfl))))⟩
  have hcw : Jvm.Lit.compactW.before _ s = true := hsets _ (List.mem_of_getElem? (i := 2) rfl)
  have HE : Jvm.Lit.constHeld s "java/lang/String" 7 := hcalls.1 _ (List.mem_of_getElem? (i := 1) rfl)
  have HV : Jvm.Lit.constHeld s "com/example/surnia/surnia/rdf/UriRef" 7 := hcalls.1 _ (List.mem_of_getElem? (i := 0) rfl)
  obtain ⟨n, o, h1, h2, h3, _, L, rfl, ⟨rfl, N⟩, hq⟩ := rm0 l s _ hw tables_1 i0 i1 i2 i3 i4 ic s.heap s.heap.size (Nat.le_refl _) (Old.start s) CS hcw HE HV p e ha hc hk s m _ below hf ((Spec.applies_iff_loose hf).mp happ).1 ⟨rfl, State.Warmed39.refl s, rfl, IB.start⟩ trivial
  refine ⟨n, _, h1, h2, h3, hpost _ _ _ _ _ _ ⟨Cond.after_iff.mpr rfl, Cond.after_iff.mpr (eq_i res_at (Term.int_eval (1)) rfl), trivial⟩ ⟨hq.1, hq.2.1, hq.2.2.1, (hq.2.2.2.sift fun y hy => Or.inr (N y hy)).mono (by decide) (by decide)⟩⟩
theorem main_1_1 : Claimed_1_1 := comes_1 fun _ _ _ _ _ _ h hF => ⟨h.1, hF⟩
theorem main_1_2 : Claimed_1_2 := comes_1 fun _ _ _ _ _ _ h hF => ⟨h.2.1, hF⟩
end Jvm.Pilot.@@N@@
namespace Jvm.Pilot.@@N@@
open Jvm Jvm.ClassFile Sem Op Lib Jvm.Free Jvm.Stand Jvm.Pilot.@@N@@.Jvm.D
/-! MADE BY PROGRAM (witnessworld.py) out of the Statement's table words and the real class files: 23 classes; the members and pool entries that the words name. The judged class is class 1, her method 3. -/
namespace start1
open Jvm.ClassFile
def u (s : String) : CpInfo := .utf8 (stringToUtf16 s)
/-- a pool by its gaps: so many unusable entries, then the entry; so many at the end -/
def gap : Nat → List CpInfo → List CpInfo
  | 0, r => r
  | n + 1, r => .unusable :: gap n r
def poolList (es : List (Nat × CpInfo)) (last : Nat) : List CpInfo := es.foldr (fun e r => gap e.1 (e.2 :: r)) (gap last [])
def pool (es : List (Nat × CpInfo)) (last : Nat) : Array CpInfo := ⟨poolList es last⟩
def fileOf (pool : Array CpInfo) (this : Nat) (attrs : Array Attribute := #[]) (ms : Array MethodInfo := #[]) (fl : Nat := 33) (sup : Nat := 0) (ifs : Array Nat := #[]) (fds : Array FieldInfo := #[]) : ClassFile where
  minorVersion := 0
  majorVersion := 65
  constantPool := pool
  accessFlags := fl
  thisClass := this
  superClass := sup
  interfaces := ifs
  fields := fds
  methods := ms
  attributes := attrs
def plain (name : String) (sup : Option ClassId) : Class where
  name := name
  kind := .ordinary
  loader := none
  accessFlags := 33
  super := sup
  interfaces := #[]
  cf := none
  fields := #[]
  methods := #[]
  instanceTypes := #[]
  staticTypes := #[]
  resolved := #[]
  callSites := []
  init := .initialized
  statics := none
  mirror := none

def pool0 : Array CpInfo := pool [(5, u "<init>"), (0, u "()V"), (1, .class_ 10), (1, u "java/lang/Object")] 113

def k0c0 : Code := { maxStack := 0, maxLocals := 1, code := object_method_1_code, exceptionTable := #[], attributes := #[] }
def k0m0 : Method := { name := "<init>", desc := "()V", sig := { parameters := [], returnType := none }, accessFlags := 1, code := some k0c0 }
/-- java/lang/Object -/
def k0 : Class := { plain "java/lang/Object" none with
  accessFlags := 33
  interfaces := #[]
  cf := some (fileOf pool0 8 #[] #[{ accessFlags := 1, nameIndex := 5, descriptorIndex := 6, attributes := #[] }] 33 0 #[] #[])
  fields := #[]
  methods := #[k0m0]
  instanceTypes := #[]
  staticTypes := #[]
  resolved := Array.replicate 124 none
  statics := none }

def pool1 : Array CpInfo := pool [(2, .class_ 4), (1, u "java/lang/Object"), (0, u "<init>"), (0, u "()V"), (0, .class_ 8), (0, u "java/lang/String"), (0, .methodref 7 10), (0, .nameAndType 5 11), (0, u "([C)V"), (0, .class_ 13), (0, u "com/example/surnia/surnia/rdf/UriRef"), (0, .methodref 15 16), (0, .class_ 17), (0, .nameAndType 18 19), (0, u "com/example/surnia/surnia/rdf/UriRefEqualsPinLaw"), (0, u "mk"), (0, u "(ICCC)Ljava/lang/String;"), (0, .methodref 12 21), (0, .nameAndType 5 22), (0, u "(Ljava/lang/String;)V"), (0, .methodref 15 24), (0, .nameAndType 25 26), (0, u "same"), (0, u "(ICCCICCC)Z"), (0, .methodref 12 28), (0, .nameAndType 29 30), (0, u "equals"), (0, u "(Ljava/lang/Object;)Z"), (3, u "law"), (0, u "(IIIII)Z")] 2

def k1m0 : Method := { name := "<init>", desc := "()V", sig := { parameters := [], returnType := none }, accessFlags := 1, code := none }
def k1c1 : Code := { maxStack := 6, maxLocals := 4, code := method_2_code, exceptionTable := #[], attributes := #[] }
def k1m1 : Method := { name := "mk", desc := "(ICCC)Ljava/lang/String;", sig := { parameters := [.int, .char, .char, .char], returnType := some (.object "java/lang/String") }, accessFlags := 10, code := some k1c1 }
def k1c2 : Code := { maxStack := 2, maxLocals := 8, code := method_3_code, exceptionTable := #[], attributes := #[] }
def k1m2 : Method := { name := "same", desc := "(ICCCICCC)Z", sig := { parameters := [.int, .char, .char, .char, .int, .char, .char, .char], returnType := some .boolean }, accessFlags := 10, code := some k1c2 }
def k1c3 : Code := { maxStack := 8, maxLocals := 18, code := code, exceptionTable := #[], attributes := #[] }
def k1m3 : Method := { name := "law", desc := "(IIIII)Z", sig := { parameters := [.int, .int, .int, .int, .int], returnType := some .boolean }, accessFlags := 9, code := some k1c3 }
/-- com/example/surnia/surnia/rdf/UriRefEqualsPinLaw -/
def k1 : Class := { plain "com/example/surnia/surnia/rdf/UriRefEqualsPinLaw" (some 0) with
  accessFlags := 49
  interfaces := #[]
  cf := some (fileOf pool1 15 #[] #[{ accessFlags := 1, nameIndex := 5, descriptorIndex := 6, attributes := #[] }, { accessFlags := 10, nameIndex := 18, descriptorIndex := 19, attributes := #[] }, { accessFlags := 10, nameIndex := 25, descriptorIndex := 26, attributes := #[] }, { accessFlags := 9, nameIndex := 34, descriptorIndex := 35, attributes := #[] }] 49 2 #[] #[])
  fields := #[]
  methods := #[k1m0, k1m1, k1m2, k1m3]
  instanceTypes := #[]
  staticTypes := #[]
  resolved := Array.replicate 38 none
  statics := none }

def pool2 : Array CpInfo := pool [(1, .methodref 2 3), (0, .class_ 4), (0, .nameAndType 5 6), (0, u "java/lang/Object"), (0, u "<init>"), (0, u "()V"), (0, .class_ 8), (0, u "java/lang/Record")] 13

def k2c0 : Code := { maxStack := 1, maxLocals := 1, code := jdk_30_method_1_code, exceptionTable := #[], attributes := #[] }
def k2m0 : Method := { name := "<init>", desc := "()V", sig := { parameters := [], returnType := none }, accessFlags := 4, code := some k2c0 }
/-- java/lang/Record -/
def k2 : Class := { plain "java/lang/Record" (some 0) with
  accessFlags := 1057
  interfaces := #[]
  cf := some (fileOf pool2 7 #[] #[{ accessFlags := 4, nameIndex := 5, descriptorIndex := 6, attributes := #[] }] 1057 2 #[] #[])
  fields := #[]
  methods := #[k2m0]
  instanceTypes := #[]
  staticTypes := #[]
  resolved := Array.replicate 22 none
  statics := none }

def pool3 : Array CpInfo := pool [(1, .class_ 2), (0, u "com/example/surnia/surnia/rdf/Node"), (0, .class_ 4), (0, u "java/lang/Object")] 9

/-- com/example/surnia/surnia/rdf/Node -/
def k3 : Class := { plain "com/example/surnia/surnia/rdf/Node" (some 0) with
  accessFlags := 1537
  interfaces := #[]
  cf := some (fileOf pool3 1 #[] #[] 1537 3 #[] #[])
  fields := #[]
  methods := #[]
  instanceTypes := #[]
  staticTypes := #[]
  resolved := Array.replicate 14 none
  statics := none }

def pool4 : Array CpInfo := pool [(1, .methodref 2 3), (0, .class_ 4), (0, .nameAndType 5 6), (0, u "java/lang/Record"), (0, u "<init>"), (0, u "()V"), (0, .string 8), (0, u "value"), (0, .methodref 10 11), (0, .class_ 12), (0, .nameAndType 13 14), (0, u "java/util/Objects"), (0, u "requireNonNull"), (0, u "(Ljava/lang/Object;Ljava/lang/String;)Ljava/lang/Object;"), (0, .fieldref 16 17), (0, .class_ 18), (0, .nameAndType 8 19), (0, u "com/example/surnia/surnia/rdf/UriRef"), (0, u "Ljava/lang/String;"), (0, .methodref 21 22), (0, .class_ 23), (0, .nameAndType 24 25), (0, u "java/lang/String"), (0, u "equals"), (0, u "(Ljava/lang/Object;)Z"), (8, .class_ 35), (0, u "com/example/surnia/surnia/rdf/Node"), (0, u "(Ljava/lang/String;)V")] 23

def k4c0 : Code := { maxStack := 2, maxLocals := 2, code := prog_166_method_1_code, exceptionTable := #[], attributes := #[] }
def k4m0 : Method := { name := "<init>", desc := "(Ljava/lang/String;)V", sig := { parameters := [(.object "java/lang/String")], returnType := none }, accessFlags := 1, code := some k4c0 }
def k4c1 : Code := { maxStack := 2, maxLocals := 3, code := prog_166_method_2_code, exceptionTable := #[], attributes := #[] }
def k4m1 : Method := { name := "equals", desc := "(Ljava/lang/Object;)Z", sig := { parameters := [(.object "java/lang/Object")], returnType := some .boolean }, accessFlags := 1, code := some k4c1 }
/-- com/example/surnia/surnia/rdf/UriRef -/
def k4 : Class := { plain "com/example/surnia/surnia/rdf/UriRef" (some 2) with
  accessFlags := 49
  interfaces := #[3]
  cf := some (fileOf pool4 16 #[] #[{ accessFlags := 1, nameIndex := 5, descriptorIndex := 36, attributes := #[] }, { accessFlags := 1, nameIndex := 24, descriptorIndex := 25, attributes := #[] }] 49 2 #[34] #[{ accessFlags := 18, nameIndex := 8, descriptorIndex := 19, attributes := #[] }])
  fields := #[{ name := "value", type := (.object "java/lang/String"), accessFlags := 18, slot := 0, constantValue := 0 }]
  methods := #[k4m0, k4m1]
  instanceTypes := #[(.object "java/lang/String")]
  staticTypes := #[]
  resolved := Array.replicate 60 none
  statics := none }

def pool5 : Array CpInfo := pool [(1, .class_ 2), (0, u "java/io/Serializable"), (0, .class_ 4), (0, u "java/lang/Object")] 2

/-- java/io/Serializable -/
def k5 : Class := { plain "java/io/Serializable" (some 0) with
  accessFlags := 1537
  interfaces := #[]
  cf := some (fileOf pool5 1 #[] #[] 1537 3 #[] #[])
  fields := #[]
  methods := #[]
  instanceTypes := #[]
  staticTypes := #[]
  resolved := Array.replicate 7 none
  statics := none }

def pool6 : Array CpInfo := pool [(1, .class_ 2), (0, u "java/lang/Comparable"), (0, .class_ 4), (0, u "java/lang/Object")] 7

/-- java/lang/Comparable -/
def k6 : Class := { plain "java/lang/Comparable" (some 0) with
  accessFlags := 1537
  interfaces := #[]
  cf := some (fileOf pool6 1 #[] #[] 1537 3 #[] #[])
  fields := #[]
  methods := #[]
  instanceTypes := #[]
  staticTypes := #[]
  resolved := Array.replicate 12 none
  statics := none }

def pool7 : Array CpInfo := pool [(2, .class_ 4), (1, u "java/lang/CharSequence"), (42, .class_ 48), (0, u "java/lang/CharSequence$1CodePointIterator"), (10, .class_ 60), (0, u "java/lang/CharSequence$1CharIterator"), (5, .class_ 67), (0, u "java/lang/Object")] 63

/-- java/lang/CharSequence -/
def k7 : Class := { plain "java/lang/CharSequence" (some 0) with
  accessFlags := 1537
  interfaces := #[]
  cf := some (fileOf pool7 2 #[.nestMembers #[47, 59]] #[] 1537 66 #[] #[])
  fields := #[]
  methods := #[]
  instanceTypes := #[]
  staticTypes := #[]
  resolved := Array.replicate 131 none
  statics := none }

def pool8 : Array CpInfo := pool [(1, .class_ 2), (0, u "java/lang/constant/Constable"), (0, .class_ 4), (0, u "java/lang/Object")] 6

/-- java/lang/constant/Constable -/
def k8 : Class := { plain "java/lang/constant/Constable" (some 0) with
  accessFlags := 1537
  interfaces := #[]
  cf := some (fileOf pool8 1 #[] #[] 1537 3 #[] #[])
  fields := #[]
  methods := #[]
  instanceTypes := #[]
  staticTypes := #[]
  resolved := Array.replicate 11 none
  statics := none }

def pool9 : Array CpInfo := pool [(1, .class_ 2), (0, u "java/lang/constant/ConstantDesc"), (0, .class_ 4), (0, u "java/lang/Object")] 32

/-- java/lang/constant/ConstantDesc -/
def k9 : Class := { plain "java/lang/constant/ConstantDesc" (some 0) with
  accessFlags := 1537
  interfaces := #[]
  cf := some (fileOf pool9 1 #[] #[] 1537 3 #[] #[])
  fields := #[]
  methods := #[]
  instanceTypes := #[]
  staticTypes := #[]
  resolved := Array.replicate 37 none
  statics := none }

def pool10 : Array CpInfo := pool [(1, .methodref 2 3), (0, .class_ 4), (0, .nameAndType 5 6), (0, u "java/lang/Object"), (0, u "<init>"), (0, u "()V"), (0, .string 8), (0, u ""), (0, .fieldref 10 11), (0, .class_ 12), (0, .nameAndType 13 14), (0, u "java/lang/String"), (0, u "value"), (0, u "[B"), (0, .fieldref 10 16), (0, .nameAndType 17 18), (0, u "coder"), (0, u "B"), (2, u "hash"), (0, u "I"), (2, u "hashIsZero"), (0, u "Z"), (0, .methodref 10 28), (0, .nameAndType 5 29), (0, u "([CIILjava/lang/Void;)V"), (8, .fieldref 10 39), (0, .nameAndType 40 26), (0, u "COMPACT_STRINGS"), (1, .class_ 44), (1, u "java/lang/StringUTF16"), (0, u "compress"), (1, .methodref 42 48), (0, .nameAndType 49 50), (0, u "coderFromArrayLen"), (0, u "([BI)B"), (56, .class_ 109), (1, u "java/lang/StringLatin1"), (67, .methodref 42 178), (0, .nameAndType 45 179), (0, u "([CII)[B"), (361, .methodref 107 542), (0, .nameAndType 543 544), (0, u "equals"), (0, u "([B[B)Z"), (28, u "(Ljava/lang/Object;)Z"), (1, .class_ 576), (0, u "java/lang/CharSequence"), (22, u "CASE_INSENSITIVE_ORDER"), (0, u "Ljava/util/Comparator;"), (409, u "([C)V"), (90, u "serialPersistentFields"), (0, u "[Ljava/io/ObjectStreamField;"), (0, .class_ 1104), (0, u "java/lang/String$CaseInsensitiveComparator"), (1, .class_ 1107), (0, u "java/io/Serializable"), (0, .class_ 1109), (0, u "java/lang/Comparable"), (0, .class_ 1111), (0, u "java/lang/constant/Constable"), (0, .class_ 1113), (0, u "java/lang/constant/ConstantDesc"), (2, u "serialVersionUID"), (0, u "J"), (3, u "REPL"), (0, u "C"), (2, u "LATIN1"), (1, u "UTF16")] 323

def k10m0 : Method := { name := "<init>", desc := "()V", sig := { parameters := [], returnType := none }, accessFlags := 1, code := none }
def k10c1 : Code := { maxStack := 5, maxLocals := 2, code := jdk_42_method_3_code, exceptionTable := #[], attributes := #[] }
def k10m1 : Method := { name := "<init>", desc := "([C)V", sig := { parameters := [(.array .char)], returnType := none }, accessFlags := 1, code := some k10c1 }
def k10c2 : Code := { maxStack := 2, maxLocals := 3, code := jdk_42_method_66_code, exceptionTable := #[], attributes := #[] }
def k10m2 : Method := { name := "equals", desc := "(Ljava/lang/Object;)Z", sig := { parameters := [(.object "java/lang/Object")], returnType := some .boolean }, accessFlags := 1, code := some k10c2 }
def k10c3 : Code := { maxStack := 4, maxLocals := 6, code := jdk_42_method_149_code, exceptionTable := #[], attributes := #[] }
def k10m3 : Method := { name := "<init>", desc := "([CIILjava/lang/Void;)V", sig := { parameters := [(.array .char), .int, .int, (.object "java/lang/Void")], returnType := none }, accessFlags := 2, code := some k10c3 }
/-- java/lang/String -/
def k10 : Class := { plain "java/lang/String" (some 0) with
  accessFlags := 49
  interfaces := #[5, 6, 7, 8, 9]
  cf := some (fileOf pool10 10 #[.nestMembers #[1103]] #[{ accessFlags := 1, nameIndex := 5, descriptorIndex := 6, attributes := #[] }, { accessFlags := 1, nameIndex := 5, descriptorIndex := 1010, attributes := #[] }, { accessFlags := 1, nameIndex := 543, descriptorIndex := 573, attributes := #[] }, { accessFlags := 2, nameIndex := 5, descriptorIndex := 29, attributes := #[] }] 49 2 #[1106, 1108, 575, 1110, 1112] #[{ accessFlags := 18, nameIndex := 13, descriptorIndex := 14, attributes := #[] }, { accessFlags := 18, nameIndex := 17, descriptorIndex := 18, attributes := #[] }, { accessFlags := 2, nameIndex := 21, descriptorIndex := 22, attributes := #[] }, { accessFlags := 2, nameIndex := 25, descriptorIndex := 26, attributes := #[] }, { accessFlags := 26, nameIndex := 1116, descriptorIndex := 1117, attributes := #[] }, { accessFlags := 24, nameIndex := 40, descriptorIndex := 26, attributes := #[] }, { accessFlags := 26, nameIndex := 1101, descriptorIndex := 1102, attributes := #[] }, { accessFlags := 26, nameIndex := 1121, descriptorIndex := 1122, attributes := #[] }, { accessFlags := 25, nameIndex := 599, descriptorIndex := 600, attributes := #[] }, { accessFlags := 24, nameIndex := 1125, descriptorIndex := 18, attributes := #[] }, { accessFlags := 24, nameIndex := 1127, descriptorIndex := 18, attributes := #[] }])
  fields := #[{ name := "value", type := (.array .byte), accessFlags := 18, slot := 0, constantValue := 0 }, { name := "coder", type := .byte, accessFlags := 18, slot := 1, constantValue := 0 }, { name := "hash", type := .int, accessFlags := 2, slot := 2, constantValue := 0 }, { name := "hashIsZero", type := .boolean, accessFlags := 2, slot := 3, constantValue := 0 }, { name := "serialVersionUID", type := .long, accessFlags := 26, slot := 0, constantValue := 0 }, { name := "COMPACT_STRINGS", type := .boolean, accessFlags := 24, slot := 1, constantValue := 0 }, { name := "serialPersistentFields", type := (.array (.object "java/io/ObjectStreamField")), accessFlags := 26, slot := 2, constantValue := 0 }, { name := "REPL", type := .char, accessFlags := 26, slot := 3, constantValue := 0 }, { name := "CASE_INSENSITIVE_ORDER", type := (.object "java/util/Comparator"), accessFlags := 25, slot := 4, constantValue := 0 }, { name := "LATIN1", type := .byte, accessFlags := 24, slot := 5, constantValue := 0 }, { name := "UTF16", type := .byte, accessFlags := 24, slot := 6, constantValue := 0 }]
  methods := #[k10m0, k10m1, k10m2, k10m3]
  instanceTypes := #[(.array .byte), .byte, .int, .boolean]
  staticTypes := #[.long, .boolean, (.array (.object "java/io/ObjectStreamField")), .char, (.object "java/util/Comparator"), .byte, .byte]
  resolved := Array.replicate 1451 none
  statics := some 0 }

def pool11 : Array CpInfo := pool [(2, .class_ 4), (1, u "java/lang/Object"), (0, u "<init>"), (0, u "()V"), (35, .class_ 44), (1, u "java/util/Objects"), (0, u "requireNonNull"), (48, u "(Ljava/lang/Object;Ljava/lang/String;)Ljava/lang/Object;")] 89

def k11m0 : Method := { name := "<init>", desc := "()V", sig := { parameters := [], returnType := none }, accessFlags := 2, code := none }
def k11c1 : Code := { maxStack := 3, maxLocals := 2, code := jdk_31_method_11_code, exceptionTable := #[], attributes := #[] }
def k11m1 : Method := { name := "requireNonNull", desc := "(Ljava/lang/Object;Ljava/lang/String;)Ljava/lang/Object;", sig := { parameters := [(.object "java/lang/Object"), (.object "java/lang/String")], returnType := some (.object "java/lang/Object") }, accessFlags := 9, code := some k11c1 }
/-- java/util/Objects -/
def k11 : Class := { plain "java/util/Objects" (some 0) with
  accessFlags := 49
  interfaces := #[]
  cf := some (fileOf pool11 42 #[] #[{ accessFlags := 2, nameIndex := 5, descriptorIndex := 6, attributes := #[] }, { accessFlags := 9, nameIndex := 45, descriptorIndex := 94, attributes := #[] }] 49 2 #[] #[])
  fields := #[]
  methods := #[k11m0, k11m1]
  instanceTypes := #[]
  staticTypes := #[]
  resolved := Array.replicate 184 none
  statics := none }

def pool12 : Array CpInfo := pool [(6, .class_ 8), (1, u "java/lang/Object"), (0, u "<init>"), (0, u "()V"), (1, .class_ 14), (1, u "java/lang/StringUTF16"), (31, u "$assertionsDisabled"), (0, u "Z"), (13, u "HI_BYTE_SHIFT"), (0, u "I"), (2, u "LO_BYTE_SHIFT"), (49, .methodref 12 116), (0, .nameAndType 117 118), (0, u "compress"), (0, u "([CI[BII)I"), (3, u "([CII)[B"), (138, u "coderFromArrayLen"), (0, u "([BI)B"), (106, .class_ 371), (1, u "java/lang/StringUTF16$LinesSpliterator"), (58, u "MAX_LENGTH"), (196, .class_ 628), (0, u "java/lang/StringUTF16$CodePointsSpliterator"), (0, .class_ 630), (0, u "java/lang/StringUTF16$CharsSpliterator")] 4

def k12m0 : Method := { name := "<init>", desc := "()V", sig := { parameters := [], returnType := none }, accessFlags := 0, code := none }
def k12c1 : Code := { maxStack := 2, maxLocals := 2, code := jdk_52_method_15_code, exceptionTable := #[], attributes := #[] }
def k12m1 : Method := { name := "coderFromArrayLen", desc := "([BI)B", sig := { parameters := [(.array .byte), .int], returnType := some .byte }, accessFlags := 8, code := some k12c1 }
def k12c2 : Code := { maxStack := 5, maxLocals := 6, code := jdk_52_method_16_code, exceptionTable := #[], attributes := #[] }
def k12m2 : Method := { name := "compress", desc := "([CII)[B", sig := { parameters := [(.array .char), .int, .int], returnType := some (.array .byte) }, accessFlags := 9, code := some k12c2 }
def k12c3 : Code := { maxStack := 3, maxLocals := 7, code := jdk_52_method_21_code, exceptionTable := #[], attributes := #[] }
def k12m3 : Method := { name := "compress", desc := "([CI[BII)I", sig := { parameters := [(.array .char), .int, (.array .byte), .int, .int], returnType := some .int }, accessFlags := 9, code := some k12c3 }
/-- java/lang/StringUTF16 -/
def k12 : Class := { plain "java/lang/StringUTF16" (some 0) with
  accessFlags := 48
  interfaces := #[]
  cf := some (fileOf pool12 12 #[.nestMembers #[627, 629, 369]] #[{ accessFlags := 0, nameIndex := 9, descriptorIndex := 10, attributes := #[] }, { accessFlags := 8, nameIndex := 261, descriptorIndex := 262, attributes := #[] }, { accessFlags := 9, nameIndex := 117, descriptorIndex := 122, attributes := #[] }, { accessFlags := 9, nameIndex := 117, descriptorIndex := 118, attributes := #[] }] 48 6 #[] #[{ accessFlags := 26, nameIndex := 61, descriptorIndex := 62, attributes := #[] }, { accessFlags := 26, nameIndex := 65, descriptorIndex := 62, attributes := #[] }, { accessFlags := 24, nameIndex := 430, descriptorIndex := 62, attributes := #[] }, { accessFlags := 4120, nameIndex := 46, descriptorIndex := 47, attributes := #[] }])
  fields := #[{ name := "HI_BYTE_SHIFT", type := .int, accessFlags := 26, slot := 0, constantValue := 0 }, { name := "LO_BYTE_SHIFT", type := .int, accessFlags := 26, slot := 1, constantValue := 0 }, { name := "MAX_LENGTH", type := .int, accessFlags := 24, slot := 2, constantValue := 0 }, { name := "$assertionsDisabled", type := .boolean, accessFlags := 4120, slot := 3, constantValue := 0 }]
  methods := #[k12m0, k12m1, k12m2, k12m3]
  instanceTypes := #[]
  staticTypes := #[.int, .int, .int, .boolean]
  resolved := Array.replicate 635 none
  statics := none }

def pool13 : Array CpInfo := pool [(4, .class_ 6), (1, u "java/lang/Object"), (0, u "<init>"), (0, u "()V"), (5, .class_ 16), (1, u "java/lang/StringLatin1"), (104, u "$assertionsDisabled"), (0, u "Z"), (98, .class_ 223), (1, u "java/lang/StringLatin1$LinesSpliterator"), (57, u "equals"), (0, u "([B[B)Z"), (107, .class_ 391), (0, u "java/lang/StringLatin1$CharsSpliterator")] 3

def k13m0 : Method := { name := "<init>", desc := "()V", sig := { parameters := [], returnType := none }, accessFlags := 0, code := none }
def k13c1 : Code := { maxStack := 3, maxLocals := 3, code := jdk_43_method_13_code, exceptionTable := #[], attributes := #[] }
def k13m1 : Method := { name := "equals", desc := "([B[B)Z", sig := { parameters := [(.array .byte), (.array .byte)], returnType := some .boolean }, accessFlags := 9, code := some k13c1 }
/-- java/lang/StringLatin1 -/
def k13 : Class := { plain "java/lang/StringLatin1" (some 0) with
  accessFlags := 48
  interfaces := #[]
  cf := some (fileOf pool13 14 #[.nestMembers #[390, 221]] #[{ accessFlags := 0, nameIndex := 7, descriptorIndex := 8, attributes := #[] }, { accessFlags := 9, nameIndex := 281, descriptorIndex := 282, attributes := #[] }] 48 4 #[] #[{ accessFlags := 4120, nameIndex := 121, descriptorIndex := 122, attributes := #[] }])
  fields := #[{ name := "$assertionsDisabled", type := .boolean, accessFlags := 4120, slot := 0, constantValue := 0 }]
  methods := #[k13m0, k13m1]
  instanceTypes := #[]
  staticTypes := #[.boolean]
  resolved := Array.replicate 395 none
  statics := none }

def pool14 : Array CpInfo := pool [(2, .class_ 4), (1, u "java/lang/Object"), (0, u "<init>"), (0, u "()V"), (17, .class_ 26), (1, u "jdk/internal/util/Preconditions"), (28, .class_ 56), (0, u "jdk/internal/util/Preconditions$4"), (57, .class_ 115), (0, u "jdk/internal/util/Preconditions$1"), (7, u "SIOOBE_FORMATTER"), (0, u "Ljava/util/function/BiFunction;"), (0, .class_ 126), (0, u "jdk/internal/util/Preconditions$2"), (3, u "AIOOBE_FORMATTER"), (0, .class_ 132), (0, u "jdk/internal/util/Preconditions$3"), (3, u "IOOBE_FORMATTER")] 57

def k14m0 : Method := { name := "<init>", desc := "()V", sig := { parameters := [], returnType := none }, accessFlags := 1, code := none }
/-- jdk/internal/util/Preconditions -/
def k14 : Class := { plain "jdk/internal/util/Preconditions" (some 0) with
  accessFlags := 33
  interfaces := #[]
  cf := some (fileOf pool14 24 #[.nestMembers #[55, 131, 125, 114]] #[{ accessFlags := 1, nameIndex := 5, descriptorIndex := 6, attributes := #[] }] 33 2 #[] #[{ accessFlags := 25, nameIndex := 123, descriptorIndex := 124, attributes := #[] }, { accessFlags := 25, nameIndex := 130, descriptorIndex := 124, attributes := #[] }, { accessFlags := 25, nameIndex := 136, descriptorIndex := 124, attributes := #[] }])
  fields := #[{ name := "SIOOBE_FORMATTER", type := (.object "java/util/function/BiFunction"), accessFlags := 25, slot := 0, constantValue := 0 }, { name := "AIOOBE_FORMATTER", type := (.object "java/util/function/BiFunction"), accessFlags := 25, slot := 1, constantValue := 0 }, { name := "IOOBE_FORMATTER", type := (.object "java/util/function/BiFunction"), accessFlags := 25, slot := 2, constantValue := 0 }]
  methods := #[k14m0]
  instanceTypes := #[]
  staticTypes := #[(.object "java/util/function/BiFunction"), (.object "java/util/function/BiFunction"), (.object "java/util/function/BiFunction")]
  resolved := Array.replicate 194 none
  statics := some 1 }

def pool15 : Array CpInfo := pool [(9, u "<init>"), (6, .class_ 18), (1, u "java/lang/Object"), (0, u "()V"), (1, .class_ 23), (1, u "jdk/internal/util/ArraysSupport"), (0, u "LOG2_ARRAY_LONG_INDEX_SCALE"), (0, u "I"), (2, u "U"), (0, u "Ljdk/internal/misc/Unsafe;"), (8, u "BIG_ENDIAN"), (0, u "Z"), (8, u "LOG2_BYTE_BIT_SIZE"), (4, u "LOG2_ARRAY_INT_INDEX_SCALE"), (54, u "JLA"), (0, u "Ljdk/internal/access/JavaLangAccess;"), (11, u "LOG2_ARRAY_BOOLEAN_INDEX_SCALE"), (9, u "LOG2_ARRAY_BYTE_INDEX_SCALE"), (5, u "LOG2_ARRAY_CHAR_INDEX_SCALE"), (5, u "LOG2_ARRAY_SHORT_INDEX_SCALE"), (18, u "LOG2_ARRAY_FLOAT_INDEX_SCALE"), (24, u "LOG2_ARRAY_DOUBLE_INDEX_SCALE"), (89, u "T_BOOLEAN"), (2, u "T_CHAR"), (1, u "T_FLOAT"), (1, u "T_DOUBLE"), (1, u "T_BYTE"), (1, u "T_SHORT"), (1, u "T_INT"), (1, u "T_LONG"), (1, u "SOFT_MAX_ARRAY_LENGTH")] 83

def k15m0 : Method := { name := "<init>", desc := "()V", sig := { parameters := [], returnType := none }, accessFlags := 2, code := none }
/-- jdk/internal/util/ArraysSupport -/
def k15 : Class := { plain "jdk/internal/util/ArraysSupport" (some 0) with
  accessFlags := 33
  interfaces := #[]
  cf := some (fileOf pool15 21 #[] #[{ accessFlags := 2, nameIndex := 9, descriptorIndex := 19, attributes := #[] }] 33 16 #[] #[{ accessFlags := 24, nameIndex := 28, descriptorIndex := 29, attributes := #[] }, { accessFlags := 26, nameIndex := 38, descriptorIndex := 39, attributes := #[] }, { accessFlags := 25, nameIndex := 121, descriptorIndex := 25, attributes := #[] }, { accessFlags := 25, nameIndex := 131, descriptorIndex := 25, attributes := #[] }, { accessFlags := 25, nameIndex := 137, descriptorIndex := 25, attributes := #[] }, { accessFlags := 25, nameIndex := 143, descriptorIndex := 25, attributes := #[] }, { accessFlags := 25, nameIndex := 53, descriptorIndex := 25, attributes := #[] }, { accessFlags := 25, nameIndex := 24, descriptorIndex := 25, attributes := #[] }, { accessFlags := 25, nameIndex := 162, descriptorIndex := 25, attributes := #[] }, { accessFlags := 25, nameIndex := 187, descriptorIndex := 25, attributes := #[] }, { accessFlags := 26, nameIndex := 48, descriptorIndex := 25, attributes := #[] }, { accessFlags := 25, nameIndex := 277, descriptorIndex := 25, attributes := #[] }, { accessFlags := 25, nameIndex := 280, descriptorIndex := 25, attributes := #[] }, { accessFlags := 25, nameIndex := 282, descriptorIndex := 25, attributes := #[] }, { accessFlags := 25, nameIndex := 284, descriptorIndex := 25, attributes := #[] }, { accessFlags := 25, nameIndex := 286, descriptorIndex := 25, attributes := #[] }, { accessFlags := 25, nameIndex := 288, descriptorIndex := 25, attributes := #[] }, { accessFlags := 25, nameIndex := 290, descriptorIndex := 25, attributes := #[] }, { accessFlags := 25, nameIndex := 292, descriptorIndex := 25, attributes := #[] }, { accessFlags := 26, nameIndex := 108, descriptorIndex := 109, attributes := #[] }, { accessFlags := 25, nameIndex := 294, descriptorIndex := 25, attributes := #[] }])
  fields := #[{ name := "U", type := (.object "jdk/internal/misc/Unsafe"), accessFlags := 24, slot := 0, constantValue := 0 }, { name := "BIG_ENDIAN", type := .boolean, accessFlags := 26, slot := 1, constantValue := 0 }, { name := "LOG2_ARRAY_BOOLEAN_INDEX_SCALE", type := .int, accessFlags := 25, slot := 2, constantValue := 0 }, { name := "LOG2_ARRAY_BYTE_INDEX_SCALE", type := .int, accessFlags := 25, slot := 3, constantValue := 0 }, { name := "LOG2_ARRAY_CHAR_INDEX_SCALE", type := .int, accessFlags := 25, slot := 4, constantValue := 0 }, { name := "LOG2_ARRAY_SHORT_INDEX_SCALE", type := .int, accessFlags := 25, slot := 5, constantValue := 0 }, { name := "LOG2_ARRAY_INT_INDEX_SCALE", type := .int, accessFlags := 25, slot := 6, constantValue := 0 }, { name := "LOG2_ARRAY_LONG_INDEX_SCALE", type := .int, accessFlags := 25, slot := 7, constantValue := 0 }, { name := "LOG2_ARRAY_FLOAT_INDEX_SCALE", type := .int, accessFlags := 25, slot := 8, constantValue := 0 }, { name := "LOG2_ARRAY_DOUBLE_INDEX_SCALE", type := .int, accessFlags := 25, slot := 9, constantValue := 0 }, { name := "LOG2_BYTE_BIT_SIZE", type := .int, accessFlags := 26, slot := 10, constantValue := 0 }, { name := "T_BOOLEAN", type := .int, accessFlags := 25, slot := 11, constantValue := 0 }, { name := "T_CHAR", type := .int, accessFlags := 25, slot := 12, constantValue := 0 }, { name := "T_FLOAT", type := .int, accessFlags := 25, slot := 13, constantValue := 0 }, { name := "T_DOUBLE", type := .int, accessFlags := 25, slot := 14, constantValue := 0 }, { name := "T_BYTE", type := .int, accessFlags := 25, slot := 15, constantValue := 0 }, { name := "T_SHORT", type := .int, accessFlags := 25, slot := 16, constantValue := 0 }, { name := "T_INT", type := .int, accessFlags := 25, slot := 17, constantValue := 0 }, { name := "T_LONG", type := .int, accessFlags := 25, slot := 18, constantValue := 0 }, { name := "JLA", type := (.object "jdk/internal/access/JavaLangAccess"), accessFlags := 26, slot := 19, constantValue := 0 }, { name := "SOFT_MAX_ARRAY_LENGTH", type := .int, accessFlags := 25, slot := 20, constantValue := 0 }]
  methods := #[k15m0]
  instanceTypes := #[]
  staticTypes := #[(.object "jdk/internal/misc/Unsafe"), .boolean, .int, .int, .int, .int, .int, .int, .int, .int, .int, .int, .int, .int, .int, .int, .int, .int, .int, (.object "jdk/internal/access/JavaLangAccess"), .int]
  resolved := Array.replicate 378 none
  statics := none }

def pool16 : Array CpInfo := pool [(1, u "java/lang/Cloneable"), (0, .class_ 1), (0, u "java/lang/Object"), (0, .class_ 3)] 3

/-- java/lang/Cloneable -/
def k16 : Class := { plain "java/lang/Cloneable" (some 0) with
  accessFlags := 1537
  interfaces := #[]
  cf := some (fileOf pool16 2 #[] #[] 1537 4 #[] #[])
  fields := #[]
  methods := #[]
  instanceTypes := #[]
  staticTypes := #[]
  resolved := Array.replicate 8 none
  statics := none }

/-- the primitive byte -/
def k17 : Class := { plain "byte" none with kind := .primitive 'B', accessFlags := 0x411 }
/-- [B -/
def k18 : Class := { plain "[B" (some 0) with kind := .array 17 .byte, interfaces := #[16, 5], accessFlags := 1041 }

/-- the primitive char -/
def k19 : Class := { plain "char" none with kind := .primitive 'C', accessFlags := 0x411 }
/-- [C -/
def k20 : Class := { plain "[C" (some 0) with kind := .array 19 .char, interfaces := #[16, 5], accessFlags := 1041 }

/-- the primitive int -/
def k21 : Class := { plain "int" none with kind := .primitive 'I', accessFlags := 0x411 }
/-- [I -/
def k22 : Class := { plain "[I" (some 0) with kind := .array 21 .int, interfaces := #[16, 5], accessFlags := 1041 }

def heap : Heap := #[{ cls := 10, slots := #[.long 0, .int 1, .null, .int 0, .null, .int 0, .int 0], vm := .statics 10 },
  { cls := 14, slots := #[.null, .null, .null], vm := .statics 14 }]
def classes : Array Class := #[k0, k1, k2, k3, k4, k5, k6, k7, k8, k9, k10, k11, k12, k13, k14, k15, k16, k17, k18, k19, k20, k21, k22]
def interned : List (Array UInt16 × Addr) := []
def slotsUsed : Nat := 10
def theMethod : MethodId := ⟨1, 3⟩
def args0 : Array Value := #[.int 5, .int 6, .int 1, .int 3, .int 1]
def aboutOver (below : List Frame) : State where
  vm := { classes := classes, interned := interned.toArray }
  heap := heap
  slotsUsed := slotsUsed
  threads := #[{ frames := .invoking theMethod args0 :: below }]
def below0 : List Frame := [.native { method := ⟨0, 0⟩, args := #[] }]
def about1 : State := aboutOver below0
def p0 : Program := .bare "" "" ""
def e0 : Env := launch0.env 0 0 0
theorem w_frames : about1.frames = Frame.invoking theMethod args0 :: below0 := rfl
set_option maxRecDepth 65536 in
theorem w_args : argsFit about1.vm theMethod args0 = true := by decide +kernel
set_option maxRecDepth 65536 in
theorem w_heap : heapFits about1 = true := by decide +kernel
set_option maxRecDepth 65536 in
theorem w_runnable : about1.curStatus? = some .runnable := by decide +kernel
set_option maxRecDepth 65536 in
theorem w_alone : about1.alone = true := by decide +kernel
set_option maxRecDepth 65536 in
theorem w_named : about1.methodNamed? x = some theMethod := by decide +kernel
set_option maxRecDepth 65536 in
theorem w_hears : about1.hears theMethod below0 = true := by decide +kernel
set_option maxRecDepth 65536 in
theorem w_ripe : about1.ripe theMethod args0 below0 = true := by decide +kernel
theorem w_running : about1.status = .running := rfl
set_option maxRecDepth 65536 in
theorem w_room : about1.hasRoom e0.platform room_1 = true :=
  launch0.hasRoom_least _ room_1 (by decide +kernel) (by decide +kernel) (by decide +kernel) (by decide +kernel) (by decide +kernel) (by decide +kernel)
theorem allAtoms_all (ts : List Jvm.Cond) (a : Array Jvm.Value) (st : Jvm.State) : (allAtoms ts).before a st = ts.all (fun c => c.before a st) := by
  induction ts with
  | nil => rfl
  | cons c t ih =>
    show (Jvm.Cond.and c (allAtoms t)).before a st = _
    rw [Jvm.Cond.before_and, ih, List.all_cons]
def words1 : List Jvm.Cond := Jvm.Cond.code x code maxLocals ret :: tables_1
/-- a 'code' word, met by the world's own term for the bytes: nothing is compared byte by byte -/
theorem code_word {y : MethodName} {bytes : ByteArray} {mx : Nat} {rt : Option FieldType} {a : Array Value} {s : State} {m : MethodId} {meth : Method} {c : Code} (h1 : s.methodNamed? y = some m) (h2 : s.vm.method? m = some meth) (h3 : meth.code = some c) (h4 : c.code = bytes)
    (h5 : (c.maxLocals == mx && c.exceptionTable.isEmpty && decide (c.maxStack ≤ mostOperands) && decide (meth.sig.returnType = rt) && !meth.locks && decide (parseMethodDescriptor y.desc = some meth.sig)) = true) : (Jvm.Cond.code y bytes mx rt).before a s = true := by
  simp only [Bool.and_eq_true, beq_iff_eq, Bool.not_eq_true', decide_eq_true_eq] at h5
  obtain ⟨⟨⟨⟨⟨g1, g2⟩, g3⟩, g4⟩, g5⟩, g6⟩ := h5
  simp [Cond.before, Cond.holds, Cond.value, h1, h2, h3, h4, g1, g2, g3, g4, g5, g6]
def isCode : Jvm.Cond → Bool
  | .code _ _ _ _ => true
  | _ => false
theorem all_split {L : List Jvm.Cond} {P : Jvm.Cond → Bool} (h1 : L.all (fun c => isCode c || P c) = true) (h2 : ∀ c ∈ L.filter isCode, P c = true) : L.all P = true := by
  refine List.all_eq_true.mpr fun c hc => ?_
  have h := List.all_eq_true.mp h1 c hc
  rcases Bool.eq_false_or_eq_true (isCode c) with hi | hi
  · exact h2 c (List.mem_filter.mpr ⟨hc, hi⟩)
  · simpa [hi] using h
set_option maxRecDepth 65536 in
theorem w_c0 : (Jvm.Cond.code x code maxLocals ret).before args0 about1 = true := code_word (m := ⟨1, 3⟩) (meth := k1m3) (c := k1c3) (by decide +kernel) rfl rfl rfl (by decide +kernel)
set_option maxRecDepth 65536 in
theorem w_c1 : (Jvm.Cond.code ({ cls := "com/example/surnia/surnia/rdf/UriRefEqualsPinLaw", name := "mk", desc := "(ICCC)Ljava/lang/String;" } : Jvm.MethodName) method_2_code (4 : Nat) (Option.some (Jvm.ClassFile.FieldType.object "java/lang/String"))).before args0 about1 = true := code_word (m := ⟨1, 1⟩) (meth := k1m1) (c := k1c1) (by decide +kernel) rfl rfl rfl (by decide +kernel)
set_option maxRecDepth 65536 in
theorem w_c2 : (Jvm.Cond.code ({ cls := "java/lang/String", name := "<init>", desc := "([C)V" } : Jvm.MethodName) jdk_42_method_3_code (2 : Nat) (Option.none : Option Jvm.ClassFile.FieldType)).before args0 about1 = true := code_word (m := ⟨10, 1⟩) (meth := k10m1) (c := k10c1) (by decide +kernel) rfl rfl rfl (by decide +kernel)
set_option maxRecDepth 65536 in
theorem w_c3 : (Jvm.Cond.code ({ cls := "java/lang/String", name := "<init>", desc := "([CIILjava/lang/Void;)V" } : Jvm.MethodName) jdk_42_method_149_code (6 : Nat) (Option.none : Option Jvm.ClassFile.FieldType)).before args0 about1 = true := code_word (m := ⟨10, 3⟩) (meth := k10m3) (c := k10c3) (by decide +kernel) rfl rfl rfl (by decide +kernel)
set_option maxRecDepth 65536 in
theorem w_c4 : (Jvm.Cond.code ({ cls := "java/lang/Object", name := "<init>", desc := "()V" } : Jvm.MethodName) object_method_1_code (1 : Nat) (Option.none : Option Jvm.ClassFile.FieldType)).before args0 about1 = true := code_word (m := ⟨0, 0⟩) (meth := k0m0) (c := k0c0) (by decide +kernel) rfl rfl rfl (by decide +kernel)
set_option maxRecDepth 65536 in
theorem w_c5 : (Jvm.Cond.code ({ cls := "com/example/surnia/surnia/rdf/UriRef", name := "<init>", desc := "(Ljava/lang/String;)V" } : Jvm.MethodName) prog_166_method_1_code (2 : Nat) (Option.none : Option Jvm.ClassFile.FieldType)).before args0 about1 = true := code_word (m := ⟨4, 0⟩) (meth := k4m0) (c := k4c0) (by decide +kernel) rfl rfl rfl (by decide +kernel)
set_option maxRecDepth 65536 in
theorem w_c6 : (Jvm.Cond.code ({ cls := "java/lang/Record", name := "<init>", desc := "()V" } : Jvm.MethodName) jdk_30_method_1_code (1 : Nat) (Option.none : Option Jvm.ClassFile.FieldType)).before args0 about1 = true := code_word (m := ⟨2, 0⟩) (meth := k2m0) (c := k2c0) (by decide +kernel) rfl rfl rfl (by decide +kernel)
set_option maxRecDepth 65536 in
theorem w_c7 : (Jvm.Cond.code ({ cls := "java/util/Objects", name := "requireNonNull", desc := "(Ljava/lang/Object;Ljava/lang/String;)Ljava/lang/Object;" } : Jvm.MethodName) jdk_31_method_11_code (2 : Nat) (Option.some (Jvm.ClassFile.FieldType.object "java/lang/Object"))).before args0 about1 = true := code_word (m := ⟨11, 1⟩) (meth := k11m1) (c := k11c1) (by decide +kernel) rfl rfl rfl (by decide +kernel)
set_option maxRecDepth 65536 in
theorem w_c8 : (Jvm.Cond.code ({ cls := "java/lang/StringUTF16", name := "compress", desc := "([CII)[B" } : Jvm.MethodName) jdk_52_method_16_code (6 : Nat) (Option.some (Jvm.ClassFile.FieldType.array Jvm.ClassFile.FieldType.byte))).before args0 about1 = true := code_word (m := ⟨12, 2⟩) (meth := k12m2) (c := k12c2) (by decide +kernel) rfl rfl rfl (by decide +kernel)
set_option maxRecDepth 65536 in
theorem w_c9 : (Jvm.Cond.code ({ cls := "java/lang/StringUTF16", name := "compress", desc := "([CI[BII)I" } : Jvm.MethodName) jdk_52_method_21_code (7 : Nat) (Option.some Jvm.ClassFile.FieldType.int)).before args0 about1 = true := code_word (m := ⟨12, 3⟩) (meth := k12m3) (c := k12c3) (by decide +kernel) rfl rfl rfl (by decide +kernel)
set_option maxRecDepth 65536 in
theorem w_c10 : (Jvm.Cond.code ({ cls := "java/lang/StringUTF16", name := "coderFromArrayLen", desc := "([BI)B" } : Jvm.MethodName) jdk_52_method_15_code (2 : Nat) (Option.some Jvm.ClassFile.FieldType.byte)).before args0 about1 = true := code_word (m := ⟨12, 1⟩) (meth := k12m1) (c := k12c1) (by decide +kernel) rfl rfl rfl (by decide +kernel)
set_option maxRecDepth 65536 in
theorem w_c11 : (Jvm.Cond.code ({ cls := "com/example/surnia/surnia/rdf/UriRefEqualsPinLaw", name := "same", desc := "(ICCCICCC)Z" } : Jvm.MethodName) method_3_code (8 : Nat) (Option.some Jvm.ClassFile.FieldType.boolean)).before args0 about1 = true := code_word (m := ⟨1, 2⟩) (meth := k1m2) (c := k1c2) (by decide +kernel) rfl rfl rfl (by decide +kernel)
set_option maxRecDepth 65536 in
theorem w_c12 : (Jvm.Cond.code ({ cls := "com/example/surnia/surnia/rdf/UriRef", name := "equals", desc := "(Ljava/lang/Object;)Z" } : Jvm.MethodName) prog_166_method_2_code (3 : Nat) (Option.some Jvm.ClassFile.FieldType.boolean)).before args0 about1 = true := code_word (m := ⟨4, 1⟩) (meth := k4m1) (c := k4c1) (by decide +kernel) rfl rfl rfl (by decide +kernel)
set_option maxRecDepth 65536 in
theorem w_c13 : (Jvm.Cond.code ({ cls := "java/lang/String", name := "equals", desc := "(Ljava/lang/Object;)Z" } : Jvm.MethodName) jdk_42_method_66_code (3 : Nat) (Option.some Jvm.ClassFile.FieldType.boolean)).before args0 about1 = true := code_word (m := ⟨10, 2⟩) (meth := k10m2) (c := k10c2) (by decide +kernel) rfl rfl rfl (by decide +kernel)
set_option maxRecDepth 65536 in
theorem w_c14 : (Jvm.Cond.code ({ cls := "java/lang/StringLatin1", name := "equals", desc := "([B[B)Z" } : Jvm.MethodName) jdk_43_method_13_code (3 : Nat) (Option.some Jvm.ClassFile.FieldType.boolean)).before args0 about1 = true := code_word (m := ⟨13, 1⟩) (meth := k13m1) (c := k13c1) (by decide +kernel) rfl rfl rfl (by decide +kernel)
def codes1 : List Jvm.Cond := [Jvm.Cond.code x code maxLocals ret, Jvm.Cond.code ({ cls := "com/example/surnia/surnia/rdf/UriRefEqualsPinLaw", name := "mk", desc := "(ICCC)Ljava/lang/String;" } : Jvm.MethodName) method_2_code (4 : Nat) (Option.some (Jvm.ClassFile.FieldType.object "java/lang/String")), Jvm.Cond.code ({ cls := "java/lang/String", name := "<init>", desc := "([C)V" } : Jvm.MethodName) jdk_42_method_3_code (2 : Nat) (Option.none : Option Jvm.ClassFile.FieldType), Jvm.Cond.code ({ cls := "java/lang/String", name := "<init>", desc := "([CIILjava/lang/Void;)V" } : Jvm.MethodName) jdk_42_method_149_code (6 : Nat) (Option.none : Option Jvm.ClassFile.FieldType), Jvm.Cond.code ({ cls := "java/lang/Object", name := "<init>", desc := "()V" } : Jvm.MethodName) object_method_1_code (1 : Nat) (Option.none : Option Jvm.ClassFile.FieldType), Jvm.Cond.code ({ cls := "com/example/surnia/surnia/rdf/UriRef", name := "<init>", desc := "(Ljava/lang/String;)V" } : Jvm.MethodName) prog_166_method_1_code (2 : Nat) (Option.none : Option Jvm.ClassFile.FieldType), Jvm.Cond.code ({ cls := "java/lang/Record", name := "<init>", desc := "()V" } : Jvm.MethodName) jdk_30_method_1_code (1 : Nat) (Option.none : Option Jvm.ClassFile.FieldType), Jvm.Cond.code ({ cls := "java/util/Objects", name := "requireNonNull", desc := "(Ljava/lang/Object;Ljava/lang/String;)Ljava/lang/Object;" } : Jvm.MethodName) jdk_31_method_11_code (2 : Nat) (Option.some (Jvm.ClassFile.FieldType.object "java/lang/Object")), Jvm.Cond.code ({ cls := "java/lang/StringUTF16", name := "compress", desc := "([CII)[B" } : Jvm.MethodName) jdk_52_method_16_code (6 : Nat) (Option.some (Jvm.ClassFile.FieldType.array Jvm.ClassFile.FieldType.byte)), Jvm.Cond.code ({ cls := "java/lang/StringUTF16", name := "compress", desc := "([CI[BII)I" } : Jvm.MethodName) jdk_52_method_21_code (7 : Nat) (Option.some Jvm.ClassFile.FieldType.int), Jvm.Cond.code ({ cls := "java/lang/StringUTF16", name := "coderFromArrayLen", desc := "([BI)B" } : Jvm.MethodName) jdk_52_method_15_code (2 : Nat) (Option.some Jvm.ClassFile.FieldType.byte), Jvm.Cond.code ({ cls := "com/example/surnia/surnia/rdf/UriRefEqualsPinLaw", name := "same", desc := "(ICCCICCC)Z" } : Jvm.MethodName) method_3_code (8 : Nat) (Option.some Jvm.ClassFile.FieldType.boolean), Jvm.Cond.code ({ cls := "com/example/surnia/surnia/rdf/UriRef", name := "equals", desc := "(Ljava/lang/Object;)Z" } : Jvm.MethodName) prog_166_method_2_code (3 : Nat) (Option.some Jvm.ClassFile.FieldType.boolean), Jvm.Cond.code ({ cls := "java/lang/String", name := "equals", desc := "(Ljava/lang/Object;)Z" } : Jvm.MethodName) jdk_42_method_66_code (3 : Nat) (Option.some Jvm.ClassFile.FieldType.boolean), Jvm.Cond.code ({ cls := "java/lang/StringLatin1", name := "equals", desc := "([B[B)Z" } : Jvm.MethodName) jdk_43_method_13_code (3 : Nat) (Option.some Jvm.ClassFile.FieldType.boolean)]
set_option maxRecDepth 65536 in
theorem codes_eq : words1.filter isCode = codes1 := rfl
theorem w_codes : ∀ c ∈ words1.filter isCode, c.before args0 about1 = true := by
  rw [codes_eq]
  intro c hc
  simp only [codes1, List.mem_cons, List.not_mem_nil, or_false] at hc
  rcases hc with rfl | rfl | rfl | rfl | rfl | rfl | rfl | rfl | rfl | rfl | rfl | rfl | rfl | rfl | rfl
  · exact w_c0
  · exact w_c1
  · exact w_c2
  · exact w_c3
  · exact w_c4
  · exact w_c5
  · exact w_c6
  · exact w_c7
  · exact w_c8
  · exact w_c9
  · exact w_c10
  · exact w_c11
  · exact w_c12
  · exact w_c13
  · exact w_c14
set_option maxRecDepth 65536 in
theorem w_t1 : (words1.take 24).all (fun c => isCode c || c.before args0 about1) = true := by decide +kernel
set_option maxRecDepth 65536 in
theorem w_t2 : ((words1.drop 24).take 24).all (fun c => isCode c || c.before args0 about1) = true := by decide +kernel
set_option maxRecDepth 65536 in
theorem w_t3 : (((words1.drop 24).drop 24).take 24).all (fun c => isCode c || c.before args0 about1) = true := by decide +kernel
set_option maxRecDepth 65536 in
theorem w_t4 : (((words1.drop 24).drop 24).drop 24).all (fun c => isCode c || c.before args0 about1) = true := by decide +kernel
theorem w_tables : (allAtoms (Jvm.Cond.code x code maxLocals ret :: tables_1)).before args0 about1 = true := by
  rw [allAtoms_all]
  show words1.all (fun c => c.before args0 about1) = true
  refine all_split ?_ w_codes
  rw [← List.take_append_drop 24 words1, List.all_append, w_t1, ← List.take_append_drop 24 (words1.drop 24), List.all_append, w_t2, ← List.take_append_drop 24 ((words1.drop 24).drop 24), List.all_append, w_t3, w_t4]
  rfl
set_option maxRecDepth 65536 in
theorem w_rest : rest_1_c.before args0 about1 = true := by decide +kernel
set_option maxRecDepth 65536 in
theorem w_case : (Jvm.Cond.and given_1 narrow_1).before args0 about1 = true := by decide +kernel
set_option maxRecDepth 65536 in
theorem w_consts : constsHeld consts_1 about1 := Jvm.Lit.constsHeldB_iff.mp (by decide +kernel)
theorem w_applies : (headSpec (Jvm.Cond.code x code maxLocals ret :: tables_1) room_1).applies x e0.platform about1 = true :=
  (Spec.applies_iff w_frames).mpr ⟨w_running, w_runnable, w_alone, w_named, w_hears, w_ripe, w_room, w_tables⟩
theorem atStart : AtStart classFile x code maxLocals ret World_1 tables_1 room_1 Calls_1 rest_1 Pre_1 launch0 p0 e0 about1 theMethod args0 below0 :=
  ⟨lists_1, trivial, launch0.admits_env _ _ _, launch0.least_env, fairChoices_fair.cas, fairChoices_fair.clock, w_frames, w_args, w_heap, w_applies, ⟨w_consts, trivial⟩, w_rest, w_case⟩
end start1
theorem witness_1 : WitnessClaimed_1 := ⟨start1.p0, start1.e0, start1.about1, start1.theMethod, start1.args0, start1.below0, start1.atStart⟩
end Jvm.Pilot.@@N@@
