import JvmDerived
import JvmDerived.Pilot.@@N@@Statement
import JvmDerived.Pilot.@@N@@Code
set_option linter.unusedVariables false
set_option linter.unusedSimpArgs false
namespace Jvm.Pilot.@@N@@
open Jvm Jvm.ClassFile Sem Op Lib Jvm.Free Jvm.Stand Jvm.LawKit Jvm.RoadKit Bundle Jvm.Pilot.@@N@@.Jvm.D
/-- from S the method comes to its end, and what it leaves answers Q -/
def Rest (tb : Tables) (e : Env) (below : List Frame) (s : State) (Q : Option Value → Heap → List Loc → Prop) (k n : Nat) (S : State) : Prop :=
  ∃ t o, Steps tb e below S t ∧ t.status = .running ∧ Ended t below o ∧ ∃ v L, o = .returned v ∧ Q v t.heap L ∧ FrameEnd s o t L k n
theorem Rest.via {tb : Tables} {e : Env} {below : List Frame} {s : State} {Q : Option Value → Heap → List Loc → Prop} {k n : Nat} {S S' : State} (h : ∀ t, Steps tb e below S' t → Steps tb e below S t) (r : Rest tb e below s Q k n S') : Rest tb e below s Q k n S := by
  obtain ⟨t, o, h1, h2⟩ := r; exact ⟨t, o, h t h1, h2⟩
theorem Rest.ret {p : Program} {l : Launch} {e : Env} {R : Room} {s : State} {m : MethodId} {args : Array Value} {below : List Frame} {meth : Method} {c : Code} {T : State} {locs : List Loc} {cells slots : Nat} {Q : Option Value → Heap → List Loc → Prop} {k n : Nat} {S : State} {v : Option Value}
    (X : Stand p l e R s m args below meth c T locs cells slots) (hv : meth.sig.returnType = none → v = none) (hlocks : meth.locks = false)
    (st : ∀ fs, (∀ (f : JFrame) (acts : List Action), f.method = m → f.locked = none → f.entered = [] → (doReturn e (T.setTop f) acts v).1 = T.setFrames fs) → Steps p.tables e below S (T.setFrames fs))
    (hq : Q v T.heap locs) (hk : cells ≤ k) (hn : slots ≤ n) : Rest p.tables e below s Q k n S := by
  obtain ⟨fs, hr, hrun, hended, hW, hsame⟩ := X.leave (v := v) hv hlocks
  exact ⟨_, _, st fs hr, hrun, hended, _, _, rfl, hq, ⟨_, rfl⟩, hW, hsame.mono hk hn⟩
theorem own_W {Z : State} {aw : Array Value} (hw : ∀ d ∈ tables_1, d.before aw Z = true) {d : Jvm.Cond} (i : Nat) (h : tables_1[i]? = some d) : d.before aw Z = true := hw d (List.mem_of_getElem? h)
/-- the same, of a walk that may load String constants: the intern table may have grown -/
def RestW (tb : Tables) (e : Env) (below : List Frame) (s : State) (Q : Option Value → Heap → List Loc → Vm → Prop) (k n : Nat) (S : State) : Prop :=
  ∃ t o, Steps tb e below S t ∧ t.status = .running ∧ Ended t below o ∧ ∃ v L, o = .returned v ∧ Q v t.heap L t.vm ∧ ReturnedEndW s o t L k n
theorem RestW.via {tb : Tables} {e : Env} {below : List Frame} {s : State} {Q : Option Value → Heap → List Loc → Vm → Prop} {k n : Nat} {S S' : State} (h : ∀ t, Steps tb e below S' t → Steps tb e below S t) (r : RestW tb e below s Q k n S') : RestW tb e below s Q k n S := by
  obtain ⟨t, o, h1, h2⟩ := r; exact ⟨t, o, h t h1, h2⟩
theorem RestW.ret {p : Program} {l : Launch} {e : Env} {R : Room} {s : State} {vm0 : Vm} {k0 : Nat} {m : MethodId} {args : Array Value} {below : List Frame} {meth : Method} {c : Code} {T : State} {locs : List Loc} {cells slots : Nat} {Q : Option Value → Heap → List Loc → Vm → Prop} {k n : Nat} {S : State} {v : Option Value}
    (X : Stand p l e R (s.setVm vm0) m args below meth c T locs cells slots) (hS : s.Since vm0 k0) (hk0 : k0 ≤ T.heap.size) (hv : meth.sig.returnType = none → v = none) (hlocks : meth.locks = false)
    (st : ∀ fs, (∀ (f : JFrame) (acts : List Action), f.method = m → f.locked = none → f.entered = [] → (doReturn e (T.setTop f) acts v).1 = T.setFrames fs) → Steps p.tables e below S (T.setFrames fs))
    (hq : Q v T.heap locs T.vm) (hk : cells ≤ k) (hn : slots ≤ n) : RestW p.tables e below s Q k n S := by
  obtain ⟨fs, hr, hrun, hended, hW, hsame⟩ := X.leave (v := v) hv hlocks
  obtain ⟨g1, g2, g3⟩ := hS.ended (U := T.setFrames fs) hW hk0 hsame
  exact ⟨_, _, st fs hr, hrun, hended, _, _, rfl, hq, ⟨_, rfl⟩, g1, g2, g3.mono hk hn⟩
theorem own_IB_warm {Z s : State} {vm0 vm' : Vm} {Ts : List String} (I : IB Z vm0 Ts) (W : (s.setVm vm0).WarmedH vm') : IB Z vm' Ts := by
  obtain ⟨more, e, hm⟩ := I
  exact ⟨more, W.interned_eq.trans e, hm⟩
theorem own_Lit_warm {Z s : State} {vm0 vm' : Vm} {own : String} {i : Nat} {a : Addr} (L : Lit (Z.setVm vm0) own i a) (W : (s.setVm vm0).Warmed39 vm') : Lit (Z.setVm vm') own i a := State.resolvedAt?_warmed39 (s := s.setVm vm0) W L
theorem own_backV {p : Program} {l : Launch} {e : Env} {R : Room} {s : State} {args : Array Value} {below : List Frame} {Z : State} {a0 : Array Value} {h : Heap} {y : MethodName} {bytes : ByteArray} {maxL : Nat} {ret : Option FieldType} {rm : Room} {len W : Nat} {as' : Array Value} {VP : Vm → Prop} {Q : Option Value → Heap → List Loc → Vm → Prop}
    (hM : MetFree l y (head1 [Cond.code y bytes maxL ret] rm) (fun a U => a = as' ∧ Z.Warmed39 U.vm ∧ U.heap = h ∧ VP U.vm) (fun _ _ _ _ _ => True) (fun _ U o U' => ∃ v L, o = .returned v ∧ Q v U'.heap L U'.vm ∧ ReturnedEndW U o U' L rm.cells rm.slots))
    (hZ : Z.Warmed39 s.vm) (wc : (Cond.code y bytes maxL ret).before a0 Z = true) (wz : (Cond.initialized y.cls).before a0 Z = true) (hf : rm.frames + 1 ≤ R.frames) (hl : W + (maxL + 11) + rm.locals ≤ R.locals) (hV : ∀ vm', s.WarmedH vm' → VP vm') :
    BackS l R p e below s args y len W (fun A a => a = as' ∧ A.U.heap = h ∧ A.cells + rm.cells ≤ R.cells ∧ A.slots + rm.slots ≤ R.slots)
      (fun A _ v B => ∃ L, Q v B.U.heap L B.U.vm ∧ B.locs = A.locs ++ L ∧ B.cells = A.cells + rm.cells ∧ B.slots = A.slots + rm.slots) := by
  refine BackS.of_freeW (bytes := bytes) (maxL := maxL) (ret := ret) (E := fun _ _ o t L k n => k = rm.cells ∧ n = rm.slots ∧ ∃ v, o = .returned v ∧ Q v t.heap L t.vm) hM hf hl ?_ ?_ (fun _ _ _ _ _ _ _ _ _ => trivial) ?_ ?_
  · intro m meth c A a Y hp
    have hU : Z.Warmed39 A.U.vm := wtrans hZ Y.warmed
    refine ⟨?_, mv hU wc, mv hU wz, hp.2.2.1, hp.2.2.2⟩
    show (Cond.and _ .tt).before a A.U = true
    rw [Cond.before_and, mv hU wc]; rfl
  · intro m meth c A a g mk Y hp
    exact ⟨hp.1, wtrans hZ Y.warmed, hp.2.1, hV _ Y.warmed⟩
  · rintro _ _ _ _ ⟨v, L, h1, h2, h3⟩
    exact ⟨L, _, _, h3, rfl, rfl, v, h1, h2⟩
  · intro m meth c A a g mk v t L k n Y hp _ _ hE
    obtain ⟨e1, e2, v', e3, e4⟩ := hE
    cases e3
    subst e1 e2
    exact ⟨L, e4, rfl, rfl, rfl⟩

def own_by (c : Int32) : Int32 := c.toInt8.toInt32
theorem own_by_nar (c : Int32) : (c.toInt8.toInt32).toInt8.toInt32 = own_by c := by
  show (c.toInt8.toInt32).toInt8.toInt32 = c.toInt8.toInt32
  simp
def own_CS (Z : State) (ic : Int32) : Prop := Sta Z Z.heap "java/lang/String" "COMPACT_STRINGS" "Z" (.int ic) ∧ ¬ (ic = (0 : Int32))
def own_St (Z : State) (h : Heap) (t va : Addr) (k : ClassId) (n : Int32) (vs : List Value) : Prop := Exa Z h t "java/lang/String" ∧ Fld Z h t "java/lang/String" "value" "[B" (.ref va) ∧ Fld Z h t "java/lang/String" "coder" "B" (.int (0 : Int32)) ∧ Arv Z h va k .byte n vs (.int (0 : Int32))
theorem own_St_ext {Z : State} {h h' : Heap} {t va : Addr} {k : ClassId} {n : Int32} {vs : List Value} (E : Ext h h') (F : own_St Z h t va k n vs) : own_St Z h' t va k n vs := by
  obtain ⟨a, b, c, d⟩ := F
  exact ⟨a.ext E, b.ext E, c.ext E, d.ext E⟩
theorem own_St_keep {Z : State} {h h' : Heap} {t va : Addr} {k : ClassId} {n : Int32} {vs : List Value} {ws : List Addr} (F : own_St Z h t va k n vs) (K : Keep h h' ws) (q1 : t ∉ ws) (q2 : va ∉ ws) : own_St Z h' t va k n vs := by
  obtain ⟨a, b, c, d⟩ := F
  exact ⟨a.keep K, b.keep K q1, c.keep K q1, d.keep K q2⟩
theorem own_clamp (n : Int32) : n.toNatClampNeg < 2 ^ 31 := by
  have h := Int32.toInt_lt n
  show n.toInt.toNat < 2 ^ 31
  omega
theorem own_copy {p : Program} {l : Launch} {e : Env} {R : Room} {s : State} {m : MethodId} {args : Array Value} {below : List Frame} {meth : Method} {c : Code} {T : State} {locs : List Loc} {cells slots : Nat} {Z : State} {a0 : Array Value} {h : Heap}
    (X : Stand p l e R s m args below meth c T locs cells slots) (hx : p.tables.exec = Jvm.exec) (hZ : Z.Warmed39 s.vm) {own : String} {index : Nat} (hown : s.vm.findClass own = some m.cls)
    (w1 : (Cond.methodLink own index ⟨"java/lang/System", "arraycopy", "(Ljava/lang/Object;ILjava/lang/Object;II)V"⟩).before a0 Z = true) (w2 : (Cond.native ⟨"java/lang/System", "arraycopy", "(Ljava/lang/Object;ILjava/lang/Object;II)V"⟩).before a0 Z = true) (w3 : (Cond.static ⟨"java/lang/System", "arraycopy", "(Ljava/lang/Object;ILjava/lang/Object;II)V"⟩).before a0 Z = true) (w4 : (Cond.initialized "java/lang/System").before a0 Z = true)
    (eT : T.heap = h) {src dst : Addr} {ks kd : ClassId} {n z jq jn : Int32} {xs ys : List Value} (Vs : Arv Z h src ks .byte n ys (.int (0 : Int32))) (Vd : Arv Z h dst kd .byte z xs (.int (0 : Int32))) (hq : jq = Int32.ofNat xs.length) (hn : jn = Int32.ofNat ys.length) (hs : ys.length ≤ n.toNatClampNeg) (hd : xs.length + ys.length ≤ z.toNatClampNeg)
    {g : JFrame} (hg : g.method = m) (hsize : g.locals.size = c.maxLocals) {rest : List Value} (hstack : g.stack = .int jn :: .int jq :: .ref dst :: .int (0 : Int32) :: .ref src :: rest) (hdg : decode c.code g.pc = .ok (.invokestatic index, 3)) {W : Nat} (hW : 2 * g.monitorRoom + (rest.map fun v => v.category).sum ≤ W) (hfr : 1 ≤ R.frames) (hlo : W + 40 ≤ R.locals) :
    ∃ (T' : State) (h' : Heap) (L : List Loc), Stand p l e R s m args below meth c T' (locs ++ L) cells slots ∧ T'.heap = h' ∧ Keep h h' [dst] ∧ (∀ k : Nat, k ≤ dst → Fr k L) ∧ Arv Z h' dst kd .byte z (xs ++ ys) (.int (0 : Int32)) ∧
      ∀ target, Steps p.tables e below (T'.setTop { g with pc := g.pc + 3, stack := rest }) target → Steps p.tables e below (T.setTop g) target := by
  subst eT
  obtain ⟨A, Aa, -, Sa, Pa, Ha, Ga⟩ := Vs
  obtain ⟨B, Ab, eb, Sb, Pb, Hb, Gb⟩ := Vd
  have hA : Jvm.Free.XT.Arr .byte src A T := ⟨Aa.1, State.isArrayOf_alike X.warmed.alike (State.isArrayOf_alike hZ.alike Aa.2.1), Aa.2.2, by rw [Sa]; exact own_clamp n⟩
  have hB : Jvm.Free.XT.Arr .byte dst B T := ⟨Ab.1, State.isArrayOf_alike X.warmed.alike (State.isArrayOf_alike hZ.alike Ab.2.1), Ab.2.2, by rw [Sb]; exact own_clamp z⟩
  have hin : ∀ i, i < ys.length → A.slots.getD i .null = ys.getD i (.int (0 : Int32)) := fun i hi => SBG.getD_of (Ha i (by omega))
  have hgo : Jvm.Free.XT.Goes .byte A 0 ys.length B T := fun i hi => ⟨by rw [Nat.zero_add, hin i hi]; exact Ga i (by omega), fun hr => by cases hr⟩
  obtain ⟨T', B', X', hP, e1, e2, e3, hcopy, st⟩ := X.acopy hx hown (fun w hw => by
    simp only [Jvm.Free.XT.acW, List.mem_cons, List.not_mem_nil, or_false] at hw
    rcases hw with rfl | rfl | rfl | rfl
    · exact mvT hZ w1
    · exact mvT hZ w2
    · exact mvT hZ w3
    · exact mvT hZ w4) hA hB rfl (o := 0) (q := xs.length) (n := ys.length) rfl hq hn (by omega) (by omega) hgo hg hsize hstack hdg hW hfr hlo
  have hget : ∀ k, k < B'.slots.size → (B'.slots[k]? = some ((xs ++ ys).getD k (.int (0 : Int32))) ∧ fits .byte ((xs ++ ys).getD k (.int (0 : Int32))) = true) := by
    intro k hk
    rw [hcopy k]
    rw [e3] at hk
    by_cases q1 : k < xs.length
    · have e : (xs ++ ys).getD k (.int (0 : Int32)) = xs.getD k (.int (0 : Int32)) := by simp [List.getD, List.getElem?_append_left q1]
      rw [if_neg (by omega), e]
      exact ⟨Hb k hk, Gb k hk⟩
    · by_cases q2 : k < xs.length + ys.length
      · have e : (xs ++ ys).getD k (.int (0 : Int32)) = ys.getD (k - xs.length) (.int (0 : Int32)) := by simp [List.getD, List.getElem?_append_right (Nat.le_of_not_lt q1)]
        rw [if_pos ⟨by omega, q2⟩, e, Nat.zero_add, hin _ (by omega)]
        exact ⟨rfl, Ga _ (by omega)⟩
      · have e : (xs ++ ys).getD k (.int (0 : Int32)) = xs.getD k (.int (0 : Int32)) := by
          simp only [List.getD]
          rw [List.getElem?_eq_none (by simp; omega), List.getElem?_eq_none (by omega)]
        rw [if_neg (by omega), e]
        exact ⟨Hb k hk, Gb k hk⟩
  refine ⟨T', T'.heap, Jvm.Stand.copyLocs dst xs.length ys.length, X', rfl, ⟨Nat.le_of_eq hP.2.2.symm, fun x cc q r => (hP.2.1 x (fun e => r (by simp [e]))).trans q, fun x cc q => ?_⟩, fun k hk y hy => ?_, ⟨B', ⟨hP.1, ?_, by rw [e2]; exact Ab.2.2⟩, e1.trans eb, e3.trans Sb, Pb, fun k hk => (hget k hk).1, fun k hk => (hget k hk).2⟩, st⟩
  · by_cases hxd : x = dst
    · subst hxd
      cases (Option.some.inj (q.symm.trans Ab.1) : cc = B)
      exact ⟨B', hP.1, e1, e2, e3⟩
    · exact ⟨cc, (hP.2.1 x hxd).trans q, rfl, rfl, rfl⟩
  · simp only [Jvm.Stand.copyLocs, List.mem_map] at hy
    obtain ⟨i, -, rfl⟩ := hy
    exact hk
  · obtain ⟨q1, q2⟩ := Ab.2.1
    exact ⟨by rw [e2]; exact q1, by rw [e1]; exact q2⟩
theorem own_selup {s : State} {args : Array Value} {C : String} {y : MethodName} (ws : (Jvm.Cond.selects C y y).before args s = true) (wp : (Jvm.Cond.privateMethod y).before args s = true) (wm : (Jvm.Cond.instanceMethod y).before args s = true)
    (hy : y.cls ≠ "java/lang/invoke/MethodHandle" ∧ y.cls ≠ "java/lang/invoke/VarHandle") : (Jvm.Cond.selects y.cls y y).before args s = true := by
  obtain ⟨c2, r2, m2, -, -, q3, -, kP, hkP, hkPi⟩ := Cond.selects_spec ws
  exact selects_self_of_private (findClass_of_methodNamed q3) hkP hkPi (Cond.privateMethod_at wp) wm hy
theorem own_sameM {s : State} {args : Array Value} {C : String} {y z : MethodName} (ws : (Jvm.Cond.selects C z z).before args s = true) (hz : z.cls = y.cls) (wm : (Jvm.Cond.instanceMethod y).before args s = true)
    (hy : y.cls ≠ "java/lang/invoke/MethodHandle" ∧ y.cls ≠ "java/lang/invoke/VarHandle") : (Jvm.Cond.sameMethod y.cls y.cls y.name y.desc).before args s = true := by
  obtain ⟨mk, methM, hnamed, hmethM, -, -⟩ := Cond.instanceMethod_spec wm
  have hfound := State.methodFound?_of_named hnamed hy
  obtain ⟨c2, r2, m2, -, -, q3, -, kP, hkP, hkPi⟩ := Cond.selects_spec ws
  have hc := findClass_of_methodNamed hnamed
  have hc2 := findClass_of_methodNamed q3
  rw [hz] at hc2
  have e : m2.cls = mk.cls := Option.some.inj (hc2.symm.trans hc)
  rw [e] at hkP
  simp only [Cond.before, Cond.holds, Cond.value, hc, hfound, hnamed]
  simp [hkP, hkPi]
def own_Old (Z : State) (n0 : Nat) (h : Heap) : Prop := Z.heap.size ≤ n0 ∧ Ext Z.heap h
theorem own_Old.keep {Z : State} {n0 : Nat} {h h' : Heap} {ws : List Addr} (O : own_Old Z n0 h) (K : Keep h h' ws) (q : ∀ x ∈ ws, n0 ≤ x) : own_Old Z n0 h' :=
  ⟨O.1, Nat.le_trans O.2.1 K.1, fun x c r => K.2.1 x c (O.2.2 x c r) fun z => absurd (Array.getElem?_eq_some_iff.mp r).1 (Nat.not_lt.mpr (Nat.le_trans O.1 (q x z)))⟩
theorem own_Old.hi {Z : State} {n0 : Nat} {h : Heap} (O : own_Old Z n0 h) (q : n0 ≤ h.size) : own_Old Z h.size h := ⟨Nat.le_trans O.1 q, O.2⟩
theorem own_Fr_lo {k n : Nat} {L : List Loc} (q : n ≤ k) (N : Fr k L) : Fr n L := fun y hy => Nat.le_trans q (N y hy)
theorem own_IB_mono {Z : State} {vm : Vm} {Ts Us : List String} (I : IB Z vm Ts) (q : ∀ t ∈ Ts, t ∈ Us) : IB Z vm Us := by
  obtain ⟨more, e, hm⟩ := I
  exact ⟨more, e, fun x hx => by obtain ⟨t, h1, h2⟩ := hm x hx; exact ⟨t, q t h1, h2⟩⟩
def own_ln (n : Int32) (xs : List Int32) : Prop := n.toInt = xs.length ∧ xs.length ≤ 16
theorem own_ln.cl {n : Int32} {xs : List Int32} (h : own_ln n xs) : n.toNatClampNeg = xs.length := by
  have h1 := h.1
  show n.toInt.toNat = _
  omega
theorem own_ln.of {n : Int32} {xs : List Int32} (h : own_ln n xs) : n = Int32.ofNat xs.length := by
  have h2 := h.2
  apply Int32.toInt_inj.mp
  rw [Int32.toInt_ofNat_small (by omega)]
  exact h.1
theorem own_ln.nn {n : Int32} {xs : List Int32} (h : own_ln n xs) : ¬ n < (0 : Int32) := by
  have h1 := h.1
  have e0 : (0 : Int32).toInt = 0 := by decide
  rw [Int32.lt_iff_toInt_lt]
  omega
theorem own_ln.app {n k : Int32} {xs ys : List Int32} (h : own_ln n xs) (g : own_ln k ys) (q : xs.length + ys.length ≤ 16) : own_ln (n + k) (xs ++ ys) := by
  have a := c_iadd n k
  have b := Int32.toInt_lt (n + k)
  have d := Int32.le_toInt (n + k)
  have h1 := h.1
  have g1 := g.1
  unfold own_ln
  rw [List.length_append]
  omega
theorem own_lt {a b : Int32} {A B : Int} (ha : a.toInt = A) (hb : b.toInt = B) (h : A < B) : a < b := by rw [Int32.lt_iff_toInt_lt, ha, hb]; exact h
theorem own_nlt {a b : Int32} {A B : Int} (ha : a.toInt = A) (hb : b.toInt = B) (h : ¬ A < B) : ¬ a < b := by rw [Int32.lt_iff_toInt_lt, ha, hb]; exact h
theorem own_shr0 (n : Int32) : n >>> ((0 : Int32) &&& 31) = n := by
  have e := c_ishr n 0 0 (by decide)
  apply Int32.toInt_inj.mp
  rw [e]; simp
theorem own_shl0 (n : Int32) : n <<< ((0 : Int32) &&& 31) = n := by
  have e := c_ishl n 0 0 (by decide)
  have a := Int32.toInt_lt (n <<< ((0 : Int32) &&& 31))
  have b := Int32.le_toInt (n <<< ((0 : Int32) &&& 31))
  have c := Int32.toInt_lt n
  have d := Int32.le_toInt n
  apply Int32.toInt_inj.mp
  simp only [Nat.pow_zero, Int.natCast_one, Int.mul_one] at e
  omega
theorem own_negneg (n : Int32) : -(-n) = n := Int32.neg_neg
theorem own_assoc (n a b : Int32) : (n + a) + b = n + (a + b) := Int32.add_assoc n a b
theorem own_add0 (n : Int32) : n + (0 : Int32) = n := by simp
theorem own_sub0 (n : Int32) : n - (0 : Int32) = n := by simp
def own_p10 (e : Int32) : Int32 := if e = (0 : Int32) then 1 else if e = (1 : Int32) then 10 else if e = (2 : Int32) then 100 else if e = (3 : Int32) then 1000 else 10000
def own_dg (p d k : Int32) : Int32 := (48 : Int32) + ((p / own_p10 ((d - (1 : Int32)) - k)) % (10 : Int32))
def own_pt (p : Int32) : Prop := ¬ p < (1 : Int32) ∧ ¬ (65535 : Int32) < p
theorem own_pt.int {p : Int32} (h : own_pt p) : 1 ≤ p.toInt ∧ p.toInt ≤ 65535 := by
  have e1 : (1 : Int32).toInt = 1 := by decide
  have e2 : (65535 : Int32).toInt = 65535 := by decide
  have h1 := h.1
  have h2 := h.2
  rw [Int32.lt_iff_toInt_lt] at h1 h2
  omega
theorem own_pt.neg {p : Int32} (h : own_pt p) : (-p).toInt = -p.toInt := by
  have a := c_ineg p
  have b := h.int
  have c := Int32.toInt_lt (-p)
  have d := Int32.le_toInt (-p)
  omega
def own_dd (p : Int32) : Int32 := if p < (10000 : Int32) then (if p < (1000 : Int32) then (if p < (100 : Int32) then (if p < (10 : Int32) then 1 else 2) else 3) else 4) else 5
theorem own_dcase {p : Int32} (h : own_pt p) : (own_dd p = 1 ∧ 1 ≤ p.toInt ∧ p.toInt < 10) ∨ (own_dd p = 2 ∧ 10 ≤ p.toInt ∧ p.toInt < 100) ∨ (own_dd p = 3 ∧ 100 ≤ p.toInt ∧ p.toInt < 1000) ∨ (own_dd p = 4 ∧ 1000 ≤ p.toInt ∧ p.toInt < 10000) ∨ (own_dd p = 5 ∧ 10000 ≤ p.toInt ∧ p.toInt < 65536) := by
  have b := h.int
  have e1 : (10 : Int32).toInt = 10 := by decide
  have e2 : (100 : Int32).toInt = 100 := by decide
  have e3 : (1000 : Int32).toInt = 1000 := by decide
  have e4 : (10000 : Int32).toInt = 10000 := by decide
  unfold own_dd
  by_cases h4 : p < (10000 : Int32)
  · rw [if_pos h4]
    by_cases h3 : p < (1000 : Int32)
    · rw [if_pos h3]
      by_cases h2 : p < (100 : Int32)
      · rw [if_pos h2]
        by_cases h1 : p < (10 : Int32)
        · rw [if_pos h1]; rw [Int32.lt_iff_toInt_lt] at h1; exact Or.inl ⟨rfl, by omega⟩
        · rw [if_neg h1]; rw [Int32.lt_iff_toInt_lt] at h1 h2; exact Or.inr (Or.inl ⟨rfl, by omega⟩)
      · rw [if_neg h2]; rw [Int32.lt_iff_toInt_lt] at h2 h3; exact Or.inr (Or.inr (Or.inl ⟨rfl, by omega⟩))
    · rw [if_neg h3]; rw [Int32.lt_iff_toInt_lt] at h3 h4; exact Or.inr (Or.inr (Or.inr (Or.inl ⟨rfl, by omega⟩)))
  · rw [if_neg h4]; rw [Int32.lt_iff_toInt_lt] at h4; exact Or.inr (Or.inr (Or.inr (Or.inr ⟨rfl, by omega⟩)))
theorem own_dgt {p t : Int32} (h : own_pt p) {q : Int} (ht : t.toInt = q) (h1 : q = 1 ∨ q = 10 ∨ q = 100 ∨ q = 1000 ∨ q = 10000) : ((48 : Int32) + ((p / t) % (10 : Int32))).toInt = 48 + (p.toInt / q) % 10 := by
  have b := h.int
  have hn : t ≠ -1 := fun e => by rw [e] at ht; have : (-1 : Int32).toInt = -1 := by decide
                                  omega
  have a := (c_idiv p t q ht hn).1 (by omega)
  have d : 0 ≤ (p / t).toInt := by rw [a]; rcases h1 with rfl | rfl | rfl | rfl | rfl <;> omega
  have e10 : (10 : Int32).toInt = 10 := by decide
  have r := (c_irem (p / t) 10 10 e10).1 d
  have s := c_iadd 48 ((p / t) % (10 : Int32))
  have e48 : (48 : Int32).toInt = 48 := by decide
  have l1 := Int32.toInt_lt ((48 : Int32) + ((p / t) % (10 : Int32)))
  have l2 := Int32.le_toInt ((48 : Int32) + ((p / t) % (10 : Int32)))
  rw [a] at r
  omega
theorem own_dgI {p d k : Int32} (h : own_pt p) {q : Int} (ht : (own_p10 ((d - (1 : Int32)) - k)).toInt = q) (h1 : q = 1 ∨ q = 10 ∨ q = 100 ∨ q = 1000 ∨ q = 10000) : (own_dg p d k).toInt = 48 + (p.toInt / q) % 10 := own_dgt h ht h1
theorem own_it {i q r : Int32} {I : Int} (hi : i.toInt = -I) (h0 : 0 ≤ I) (h1 : I ≤ 65535) (hq : q = i / (100 : Int32)) (hr : r = (q * (100 : Int32)) - i) : q.toInt = -(I / 100) ∧ r.toInt = I % 100 := by
  have e : (100 : Int32).toInt = 100 := by decide
  have a := c_idiv i 100 100 e (by decide)
  have b : q.toInt = -(I / 100) := by
    rw [hq]
    by_cases z : 0 ≤ i.toInt
    · rw [a.1 z, hi]; omega
    · rw [a.2 (by omega), hi]; omega
  refine ⟨b, ?_⟩
  have c := c_imul q 100
  have d := c_isub (q * (100 : Int32)) i
  rw [← hr] at d
  rw [e, b] at c
  have l1 := Int32.toInt_lt r
  have l2 := Int32.le_toInt r
  omega
theorem own_nb {x : Int32} (h1 : 0 ≤ x.toInt) (h2 : x.toInt < 128) : nar .byte x = x := by
  have a := c_i2b x
  apply Int32.toInt_inj.mp
  show (x.toInt8.toInt32).toInt = _
  omega
theorem own_one {r : Int32} {R : Int} (hr : r.toInt = R) (h0 : 0 ≤ R) (h1 : R < 100) : ((48 : Int32) + (r % (10 : Int32))).toInt = 48 + R % 10 := by
  have e10 : (10 : Int32).toInt = 10 := by decide
  have e48 : (48 : Int32).toInt = 48 := by decide
  have a := (c_irem r 10 10 e10).1 (by omega)
  have s := c_iadd 48 (r % (10 : Int32))
  have l1 := Int32.toInt_lt ((48 : Int32) + (r % (10 : Int32)))
  have l2 := Int32.le_toInt ((48 : Int32) + (r % (10 : Int32)))
  omega
theorem own_ten {r : Int32} {R : Int} (hr : r.toInt = R) (h0 : 0 ≤ R) (h1 : R < 100) : ((48 : Int32) + (r / (10 : Int32))).toInt = 48 + R / 10 := by
  have e10 : (10 : Int32).toInt = 10 := by decide
  have e48 : (48 : Int32).toInt = 48 := by decide
  have a := (c_idiv r 10 10 e10 (by decide)).1 (by omega)
  have s := c_iadd 48 (r / (10 : Int32))
  have l1 := Int32.toInt_lt ((48 : Int32) + (r / (10 : Int32)))
  have l2 := Int32.le_toInt ((48 : Int32) + (r / (10 : Int32)))
  omega
theorem own_eO {r D : Int32} {R : Int} (hr : r.toInt = R) (h0 : 0 ≤ R) (h1 : R < 100) (hd : D.toInt = 48 + R % 10) : nar .byte ((48 : Int32) + (r % (10 : Int32))) = D := by
  have a := own_one hr h0 h1
  rw [own_nb (by omega) (by omega)]
  exact Int32.toInt_inj.mp (by omega)
theorem own_eT {r D : Int32} {R : Int} (hr : r.toInt = R) (h0 : 0 ≤ R) (h1 : R < 100) (hd : D.toInt = 48 + R / 10) : nar .byte ((48 : Int32) + (r / (10 : Int32))) = D := by
  have a := own_ten hr h0 h1
  rw [own_nb (by omega) (by omega)]
  exact Int32.toInt_inj.mp (by omega)
def own_dgs (dd p : Int32) : List Int32 := if dd = (1 : Int32) then [own_dg p 1 0] else if dd = (2 : Int32) then [own_dg p 2 0, own_dg p 2 1] else if dd = (3 : Int32) then [own_dg p 3 0, own_dg p 3 1, own_dg p 3 2] else if dd = (4 : Int32) then [own_dg p 4 0, own_dg p 4 1, own_dg p 4 2, own_dg p 4 3] else [own_dg p 5 0, own_dg p 5 1, own_dg p 5 2, own_dg p 5 3, own_dg p 5 4]
theorem own_dgs_1 (p : Int32) : own_dgs 1 p = [own_dg p 1 0] := by simp [own_dgs]
theorem own_dgs_2 (p : Int32) : own_dgs 2 p = [own_dg p 2 0, own_dg p 2 1] := by simp [own_dgs]
theorem own_dgs_3 (p : Int32) : own_dgs 3 p = [own_dg p 3 0, own_dg p 3 1, own_dg p 3 2] := by simp [own_dgs]
theorem own_dgs_4 (p : Int32) : own_dgs 4 p = [own_dg p 4 0, own_dg p 4 1, own_dg p 4 2, own_dg p 4 3] := by simp [own_dgs]
theorem own_dgs_5 (p : Int32) : own_dgs 5 p = [own_dg p 5 0, own_dg p 5 1, own_dg p 5 2, own_dg p 5 3, own_dg p 5 4] := by simp [own_dgs]
theorem own_dln {p : Int32} (h : own_pt p) : own_ln (own_dd p) (own_dgs (own_dd p) p) ∧ (own_dgs (own_dd p) p).length ≤ 5 := by
  rcases own_dcase h with ⟨e, -⟩ | ⟨e, -⟩ | ⟨e, -⟩ | ⟨e, -⟩ | ⟨e, -⟩
  · rw [e, own_dgs_1]; exact ⟨⟨by simp, by simp⟩, by simp⟩
  · rw [e, own_dgs_2]; exact ⟨⟨by simp, by simp⟩, by simp⟩
  · rw [e, own_dgs_3]; exact ⟨⟨by simp, by simp⟩, by simp⟩
  · rw [e, own_dgs_4]; exact ⟨⟨by simp, by simp⟩, by simp⟩
  · rw [e, own_dgs_5]; exact ⟨⟨by simp, by simp⟩, by simp⟩
theorem own_sz1 {p : Int32} (h : own_pt p) (a : (-10 : Int32) < -p) : own_dd p = 1 := by
  rw [Int32.lt_iff_toInt_lt, h.neg, (by decide : (-10 : Int32).toInt = -10)] at a
  rcases own_dcase h with ⟨e, q⟩ | ⟨e, q⟩ | ⟨e, q⟩ | ⟨e, q⟩ | ⟨e, q⟩ <;> first | exact e | omega
theorem own_sz2 {p : Int32} (h : own_pt p) (b : ¬ (-10 : Int32) < -p) (a : (-100 : Int32) < -p) : own_dd p = 2 := by
  rw [Int32.lt_iff_toInt_lt, h.neg, (by decide : (-100 : Int32).toInt = -100)] at a
  rw [Int32.lt_iff_toInt_lt, h.neg, (by decide : (-10 : Int32).toInt = -10)] at b
  rcases own_dcase h with ⟨e, q⟩ | ⟨e, q⟩ | ⟨e, q⟩ | ⟨e, q⟩ | ⟨e, q⟩ <;> first | exact e | omega
theorem own_sz3 {p : Int32} (h : own_pt p) (b : ¬ (-100 : Int32) < -p) (a : (-1000 : Int32) < -p) : own_dd p = 3 := by
  rw [Int32.lt_iff_toInt_lt, h.neg, (by decide : (-1000 : Int32).toInt = -1000)] at a
  rw [Int32.lt_iff_toInt_lt, h.neg, (by decide : (-100 : Int32).toInt = -100)] at b
  rcases own_dcase h with ⟨e, q⟩ | ⟨e, q⟩ | ⟨e, q⟩ | ⟨e, q⟩ | ⟨e, q⟩ <;> first | exact e | omega
theorem own_sz4 {p : Int32} (h : own_pt p) (b : ¬ (-1000 : Int32) < -p) (a : (-10000 : Int32) < -p) : own_dd p = 4 := by
  rw [Int32.lt_iff_toInt_lt, h.neg, (by decide : (-10000 : Int32).toInt = -10000)] at a
  rw [Int32.lt_iff_toInt_lt, h.neg, (by decide : (-1000 : Int32).toInt = -1000)] at b
  rcases own_dcase h with ⟨e, q⟩ | ⟨e, q⟩ | ⟨e, q⟩ | ⟨e, q⟩ | ⟨e, q⟩ <;> first | exact e | omega
theorem own_sz5 {p : Int32} (h : own_pt p) (b : ¬ (-10000 : Int32) < -p) : own_dd p = 5 := by
  rw [Int32.lt_iff_toInt_lt, h.neg, (by decide : (-10000 : Int32).toInt = -10000)] at b
  rcases own_dcase h with ⟨e, q⟩ | ⟨e, q⟩ | ⟨e, q⟩ | ⟨e, q⟩ | ⟨e, q⟩ <;> first | exact e | omega
theorem own_getm (xs : List Int32) (k : Nat) : (xs.map Value.int).getD k (.int (0 : Int32)) = .int (xs.getD k 0) := by
  simp only [List.getD, List.getElem?_map]
  cases xs[k]? <;> rfl
theorem own_setm (xs : List Int32) (r : List Value) (k : Nat) (v : Value) : ((xs.map Value.int) ++ r).set (xs.length + k) v = xs.map Value.int ++ r.set k v := by
  rw [List.set_append, if_neg (by simp)]
  simp
theorem own_mid {ts A B C : List Int32} (h : ts = A ++ B ++ C) {k i : Nat} (hk : k = A.length + i) (hi : i < B.length) : ts.getD k 0 = B.getD i 0 := by
  subst h hk
  simp only [List.getD]
  rw [List.append_assoc, List.getElem?_append_right (by omega), List.getElem?_append_left (by omega)]
  congr 2; omega
def own_DA (Z : State) (h : Heap) (a : Addr) (f : Int32 → Int32) : Prop := ∃ cl : Cell, Arr Z h a cl .byte ∧ cl.slots.size = 100 ∧ ∀ j : Int32, ¬ j < (0 : Int32) → j < (100 : Int32) → cl.slots[j.toNatClampNeg]? = some (.int (f j))
theorem own_DA_keep {Z : State} {h h' : Heap} {a : Addr} {f : Int32 → Int32} {ws : List Addr} (F : own_DA Z h a f) (K : Keep h h' ws) (q : a ∉ ws) : own_DA Z h' a f := by
  obtain ⟨cl, A, r⟩ := F
  exact ⟨cl, ⟨K.2.1 a cl A.1 q, A.2⟩, r⟩
theorem own_inb100 {cl : Cell} {j : Int32} (S : cl.slots.size = 100) (h0 : ¬ j < (0 : Int32)) (h1 : j < (100 : Int32)) : ¬ (j < 0 ∨ cl.slots.size ≤ j.toNatClampNeg) := by
  rw [Int32.lt_iff_toInt_lt, (by decide : (100 : Int32).toInt = 100)] at h1
  rintro (q | q)
  · exact h0 q
  · rw [S] at q
    have : j.toNatClampNeg = j.toInt.toNat := rfl
    omega
theorem own_ix {cn k : Int32} {xs : List Int32} {K : Nat} (h : own_ln cn xs) (hk : k.toInt = K) (hs : xs.length + K < 16) : (¬ (cn + k) < (0 : Int32) ∧ (cn + k) < (16 : Int32)) ∧ (cn + k).toNatClampNeg = xs.length + K := by
  have a := c_iadd cn k
  have b := Int32.toInt_lt (cn + k)
  have c := Int32.le_toInt (cn + k)
  have h1 := h.1
  have e : (cn + k).toInt = xs.length + K := by omega
  refine ⟨⟨own_nlt e (by decide : (0 : Int32).toInt = 0) (by omega), own_lt e (by decide : (16 : Int32).toInt = 16) (by omega)⟩, ?_⟩
  show (cn + k).toInt.toNat = _
  omega
theorem own_notFace {args : Array Value} {s : State} {C : String} {y z : MethodName} (ws : (Jvm.Cond.selects C z z).before args s = true) (hz : z.cls = y.cls) : NotFace s y := fun r0 h0 => by
  obtain ⟨c2, r2, m2, -, -, q3, -, kP, hkP, hkPi⟩ := Cond.selects_spec ws
  have e := findClass_of_methodNamed h0
  have e2 := findClass_of_methodNamed q3
  rw [hz] at e2
  have e3 : m2.cls = r0.cls := Option.some.inj (e2.symm.trans e)
  exact ⟨kP, e3 ▸ hkP, hkPi⟩

theorem d44_0 : decode jdk_52_method_21_code 0 = .ok (.iconst 0, 1) := by decide +kernel
theorem d44_1 : decode jdk_52_method_21_code 1 = .ok (.istore 5, 2) := by decide +kernel
theorem d44_3 : decode jdk_52_method_21_code 3 = .ok (.iload 5, 2) := by decide +kernel
theorem d44_5 : decode jdk_52_method_21_code 5 = .ok (.iload 4, 2) := by decide +kernel
theorem d44_7 : decode jdk_52_method_21_code 7 = .ok (.if_icmp .ge 37, 3) := by decide +kernel
theorem d44_10 : decode jdk_52_method_21_code 10 = .ok (.aload_n 0, 1) := by decide +kernel
theorem d44_11 : decode jdk_52_method_21_code 11 = .ok (.iload_n 1, 1) := by decide +kernel
theorem d44_12 : decode jdk_52_method_21_code 12 = .ok (.caload, 1) := by decide +kernel
theorem d44_13 : decode jdk_52_method_21_code 13 = .ok (.istore 6, 2) := by decide +kernel
theorem d44_15 : decode jdk_52_method_21_code 15 = .ok (.iload 6, 2) := by decide +kernel
theorem d44_17 : decode jdk_52_method_21_code 17 = .ok (.sipush 255, 3) := by decide +kernel
theorem d44_20 : decode jdk_52_method_21_code 20 = .ok (.if_icmp .le 6, 3) := by decide +kernel
theorem d44_26 : decode jdk_52_method_21_code 26 = .ok (.aload_n 2, 1) := by decide +kernel
theorem d44_27 : decode jdk_52_method_21_code 27 = .ok (.iload_n 3, 1) := by decide +kernel
theorem d44_28 : decode jdk_52_method_21_code 28 = .ok (.iload 6, 2) := by decide +kernel
theorem d44_30 : decode jdk_52_method_21_code 30 = .ok (.i2b, 1) := by decide +kernel
theorem d44_31 : decode jdk_52_method_21_code 31 = .ok (.bastore, 1) := by decide +kernel
theorem d44_32 : decode jdk_52_method_21_code 32 = .ok (.iinc 1 1, 3) := by decide +kernel
theorem d44_35 : decode jdk_52_method_21_code 35 = .ok (.iinc 3 1, 3) := by decide +kernel
theorem d44_38 : decode jdk_52_method_21_code 38 = .ok (.iinc 5 1, 3) := by decide +kernel
theorem d44_41 : decode jdk_52_method_21_code 41 = .ok (.goto (-38), 3) := by decide +kernel
theorem d44_44 : decode jdk_52_method_21_code 44 = .ok (.iload 4, 2) := by decide +kernel
theorem d44_46 : decode jdk_52_method_21_code 46 = .ok (.ireturn, 1) := by decide +kernel
theorem pn_0 : plainName "java/lang/StringUTF16" = true := by first | (simp [plainName, overriddenIn]; done) | decide +kernel
theorem ef_U1 (m : MethodId) (a0 : Addr) (a2 : Addr) : entryFrame m #[(.ref a0), (.int (0 : Int32)), (.ref a2), (.int (0 : Int32)), (.int (1 : Int32))] 7 = mkF m 0 #[.val (.ref a0), .val (.int (0 : Int32)), .val (.ref a2), .val (.int (0 : Int32)), .val (.int (1 : Int32)), .unset, .unset] [] := by first | (simp [entryFrame, mkF, argsToLocals, Value.category, maxLocals]; done) | rfl
def QU1 (Z : State) (a0 : Addr) (a2 : Addr) (kc : ClassId) (kb : ClassId) (ca : Int32) (h0 : Heap) (n0 : Nat) (v : Option Value) (h : Heap) (L : List Loc) : Prop := v = some (.int (1 : Int32)) ∧ Fr n0 L ∧ Keep h0 h [a2] ∧ Arv Z h a2 kb .byte (1 : Int32) [(.int (own_by ca))] (.int (0 : Int32))
set_option maxRecDepth 65536 in
set_option maxHeartbeats 40000000 in
theorem rmU1 (l : Launch) (Z : State) (aw : Array Value) (hw : ∀ d ∈ tables_1, d.before aw Z = true) (ws : List Jvm.Cond) (a0 : Addr) (a2 : Addr) (kc : ClassId) (kb : ClassId) (ca : Int32) (h0 : Heap) (n0 : Nat) (Z0 : n0 ≤ h0.size) (V0 : Arv Z h0 a0 kc .char (1 : Int32) [(.int ca)] (.int (0 : Int32))) (V2 : Arv Z h0 a2 kb .byte (1 : Int32) [(.int (0 : Int32))] (.int (0 : Int32))) (n02 : a0 ≠ a2) (g_a2 : n0 ≤ a2) (hca : ¬ ((255 : Int32) < ca)) :
    MetFree l (⟨"java/lang/StringUTF16", "compress", "([CI[BII)I"⟩ : MethodName) (head1 (Jvm.Cond.code (⟨"java/lang/StringUTF16", "compress", "([CI[BII)I"⟩ : MethodName) jdk_52_method_21_code 7 (some .int) :: ws) ({ frames := 0, cells := 0, slots := 0, locals := 0 } : Room)) (fun a U => a = #[(.ref a0), (.int (0 : Int32)), (.ref a2), (.int (0 : Int32)), (.int (1 : Int32))] ∧ Z.Warmed39 U.vm ∧ U.heap = h0) (fun _ _ _ _ _ => True) (fun _ U o U' => ∃ v L, o = .returned v ∧ QU1 Z a0 a2 kc kb ca h0 n0 v U'.heap L ∧ FrameEnd U o U' L ({ frames := 0, cells := 0, slots := 0, locals := 0 } : Room).cells ({ frames := 0, cells := 0, slots := 0, locals := 0 } : Room).slots) := by
  refine MetFree.of_bodySF (plainFor_of_name pn_0) hisR ?_
  intro p e s m args below meth c s₁ Bd hml0 hP hK
  obtain ⟨rfl, hZ, hh⟩ := hP
  have hx := Bd.exec
  have hby := Bd.bytes
  have hml : c.maxLocals = 7 := hml0
  have hown : s.vm.findClass "java/lang/StringUTF16" = some m.cls := findClass_of_methodNamed Bd.named
  have hnm := (name_of_methodNamed Bd.named Bd.method).1
  have hlk : meth.locks = false := BodyLoose.notSynchronized Bd
  have X0 : Stand p l e ({ frames := 0, cells := 0, slots := 0, locals := 0 } : Room) s m #[(.ref a0), (.int (0 : Int32)), (.ref a2), (.int (0 : Int32)), (.int (1 : Int32))] below meth c s₁ [] 0 0 := Stand.of_body Bd
  have _u := trivial
  have eh0 : s₁.heap = h0 := by rw [← hh, Bd.state]; rfl
  have N0 := Fr.nil n0
  show Rest p.tables e below s (QU1 Z a0 a2 kc kb ca h0 n0) _ _ (s₁.setTop (entryFrame m #[(.ref a0), (.int (0 : Int32)), (.ref a2), (.int (0 : Int32)), (.int (1 : Int32))] 7))
  refine Rest.via (fun t k => castTop (ef_U1 m a0 a2) k) ?_
  show Rest p.tables e below s _ _ _ (s₁.setTop (mkF m 0 #[.val (.ref a0), .val (.int (0 : Int32)), .val (.ref a2), .val (.int (0 : Int32)), .val (.int (1 : Int32)), .unset, .unset] []))
  refine Rest.via (fun t k => XS.iconst X0.here hx rfl (hb hby d44_0) k) ?_
  refine Rest.via (fun t k => XS.istore X0.here hx rfl (hb hby d44_1) rfl (l' := #[.val (.ref a0), .val (.int (0 : Int32)), .val (.ref a2), .val (.int (0 : Int32)), .val (.int (1 : Int32)), .val (.int (0 : Int32)), .unset]) rfl k) ?_
  refine Rest.via (fun t k => XS.iload X0.here hx rfl (hb hby d44_3) rfl k) ?_
  refine Rest.via (fun t k => XS.iload X0.here hx rfl (hb hby d44_5) rfl k) ?_
  refine Rest.via (fun t k => XS.icmpNo X0.here hx rfl (hb hby d44_7) rfl (tlt (by decide : (0 : Int32) < (1 : Int32))).2.1 k) ?_
  show Rest p.tables e below s _ _ _ (s₁.setTop (mkF m 10 #[.val (.ref a0), .val (.int (0 : Int32)), .val (.ref a2), .val (.int (0 : Int32)), .val (.int (1 : Int32)), .val (.int (0 : Int32)), .unset] []))
  refine Rest.via (fun t k => XS.aloadN X0.here hx rfl (hb hby d44_10) rfl rfl k) ?_
  refine Rest.via (fun t k => XS.iloadN X0.here hx rfl (hb hby d44_11) rfl k) ?_
  obtain ⟨cl1, Ar1, qa1, Sa1, Pa1, Ha1, Ga1⟩ := id V0
  have hin1 := inb_of (j := (0 : Int32)) Sa1 ⟨by decide, by decide⟩
  have hat1 : cl1.slots[((0 : Int32)).toNatClampNeg]? = some (.int ca) := Has.at Ha1 hin1 rfl
  refine Rest.via (fun t k => X0.caload hx (j := (0 : Int32)) (v := (.int ca)) (by rw [eh0]; exact Ar1.1) (State.isArrayOf_alike hZ.alike Ar1.2.1) Ar1.2.2 hin1 hat1 (g := (mkF m 12 #[.val (.ref a0), .val (.int (0 : Int32)), .val (.ref a2), .val (.int (0 : Int32)), .val (.int (1 : Int32)), .val (.int (0 : Int32)), .unset] [(.int (0 : Int32)), (.ref a0)])) rfl rfl (hb hby d44_12) t k) ?_
  show Rest p.tables e below s _ _ _ (s₁.setTop (mkF m 13 #[.val (.ref a0), .val (.int (0 : Int32)), .val (.ref a2), .val (.int (0 : Int32)), .val (.int (1 : Int32)), .val (.int (0 : Int32)), .unset] [(.int ca)]))
  refine Rest.via (fun t k => XS.istore X0.here hx rfl (hb hby d44_13) rfl (l' := #[.val (.ref a0), .val (.int (0 : Int32)), .val (.ref a2), .val (.int (0 : Int32)), .val (.int (1 : Int32)), .val (.int (0 : Int32)), .val (.int ca)]) rfl k) ?_
  refine Rest.via (fun t k => XS.iload X0.here hx rfl (hb hby d44_15) rfl k) ?_
  refine Rest.via (fun t k => XS.sipush X0.here hx rfl (hb hby d44_17) k) ?_
  refine Rest.via (fun t k => XS.icmpYes X0.here hx rfl (pc0 := 20) (pc' := 26) rfl (hb hby d44_20) rfl (flt (hca : ¬ ((255 : Int32) < ca))).2.2.2 (by decide) (by decide) k) ?_
  show Rest p.tables e below s _ _ _ (s₁.setTop (mkF m 26 #[.val (.ref a0), .val (.int (0 : Int32)), .val (.ref a2), .val (.int (0 : Int32)), .val (.int (1 : Int32)), .val (.int (0 : Int32)), .val (.int ca)] []))
  refine Rest.via (fun t k => XS.aloadN X0.here hx rfl (hb hby d44_26) rfl rfl k) ?_
  refine Rest.via (fun t k => XS.iloadN X0.here hx rfl (hb hby d44_27) rfl k) ?_
  refine Rest.via (fun t k => XS.iload X0.here hx rfl (hb hby d44_28) rfl k) ?_
  refine Rest.via (fun t k => XS.i2b X0.here hx rfl (hb hby d44_30) rfl k) ?_
  obtain ⟨cl2, Ar2, qa2, Sa2, Pa2, Ha2, Ga2⟩ := id V2
  have hin2 := inb_of (j := (0 : Int32)) Sa2 ⟨by decide, by decide⟩
  obtain ⟨T2, h2, X2, e2, W2, st2⟩ := stB X0 hx hZ eh0 Ar2 (j := (0 : Int32)) hin2 (g := (mkF m 31 #[.val (.ref a0), .val (.int (0 : Int32)), .val (.ref a2), .val (.int (0 : Int32)), .val (.int (1 : Int32)), .val (.int (0 : Int32)), .val (.int ca)] [(.int (ca.toInt8.toInt32)), (.int (0 : Int32)), (.ref a2)])) rfl rfl (hb hby d44_31)
  refine Rest.via (fun t k => st2 t k) ?_
  have N2 := Fr.snoc X2 N0 g_a2
  have K2 : Keep h0 h2 [a2] := (Keep.refl h0 [a2]).wr W2 (Or.inl (List.mem_of_getElem? (i := 0) rfl))
  have V2 : Arv Z h2 a2 kb .byte (1 : Int32) [(.int (own_by ca))] (.int (0 : Int32)) := by have q := Arv.set Ar2 qa2 Sa2 Pa2 Ha2 Ga2 (fits_nar_byte _) W2 0 rfl (Nat.le_of_ble_eq_true rfl); rw [own_by_nar] at q; exact q
  show Rest p.tables e below s _ _ _ (T2.setTop (mkF m 32 #[.val (.ref a0), .val (.int (0 : Int32)), .val (.ref a2), .val (.int (0 : Int32)), .val (.int (1 : Int32)), .val (.int (0 : Int32)), .val (.int ca)] []))
  refine Rest.via (fun t k => XS.iinc X2.here hx rfl (hb hby d44_32) rfl (l' := #[.val (.ref a0), .val (.int ((0 : Int32) + (1 : Int32))), .val (.ref a2), .val (.int (0 : Int32)), .val (.int (1 : Int32)), .val (.int (0 : Int32)), .val (.int ca)]) rfl k) ?_
  show Rest p.tables e below s _ _ _ (T2.setTop (mkF m 35 #[.val (.ref a0), .val (.int ((0 : Int32) + (1 : Int32))), .val (.ref a2), .val (.int (0 : Int32)), .val (.int (1 : Int32)), .val (.int (0 : Int32)), .val (.int ca)] []))
  rw [(by decide : ((0 : Int32) + (1 : Int32)) = (1 : Int32))]
  show Rest p.tables e below s _ _ _ (T2.setTop (mkF m 35 #[.val (.ref a0), .val (.int (1 : Int32)), .val (.ref a2), .val (.int (0 : Int32)), .val (.int (1 : Int32)), .val (.int (0 : Int32)), .val (.int ca)] []))
  refine Rest.via (fun t k => XS.iinc X2.here hx rfl (hb hby d44_35) rfl (l' := #[.val (.ref a0), .val (.int (1 : Int32)), .val (.ref a2), .val (.int ((0 : Int32) + (1 : Int32))), .val (.int (1 : Int32)), .val (.int (0 : Int32)), .val (.int ca)]) rfl k) ?_
  show Rest p.tables e below s _ _ _ (T2.setTop (mkF m 38 #[.val (.ref a0), .val (.int (1 : Int32)), .val (.ref a2), .val (.int ((0 : Int32) + (1 : Int32))), .val (.int (1 : Int32)), .val (.int (0 : Int32)), .val (.int ca)] []))
  rw [(by decide : ((0 : Int32) + (1 : Int32)) = (1 : Int32))]
  show Rest p.tables e below s _ _ _ (T2.setTop (mkF m 38 #[.val (.ref a0), .val (.int (1 : Int32)), .val (.ref a2), .val (.int (1 : Int32)), .val (.int (1 : Int32)), .val (.int (0 : Int32)), .val (.int ca)] []))
  refine Rest.via (fun t k => XS.iinc X2.here hx rfl (hb hby d44_38) rfl (l' := #[.val (.ref a0), .val (.int (1 : Int32)), .val (.ref a2), .val (.int (1 : Int32)), .val (.int (1 : Int32)), .val (.int ((0 : Int32) + (1 : Int32))), .val (.int ca)]) rfl k) ?_
  show Rest p.tables e below s _ _ _ (T2.setTop (mkF m 41 #[.val (.ref a0), .val (.int (1 : Int32)), .val (.ref a2), .val (.int (1 : Int32)), .val (.int (1 : Int32)), .val (.int ((0 : Int32) + (1 : Int32))), .val (.int ca)] []))
  rw [(by decide : ((0 : Int32) + (1 : Int32)) = (1 : Int32))]
  show Rest p.tables e below s _ _ _ (T2.setTop (mkF m 41 #[.val (.ref a0), .val (.int (1 : Int32)), .val (.ref a2), .val (.int (1 : Int32)), .val (.int (1 : Int32)), .val (.int (1 : Int32)), .val (.int ca)] []))
  refine Rest.via (fun t k => XS.goto X2.here hx rfl (pc0 := 41) (pc' := 3) rfl (hb hby d44_41) (by decide) (by decide) k) ?_
  refine Rest.via (fun t k => XS.iload X2.here hx rfl (hb hby d44_3) rfl k) ?_
  refine Rest.via (fun t k => XS.iload X2.here hx rfl (hb hby d44_5) rfl k) ?_
  refine Rest.via (fun t k => XS.icmpYes X2.here hx rfl (pc0 := 7) (pc' := 44) rfl (hb hby d44_7) rfl (flt (by decide : ¬ ((1 : Int32) < (1 : Int32)))).2.1 (by decide) (by decide) k) ?_
  show Rest p.tables e below s _ _ _ (T2.setTop (mkF m 44 #[.val (.ref a0), .val (.int (1 : Int32)), .val (.ref a2), .val (.int (1 : Int32)), .val (.int (1 : Int32)), .val (.int (1 : Int32)), .val (.int ca)] []))
  refine Rest.via (fun t k => XS.iload X2.here hx rfl (hb hby d44_44) rfl k) ?_
  refine Rest.ret X2 (v := some (.int (1 : Int32))) (fun h => by rw [Bd.returns] at h; cases h) hlk (fun fs hr => retOut X2 hx Bd.returns rfl (Or.inl ⟨rfl, Or.inl rfl, _, rfl⟩) (hb hby d44_46) hr) ?_ (by decide) (by decide)
  rw [e2]
  exact ⟨rfl, N2, K2, V2⟩
theorem pd_0 : parseMethodDescriptor "([CI[BII)I" = some ⟨[(.array .char), .int, (.array .byte), .int, .int], some .int⟩ := by decide +kernel
theorem d43_0 : decode jdk_52_method_16_code 0 = .ok (.iload_n 2, 1) := by decide +kernel
theorem d43_1 : decode jdk_52_method_16_code 1 = .ok (.newarray .byte, 2) := by decide +kernel
theorem d43_3 : decode jdk_52_method_16_code 3 = .ok (.astore_n 3, 1) := by decide +kernel
theorem d43_4 : decode jdk_52_method_16_code 4 = .ok (.aload_n 0, 1) := by decide +kernel
theorem d43_5 : decode jdk_52_method_16_code 5 = .ok (.iload_n 1, 1) := by decide +kernel
theorem d43_6 : decode jdk_52_method_16_code 6 = .ok (.aload_n 3, 1) := by decide +kernel
theorem d43_7 : decode jdk_52_method_16_code 7 = .ok (.iconst 0, 1) := by decide +kernel
theorem d43_8 : decode jdk_52_method_16_code 8 = .ok (.iload_n 2, 1) := by decide +kernel
theorem d43_9 : decode jdk_52_method_16_code 9 = .ok (.invokestatic 115, 3) := by decide +kernel
theorem d43_12 : decode jdk_52_method_16_code 12 = .ok (.istore 4, 2) := by decide +kernel
theorem d43_14 : decode jdk_52_method_16_code 14 = .ok (.iload 4, 2) := by decide +kernel
theorem d43_16 : decode jdk_52_method_16_code 16 = .ok (.iload_n 2, 1) := by decide +kernel
theorem d43_17 : decode jdk_52_method_16_code 17 = .ok (.if_icmp .eq 40, 3) := by decide +kernel
theorem d43_57 : decode jdk_52_method_16_code 57 = .ok (.aload_n 3, 1) := by decide +kernel
theorem d43_58 : decode jdk_52_method_16_code 58 = .ok (.areturn, 1) := by decide +kernel
theorem ef_W1 (m : MethodId) (a0 : Addr) : entryFrame m #[(.ref a0), (.int (0 : Int32)), (.int (1 : Int32))] 6 = mkF m 0 #[.val (.ref a0), .val (.int (0 : Int32)), .val (.int (1 : Int32)), .unset, .unset, .unset] [] := by first | (simp [entryFrame, mkF, argsToLocals, Value.category, maxLocals]; done) | rfl
def QW1 (Z : State) (a0 : Addr) (kc : ClassId) (ca : Int32) (h0 : Heap) (n0 : Nat) (v : Option Value) (h : Heap) (L : List Loc) : Prop := ∃ va kb, v = some (.ref va) ∧ Fr n0 L ∧ Keep h0 h [] ∧ h0.size ≤ va ∧ Arv Z h va kb .byte (1 : Int32) [(.int (own_by ca))] (.int (0 : Int32))
set_option maxRecDepth 65536 in
set_option maxHeartbeats 40000000 in
theorem rmW1 (l : Launch) (Z : State) (aw : Array Value) (hw : ∀ d ∈ tables_1, d.before aw Z = true) (ws : List Jvm.Cond) (a0 : Addr) (kc : ClassId) (ca : Int32) (h0 : Heap) (n0 : Nat) (Z0 : n0 ≤ h0.size) (V0 : Arv Z h0 a0 kc .char (1 : Int32) [(.int ca)] (.int (0 : Int32))) (hca : ¬ ((255 : Int32) < ca)) :
    MetFree l (⟨"java/lang/StringUTF16", "compress", "([CII)[B"⟩ : MethodName) (head1 (Jvm.Cond.code (⟨"java/lang/StringUTF16", "compress", "([CII)[B"⟩ : MethodName) jdk_52_method_16_code 6 (some (.array .byte)) :: ws) ({ frames := 1, cells := 1, slots := 1, locals := 18 } : Room)) (fun a U => a = #[(.ref a0), (.int (0 : Int32)), (.int (1 : Int32))] ∧ Z.Warmed39 U.vm ∧ U.heap = h0) (fun _ _ _ _ _ => True) (fun _ U o U' => ∃ v L, o = .returned v ∧ QW1 Z a0 kc ca h0 n0 v U'.heap L ∧ FrameEnd U o U' L ({ frames := 1, cells := 1, slots := 1, locals := 18 } : Room).cells ({ frames := 1, cells := 1, slots := 1, locals := 18 } : Room).slots) := by
  refine MetFree.of_bodySF (plainFor_of_name pn_0) hisR ?_
  intro p e s m args below meth c s₁ Bd hml0 hP hK
  obtain ⟨rfl, hZ, hh⟩ := hP
  have hx := Bd.exec
  have hby := Bd.bytes
  have hml : c.maxLocals = 6 := hml0
  have hown : s.vm.findClass "java/lang/StringUTF16" = some m.cls := findClass_of_methodNamed Bd.named
  have hnm := (name_of_methodNamed Bd.named Bd.method).1
  have hlk : meth.locks = false := BodyLoose.notSynchronized Bd
  have X0 : Stand p l e ({ frames := 1, cells := 1, slots := 1, locals := 18 } : Room) s m #[(.ref a0), (.int (0 : Int32)), (.int (1 : Int32))] below meth c s₁ [] 0 0 := Stand.of_body Bd
  have _u := trivial
  have eh0 : s₁.heap = h0 := by rw [← hh, Bd.state]; rfl
  have N0 := Fr.nil n0
  show Rest p.tables e below s (QW1 Z a0 kc ca h0 n0) _ _ (s₁.setTop (entryFrame m #[(.ref a0), (.int (0 : Int32)), (.int (1 : Int32))] 6))
  refine Rest.via (fun t k => castTop (ef_W1 m a0) k) ?_
  show Rest p.tables e below s _ _ _ (s₁.setTop (mkF m 0 #[.val (.ref a0), .val (.int (0 : Int32)), .val (.int (1 : Int32)), .unset, .unset, .unset] []))
  refine Rest.via (fun t k => XS.iloadN X0.here hx rfl (hb hby d43_0) rfl k) ?_
  show Rest p.tables e below s _ _ _ (s₁.setTop (mkF m 1 #[.val (.ref a0), .val (.int (0 : Int32)), .val (.int (1 : Int32)), .unset, .unset, .unset] [(.int (1 : Int32))]))
  obtain ⟨T1, h1, k1, X1, e1, E1, A1, st1⟩ := newP X0 hx hZ (own_W hw 19 rfl) eh0 (g := (mkF m 1 #[.val (.ref a0), .val (.int (0 : Int32)), .val (.int (1 : Int32)), .unset, .unset, .unset] [(.int (1 : Int32))])) rfl (hb hby d43_1) rfl (by decide) (cap := 1) (by decide) (by decide) (by decide) (by decide)
  obtain ⟨b1, gq1⟩ : ∃ z, z = h0.size := ⟨_, rfl⟩
  rw [← gq1] at A1 st1
  have sz_b1 : h0.size ≤ b1 := Nat.le_trans (Keep.refl h0 []).1 (Nat.le_of_eq gq1.symm)
  have g_b1 : n0 ≤ b1 := Nat.le_trans Z0 sz_b1
  have ne_a0_b1 : a0 ≠ b1 := Nat.ne_of_lt (Nat.lt_of_lt_of_le V0.lt (Nat.le_of_eq gq1.symm))
  have K1 : Keep h0 h1 [] := (Keep.refl h0 []).ext E1
  have V_b1 := Arv.new A1 (by decide)
  have V_b1 : Arv Z h1 b1 k1 .byte (1 : Int32) [(.int (0 : Int32))] (.int (0 : Int32)) := V_b1.pad (pad_rep [] (.int (0 : Int32)) 1)
  refine Rest.via (fun t k => st1 t k) ?_
  show Rest p.tables e below s _ _ _ (T1.setTop (mkF m 3 #[.val (.ref a0), .val (.int (0 : Int32)), .val (.int (1 : Int32)), .unset, .unset, .unset] [(.ref b1)]))
  refine Rest.via (fun t k => XS.astoreN X1.here hx rfl (hb hby d43_3) rfl rfl (l' := #[.val (.ref a0), .val (.int (0 : Int32)), .val (.int (1 : Int32)), .val (.ref b1), .unset, .unset]) rfl k) ?_
  refine Rest.via (fun t k => XS.aloadN X1.here hx rfl (hb hby d43_4) rfl rfl k) ?_
  refine Rest.via (fun t k => XS.iloadN X1.here hx rfl (hb hby d43_5) rfl k) ?_
  refine Rest.via (fun t k => XS.aloadN X1.here hx rfl (hb hby d43_6) rfl rfl k) ?_
  refine Rest.via (fun t k => XS.iconst X1.here hx rfl (hb hby d43_7) k) ?_
  refine Rest.via (fun t k => XS.iloadN X1.here hx rfl (hb hby d43_8) rfl k) ?_
  show Rest p.tables e below s _ _ _ (T1.setTop (mkF m 9 #[.val (.ref a0), .val (.int (0 : Int32)), .val (.int (1 : Int32)), .val (.ref b1), .unset, .unset] [(.int (1 : Int32)), (.int (0 : Int32)), (.ref b1), (.int (0 : Int32)), (.ref a0)]))
  obtain ⟨_, _, ⟨T2, L2, k2, n2⟩, -, X2, ⟨Lc2, hQ2, l2, y2, z2⟩, st2⟩ := Jvm.LawKit.callS X1 hx (y := (⟨"java/lang/StringUTF16", "compress", "([CI[BII)I"⟩ : MethodName)) hown (mvT hZ (own_W hw 242 rfl)) (mvT hZ (own_W hw 243 rfl)) (mvT hZ (own_W hw 240 rfl)) (mvT hZ (own_W hw 244 rfl)) (by decide) (backOf (W := 0) (rmU1 l Z aw hw [] a0 b1 kc k1 ca h1 n0 (Nat.le_trans Z0 K1.1) (V0.ext E1) V_b1 ne_a0_b1 g_b1 hca) hZ (own_W hw 244 rfl) (own_W hw 240 rfl) (by decide) (by decide)) (g := (mkF m 9 #[.val (.ref a0), .val (.int (0 : Int32)), .val (.int (1 : Int32)), .val (.ref b1), .unset, .unset] [(.int (1 : Int32)), (.int (0 : Int32)), (.ref b1), (.int (0 : Int32)), (.ref a0)])) rfl (by rw [hml]; rfl) (argsL := [(.ref a0), (.int (0 : Int32)), (.ref b1), (.int (0 : Int32)), (.int (1 : Int32))]) (rest := []) (lenOf pd_0 rfl) rfl (by show 2 * 0 + _ ≤ _; exact Nat.le_of_eq rfl) (hb hby d43_9) (fun _ _ => ⟨rfl, e1, (by decide : 1 + 0 ≤ _), (by decide : 1 + 0 ≤ _)⟩)
  dsimp only [Pt.U, Pt.locs, Pt.cells, Pt.slots] at X2 l2 y2 z2 st2 hQ2
  subst l2 y2 z2
  obtain ⟨h2, e2⟩ : ∃ z, T2.heap = z := ⟨_, rfl⟩
  rw [e2] at hQ2
  obtain ⟨rfl, Nq2, Kq2, Vq2⟩ := hQ2
  have N2 := Fr.app N0 Nq2
  have K2 : Keep h0 h2 [] := K1.trans Kq2 (allS (Or.inr sz_b1) all0)
  refine Rest.via (fun t k => st2 t k) ?_
  show Rest p.tables e below s _ _ _ (T2.setTop (mkF m 12 #[.val (.ref a0), .val (.int (0 : Int32)), .val (.int (1 : Int32)), .val (.ref b1), .unset, .unset] [(.int (1 : Int32))]))
  refine Rest.via (fun t k => XS.istore X2.here hx rfl (hb hby d43_12) rfl (l' := #[.val (.ref a0), .val (.int (0 : Int32)), .val (.int (1 : Int32)), .val (.ref b1), .val (.int (1 : Int32)), .unset]) rfl k) ?_
  refine Rest.via (fun t k => XS.iload X2.here hx rfl (hb hby d43_14) rfl k) ?_
  refine Rest.via (fun t k => XS.iloadN X2.here hx rfl (hb hby d43_16) rfl k) ?_
  refine Rest.via (fun t k => XS.icmpYes X2.here hx rfl (pc0 := 17) (pc' := 57) rfl (hb hby d43_17) rfl (teq (by decide : (1 : Int32) = (1 : Int32))).1 (by decide) (by decide) k) ?_
  show Rest p.tables e below s _ _ _ (T2.setTop (mkF m 57 #[.val (.ref a0), .val (.int (0 : Int32)), .val (.int (1 : Int32)), .val (.ref b1), .val (.int (1 : Int32)), .unset] []))
  refine Rest.via (fun t k => XS.aloadN X2.here hx rfl (hb hby d43_57) rfl rfl k) ?_
  refine Rest.ret X2 (v := some (.ref b1)) (fun h => by rw [Bd.returns] at h; cases h) hlk (fun fs hr => retOut X2 hx Bd.returns rfl (Or.inr (Or.inr (Or.inr (Or.inr ⟨rfl, rfl, rfl⟩)))) (hb hby d43_58) hr) ?_ (by decide) (by decide)
  rw [e2]
  exact ⟨b1, k1, rfl, N2, K2, sz_b1, Vq2⟩
theorem d45_0 : decode jdk_52_method_15_code 0 = .ok (.iload_n 1, 1) := by decide +kernel
theorem d45_1 : decode jdk_52_method_15_code 1 = .ok (.aload_n 0, 1) := by decide +kernel
theorem d45_2 : decode jdk_52_method_15_code 2 = .ok (.arraylength, 1) := by decide +kernel
theorem d45_3 : decode jdk_52_method_15_code 3 = .ok (.isub, 1) := by decide +kernel
theorem d45_4 : decode jdk_52_method_15_code 4 = .ok (.bipush 31, 2) := by decide +kernel
theorem d45_6 : decode jdk_52_method_15_code 6 = .ok (.iushr, 1) := by decide +kernel
theorem d45_7 : decode jdk_52_method_15_code 7 = .ok (.i2b, 1) := by decide +kernel
theorem d45_8 : decode jdk_52_method_15_code 8 = .ok (.ireturn, 1) := by decide +kernel
theorem ef_C1 (m : MethodId) (a0 : Addr) : entryFrame m #[(.ref a0), (.int (1 : Int32))] 2 = mkF m 0 #[.val (.ref a0), .val (.int (1 : Int32))] [] := by first | (simp [entryFrame, mkF, argsToLocals, Value.category, maxLocals]; done) | rfl
def QC1 (Z : State) (a0 : Addr) (k : ClassId) (vs : List Value) (h0 : Heap) (n0 : Nat) (v : Option Value) (h : Heap) (L : List Loc) : Prop := v = some (.int (0 : Int32)) ∧ Fr n0 L ∧ h = h0
set_option maxRecDepth 65536 in
set_option maxHeartbeats 40000000 in
theorem rmC1 (l : Launch) (Z : State) (aw : Array Value) (hw : ∀ d ∈ tables_1, d.before aw Z = true) (ws : List Jvm.Cond) (a0 : Addr) (k : ClassId) (vs : List Value) (h0 : Heap) (n0 : Nat) (Z0 : n0 ≤ h0.size) (V0 : Arv Z h0 a0 k .byte (1 : Int32) vs (.int (0 : Int32))) :
    MetFree l (⟨"java/lang/StringUTF16", "coderFromArrayLen", "([BI)B"⟩ : MethodName) (head1 (Jvm.Cond.code (⟨"java/lang/StringUTF16", "coderFromArrayLen", "([BI)B"⟩ : MethodName) jdk_52_method_15_code 2 (some .byte) :: ws) ({ frames := 0, cells := 0, slots := 0, locals := 0 } : Room)) (fun a U => a = #[(.ref a0), (.int (1 : Int32))] ∧ Z.Warmed39 U.vm ∧ U.heap = h0) (fun _ _ _ _ _ => True) (fun _ U o U' => ∃ v L, o = .returned v ∧ QC1 Z a0 k vs h0 n0 v U'.heap L ∧ FrameEnd U o U' L ({ frames := 0, cells := 0, slots := 0, locals := 0 } : Room).cells ({ frames := 0, cells := 0, slots := 0, locals := 0 } : Room).slots) := by
  refine MetFree.of_bodySF (plainFor_of_name pn_0) hisR ?_
  intro p e s m args below meth c s₁ Bd hml0 hP hK
  obtain ⟨rfl, hZ, hh⟩ := hP
  have hx := Bd.exec
  have hby := Bd.bytes
  have hml : c.maxLocals = 2 := hml0
  have hown : s.vm.findClass "java/lang/StringUTF16" = some m.cls := findClass_of_methodNamed Bd.named
  have hnm := (name_of_methodNamed Bd.named Bd.method).1
  have hlk : meth.locks = false := BodyLoose.notSynchronized Bd
  have X0 : Stand p l e ({ frames := 0, cells := 0, slots := 0, locals := 0 } : Room) s m #[(.ref a0), (.int (1 : Int32))] below meth c s₁ [] 0 0 := Stand.of_body Bd
  have _u := trivial
  have eh0 : s₁.heap = h0 := by rw [← hh, Bd.state]; rfl
  have N0 := Fr.nil n0
  show Rest p.tables e below s (QC1 Z a0 k vs h0 n0) _ _ (s₁.setTop (entryFrame m #[(.ref a0), (.int (1 : Int32))] 2))
  refine Rest.via (fun t k => castTop (ef_C1 m a0) k) ?_
  show Rest p.tables e below s _ _ _ (s₁.setTop (mkF m 0 #[.val (.ref a0), .val (.int (1 : Int32))] []))
  refine Rest.via (fun t k => XS.iloadN X0.here hx rfl (hb hby d45_0) rfl k) ?_
  refine Rest.via (fun t k => XS.aloadN X0.here hx rfl (hb hby d45_1) rfl rfl k) ?_
  obtain ⟨cl1, Ar1, -, S1, P1, -, -⟩ := id V0
  refine Rest.via (fun t k => X0.arraylength hx (by rw [eh0]; exact Ar1.1) (State.isArrayOf_alike hZ.alike Ar1.2.1) (g := (mkF m 2 #[.val (.ref a0), .val (.int (1 : Int32))] [(.ref a0), (.int (1 : Int32))])) rfl rfl (hb hby d45_2) t k) ?_
  rw [len_of S1 P1]
  show Rest p.tables e below s _ _ _ (s₁.setTop (mkF m 3 #[.val (.ref a0), .val (.int (1 : Int32))] [(.int (1 : Int32)), (.int (1 : Int32))]))
  refine Rest.via (fun t k => XS.isub X0.here hx rfl (hb hby d45_3) rfl k) ?_
  show Rest p.tables e below s _ _ _ (s₁.setTop (mkF m 4 #[.val (.ref a0), .val (.int (1 : Int32))] [(.int ((1 : Int32) - (1 : Int32)))]))
  rw [(by decide : ((1 : Int32) - (1 : Int32)) = (0 : Int32))]
  refine Rest.via (fun t k => XS.bipush X0.here hx rfl (hb hby d45_4) k) ?_
  refine Rest.via (fun t k => XS.iushr X0.here hx rfl (hb hby d45_6) rfl k) ?_
  show Rest p.tables e below s _ _ _ (s₁.setTop (mkF m 7 #[.val (.ref a0), .val (.int (1 : Int32))] [(.int (((0 : Int32).toUInt32 >>> ((31 : Int32) &&& 31).toUInt32).toInt32))]))
  rw [(by decide : (((0 : Int32).toUInt32 >>> ((31 : Int32) &&& 31).toUInt32).toInt32) = (0 : Int32))]
  show Rest p.tables e below s _ _ _ (s₁.setTop (mkF m 7 #[.val (.ref a0), .val (.int (1 : Int32))] [(.int (0 : Int32))]))
  refine Rest.via (fun t k => XS.i2b X0.here hx rfl (hb hby d45_7) rfl k) ?_
  show Rest p.tables e below s _ _ _ (s₁.setTop (mkF m 8 #[.val (.ref a0), .val (.int (1 : Int32))] [(.int ((0 : Int32).toInt8.toInt32))]))
  rw [(by decide : ((0 : Int32).toInt8.toInt32) = (0 : Int32))]
  refine Rest.ret X0 (v := some (.int (nar .byte (0 : Int32)))) (fun h => by rw [Bd.returns] at h; cases h) hlk (fun fs hr => retN X0 hx (t := .byte) Bd.returns (by simp) (hb hby d45_8) hr) ?_ (by decide) (by decide)
  rw [eh0]
  exact ⟨rfl, N0, rfl⟩
theorem pd_1 : parseMethodDescriptor "([CII)[B" = some ⟨[(.array .char), .int, .int], some (.array .byte)⟩ := by decide +kernel
theorem pd_2 : parseMethodDescriptor "([BI)B" = some ⟨[(.array .byte), .int], some .byte⟩ := by decide +kernel
theorem d3_0 : decode jdk_42_method_149_code 0 = .ok (.aload_n 0, 1) := by decide +kernel
theorem d3_1 : decode jdk_42_method_149_code 1 = .ok (.invokespecial 1, 3) := by decide +kernel
theorem d3_4 : decode jdk_42_method_149_code 4 = .ok (.iload_n 3, 1) := by decide +kernel
theorem d3_5 : decode jdk_42_method_149_code 5 = .ok (.ifCond .ne 22, 3) := by decide +kernel
theorem d3_27 : decode jdk_42_method_149_code 27 = .ok (.getstatic 38, 3) := by decide +kernel
theorem d3_30 : decode jdk_42_method_149_code 30 = .ok (.ifCond .eq 28, 3) := by decide +kernel
theorem d3_33 : decode jdk_42_method_149_code 33 = .ok (.aload_n 1, 1) := by decide +kernel
theorem d3_34 : decode jdk_42_method_149_code 34 = .ok (.iload_n 2, 1) := by decide +kernel
theorem d3_35 : decode jdk_42_method_149_code 35 = .ok (.iload_n 3, 1) := by decide +kernel
theorem d3_36 : decode jdk_42_method_149_code 36 = .ok (.invokestatic 177, 3) := by decide +kernel
theorem d3_39 : decode jdk_42_method_149_code 39 = .ok (.astore 5, 2) := by decide +kernel
theorem d3_41 : decode jdk_42_method_149_code 41 = .ok (.aload_n 0, 1) := by decide +kernel
theorem d3_42 : decode jdk_42_method_149_code 42 = .ok (.aload 5, 2) := by decide +kernel
theorem d3_44 : decode jdk_42_method_149_code 44 = .ok (.iload_n 3, 1) := by decide +kernel
theorem d3_45 : decode jdk_42_method_149_code 45 = .ok (.invokestatic 47, 3) := by decide +kernel
theorem d3_48 : decode jdk_42_method_149_code 48 = .ok (.putfield 15, 3) := by decide +kernel
theorem d3_51 : decode jdk_42_method_149_code 51 = .ok (.aload_n 0, 1) := by decide +kernel
theorem d3_52 : decode jdk_42_method_149_code 52 = .ok (.aload 5, 2) := by decide +kernel
theorem d3_54 : decode jdk_42_method_149_code 54 = .ok (.putfield 9, 3) := by decide +kernel
theorem d3_57 : decode jdk_42_method_149_code 57 = .ok (.return_, 1) := by decide +kernel
theorem pn_1 : plainName "java/lang/String" = true := by first | (simp [plainName, overriddenIn]; done) | decide +kernel
theorem ef_SJ1 (m : MethodId) (a0 : Addr) (a1 : Addr) : entryFrame m #[(.ref a0), (.ref a1), (.int (0 : Int32)), (.int (1 : Int32)), .null] 6 = mkF m 0 #[.val (.ref a0), .val (.ref a1), .val (.int (0 : Int32)), .val (.int (1 : Int32)), .val .null, .unset] [] := by first | (simp [entryFrame, mkF, argsToLocals, Value.category, maxLocals]; done) | rfl
def QSJ1 (Z : State) (a0 : Addr) (a1 : Addr) (kc : ClassId) (ic : Int32) (ca : Int32) (h0 : Heap) (n0 : Nat) (v : Option Value) (h : Heap) (L : List Loc) : Prop := v = none ∧ Fr n0 L ∧ Keep h0 h [a0] ∧ ∃ va kb, h0.size ≤ va ∧ Fld Z h a0 "java/lang/String" "value" "[B" (.ref va) ∧ Fld Z h a0 "java/lang/String" "coder" "B" (.int (0 : Int32)) ∧ Arv Z h va kb .byte (1 : Int32) [(.int (own_by ca))] (.int (0 : Int32)) ∧ a0 ≠ va
set_option maxRecDepth 65536 in
set_option maxHeartbeats 40000000 in
theorem rmSJ1 (l : Launch) (Z : State) (aw : Array Value) (hw : ∀ d ∈ tables_1, d.before aw Z = true) (ws : List Jvm.Cond) (a0 : Addr) (a1 : Addr) (kc : ClassId) (ic : Int32) (ca : Int32) (h0 : Heap) (n0 : Nat) (Z0 : n0 ≤ h0.size) (E_a0 : Exa Z h0 a0 "java/lang/String") (F_v : Fld Z h0 a0 "java/lang/String" "value" "[B" .null) (F_c : Fld Z h0 a0 "java/lang/String" "coder" "B" (.int (0 : Int32))) (g_a0 : n0 ≤ a0) (V1 : Arv Z h0 a1 kc .char (1 : Int32) [(.int ca)] (.int (0 : Int32))) (hca : ¬ ((255 : Int32) < ca)) (O : own_Old Z n0 h0) (CS : own_CS Z ic) :
    MetFree l (⟨"java/lang/String", "<init>", "([CIILjava/lang/Void;)V"⟩ : MethodName) (head1 (Jvm.Cond.code (⟨"java/lang/String", "<init>", "([CIILjava/lang/Void;)V"⟩ : MethodName) jdk_42_method_149_code 6 none :: ws) ({ frames := 2, cells := 1, slots := 1, locals := 35 } : Room)) (fun a U => a = #[(.ref a0), (.ref a1), (.int (0 : Int32)), (.int (1 : Int32)), .null] ∧ Z.Warmed39 U.vm ∧ U.heap = h0) (fun _ _ _ _ _ => True) (fun _ U o U' => ∃ v L, o = .returned v ∧ QSJ1 Z a0 a1 kc ic ca h0 n0 v U'.heap L ∧ FrameEnd U o U' L ({ frames := 2, cells := 1, slots := 1, locals := 35 } : Room).cells ({ frames := 2, cells := 1, slots := 1, locals := 35 } : Room).slots) := by
  refine MetFree.of_bodySF (plainFor_of_name pn_1) hisR ?_
  intro p e s m args below meth c s₁ Bd hml0 hP hK
  obtain ⟨rfl, hZ, hh⟩ := hP
  have hx := Bd.exec
  have hby := Bd.bytes
  have hml : c.maxLocals = 6 := hml0
  have hown : s.vm.findClass "java/lang/String" = some m.cls := findClass_of_methodNamed Bd.named
  have hnm := (name_of_methodNamed Bd.named Bd.method).1
  have hlk : meth.locks = false := BodyLoose.notSynchronized Bd
  have X0 : Stand p l e ({ frames := 2, cells := 1, slots := 1, locals := 35 } : Room) s m #[(.ref a0), (.ref a1), (.int (0 : Int32)), (.int (1 : Int32)), .null] below meth c s₁ [] 0 0 := Stand.of_body Bd
  have _u := trivial
  have eh0 : s₁.heap = h0 := by rw [← hh, Bd.state]; rfl
  have N0 := Fr.nil n0
  show Rest p.tables e below s (QSJ1 Z a0 a1 kc ic ca h0 n0) _ _ (s₁.setTop (entryFrame m #[(.ref a0), (.ref a1), (.int (0 : Int32)), (.int (1 : Int32)), .null] 6))
  refine Rest.via (fun t k => castTop (ef_SJ1 m a0 a1) k) ?_
  show Rest p.tables e below s _ _ _ (s₁.setTop (mkF m 0 #[.val (.ref a0), .val (.ref a1), .val (.int (0 : Int32)), .val (.int (1 : Int32)), .val .null, .unset] []))
  refine Rest.via (fun t k => XS.aloadN X0.here hx rfl (hb hby d3_0) rfl rfl k) ?_
  show Rest p.tables e below s _ _ _ (s₁.setTop (mkF m 1 #[.val (.ref a0), .val (.ref a1), .val (.int (0 : Int32)), .val (.int (1 : Int32)), .val .null, .unset] [(.ref a0)]))
  obtain ⟨T1, X1, e1, st1⟩ := initO X0 hx hZ hown (own_W hw 15 rfl) (own_W hw 16 rfl) (own_W hw 17 rfl) eh0 (g := (mkF m 1 #[.val (.ref a0), .val (.ref a1), .val (.int (0 : Int32)), .val (.int (1 : Int32)), .val .null, .unset] [(.ref a0)])) rfl (by rw [hml]; rfl) rfl (hb hby d3_1) (by decide) (W := 0) (by show 2 * 0 + _ ≤ _; exact Nat.le_of_eq rfl) (by decide)
  refine Rest.via (fun t k => st1 t k) ?_
  show Rest p.tables e below s _ _ _ (T1.setTop (mkF m 4 #[.val (.ref a0), .val (.ref a1), .val (.int (0 : Int32)), .val (.int (1 : Int32)), .val .null, .unset] []))
  refine Rest.via (fun t k => XS.iloadN X1.here hx rfl (hb hby d3_4) rfl k) ?_
  refine Rest.via (fun t k => XS.ifYes X1.here hx rfl (pc0 := 5) (pc' := 27) rfl (hb hby d3_5) rfl ((if0 _ _).trans (feq (by decide : ¬ ((1 : Int32) = (0 : Int32)))).2) (by decide) (by decide) k) ?_
  show Rest p.tables e below s _ _ _ (T1.setTop (mkF m 27 #[.val (.ref a0), .val (.ref a1), .val (.int (0 : Int32)), .val (.int (1 : Int32)), .val .null, .unset] []))
  obtain ⟨T2, X2, e2, st2⟩ := getS2 X1 hx hZ hown (host := "") (Or.inl (own_W hw 108 rfl)) Via.refl e1 (CS.1.ext (O.keep (Keep.refl h0 [a0]) (allS g_a0 all0)).2) (g := (mkF m 27 #[.val (.ref a0), .val (.ref a1), .val (.int (0 : Int32)), .val (.int (1 : Int32)), .val .null, .unset] [])) rfl (hb hby d3_27)
  refine Rest.via (fun t k => st2 t k) ?_
  show Rest p.tables e below s _ _ _ (T2.setTop (mkF m 30 #[.val (.ref a0), .val (.ref a1), .val (.int (0 : Int32)), .val (.int (1 : Int32)), .val .null, .unset] [(.int ic)]))
  refine Rest.via (fun t k => XS.ifNo X2.here hx rfl (hb hby d3_30) rfl ((if0 _ _).trans (feq (CS.2 : ¬ (ic = (0 : Int32)))).1) k) ?_
  show Rest p.tables e below s _ _ _ (T2.setTop (mkF m 33 #[.val (.ref a0), .val (.ref a1), .val (.int (0 : Int32)), .val (.int (1 : Int32)), .val .null, .unset] []))
  refine Rest.via (fun t k => XS.aloadN X2.here hx rfl (hb hby d3_33) rfl rfl k) ?_
  refine Rest.via (fun t k => XS.iloadN X2.here hx rfl (hb hby d3_34) rfl k) ?_
  refine Rest.via (fun t k => XS.iloadN X2.here hx rfl (hb hby d3_35) rfl k) ?_
  show Rest p.tables e below s _ _ _ (T2.setTop (mkF m 36 #[.val (.ref a0), .val (.ref a1), .val (.int (0 : Int32)), .val (.int (1 : Int32)), .val .null, .unset] [(.int (1 : Int32)), (.int (0 : Int32)), (.ref a1)]))
  obtain ⟨_, _, ⟨T3, L3, k3, n3⟩, -, X3, ⟨Lc3, hQ3, l3, y3, z3⟩, st3⟩ := Jvm.LawKit.callS X2 hx (y := (⟨"java/lang/StringUTF16", "compress", "([CII)[B"⟩ : MethodName)) hown (mvT hZ (own_W hw 238 rfl)) (mvT hZ (own_W hw 239 rfl)) (mvT hZ (own_W hw 240 rfl)) (mvT hZ (own_W hw 241 rfl)) (by decide) (backOf (W := 0) (rmW1 l Z aw hw [] a1 kc ca h0 n0 (Nat.le_trans Z0 (Keep.refl h0 [a0]).1) V1 hca) hZ (own_W hw 241 rfl) (own_W hw 240 rfl) (by decide) (by decide)) (g := (mkF m 36 #[.val (.ref a0), .val (.ref a1), .val (.int (0 : Int32)), .val (.int (1 : Int32)), .val .null, .unset] [(.int (1 : Int32)), (.int (0 : Int32)), (.ref a1)])) rfl (by rw [hml]; rfl) (argsL := [(.ref a1), (.int (0 : Int32)), (.int (1 : Int32))]) (rest := []) (lenOf pd_1 rfl) rfl (by show 2 * 0 + _ ≤ _; exact Nat.le_of_eq rfl) (hb hby d3_36) (fun _ _ => ⟨rfl, e2, (by decide : 0 + 1 ≤ _), (by decide : 0 + 1 ≤ _)⟩)
  dsimp only [Pt.U, Pt.locs, Pt.cells, Pt.slots] at X3 l3 y3 z3 st3 hQ3
  subst l3 y3 z3
  obtain ⟨h3, e3⟩ : ∃ z, T3.heap = z := ⟨_, rfl⟩
  rw [e3] at hQ3
  obtain ⟨va3, kb3, rfl, Nq3, Kq3, sd3, Vq3⟩ := hQ3
  have N3 := Fr.app N0 Nq3
  have sz_va3 : h0.size ≤ va3 := Nat.le_trans (Keep.refl h0 [a0]).1 sd3
  have ne_a0_va3 : a0 ≠ va3 := Nat.ne_of_lt (Nat.lt_of_lt_of_le E_a0.lt sd3)
  have K3 : Keep h0 h3 [a0] := (Keep.refl h0 [a0]).trans Kq3 all0
  refine Rest.via (fun t k => st3 t k) ?_
  show Rest p.tables e below s _ _ _ (T3.setTop (mkF m 39 #[.val (.ref a0), .val (.ref a1), .val (.int (0 : Int32)), .val (.int (1 : Int32)), .val .null, .unset] [(.ref va3)]))
  refine Rest.via (fun t k => XS.astore X3.here hx rfl (hb hby d3_39) rfl rfl (l' := #[.val (.ref a0), .val (.ref a1), .val (.int (0 : Int32)), .val (.int (1 : Int32)), .val .null, .val (.ref va3)]) rfl k) ?_
  refine Rest.via (fun t k => XS.aloadN X3.here hx rfl (hb hby d3_41) rfl rfl k) ?_
  refine Rest.via (fun t k => XS.aload X3.here hx rfl (hb hby d3_42) rfl rfl k) ?_
  refine Rest.via (fun t k => XS.iloadN X3.here hx rfl (hb hby d3_44) rfl k) ?_
  show Rest p.tables e below s _ _ _ (T3.setTop (mkF m 45 #[.val (.ref a0), .val (.ref a1), .val (.int (0 : Int32)), .val (.int (1 : Int32)), .val .null, .val (.ref va3)] [(.int (1 : Int32)), (.ref va3), (.ref a0)]))
  obtain ⟨_, _, ⟨T4, L4, k4, n4⟩, -, X4, ⟨Lc4, hQ4, l4, y4, z4⟩, st4⟩ := Jvm.LawKit.callS X3 hx (y := (⟨"java/lang/StringUTF16", "coderFromArrayLen", "([BI)B"⟩ : MethodName)) hown (mvT hZ (own_W hw 245 rfl)) (mvT hZ (own_W hw 246 rfl)) (mvT hZ (own_W hw 240 rfl)) (mvT hZ (own_W hw 247 rfl)) (by decide) (backOf (W := 1) (rmC1 l Z aw hw [] va3 kb3 _ h3 n0 (Nat.le_trans Z0 K3.1) Vq3) hZ (own_W hw 247 rfl) (own_W hw 240 rfl) (by decide) (by decide)) (g := (mkF m 45 #[.val (.ref a0), .val (.ref a1), .val (.int (0 : Int32)), .val (.int (1 : Int32)), .val .null, .val (.ref va3)] [(.int (1 : Int32)), (.ref va3), (.ref a0)])) rfl (by rw [hml]; rfl) (argsL := [(.ref va3), (.int (1 : Int32))]) (rest := [(.ref a0)]) (lenOf pd_2 rfl) rfl (by show 2 * 0 + _ ≤ _; exact Nat.le_of_eq rfl) (hb hby d3_45) (fun _ _ => ⟨rfl, e3, (by decide : 1 + 0 ≤ _), (by decide : 1 + 0 ≤ _)⟩)
  dsimp only [Pt.U, Pt.locs, Pt.cells, Pt.slots] at X4 l4 y4 z4 st4 hQ4
  subst l4 y4 z4
  obtain ⟨rfl, Nq4, e4⟩ := hQ4
  have N4 := Fr.app N3 Nq4
  refine Rest.via (fun t k => st4 t k) ?_
  show Rest p.tables e below s _ _ _ (T4.setTop (mkF m 48 #[.val (.ref a0), .val (.ref a1), .val (.int (0 : Int32)), .val (.int (1 : Int32)), .val .null, .val (.ref va3)] [(.int (0 : Int32)), (.ref a0)]))
  have Fo5 := (F_c.keep Kq3 nin0)
  obtain ⟨T5, h5, X5, e5, W5, st5⟩ := putFN X4 hx hZ hown (own_W hw 25 rfl) Via.refl e4 Fo5 (E_a0.keep Kq3) (Or.inr ⟨(own_W hw 21 rfl), rfl, hnm⟩) (own_W hw 5 rfl) (ty := .byte) (v' := (.int (0 : Int32))) (by decide) rfl (by decide) (g := (mkF m 48 #[.val (.ref a0), .val (.ref a1), .val (.int (0 : Int32)), .val (.int (1 : Int32)), .val .null, .val (.ref va3)] [(.int (0 : Int32)), (.ref a0)])) rfl rfl (hb hby d3_48)
  refine Rest.via (fun t k => st5 t k) ?_
  have N5 := Fr.snoc X5 N4 g_a0
  have K5 : Keep h0 h5 [a0] := K3.wr W5 (Or.inl (List.mem_of_getElem? (i := 0) rfl))
  have Fw5 := Fo5.same W5
  show Rest p.tables e below s _ _ _ (T5.setTop (mkF m 51 #[.val (.ref a0), .val (.ref a1), .val (.int (0 : Int32)), .val (.int (1 : Int32)), .val .null, .val (.ref va3)] []))
  refine Rest.via (fun t k => XS.aloadN X5.here hx rfl (hb hby d3_51) rfl rfl k) ?_
  refine Rest.via (fun t k => XS.aload X5.here hx rfl (hb hby d3_52) rfl rfl k) ?_
  have Fo6 := ((F_v.keep Kq3 nin0).other W5 (Or.inr (slot_ne (Or.inr (own_W hw 20 rfl)) (Or.inr (own_W hw 21 rfl)) (by decide) (t := (.array .byte)) (t' := .byte) (by decide) (by decide))))
  obtain ⟨T6, h6, X6, e6, W6, st6⟩ := putF X5 hx hZ hown (host := "") (Or.inl (own_W hw 24 rfl)) Via.refl e5 Fo6 ((E_a0.keep Kq3).wr W5) (Or.inr ⟨(own_W hw 20 rfl), rfl, hnm⟩) (own_W hw 5 rfl) (ty := (.array .byte)) (by decide) rfl rfl (g := (mkF m 54 #[.val (.ref a0), .val (.ref a1), .val (.int (0 : Int32)), .val (.int (1 : Int32)), .val .null, .val (.ref va3)] [(.ref va3), (.ref a0)])) rfl rfl (hb hby d3_54)
  refine Rest.via (fun t k => st6 t k) ?_
  have N6 := Fr.snoc X6 N5 g_a0
  have K6 : Keep h0 h6 [a0] := K5.wr W6 (Or.inl (List.mem_of_getElem? (i := 0) rfl))
  have Fw6 := Fo6.same W6
  show Rest p.tables e below s _ _ _ (T6.setTop (mkF m 57 #[.val (.ref a0), .val (.ref a1), .val (.int (0 : Int32)), .val (.int (1 : Int32)), .val .null, .val (.ref va3)] []))
  refine Rest.ret X6 (v := none) (fun _ => rfl) hlk (fun fs hr => X6.returnOut hx Bd.returns (hb hby d3_57) hr) ?_ (by decide) (by decide)
  rw [e6]
  exact ⟨rfl, N6, K6, va3, kb3, sz_va3, Fw6, (Fw5.other W6 (Or.inr (slot_ne (Or.inr (own_W hw 21 rfl)) (Or.inr (own_W hw 20 rfl)) (by decide) (t := .byte) (t' := (.array .byte)) (by decide) (by decide)))), ((Vq3.other W5 (Ne.symm ne_a0_va3)).other W6 (Ne.symm ne_a0_va3)), ne_a0_va3⟩
theorem pd_3 : parseMethodDescriptor "([CIILjava/lang/Void;)V" = some ⟨[(.array .char), .int, .int, (.object "java/lang/Void")], none⟩ := by decide +kernel
theorem d2_0 : decode jdk_42_method_3_code 0 = .ok (.aload_n 0, 1) := by decide +kernel
theorem d2_1 : decode jdk_42_method_3_code 1 = .ok (.aload_n 1, 1) := by decide +kernel
theorem d2_2 : decode jdk_42_method_3_code 2 = .ok (.iconst 0, 1) := by decide +kernel
theorem d2_3 : decode jdk_42_method_3_code 3 = .ok (.aload_n 1, 1) := by decide +kernel
theorem d2_4 : decode jdk_42_method_3_code 4 = .ok (.arraylength, 1) := by decide +kernel
theorem d2_5 : decode jdk_42_method_3_code 5 = .ok (.aconst_null, 1) := by decide +kernel
theorem d2_6 : decode jdk_42_method_3_code 6 = .ok (.invokespecial 27, 3) := by decide +kernel
theorem d2_9 : decode jdk_42_method_3_code 9 = .ok (.return_, 1) := by decide +kernel
theorem ef_SI1 (m : MethodId) (a0 : Addr) (a1 : Addr) : entryFrame m #[(.ref a0), (.ref a1)] 2 = mkF m 0 #[.val (.ref a0), .val (.ref a1)] [] := by first | (simp [entryFrame, mkF, argsToLocals, Value.category, maxLocals]; done) | rfl
def QSI1 (Z : State) (a0 : Addr) (a1 : Addr) (kc : ClassId) (ic : Int32) (ca : Int32) (h0 : Heap) (n0 : Nat) (v : Option Value) (h : Heap) (L : List Loc) : Prop := v = none ∧ Fr n0 L ∧ Keep h0 h [a0] ∧ ∃ va kb, h0.size ≤ va ∧ Fld Z h a0 "java/lang/String" "value" "[B" (.ref va) ∧ Fld Z h a0 "java/lang/String" "coder" "B" (.int (0 : Int32)) ∧ Arv Z h va kb .byte (1 : Int32) [(.int (own_by ca))] (.int (0 : Int32)) ∧ a0 ≠ va
set_option maxRecDepth 65536 in
set_option maxHeartbeats 40000000 in
theorem rmSI1 (l : Launch) (Z : State) (aw : Array Value) (hw : ∀ d ∈ tables_1, d.before aw Z = true) (ws : List Jvm.Cond) (a0 : Addr) (a1 : Addr) (kc : ClassId) (ic : Int32) (ca : Int32) (h0 : Heap) (n0 : Nat) (Z0 : n0 ≤ h0.size) (E_a0 : Exa Z h0 a0 "java/lang/String") (F_v : Fld Z h0 a0 "java/lang/String" "value" "[B" .null) (F_c : Fld Z h0 a0 "java/lang/String" "coder" "B" (.int (0 : Int32))) (g_a0 : n0 ≤ a0) (V1 : Arv Z h0 a1 kc .char (1 : Int32) [(.int ca)] (.int (0 : Int32))) (hca : ¬ ((255 : Int32) < ca)) (O : own_Old Z n0 h0) (CS : own_CS Z ic) :
    MetFree l (⟨"java/lang/String", "<init>", "([C)V"⟩ : MethodName) (head1 (Jvm.Cond.code (⟨"java/lang/String", "<init>", "([C)V"⟩ : MethodName) jdk_42_method_3_code 2 none :: ws) ({ frames := 3, cells := 1, slots := 1, locals := 52 } : Room)) (fun a U => a = #[(.ref a0), (.ref a1)] ∧ Z.Warmed39 U.vm ∧ U.heap = h0) (fun _ _ _ _ _ => True) (fun _ U o U' => ∃ v L, o = .returned v ∧ QSI1 Z a0 a1 kc ic ca h0 n0 v U'.heap L ∧ FrameEnd U o U' L ({ frames := 3, cells := 1, slots := 1, locals := 52 } : Room).cells ({ frames := 3, cells := 1, slots := 1, locals := 52 } : Room).slots) := by
  refine MetFree.of_bodySF (plainFor_of_name pn_1) hisR ?_
  intro p e s m args below meth c s₁ Bd hml0 hP hK
  obtain ⟨rfl, hZ, hh⟩ := hP
  have hx := Bd.exec
  have hby := Bd.bytes
  have hml : c.maxLocals = 2 := hml0
  have hown : s.vm.findClass "java/lang/String" = some m.cls := findClass_of_methodNamed Bd.named
  have hnm := (name_of_methodNamed Bd.named Bd.method).1
  have hlk : meth.locks = false := BodyLoose.notSynchronized Bd
  have X0 : Stand p l e ({ frames := 3, cells := 1, slots := 1, locals := 52 } : Room) s m #[(.ref a0), (.ref a1)] below meth c s₁ [] 0 0 := Stand.of_body Bd
  have _u := trivial
  have eh0 : s₁.heap = h0 := by rw [← hh, Bd.state]; rfl
  have N0 := Fr.nil n0
  show Rest p.tables e below s (QSI1 Z a0 a1 kc ic ca h0 n0) _ _ (s₁.setTop (entryFrame m #[(.ref a0), (.ref a1)] 2))
  refine Rest.via (fun t k => castTop (ef_SI1 m a0 a1) k) ?_
  show Rest p.tables e below s _ _ _ (s₁.setTop (mkF m 0 #[.val (.ref a0), .val (.ref a1)] []))
  refine Rest.via (fun t k => XS.aloadN X0.here hx rfl (hb hby d2_0) rfl rfl k) ?_
  refine Rest.via (fun t k => XS.aloadN X0.here hx rfl (hb hby d2_1) rfl rfl k) ?_
  refine Rest.via (fun t k => XS.iconst X0.here hx rfl (hb hby d2_2) k) ?_
  refine Rest.via (fun t k => XS.aloadN X0.here hx rfl (hb hby d2_3) rfl rfl k) ?_
  obtain ⟨cl1, Ar1, -, S1, P1, -, -⟩ := id V1
  refine Rest.via (fun t k => X0.arraylength hx (by rw [eh0]; exact Ar1.1) (State.isArrayOf_alike hZ.alike Ar1.2.1) (g := (mkF m 4 #[.val (.ref a0), .val (.ref a1)] [(.ref a1), (.int (0 : Int32)), (.ref a1), (.ref a0)])) rfl rfl (hb hby d2_4) t k) ?_
  rw [len_of S1 P1]
  show Rest p.tables e below s _ _ _ (s₁.setTop (mkF m 5 #[.val (.ref a0), .val (.ref a1)] [(.int (1 : Int32)), (.int (0 : Int32)), (.ref a1), (.ref a0)]))
  refine Rest.via (fun t k => XS.aconstNull X0.here hx rfl (hb hby d2_5) k) ?_
  show Rest p.tables e below s _ _ _ (s₁.setTop (mkF m 6 #[.val (.ref a0), .val (.ref a1)] [.null, (.int (1 : Int32)), (.int (0 : Int32)), (.ref a1), (.ref a0)]))
  obtain ⟨_, _, ⟨T2, L2, k2, n2⟩, -, X2, ⟨Lc2, hQ2, l2, y2, z2⟩, st2⟩ := X0.specialBack hx (y := (⟨"java/lang/String", "<init>", "([CIILjava/lang/Void;)V"⟩ : MethodName)) rfl hown (mvT hZ (own_W hw 11 rfl)) (mvT hZ (own_W hw 12 rfl)) (mvT hZ (own_W hw 14 rfl)) (by decide) (backOf (W := 0) (rmSJ1 l Z aw hw [] a0 a1 kc ic ca h0 n0 (Nat.le_trans Z0 (Keep.refl h0 [a0]).1) E_a0 F_v F_c g_a0 V1 hca (O.keep (Keep.refl h0 [a0]) (allS g_a0 all0)) CS) hZ (own_W hw 14 rfl) (own_W hw 6 rfl) (by decide) (by decide)) (g := (mkF m 6 #[.val (.ref a0), .val (.ref a1)] [.null, (.int (1 : Int32)), (.int (0 : Int32)), (.ref a1), (.ref a0)])) rfl (by rw [hml]; rfl) (Steps.refl _) (a := a0) (argsL := [(.ref a1), (.int (0 : Int32)), (.int (1 : Int32)), .null]) (rest := []) (lenOf pd_3 rfl) rfl (by show 2 * 0 + _ ≤ _; exact Nat.le_of_eq rfl) (hb hby d2_6) (fun _ _ => ⟨rfl, eh0, (by decide : 0 + 1 ≤ _), (by decide : 0 + 1 ≤ _)⟩)
  dsimp only [Pt.U, Pt.locs, Pt.cells, Pt.slots] at X2 l2 y2 z2 st2 hQ2
  subst l2 y2 z2
  obtain ⟨h2, e2⟩ : ∃ z, T2.heap = z := ⟨_, rfl⟩
  rw [e2] at hQ2
  obtain ⟨rfl, Nq2, Kq2, va2, kb2, sd2, Fv2, Fc2, Vq2, nb2⟩ := hQ2
  have N2 := Fr.app N0 Nq2
  have K2 : Keep h0 h2 [a0] := (Keep.refl h0 [a0]).trans Kq2 (allS (Or.inl (List.mem_of_getElem? (i := 0) rfl)) all0)
  refine Rest.via (fun t k => st2.trans k) ?_
  show Rest p.tables e below s _ _ _ (T2.setTop (mkF m 9 #[.val (.ref a0), .val (.ref a1)] []))
  refine Rest.ret X2 (v := none) (fun _ => rfl) hlk (fun fs hr => X2.returnOut hx Bd.returns (hb hby d2_9) hr) ?_ (by decide) (by decide)
  rw [e2]
  exact ⟨rfl, N2, K2, va2, kb2, Nat.le_trans (Keep.refl h0 [a0]).1 sd2, Fv2, Fc2, Vq2, nb2⟩
theorem ef_U2 (m : MethodId) (a0 : Addr) (a2 : Addr) : entryFrame m #[(.ref a0), (.int (0 : Int32)), (.ref a2), (.int (0 : Int32)), (.int (2 : Int32))] 7 = mkF m 0 #[.val (.ref a0), .val (.int (0 : Int32)), .val (.ref a2), .val (.int (0 : Int32)), .val (.int (2 : Int32)), .unset, .unset] [] := by first | (simp [entryFrame, mkF, argsToLocals, Value.category, maxLocals]; done) | rfl
def QU2 (Z : State) (a0 : Addr) (a2 : Addr) (kc : ClassId) (kb : ClassId) (ca : Int32) (cb : Int32) (h0 : Heap) (n0 : Nat) (v : Option Value) (h : Heap) (L : List Loc) : Prop := v = some (.int (2 : Int32)) ∧ Fr n0 L ∧ Keep h0 h [a2] ∧ Arv Z h a2 kb .byte (2 : Int32) [(.int (own_by ca)), (.int (own_by cb))] (.int (0 : Int32))
set_option maxRecDepth 65536 in
set_option maxHeartbeats 40000000 in
theorem rmU2 (l : Launch) (Z : State) (aw : Array Value) (hw : ∀ d ∈ tables_1, d.before aw Z = true) (ws : List Jvm.Cond) (a0 : Addr) (a2 : Addr) (kc : ClassId) (kb : ClassId) (ca : Int32) (cb : Int32) (h0 : Heap) (n0 : Nat) (Z0 : n0 ≤ h0.size) (V0 : Arv Z h0 a0 kc .char (2 : Int32) [(.int ca), (.int cb)] (.int (0 : Int32))) (V2 : Arv Z h0 a2 kb .byte (2 : Int32) [(.int (0 : Int32)), (.int (0 : Int32))] (.int (0 : Int32))) (n02 : a0 ≠ a2) (g_a2 : n0 ≤ a2) (hca : ¬ ((255 : Int32) < ca)) (hcb : ¬ ((255 : Int32) < cb)) :
    MetFree l (⟨"java/lang/StringUTF16", "compress", "([CI[BII)I"⟩ : MethodName) (head1 (Jvm.Cond.code (⟨"java/lang/StringUTF16", "compress", "([CI[BII)I"⟩ : MethodName) jdk_52_method_21_code 7 (some .int) :: ws) ({ frames := 0, cells := 0, slots := 0, locals := 0 } : Room)) (fun a U => a = #[(.ref a0), (.int (0 : Int32)), (.ref a2), (.int (0 : Int32)), (.int (2 : Int32))] ∧ Z.Warmed39 U.vm ∧ U.heap = h0) (fun _ _ _ _ _ => True) (fun _ U o U' => ∃ v L, o = .returned v ∧ QU2 Z a0 a2 kc kb ca cb h0 n0 v U'.heap L ∧ FrameEnd U o U' L ({ frames := 0, cells := 0, slots := 0, locals := 0 } : Room).cells ({ frames := 0, cells := 0, slots := 0, locals := 0 } : Room).slots) := by
  refine MetFree.of_bodySF (plainFor_of_name pn_0) hisR ?_
  intro p e s m args below meth c s₁ Bd hml0 hP hK
  obtain ⟨rfl, hZ, hh⟩ := hP
  have hx := Bd.exec
  have hby := Bd.bytes
  have hml : c.maxLocals = 7 := hml0
  have hown : s.vm.findClass "java/lang/StringUTF16" = some m.cls := findClass_of_methodNamed Bd.named
  have hnm := (name_of_methodNamed Bd.named Bd.method).1
  have hlk : meth.locks = false := BodyLoose.notSynchronized Bd
  have X0 : Stand p l e ({ frames := 0, cells := 0, slots := 0, locals := 0 } : Room) s m #[(.ref a0), (.int (0 : Int32)), (.ref a2), (.int (0 : Int32)), (.int (2 : Int32))] below meth c s₁ [] 0 0 := Stand.of_body Bd
  have _u := trivial
  have eh0 : s₁.heap = h0 := by rw [← hh, Bd.state]; rfl
  have N0 := Fr.nil n0
  show Rest p.tables e below s (QU2 Z a0 a2 kc kb ca cb h0 n0) _ _ (s₁.setTop (entryFrame m #[(.ref a0), (.int (0 : Int32)), (.ref a2), (.int (0 : Int32)), (.int (2 : Int32))] 7))
  refine Rest.via (fun t k => castTop (ef_U2 m a0 a2) k) ?_
  show Rest p.tables e below s _ _ _ (s₁.setTop (mkF m 0 #[.val (.ref a0), .val (.int (0 : Int32)), .val (.ref a2), .val (.int (0 : Int32)), .val (.int (2 : Int32)), .unset, .unset] []))
  refine Rest.via (fun t k => XS.iconst X0.here hx rfl (hb hby d44_0) k) ?_
  refine Rest.via (fun t k => XS.istore X0.here hx rfl (hb hby d44_1) rfl (l' := #[.val (.ref a0), .val (.int (0 : Int32)), .val (.ref a2), .val (.int (0 : Int32)), .val (.int (2 : Int32)), .val (.int (0 : Int32)), .unset]) rfl k) ?_
  refine Rest.via (fun t k => XS.iload X0.here hx rfl (hb hby d44_3) rfl k) ?_
  refine Rest.via (fun t k => XS.iload X0.here hx rfl (hb hby d44_5) rfl k) ?_
  refine Rest.via (fun t k => XS.icmpNo X0.here hx rfl (hb hby d44_7) rfl (tlt (by decide : (0 : Int32) < (2 : Int32))).2.1 k) ?_
  show Rest p.tables e below s _ _ _ (s₁.setTop (mkF m 10 #[.val (.ref a0), .val (.int (0 : Int32)), .val (.ref a2), .val (.int (0 : Int32)), .val (.int (2 : Int32)), .val (.int (0 : Int32)), .unset] []))
  refine Rest.via (fun t k => XS.aloadN X0.here hx rfl (hb hby d44_10) rfl rfl k) ?_
  refine Rest.via (fun t k => XS.iloadN X0.here hx rfl (hb hby d44_11) rfl k) ?_
  obtain ⟨cl1, Ar1, qa1, Sa1, Pa1, Ha1, Ga1⟩ := id V0
  have hin1 := inb_of (j := (0 : Int32)) Sa1 ⟨by decide, by decide⟩
  have hat1 : cl1.slots[((0 : Int32)).toNatClampNeg]? = some (.int ca) := Has.at Ha1 hin1 rfl
  refine Rest.via (fun t k => X0.caload hx (j := (0 : Int32)) (v := (.int ca)) (by rw [eh0]; exact Ar1.1) (State.isArrayOf_alike hZ.alike Ar1.2.1) Ar1.2.2 hin1 hat1 (g := (mkF m 12 #[.val (.ref a0), .val (.int (0 : Int32)), .val (.ref a2), .val (.int (0 : Int32)), .val (.int (2 : Int32)), .val (.int (0 : Int32)), .unset] [(.int (0 : Int32)), (.ref a0)])) rfl rfl (hb hby d44_12) t k) ?_
  show Rest p.tables e below s _ _ _ (s₁.setTop (mkF m 13 #[.val (.ref a0), .val (.int (0 : Int32)), .val (.ref a2), .val (.int (0 : Int32)), .val (.int (2 : Int32)), .val (.int (0 : Int32)), .unset] [(.int ca)]))
  refine Rest.via (fun t k => XS.istore X0.here hx rfl (hb hby d44_13) rfl (l' := #[.val (.ref a0), .val (.int (0 : Int32)), .val (.ref a2), .val (.int (0 : Int32)), .val (.int (2 : Int32)), .val (.int (0 : Int32)), .val (.int ca)]) rfl k) ?_
  refine Rest.via (fun t k => XS.iload X0.here hx rfl (hb hby d44_15) rfl k) ?_
  refine Rest.via (fun t k => XS.sipush X0.here hx rfl (hb hby d44_17) k) ?_
  refine Rest.via (fun t k => XS.icmpYes X0.here hx rfl (pc0 := 20) (pc' := 26) rfl (hb hby d44_20) rfl (flt (hca : ¬ ((255 : Int32) < ca))).2.2.2 (by decide) (by decide) k) ?_
  show Rest p.tables e below s _ _ _ (s₁.setTop (mkF m 26 #[.val (.ref a0), .val (.int (0 : Int32)), .val (.ref a2), .val (.int (0 : Int32)), .val (.int (2 : Int32)), .val (.int (0 : Int32)), .val (.int ca)] []))
  refine Rest.via (fun t k => XS.aloadN X0.here hx rfl (hb hby d44_26) rfl rfl k) ?_
  refine Rest.via (fun t k => XS.iloadN X0.here hx rfl (hb hby d44_27) rfl k) ?_
  refine Rest.via (fun t k => XS.iload X0.here hx rfl (hb hby d44_28) rfl k) ?_
  refine Rest.via (fun t k => XS.i2b X0.here hx rfl (hb hby d44_30) rfl k) ?_
  obtain ⟨cl2, Ar2, qa2, Sa2, Pa2, Ha2, Ga2⟩ := id V2
  have hin2 := inb_of (j := (0 : Int32)) Sa2 ⟨by decide, by decide⟩
  obtain ⟨T2, h2, X2, e2, W2, st2⟩ := stB X0 hx hZ eh0 Ar2 (j := (0 : Int32)) hin2 (g := (mkF m 31 #[.val (.ref a0), .val (.int (0 : Int32)), .val (.ref a2), .val (.int (0 : Int32)), .val (.int (2 : Int32)), .val (.int (0 : Int32)), .val (.int ca)] [(.int (ca.toInt8.toInt32)), (.int (0 : Int32)), (.ref a2)])) rfl rfl (hb hby d44_31)
  refine Rest.via (fun t k => st2 t k) ?_
  have N2 := Fr.snoc X2 N0 g_a2
  have K2 : Keep h0 h2 [a2] := (Keep.refl h0 [a2]).wr W2 (Or.inl (List.mem_of_getElem? (i := 0) rfl))
  have V2 : Arv Z h2 a2 kb .byte (2 : Int32) [(.int (own_by ca)), (.int (0 : Int32))] (.int (0 : Int32)) := by have q := Arv.set Ar2 qa2 Sa2 Pa2 Ha2 Ga2 (fits_nar_byte _) W2 0 rfl (Nat.le_of_ble_eq_true rfl); rw [own_by_nar] at q; exact q
  show Rest p.tables e below s _ _ _ (T2.setTop (mkF m 32 #[.val (.ref a0), .val (.int (0 : Int32)), .val (.ref a2), .val (.int (0 : Int32)), .val (.int (2 : Int32)), .val (.int (0 : Int32)), .val (.int ca)] []))
  refine Rest.via (fun t k => XS.iinc X2.here hx rfl (hb hby d44_32) rfl (l' := #[.val (.ref a0), .val (.int ((0 : Int32) + (1 : Int32))), .val (.ref a2), .val (.int (0 : Int32)), .val (.int (2 : Int32)), .val (.int (0 : Int32)), .val (.int ca)]) rfl k) ?_
  show Rest p.tables e below s _ _ _ (T2.setTop (mkF m 35 #[.val (.ref a0), .val (.int ((0 : Int32) + (1 : Int32))), .val (.ref a2), .val (.int (0 : Int32)), .val (.int (2 : Int32)), .val (.int (0 : Int32)), .val (.int ca)] []))
  rw [(by decide : ((0 : Int32) + (1 : Int32)) = (1 : Int32))]
  show Rest p.tables e below s _ _ _ (T2.setTop (mkF m 35 #[.val (.ref a0), .val (.int (1 : Int32)), .val (.ref a2), .val (.int (0 : Int32)), .val (.int (2 : Int32)), .val (.int (0 : Int32)), .val (.int ca)] []))
  refine Rest.via (fun t k => XS.iinc X2.here hx rfl (hb hby d44_35) rfl (l' := #[.val (.ref a0), .val (.int (1 : Int32)), .val (.ref a2), .val (.int ((0 : Int32) + (1 : Int32))), .val (.int (2 : Int32)), .val (.int (0 : Int32)), .val (.int ca)]) rfl k) ?_
  show Rest p.tables e below s _ _ _ (T2.setTop (mkF m 38 #[.val (.ref a0), .val (.int (1 : Int32)), .val (.ref a2), .val (.int ((0 : Int32) + (1 : Int32))), .val (.int (2 : Int32)), .val (.int (0 : Int32)), .val (.int ca)] []))
  rw [(by decide : ((0 : Int32) + (1 : Int32)) = (1 : Int32))]
  show Rest p.tables e below s _ _ _ (T2.setTop (mkF m 38 #[.val (.ref a0), .val (.int (1 : Int32)), .val (.ref a2), .val (.int (1 : Int32)), .val (.int (2 : Int32)), .val (.int (0 : Int32)), .val (.int ca)] []))
  refine Rest.via (fun t k => XS.iinc X2.here hx rfl (hb hby d44_38) rfl (l' := #[.val (.ref a0), .val (.int (1 : Int32)), .val (.ref a2), .val (.int (1 : Int32)), .val (.int (2 : Int32)), .val (.int ((0 : Int32) + (1 : Int32))), .val (.int ca)]) rfl k) ?_
  show Rest p.tables e below s _ _ _ (T2.setTop (mkF m 41 #[.val (.ref a0), .val (.int (1 : Int32)), .val (.ref a2), .val (.int (1 : Int32)), .val (.int (2 : Int32)), .val (.int ((0 : Int32) + (1 : Int32))), .val (.int ca)] []))
  rw [(by decide : ((0 : Int32) + (1 : Int32)) = (1 : Int32))]
  show Rest p.tables e below s _ _ _ (T2.setTop (mkF m 41 #[.val (.ref a0), .val (.int (1 : Int32)), .val (.ref a2), .val (.int (1 : Int32)), .val (.int (2 : Int32)), .val (.int (1 : Int32)), .val (.int ca)] []))
  refine Rest.via (fun t k => XS.goto X2.here hx rfl (pc0 := 41) (pc' := 3) rfl (hb hby d44_41) (by decide) (by decide) k) ?_
  refine Rest.via (fun t k => XS.iload X2.here hx rfl (hb hby d44_3) rfl k) ?_
  refine Rest.via (fun t k => XS.iload X2.here hx rfl (hb hby d44_5) rfl k) ?_
  refine Rest.via (fun t k => XS.icmpNo X2.here hx rfl (hb hby d44_7) rfl (tlt (by decide : (1 : Int32) < (2 : Int32))).2.1 k) ?_
  show Rest p.tables e below s _ _ _ (T2.setTop (mkF m 10 #[.val (.ref a0), .val (.int (1 : Int32)), .val (.ref a2), .val (.int (1 : Int32)), .val (.int (2 : Int32)), .val (.int (1 : Int32)), .val (.int ca)] []))
  refine Rest.via (fun t k => XS.aloadN X2.here hx rfl (hb hby d44_10) rfl rfl k) ?_
  refine Rest.via (fun t k => XS.iloadN X2.here hx rfl (hb hby d44_11) rfl k) ?_
  obtain ⟨cl3, Ar3, qa3, Sa3, Pa3, Ha3, Ga3⟩ := id (V0.other W2 n02)
  have hin3 := inb_of (j := (1 : Int32)) Sa3 ⟨by decide, by decide⟩
  have hat3 : cl3.slots[((1 : Int32)).toNatClampNeg]? = some (.int cb) := Has.at Ha3 hin3 rfl
  refine Rest.via (fun t k => X2.caload hx (j := (1 : Int32)) (v := (.int cb)) (by rw [e2]; exact Ar3.1) (State.isArrayOf_alike hZ.alike Ar3.2.1) Ar3.2.2 hin3 hat3 (g := (mkF m 12 #[.val (.ref a0), .val (.int (1 : Int32)), .val (.ref a2), .val (.int (1 : Int32)), .val (.int (2 : Int32)), .val (.int (1 : Int32)), .val (.int ca)] [(.int (1 : Int32)), (.ref a0)])) rfl rfl (hb hby d44_12) t k) ?_
  show Rest p.tables e below s _ _ _ (T2.setTop (mkF m 13 #[.val (.ref a0), .val (.int (1 : Int32)), .val (.ref a2), .val (.int (1 : Int32)), .val (.int (2 : Int32)), .val (.int (1 : Int32)), .val (.int ca)] [(.int cb)]))
  refine Rest.via (fun t k => XS.istore X2.here hx rfl (hb hby d44_13) rfl (l' := #[.val (.ref a0), .val (.int (1 : Int32)), .val (.ref a2), .val (.int (1 : Int32)), .val (.int (2 : Int32)), .val (.int (1 : Int32)), .val (.int cb)]) rfl k) ?_
  refine Rest.via (fun t k => XS.iload X2.here hx rfl (hb hby d44_15) rfl k) ?_
  refine Rest.via (fun t k => XS.sipush X2.here hx rfl (hb hby d44_17) k) ?_
  refine Rest.via (fun t k => XS.icmpYes X2.here hx rfl (pc0 := 20) (pc' := 26) rfl (hb hby d44_20) rfl (flt (hcb : ¬ ((255 : Int32) < cb))).2.2.2 (by decide) (by decide) k) ?_
  show Rest p.tables e below s _ _ _ (T2.setTop (mkF m 26 #[.val (.ref a0), .val (.int (1 : Int32)), .val (.ref a2), .val (.int (1 : Int32)), .val (.int (2 : Int32)), .val (.int (1 : Int32)), .val (.int cb)] []))
  refine Rest.via (fun t k => XS.aloadN X2.here hx rfl (hb hby d44_26) rfl rfl k) ?_
  refine Rest.via (fun t k => XS.iloadN X2.here hx rfl (hb hby d44_27) rfl k) ?_
  refine Rest.via (fun t k => XS.iload X2.here hx rfl (hb hby d44_28) rfl k) ?_
  refine Rest.via (fun t k => XS.i2b X2.here hx rfl (hb hby d44_30) rfl k) ?_
  obtain ⟨cl4, Ar4, qa4, Sa4, Pa4, Ha4, Ga4⟩ := id V2
  have hin4 := inb_of (j := (1 : Int32)) Sa4 ⟨by decide, by decide⟩
  obtain ⟨T4, h4, X4, e4, W4, st4⟩ := stB X2 hx hZ e2 Ar4 (j := (1 : Int32)) hin4 (g := (mkF m 31 #[.val (.ref a0), .val (.int (1 : Int32)), .val (.ref a2), .val (.int (1 : Int32)), .val (.int (2 : Int32)), .val (.int (1 : Int32)), .val (.int cb)] [(.int (cb.toInt8.toInt32)), (.int (1 : Int32)), (.ref a2)])) rfl rfl (hb hby d44_31)
  refine Rest.via (fun t k => st4 t k) ?_
  have N4 := Fr.snoc X4 N2 g_a2
  have K4 : Keep h0 h4 [a2] := K2.wr W4 (Or.inl (List.mem_of_getElem? (i := 0) rfl))
  have V4 : Arv Z h4 a2 kb .byte (2 : Int32) [(.int (own_by ca)), (.int (own_by cb))] (.int (0 : Int32)) := by have q := Arv.set Ar4 qa4 Sa4 Pa4 Ha4 Ga4 (fits_nar_byte _) W4 1 rfl (Nat.le_of_ble_eq_true rfl); rw [own_by_nar] at q; exact q
  show Rest p.tables e below s _ _ _ (T4.setTop (mkF m 32 #[.val (.ref a0), .val (.int (1 : Int32)), .val (.ref a2), .val (.int (1 : Int32)), .val (.int (2 : Int32)), .val (.int (1 : Int32)), .val (.int cb)] []))
  refine Rest.via (fun t k => XS.iinc X4.here hx rfl (hb hby d44_32) rfl (l' := #[.val (.ref a0), .val (.int ((1 : Int32) + (1 : Int32))), .val (.ref a2), .val (.int (1 : Int32)), .val (.int (2 : Int32)), .val (.int (1 : Int32)), .val (.int cb)]) rfl k) ?_
  show Rest p.tables e below s _ _ _ (T4.setTop (mkF m 35 #[.val (.ref a0), .val (.int ((1 : Int32) + (1 : Int32))), .val (.ref a2), .val (.int (1 : Int32)), .val (.int (2 : Int32)), .val (.int (1 : Int32)), .val (.int cb)] []))
  rw [(by decide : ((1 : Int32) + (1 : Int32)) = (2 : Int32))]
  show Rest p.tables e below s _ _ _ (T4.setTop (mkF m 35 #[.val (.ref a0), .val (.int (2 : Int32)), .val (.ref a2), .val (.int (1 : Int32)), .val (.int (2 : Int32)), .val (.int (1 : Int32)), .val (.int cb)] []))
  refine Rest.via (fun t k => XS.iinc X4.here hx rfl (hb hby d44_35) rfl (l' := #[.val (.ref a0), .val (.int (2 : Int32)), .val (.ref a2), .val (.int ((1 : Int32) + (1 : Int32))), .val (.int (2 : Int32)), .val (.int (1 : Int32)), .val (.int cb)]) rfl k) ?_
  show Rest p.tables e below s _ _ _ (T4.setTop (mkF m 38 #[.val (.ref a0), .val (.int (2 : Int32)), .val (.ref a2), .val (.int ((1 : Int32) + (1 : Int32))), .val (.int (2 : Int32)), .val (.int (1 : Int32)), .val (.int cb)] []))
  rw [(by decide : ((1 : Int32) + (1 : Int32)) = (2 : Int32))]
  show Rest p.tables e below s _ _ _ (T4.setTop (mkF m 38 #[.val (.ref a0), .val (.int (2 : Int32)), .val (.ref a2), .val (.int (2 : Int32)), .val (.int (2 : Int32)), .val (.int (1 : Int32)), .val (.int cb)] []))
  refine Rest.via (fun t k => XS.iinc X4.here hx rfl (hb hby d44_38) rfl (l' := #[.val (.ref a0), .val (.int (2 : Int32)), .val (.ref a2), .val (.int (2 : Int32)), .val (.int (2 : Int32)), .val (.int ((1 : Int32) + (1 : Int32))), .val (.int cb)]) rfl k) ?_
  show Rest p.tables e below s _ _ _ (T4.setTop (mkF m 41 #[.val (.ref a0), .val (.int (2 : Int32)), .val (.ref a2), .val (.int (2 : Int32)), .val (.int (2 : Int32)), .val (.int ((1 : Int32) + (1 : Int32))), .val (.int cb)] []))
  rw [(by decide : ((1 : Int32) + (1 : Int32)) = (2 : Int32))]
  show Rest p.tables e below s _ _ _ (T4.setTop (mkF m 41 #[.val (.ref a0), .val (.int (2 : Int32)), .val (.ref a2), .val (.int (2 : Int32)), .val (.int (2 : Int32)), .val (.int (2 : Int32)), .val (.int cb)] []))
  refine Rest.via (fun t k => XS.goto X4.here hx rfl (pc0 := 41) (pc' := 3) rfl (hb hby d44_41) (by decide) (by decide) k) ?_
  refine Rest.via (fun t k => XS.iload X4.here hx rfl (hb hby d44_3) rfl k) ?_
  refine Rest.via (fun t k => XS.iload X4.here hx rfl (hb hby d44_5) rfl k) ?_
  refine Rest.via (fun t k => XS.icmpYes X4.here hx rfl (pc0 := 7) (pc' := 44) rfl (hb hby d44_7) rfl (flt (by decide : ¬ ((2 : Int32) < (2 : Int32)))).2.1 (by decide) (by decide) k) ?_
  show Rest p.tables e below s _ _ _ (T4.setTop (mkF m 44 #[.val (.ref a0), .val (.int (2 : Int32)), .val (.ref a2), .val (.int (2 : Int32)), .val (.int (2 : Int32)), .val (.int (2 : Int32)), .val (.int cb)] []))
  refine Rest.via (fun t k => XS.iload X4.here hx rfl (hb hby d44_44) rfl k) ?_
  refine Rest.ret X4 (v := some (.int (2 : Int32))) (fun h => by rw [Bd.returns] at h; cases h) hlk (fun fs hr => retOut X4 hx Bd.returns rfl (Or.inl ⟨rfl, Or.inl rfl, _, rfl⟩) (hb hby d44_46) hr) ?_ (by decide) (by decide)
  rw [e4]
  exact ⟨rfl, N4, K4, V4⟩
theorem ef_W2 (m : MethodId) (a0 : Addr) : entryFrame m #[(.ref a0), (.int (0 : Int32)), (.int (2 : Int32))] 6 = mkF m 0 #[.val (.ref a0), .val (.int (0 : Int32)), .val (.int (2 : Int32)), .unset, .unset, .unset] [] := by first | (simp [entryFrame, mkF, argsToLocals, Value.category, maxLocals]; done) | rfl
def QW2 (Z : State) (a0 : Addr) (kc : ClassId) (ca : Int32) (cb : Int32) (h0 : Heap) (n0 : Nat) (v : Option Value) (h : Heap) (L : List Loc) : Prop := ∃ va kb, v = some (.ref va) ∧ Fr n0 L ∧ Keep h0 h [] ∧ h0.size ≤ va ∧ Arv Z h va kb .byte (2 : Int32) [(.int (own_by ca)), (.int (own_by cb))] (.int (0 : Int32))
set_option maxRecDepth 65536 in
set_option maxHeartbeats 40000000 in
theorem rmW2 (l : Launch) (Z : State) (aw : Array Value) (hw : ∀ d ∈ tables_1, d.before aw Z = true) (ws : List Jvm.Cond) (a0 : Addr) (kc : ClassId) (ca : Int32) (cb : Int32) (h0 : Heap) (n0 : Nat) (Z0 : n0 ≤ h0.size) (V0 : Arv Z h0 a0 kc .char (2 : Int32) [(.int ca), (.int cb)] (.int (0 : Int32))) (hca : ¬ ((255 : Int32) < ca)) (hcb : ¬ ((255 : Int32) < cb)) :
    MetFree l (⟨"java/lang/StringUTF16", "compress", "([CII)[B"⟩ : MethodName) (head1 (Jvm.Cond.code (⟨"java/lang/StringUTF16", "compress", "([CII)[B"⟩ : MethodName) jdk_52_method_16_code 6 (some (.array .byte)) :: ws) ({ frames := 1, cells := 1, slots := 2, locals := 18 } : Room)) (fun a U => a = #[(.ref a0), (.int (0 : Int32)), (.int (2 : Int32))] ∧ Z.Warmed39 U.vm ∧ U.heap = h0) (fun _ _ _ _ _ => True) (fun _ U o U' => ∃ v L, o = .returned v ∧ QW2 Z a0 kc ca cb h0 n0 v U'.heap L ∧ FrameEnd U o U' L ({ frames := 1, cells := 1, slots := 2, locals := 18 } : Room).cells ({ frames := 1, cells := 1, slots := 2, locals := 18 } : Room).slots) := by
  refine MetFree.of_bodySF (plainFor_of_name pn_0) hisR ?_
  intro p e s m args below meth c s₁ Bd hml0 hP hK
  obtain ⟨rfl, hZ, hh⟩ := hP
  have hx := Bd.exec
  have hby := Bd.bytes
  have hml : c.maxLocals = 6 := hml0
  have hown : s.vm.findClass "java/lang/StringUTF16" = some m.cls := findClass_of_methodNamed Bd.named
  have hnm := (name_of_methodNamed Bd.named Bd.method).1
  have hlk : meth.locks = false := BodyLoose.notSynchronized Bd
  have X0 : Stand p l e ({ frames := 1, cells := 1, slots := 2, locals := 18 } : Room) s m #[(.ref a0), (.int (0 : Int32)), (.int (2 : Int32))] below meth c s₁ [] 0 0 := Stand.of_body Bd
  have _u := trivial
  have eh0 : s₁.heap = h0 := by rw [← hh, Bd.state]; rfl
  have N0 := Fr.nil n0
  show Rest p.tables e below s (QW2 Z a0 kc ca cb h0 n0) _ _ (s₁.setTop (entryFrame m #[(.ref a0), (.int (0 : Int32)), (.int (2 : Int32))] 6))
  refine Rest.via (fun t k => castTop (ef_W2 m a0) k) ?_
  show Rest p.tables e below s _ _ _ (s₁.setTop (mkF m 0 #[.val (.ref a0), .val (.int (0 : Int32)), .val (.int (2 : Int32)), .unset, .unset, .unset] []))
  refine Rest.via (fun t k => XS.iloadN X0.here hx rfl (hb hby d43_0) rfl k) ?_
  show Rest p.tables e below s _ _ _ (s₁.setTop (mkF m 1 #[.val (.ref a0), .val (.int (0 : Int32)), .val (.int (2 : Int32)), .unset, .unset, .unset] [(.int (2 : Int32))]))
  obtain ⟨T1, h1, k1, X1, e1, E1, A1, st1⟩ := newP X0 hx hZ (own_W hw 19 rfl) eh0 (g := (mkF m 1 #[.val (.ref a0), .val (.int (0 : Int32)), .val (.int (2 : Int32)), .unset, .unset, .unset] [(.int (2 : Int32))])) rfl (hb hby d43_1) rfl (by decide) (cap := 2) (by decide) (by decide) (by decide) (by decide)
  obtain ⟨b1, gq1⟩ : ∃ z, z = h0.size := ⟨_, rfl⟩
  rw [← gq1] at A1 st1
  have sz_b1 : h0.size ≤ b1 := Nat.le_trans (Keep.refl h0 []).1 (Nat.le_of_eq gq1.symm)
  have g_b1 : n0 ≤ b1 := Nat.le_trans Z0 sz_b1
  have ne_a0_b1 : a0 ≠ b1 := Nat.ne_of_lt (Nat.lt_of_lt_of_le V0.lt (Nat.le_of_eq gq1.symm))
  have K1 : Keep h0 h1 [] := (Keep.refl h0 []).ext E1
  have V_b1 := Arv.new A1 (by decide)
  have V_b1 : Arv Z h1 b1 k1 .byte (2 : Int32) [(.int (0 : Int32)), (.int (0 : Int32))] (.int (0 : Int32)) := V_b1.pad (pad_rep [] (.int (0 : Int32)) 2)
  refine Rest.via (fun t k => st1 t k) ?_
  show Rest p.tables e below s _ _ _ (T1.setTop (mkF m 3 #[.val (.ref a0), .val (.int (0 : Int32)), .val (.int (2 : Int32)), .unset, .unset, .unset] [(.ref b1)]))
  refine Rest.via (fun t k => XS.astoreN X1.here hx rfl (hb hby d43_3) rfl rfl (l' := #[.val (.ref a0), .val (.int (0 : Int32)), .val (.int (2 : Int32)), .val (.ref b1), .unset, .unset]) rfl k) ?_
  refine Rest.via (fun t k => XS.aloadN X1.here hx rfl (hb hby d43_4) rfl rfl k) ?_
  refine Rest.via (fun t k => XS.iloadN X1.here hx rfl (hb hby d43_5) rfl k) ?_
  refine Rest.via (fun t k => XS.aloadN X1.here hx rfl (hb hby d43_6) rfl rfl k) ?_
  refine Rest.via (fun t k => XS.iconst X1.here hx rfl (hb hby d43_7) k) ?_
  refine Rest.via (fun t k => XS.iloadN X1.here hx rfl (hb hby d43_8) rfl k) ?_
  show Rest p.tables e below s _ _ _ (T1.setTop (mkF m 9 #[.val (.ref a0), .val (.int (0 : Int32)), .val (.int (2 : Int32)), .val (.ref b1), .unset, .unset] [(.int (2 : Int32)), (.int (0 : Int32)), (.ref b1), (.int (0 : Int32)), (.ref a0)]))
  obtain ⟨_, _, ⟨T2, L2, k2, n2⟩, -, X2, ⟨Lc2, hQ2, l2, y2, z2⟩, st2⟩ := Jvm.LawKit.callS X1 hx (y := (⟨"java/lang/StringUTF16", "compress", "([CI[BII)I"⟩ : MethodName)) hown (mvT hZ (own_W hw 242 rfl)) (mvT hZ (own_W hw 243 rfl)) (mvT hZ (own_W hw 240 rfl)) (mvT hZ (own_W hw 244 rfl)) (by decide) (backOf (W := 0) (rmU2 l Z aw hw [] a0 b1 kc k1 ca cb h1 n0 (Nat.le_trans Z0 K1.1) (V0.ext E1) V_b1 ne_a0_b1 g_b1 hca hcb) hZ (own_W hw 244 rfl) (own_W hw 240 rfl) (by decide) (by decide)) (g := (mkF m 9 #[.val (.ref a0), .val (.int (0 : Int32)), .val (.int (2 : Int32)), .val (.ref b1), .unset, .unset] [(.int (2 : Int32)), (.int (0 : Int32)), (.ref b1), (.int (0 : Int32)), (.ref a0)])) rfl (by rw [hml]; rfl) (argsL := [(.ref a0), (.int (0 : Int32)), (.ref b1), (.int (0 : Int32)), (.int (2 : Int32))]) (rest := []) (lenOf pd_0 rfl) rfl (by show 2 * 0 + _ ≤ _; exact Nat.le_of_eq rfl) (hb hby d43_9) (fun _ _ => ⟨rfl, e1, (by decide : 1 + 0 ≤ _), (by decide : 2 + 0 ≤ _)⟩)
  dsimp only [Pt.U, Pt.locs, Pt.cells, Pt.slots] at X2 l2 y2 z2 st2 hQ2
  subst l2 y2 z2
  obtain ⟨h2, e2⟩ : ∃ z, T2.heap = z := ⟨_, rfl⟩
  rw [e2] at hQ2
  obtain ⟨rfl, Nq2, Kq2, Vq2⟩ := hQ2
  have N2 := Fr.app N0 Nq2
  have K2 : Keep h0 h2 [] := K1.trans Kq2 (allS (Or.inr sz_b1) all0)
  refine Rest.via (fun t k => st2 t k) ?_
  show Rest p.tables e below s _ _ _ (T2.setTop (mkF m 12 #[.val (.ref a0), .val (.int (0 : Int32)), .val (.int (2 : Int32)), .val (.ref b1), .unset, .unset] [(.int (2 : Int32))]))
  refine Rest.via (fun t k => XS.istore X2.here hx rfl (hb hby d43_12) rfl (l' := #[.val (.ref a0), .val (.int (0 : Int32)), .val (.int (2 : Int32)), .val (.ref b1), .val (.int (2 : Int32)), .unset]) rfl k) ?_
  refine Rest.via (fun t k => XS.iload X2.here hx rfl (hb hby d43_14) rfl k) ?_
  refine Rest.via (fun t k => XS.iloadN X2.here hx rfl (hb hby d43_16) rfl k) ?_
  refine Rest.via (fun t k => XS.icmpYes X2.here hx rfl (pc0 := 17) (pc' := 57) rfl (hb hby d43_17) rfl (teq (by decide : (2 : Int32) = (2 : Int32))).1 (by decide) (by decide) k) ?_
  show Rest p.tables e below s _ _ _ (T2.setTop (mkF m 57 #[.val (.ref a0), .val (.int (0 : Int32)), .val (.int (2 : Int32)), .val (.ref b1), .val (.int (2 : Int32)), .unset] []))
  refine Rest.via (fun t k => XS.aloadN X2.here hx rfl (hb hby d43_57) rfl rfl k) ?_
  refine Rest.ret X2 (v := some (.ref b1)) (fun h => by rw [Bd.returns] at h; cases h) hlk (fun fs hr => retOut X2 hx Bd.returns rfl (Or.inr (Or.inr (Or.inr (Or.inr ⟨rfl, rfl, rfl⟩)))) (hb hby d43_58) hr) ?_ (by decide) (by decide)
  rw [e2]
  exact ⟨b1, k1, rfl, N2, K2, sz_b1, Vq2⟩
theorem ef_C2 (m : MethodId) (a0 : Addr) : entryFrame m #[(.ref a0), (.int (2 : Int32))] 2 = mkF m 0 #[.val (.ref a0), .val (.int (2 : Int32))] [] := by first | (simp [entryFrame, mkF, argsToLocals, Value.category, maxLocals]; done) | rfl
def QC2 (Z : State) (a0 : Addr) (k : ClassId) (vs : List Value) (h0 : Heap) (n0 : Nat) (v : Option Value) (h : Heap) (L : List Loc) : Prop := v = some (.int (0 : Int32)) ∧ Fr n0 L ∧ h = h0
set_option maxRecDepth 65536 in
set_option maxHeartbeats 40000000 in
theorem rmC2 (l : Launch) (Z : State) (aw : Array Value) (hw : ∀ d ∈ tables_1, d.before aw Z = true) (ws : List Jvm.Cond) (a0 : Addr) (k : ClassId) (vs : List Value) (h0 : Heap) (n0 : Nat) (Z0 : n0 ≤ h0.size) (V0 : Arv Z h0 a0 k .byte (2 : Int32) vs (.int (0 : Int32))) :
    MetFree l (⟨"java/lang/StringUTF16", "coderFromArrayLen", "([BI)B"⟩ : MethodName) (head1 (Jvm.Cond.code (⟨"java/lang/StringUTF16", "coderFromArrayLen", "([BI)B"⟩ : MethodName) jdk_52_method_15_code 2 (some .byte) :: ws) ({ frames := 0, cells := 0, slots := 0, locals := 0 } : Room)) (fun a U => a = #[(.ref a0), (.int (2 : Int32))] ∧ Z.Warmed39 U.vm ∧ U.heap = h0) (fun _ _ _ _ _ => True) (fun _ U o U' => ∃ v L, o = .returned v ∧ QC2 Z a0 k vs h0 n0 v U'.heap L ∧ FrameEnd U o U' L ({ frames := 0, cells := 0, slots := 0, locals := 0 } : Room).cells ({ frames := 0, cells := 0, slots := 0, locals := 0 } : Room).slots) := by
  refine MetFree.of_bodySF (plainFor_of_name pn_0) hisR ?_
  intro p e s m args below meth c s₁ Bd hml0 hP hK
  obtain ⟨rfl, hZ, hh⟩ := hP
  have hx := Bd.exec
  have hby := Bd.bytes
  have hml : c.maxLocals = 2 := hml0
  have hown : s.vm.findClass "java/lang/StringUTF16" = some m.cls := findClass_of_methodNamed Bd.named
  have hnm := (name_of_methodNamed Bd.named Bd.method).1
  have hlk : meth.locks = false := BodyLoose.notSynchronized Bd
  have X0 : Stand p l e ({ frames := 0, cells := 0, slots := 0, locals := 0 } : Room) s m #[(.ref a0), (.int (2 : Int32))] below meth c s₁ [] 0 0 := Stand.of_body Bd
  have _u := trivial
  have eh0 : s₁.heap = h0 := by rw [← hh, Bd.state]; rfl
  have N0 := Fr.nil n0
  show Rest p.tables e below s (QC2 Z a0 k vs h0 n0) _ _ (s₁.setTop (entryFrame m #[(.ref a0), (.int (2 : Int32))] 2))
  refine Rest.via (fun t k => castTop (ef_C2 m a0) k) ?_
  show Rest p.tables e below s _ _ _ (s₁.setTop (mkF m 0 #[.val (.ref a0), .val (.int (2 : Int32))] []))
  refine Rest.via (fun t k => XS.iloadN X0.here hx rfl (hb hby d45_0) rfl k) ?_
  refine Rest.via (fun t k => XS.aloadN X0.here hx rfl (hb hby d45_1) rfl rfl k) ?_
  obtain ⟨cl1, Ar1, -, S1, P1, -, -⟩ := id V0
  refine Rest.via (fun t k => X0.arraylength hx (by rw [eh0]; exact Ar1.1) (State.isArrayOf_alike hZ.alike Ar1.2.1) (g := (mkF m 2 #[.val (.ref a0), .val (.int (2 : Int32))] [(.ref a0), (.int (2 : Int32))])) rfl rfl (hb hby d45_2) t k) ?_
  rw [len_of S1 P1]
  show Rest p.tables e below s _ _ _ (s₁.setTop (mkF m 3 #[.val (.ref a0), .val (.int (2 : Int32))] [(.int (2 : Int32)), (.int (2 : Int32))]))
  refine Rest.via (fun t k => XS.isub X0.here hx rfl (hb hby d45_3) rfl k) ?_
  show Rest p.tables e below s _ _ _ (s₁.setTop (mkF m 4 #[.val (.ref a0), .val (.int (2 : Int32))] [(.int ((2 : Int32) - (2 : Int32)))]))
  rw [(by decide : ((2 : Int32) - (2 : Int32)) = (0 : Int32))]
  refine Rest.via (fun t k => XS.bipush X0.here hx rfl (hb hby d45_4) k) ?_
  refine Rest.via (fun t k => XS.iushr X0.here hx rfl (hb hby d45_6) rfl k) ?_
  show Rest p.tables e below s _ _ _ (s₁.setTop (mkF m 7 #[.val (.ref a0), .val (.int (2 : Int32))] [(.int (((0 : Int32).toUInt32 >>> ((31 : Int32) &&& 31).toUInt32).toInt32))]))
  rw [(by decide : (((0 : Int32).toUInt32 >>> ((31 : Int32) &&& 31).toUInt32).toInt32) = (0 : Int32))]
  show Rest p.tables e below s _ _ _ (s₁.setTop (mkF m 7 #[.val (.ref a0), .val (.int (2 : Int32))] [(.int (0 : Int32))]))
  refine Rest.via (fun t k => XS.i2b X0.here hx rfl (hb hby d45_7) rfl k) ?_
  show Rest p.tables e below s _ _ _ (s₁.setTop (mkF m 8 #[.val (.ref a0), .val (.int (2 : Int32))] [(.int ((0 : Int32).toInt8.toInt32))]))
  rw [(by decide : ((0 : Int32).toInt8.toInt32) = (0 : Int32))]
  refine Rest.ret X0 (v := some (.int (nar .byte (0 : Int32)))) (fun h => by rw [Bd.returns] at h; cases h) hlk (fun fs hr => retN X0 hx (t := .byte) Bd.returns (by simp) (hb hby d45_8) hr) ?_ (by decide) (by decide)
  rw [eh0]
  exact ⟨rfl, N0, rfl⟩
theorem ef_SJ2 (m : MethodId) (a0 : Addr) (a1 : Addr) : entryFrame m #[(.ref a0), (.ref a1), (.int (0 : Int32)), (.int (2 : Int32)), .null] 6 = mkF m 0 #[.val (.ref a0), .val (.ref a1), .val (.int (0 : Int32)), .val (.int (2 : Int32)), .val .null, .unset] [] := by first | (simp [entryFrame, mkF, argsToLocals, Value.category, maxLocals]; done) | rfl
def QSJ2 (Z : State) (a0 : Addr) (a1 : Addr) (kc : ClassId) (ic : Int32) (ca : Int32) (cb : Int32) (h0 : Heap) (n0 : Nat) (v : Option Value) (h : Heap) (L : List Loc) : Prop := v = none ∧ Fr n0 L ∧ Keep h0 h [a0] ∧ ∃ va kb, h0.size ≤ va ∧ Fld Z h a0 "java/lang/String" "value" "[B" (.ref va) ∧ Fld Z h a0 "java/lang/String" "coder" "B" (.int (0 : Int32)) ∧ Arv Z h va kb .byte (2 : Int32) [(.int (own_by ca)), (.int (own_by cb))] (.int (0 : Int32)) ∧ a0 ≠ va
set_option maxRecDepth 65536 in
set_option maxHeartbeats 40000000 in
theorem rmSJ2 (l : Launch) (Z : State) (aw : Array Value) (hw : ∀ d ∈ tables_1, d.before aw Z = true) (ws : List Jvm.Cond) (a0 : Addr) (a1 : Addr) (kc : ClassId) (ic : Int32) (ca : Int32) (cb : Int32) (h0 : Heap) (n0 : Nat) (Z0 : n0 ≤ h0.size) (E_a0 : Exa Z h0 a0 "java/lang/String") (F_v : Fld Z h0 a0 "java/lang/String" "value" "[B" .null) (F_c : Fld Z h0 a0 "java/lang/String" "coder" "B" (.int (0 : Int32))) (g_a0 : n0 ≤ a0) (V1 : Arv Z h0 a1 kc .char (2 : Int32) [(.int ca), (.int cb)] (.int (0 : Int32))) (hca : ¬ ((255 : Int32) < ca)) (hcb : ¬ ((255 : Int32) < cb)) (O : own_Old Z n0 h0) (CS : own_CS Z ic) :
    MetFree l (⟨"java/lang/String", "<init>", "([CIILjava/lang/Void;)V"⟩ : MethodName) (head1 (Jvm.Cond.code (⟨"java/lang/String", "<init>", "([CIILjava/lang/Void;)V"⟩ : MethodName) jdk_42_method_149_code 6 none :: ws) ({ frames := 2, cells := 1, slots := 2, locals := 35 } : Room)) (fun a U => a = #[(.ref a0), (.ref a1), (.int (0 : Int32)), (.int (2 : Int32)), .null] ∧ Z.Warmed39 U.vm ∧ U.heap = h0) (fun _ _ _ _ _ => True) (fun _ U o U' => ∃ v L, o = .returned v ∧ QSJ2 Z a0 a1 kc ic ca cb h0 n0 v U'.heap L ∧ FrameEnd U o U' L ({ frames := 2, cells := 1, slots := 2, locals := 35 } : Room).cells ({ frames := 2, cells := 1, slots := 2, locals := 35 } : Room).slots) := by
  refine MetFree.of_bodySF (plainFor_of_name pn_1) hisR ?_
  intro p e s m args below meth c s₁ Bd hml0 hP hK
  obtain ⟨rfl, hZ, hh⟩ := hP
  have hx := Bd.exec
  have hby := Bd.bytes
  have hml : c.maxLocals = 6 := hml0
  have hown : s.vm.findClass "java/lang/String" = some m.cls := findClass_of_methodNamed Bd.named
  have hnm := (name_of_methodNamed Bd.named Bd.method).1
  have hlk : meth.locks = false := BodyLoose.notSynchronized Bd
  have X0 : Stand p l e ({ frames := 2, cells := 1, slots := 2, locals := 35 } : Room) s m #[(.ref a0), (.ref a1), (.int (0 : Int32)), (.int (2 : Int32)), .null] below meth c s₁ [] 0 0 := Stand.of_body Bd
  have _u := trivial
  have eh0 : s₁.heap = h0 := by rw [← hh, Bd.state]; rfl
  have N0 := Fr.nil n0
  show Rest p.tables e below s (QSJ2 Z a0 a1 kc ic ca cb h0 n0) _ _ (s₁.setTop (entryFrame m #[(.ref a0), (.ref a1), (.int (0 : Int32)), (.int (2 : Int32)), .null] 6))
  refine Rest.via (fun t k => castTop (ef_SJ2 m a0 a1) k) ?_
  show Rest p.tables e below s _ _ _ (s₁.setTop (mkF m 0 #[.val (.ref a0), .val (.ref a1), .val (.int (0 : Int32)), .val (.int (2 : Int32)), .val .null, .unset] []))
  refine Rest.via (fun t k => XS.aloadN X0.here hx rfl (hb hby d3_0) rfl rfl k) ?_
  show Rest p.tables e below s _ _ _ (s₁.setTop (mkF m 1 #[.val (.ref a0), .val (.ref a1), .val (.int (0 : Int32)), .val (.int (2 : Int32)), .val .null, .unset] [(.ref a0)]))
  obtain ⟨T1, X1, e1, st1⟩ := initO X0 hx hZ hown (own_W hw 15 rfl) (own_W hw 16 rfl) (own_W hw 17 rfl) eh0 (g := (mkF m 1 #[.val (.ref a0), .val (.ref a1), .val (.int (0 : Int32)), .val (.int (2 : Int32)), .val .null, .unset] [(.ref a0)])) rfl (by rw [hml]; rfl) rfl (hb hby d3_1) (by decide) (W := 0) (by show 2 * 0 + _ ≤ _; exact Nat.le_of_eq rfl) (by decide)
  refine Rest.via (fun t k => st1 t k) ?_
  show Rest p.tables e below s _ _ _ (T1.setTop (mkF m 4 #[.val (.ref a0), .val (.ref a1), .val (.int (0 : Int32)), .val (.int (2 : Int32)), .val .null, .unset] []))
  refine Rest.via (fun t k => XS.iloadN X1.here hx rfl (hb hby d3_4) rfl k) ?_
  refine Rest.via (fun t k => XS.ifYes X1.here hx rfl (pc0 := 5) (pc' := 27) rfl (hb hby d3_5) rfl ((if0 _ _).trans (feq (by decide : ¬ ((2 : Int32) = (0 : Int32)))).2) (by decide) (by decide) k) ?_
  show Rest p.tables e below s _ _ _ (T1.setTop (mkF m 27 #[.val (.ref a0), .val (.ref a1), .val (.int (0 : Int32)), .val (.int (2 : Int32)), .val .null, .unset] []))
  obtain ⟨T2, X2, e2, st2⟩ := getS2 X1 hx hZ hown (host := "") (Or.inl (own_W hw 108 rfl)) Via.refl e1 (CS.1.ext (O.keep (Keep.refl h0 [a0]) (allS g_a0 all0)).2) (g := (mkF m 27 #[.val (.ref a0), .val (.ref a1), .val (.int (0 : Int32)), .val (.int (2 : Int32)), .val .null, .unset] [])) rfl (hb hby d3_27)
  refine Rest.via (fun t k => st2 t k) ?_
  show Rest p.tables e below s _ _ _ (T2.setTop (mkF m 30 #[.val (.ref a0), .val (.ref a1), .val (.int (0 : Int32)), .val (.int (2 : Int32)), .val .null, .unset] [(.int ic)]))
  refine Rest.via (fun t k => XS.ifNo X2.here hx rfl (hb hby d3_30) rfl ((if0 _ _).trans (feq (CS.2 : ¬ (ic = (0 : Int32)))).1) k) ?_
  show Rest p.tables e below s _ _ _ (T2.setTop (mkF m 33 #[.val (.ref a0), .val (.ref a1), .val (.int (0 : Int32)), .val (.int (2 : Int32)), .val .null, .unset] []))
  refine Rest.via (fun t k => XS.aloadN X2.here hx rfl (hb hby d3_33) rfl rfl k) ?_
  refine Rest.via (fun t k => XS.iloadN X2.here hx rfl (hb hby d3_34) rfl k) ?_
  refine Rest.via (fun t k => XS.iloadN X2.here hx rfl (hb hby d3_35) rfl k) ?_
  show Rest p.tables e below s _ _ _ (T2.setTop (mkF m 36 #[.val (.ref a0), .val (.ref a1), .val (.int (0 : Int32)), .val (.int (2 : Int32)), .val .null, .unset] [(.int (2 : Int32)), (.int (0 : Int32)), (.ref a1)]))
  obtain ⟨_, _, ⟨T3, L3, k3, n3⟩, -, X3, ⟨Lc3, hQ3, l3, y3, z3⟩, st3⟩ := Jvm.LawKit.callS X2 hx (y := (⟨"java/lang/StringUTF16", "compress", "([CII)[B"⟩ : MethodName)) hown (mvT hZ (own_W hw 238 rfl)) (mvT hZ (own_W hw 239 rfl)) (mvT hZ (own_W hw 240 rfl)) (mvT hZ (own_W hw 241 rfl)) (by decide) (backOf (W := 0) (rmW2 l Z aw hw [] a1 kc ca cb h0 n0 (Nat.le_trans Z0 (Keep.refl h0 [a0]).1) V1 hca hcb) hZ (own_W hw 241 rfl) (own_W hw 240 rfl) (by decide) (by decide)) (g := (mkF m 36 #[.val (.ref a0), .val (.ref a1), .val (.int (0 : Int32)), .val (.int (2 : Int32)), .val .null, .unset] [(.int (2 : Int32)), (.int (0 : Int32)), (.ref a1)])) rfl (by rw [hml]; rfl) (argsL := [(.ref a1), (.int (0 : Int32)), (.int (2 : Int32))]) (rest := []) (lenOf pd_1 rfl) rfl (by show 2 * 0 + _ ≤ _; exact Nat.le_of_eq rfl) (hb hby d3_36) (fun _ _ => ⟨rfl, e2, (by decide : 0 + 1 ≤ _), (by decide : 0 + 2 ≤ _)⟩)
  dsimp only [Pt.U, Pt.locs, Pt.cells, Pt.slots] at X3 l3 y3 z3 st3 hQ3
  subst l3 y3 z3
  obtain ⟨h3, e3⟩ : ∃ z, T3.heap = z := ⟨_, rfl⟩
  rw [e3] at hQ3
  obtain ⟨va3, kb3, rfl, Nq3, Kq3, sd3, Vq3⟩ := hQ3
  have N3 := Fr.app N0 Nq3
  have sz_va3 : h0.size ≤ va3 := Nat.le_trans (Keep.refl h0 [a0]).1 sd3
  have ne_a0_va3 : a0 ≠ va3 := Nat.ne_of_lt (Nat.lt_of_lt_of_le E_a0.lt sd3)
  have K3 : Keep h0 h3 [a0] := (Keep.refl h0 [a0]).trans Kq3 all0
  refine Rest.via (fun t k => st3 t k) ?_
  show Rest p.tables e below s _ _ _ (T3.setTop (mkF m 39 #[.val (.ref a0), .val (.ref a1), .val (.int (0 : Int32)), .val (.int (2 : Int32)), .val .null, .unset] [(.ref va3)]))
  refine Rest.via (fun t k => XS.astore X3.here hx rfl (hb hby d3_39) rfl rfl (l' := #[.val (.ref a0), .val (.ref a1), .val (.int (0 : Int32)), .val (.int (2 : Int32)), .val .null, .val (.ref va3)]) rfl k) ?_
  refine Rest.via (fun t k => XS.aloadN X3.here hx rfl (hb hby d3_41) rfl rfl k) ?_
  refine Rest.via (fun t k => XS.aload X3.here hx rfl (hb hby d3_42) rfl rfl k) ?_
  refine Rest.via (fun t k => XS.iloadN X3.here hx rfl (hb hby d3_44) rfl k) ?_
  show Rest p.tables e below s _ _ _ (T3.setTop (mkF m 45 #[.val (.ref a0), .val (.ref a1), .val (.int (0 : Int32)), .val (.int (2 : Int32)), .val .null, .val (.ref va3)] [(.int (2 : Int32)), (.ref va3), (.ref a0)]))
  obtain ⟨_, _, ⟨T4, L4, k4, n4⟩, -, X4, ⟨Lc4, hQ4, l4, y4, z4⟩, st4⟩ := Jvm.LawKit.callS X3 hx (y := (⟨"java/lang/StringUTF16", "coderFromArrayLen", "([BI)B"⟩ : MethodName)) hown (mvT hZ (own_W hw 245 rfl)) (mvT hZ (own_W hw 246 rfl)) (mvT hZ (own_W hw 240 rfl)) (mvT hZ (own_W hw 247 rfl)) (by decide) (backOf (W := 1) (rmC2 l Z aw hw [] va3 kb3 _ h3 n0 (Nat.le_trans Z0 K3.1) Vq3) hZ (own_W hw 247 rfl) (own_W hw 240 rfl) (by decide) (by decide)) (g := (mkF m 45 #[.val (.ref a0), .val (.ref a1), .val (.int (0 : Int32)), .val (.int (2 : Int32)), .val .null, .val (.ref va3)] [(.int (2 : Int32)), (.ref va3), (.ref a0)])) rfl (by rw [hml]; rfl) (argsL := [(.ref va3), (.int (2 : Int32))]) (rest := [(.ref a0)]) (lenOf pd_2 rfl) rfl (by show 2 * 0 + _ ≤ _; exact Nat.le_of_eq rfl) (hb hby d3_45) (fun _ _ => ⟨rfl, e3, (by decide : 1 + 0 ≤ _), (by decide : 2 + 0 ≤ _)⟩)
  dsimp only [Pt.U, Pt.locs, Pt.cells, Pt.slots] at X4 l4 y4 z4 st4 hQ4
  subst l4 y4 z4
  obtain ⟨rfl, Nq4, e4⟩ := hQ4
  have N4 := Fr.app N3 Nq4
  refine Rest.via (fun t k => st4 t k) ?_
  show Rest p.tables e below s _ _ _ (T4.setTop (mkF m 48 #[.val (.ref a0), .val (.ref a1), .val (.int (0 : Int32)), .val (.int (2 : Int32)), .val .null, .val (.ref va3)] [(.int (0 : Int32)), (.ref a0)]))
  have Fo5 := (F_c.keep Kq3 nin0)
  obtain ⟨T5, h5, X5, e5, W5, st5⟩ := putFN X4 hx hZ hown (own_W hw 25 rfl) Via.refl e4 Fo5 (E_a0.keep Kq3) (Or.inr ⟨(own_W hw 21 rfl), rfl, hnm⟩) (own_W hw 5 rfl) (ty := .byte) (v' := (.int (0 : Int32))) (by decide) rfl (by decide) (g := (mkF m 48 #[.val (.ref a0), .val (.ref a1), .val (.int (0 : Int32)), .val (.int (2 : Int32)), .val .null, .val (.ref va3)] [(.int (0 : Int32)), (.ref a0)])) rfl rfl (hb hby d3_48)
  refine Rest.via (fun t k => st5 t k) ?_
  have N5 := Fr.snoc X5 N4 g_a0
  have K5 : Keep h0 h5 [a0] := K3.wr W5 (Or.inl (List.mem_of_getElem? (i := 0) rfl))
  have Fw5 := Fo5.same W5
  show Rest p.tables e below s _ _ _ (T5.setTop (mkF m 51 #[.val (.ref a0), .val (.ref a1), .val (.int (0 : Int32)), .val (.int (2 : Int32)), .val .null, .val (.ref va3)] []))
  refine Rest.via (fun t k => XS.aloadN X5.here hx rfl (hb hby d3_51) rfl rfl k) ?_
  refine Rest.via (fun t k => XS.aload X5.here hx rfl (hb hby d3_52) rfl rfl k) ?_
  have Fo6 := ((F_v.keep Kq3 nin0).other W5 (Or.inr (slot_ne (Or.inr (own_W hw 20 rfl)) (Or.inr (own_W hw 21 rfl)) (by decide) (t := (.array .byte)) (t' := .byte) (by decide) (by decide))))
  obtain ⟨T6, h6, X6, e6, W6, st6⟩ := putF X5 hx hZ hown (host := "") (Or.inl (own_W hw 24 rfl)) Via.refl e5 Fo6 ((E_a0.keep Kq3).wr W5) (Or.inr ⟨(own_W hw 20 rfl), rfl, hnm⟩) (own_W hw 5 rfl) (ty := (.array .byte)) (by decide) rfl rfl (g := (mkF m 54 #[.val (.ref a0), .val (.ref a1), .val (.int (0 : Int32)), .val (.int (2 : Int32)), .val .null, .val (.ref va3)] [(.ref va3), (.ref a0)])) rfl rfl (hb hby d3_54)
  refine Rest.via (fun t k => st6 t k) ?_
  have N6 := Fr.snoc X6 N5 g_a0
  have K6 : Keep h0 h6 [a0] := K5.wr W6 (Or.inl (List.mem_of_getElem? (i := 0) rfl))
  have Fw6 := Fo6.same W6
  show Rest p.tables e below s _ _ _ (T6.setTop (mkF m 57 #[.val (.ref a0), .val (.ref a1), .val (.int (0 : Int32)), .val (.int (2 : Int32)), .val .null, .val (.ref va3)] []))
  refine Rest.ret X6 (v := none) (fun _ => rfl) hlk (fun fs hr => X6.returnOut hx Bd.returns (hb hby d3_57) hr) ?_ (by decide) (by decide)
  rw [e6]
  exact ⟨rfl, N6, K6, va3, kb3, sz_va3, Fw6, (Fw5.other W6 (Or.inr (slot_ne (Or.inr (own_W hw 21 rfl)) (Or.inr (own_W hw 20 rfl)) (by decide) (t := .byte) (t' := (.array .byte)) (by decide) (by decide)))), ((Vq3.other W5 (Ne.symm ne_a0_va3)).other W6 (Ne.symm ne_a0_va3)), ne_a0_va3⟩
theorem ef_SI2 (m : MethodId) (a0 : Addr) (a1 : Addr) : entryFrame m #[(.ref a0), (.ref a1)] 2 = mkF m 0 #[.val (.ref a0), .val (.ref a1)] [] := by first | (simp [entryFrame, mkF, argsToLocals, Value.category, maxLocals]; done) | rfl
def QSI2 (Z : State) (a0 : Addr) (a1 : Addr) (kc : ClassId) (ic : Int32) (ca : Int32) (cb : Int32) (h0 : Heap) (n0 : Nat) (v : Option Value) (h : Heap) (L : List Loc) : Prop := v = none ∧ Fr n0 L ∧ Keep h0 h [a0] ∧ ∃ va kb, h0.size ≤ va ∧ Fld Z h a0 "java/lang/String" "value" "[B" (.ref va) ∧ Fld Z h a0 "java/lang/String" "coder" "B" (.int (0 : Int32)) ∧ Arv Z h va kb .byte (2 : Int32) [(.int (own_by ca)), (.int (own_by cb))] (.int (0 : Int32)) ∧ a0 ≠ va
set_option maxRecDepth 65536 in
set_option maxHeartbeats 40000000 in
theorem rmSI2 (l : Launch) (Z : State) (aw : Array Value) (hw : ∀ d ∈ tables_1, d.before aw Z = true) (ws : List Jvm.Cond) (a0 : Addr) (a1 : Addr) (kc : ClassId) (ic : Int32) (ca : Int32) (cb : Int32) (h0 : Heap) (n0 : Nat) (Z0 : n0 ≤ h0.size) (E_a0 : Exa Z h0 a0 "java/lang/String") (F_v : Fld Z h0 a0 "java/lang/String" "value" "[B" .null) (F_c : Fld Z h0 a0 "java/lang/String" "coder" "B" (.int (0 : Int32))) (g_a0 : n0 ≤ a0) (V1 : Arv Z h0 a1 kc .char (2 : Int32) [(.int ca), (.int cb)] (.int (0 : Int32))) (hca : ¬ ((255 : Int32) < ca)) (hcb : ¬ ((255 : Int32) < cb)) (O : own_Old Z n0 h0) (CS : own_CS Z ic) :
    MetFree l (⟨"java/lang/String", "<init>", "([C)V"⟩ : MethodName) (head1 (Jvm.Cond.code (⟨"java/lang/String", "<init>", "([C)V"⟩ : MethodName) jdk_42_method_3_code 2 none :: ws) ({ frames := 3, cells := 1, slots := 2, locals := 52 } : Room)) (fun a U => a = #[(.ref a0), (.ref a1)] ∧ Z.Warmed39 U.vm ∧ U.heap = h0) (fun _ _ _ _ _ => True) (fun _ U o U' => ∃ v L, o = .returned v ∧ QSI2 Z a0 a1 kc ic ca cb h0 n0 v U'.heap L ∧ FrameEnd U o U' L ({ frames := 3, cells := 1, slots := 2, locals := 52 } : Room).cells ({ frames := 3, cells := 1, slots := 2, locals := 52 } : Room).slots) := by
  refine MetFree.of_bodySF (plainFor_of_name pn_1) hisR ?_
  intro p e s m args below meth c s₁ Bd hml0 hP hK
  obtain ⟨rfl, hZ, hh⟩ := hP
  have hx := Bd.exec
  have hby := Bd.bytes
  have hml : c.maxLocals = 2 := hml0
  have hown : s.vm.findClass "java/lang/String" = some m.cls := findClass_of_methodNamed Bd.named
  have hnm := (name_of_methodNamed Bd.named Bd.method).1
  have hlk : meth.locks = false := BodyLoose.notSynchronized Bd
  have X0 : Stand p l e ({ frames := 3, cells := 1, slots := 2, locals := 52 } : Room) s m #[(.ref a0), (.ref a1)] below meth c s₁ [] 0 0 := Stand.of_body Bd
  have _u := trivial
  have eh0 : s₁.heap = h0 := by rw [← hh, Bd.state]; rfl
  have N0 := Fr.nil n0
  show Rest p.tables e below s (QSI2 Z a0 a1 kc ic ca cb h0 n0) _ _ (s₁.setTop (entryFrame m #[(.ref a0), (.ref a1)] 2))
  refine Rest.via (fun t k => castTop (ef_SI2 m a0 a1) k) ?_
  show Rest p.tables e below s _ _ _ (s₁.setTop (mkF m 0 #[.val (.ref a0), .val (.ref a1)] []))
  refine Rest.via (fun t k => XS.aloadN X0.here hx rfl (hb hby d2_0) rfl rfl k) ?_
  refine Rest.via (fun t k => XS.aloadN X0.here hx rfl (hb hby d2_1) rfl rfl k) ?_
  refine Rest.via (fun t k => XS.iconst X0.here hx rfl (hb hby d2_2) k) ?_
  refine Rest.via (fun t k => XS.aloadN X0.here hx rfl (hb hby d2_3) rfl rfl k) ?_
  obtain ⟨cl1, Ar1, -, S1, P1, -, -⟩ := id V1
  refine Rest.via (fun t k => X0.arraylength hx (by rw [eh0]; exact Ar1.1) (State.isArrayOf_alike hZ.alike Ar1.2.1) (g := (mkF m 4 #[.val (.ref a0), .val (.ref a1)] [(.ref a1), (.int (0 : Int32)), (.ref a1), (.ref a0)])) rfl rfl (hb hby d2_4) t k) ?_
  rw [len_of S1 P1]
  show Rest p.tables e below s _ _ _ (s₁.setTop (mkF m 5 #[.val (.ref a0), .val (.ref a1)] [(.int (2 : Int32)), (.int (0 : Int32)), (.ref a1), (.ref a0)]))
  refine Rest.via (fun t k => XS.aconstNull X0.here hx rfl (hb hby d2_5) k) ?_
  show Rest p.tables e below s _ _ _ (s₁.setTop (mkF m 6 #[.val (.ref a0), .val (.ref a1)] [.null, (.int (2 : Int32)), (.int (0 : Int32)), (.ref a1), (.ref a0)]))
  obtain ⟨_, _, ⟨T2, L2, k2, n2⟩, -, X2, ⟨Lc2, hQ2, l2, y2, z2⟩, st2⟩ := X0.specialBack hx (y := (⟨"java/lang/String", "<init>", "([CIILjava/lang/Void;)V"⟩ : MethodName)) rfl hown (mvT hZ (own_W hw 11 rfl)) (mvT hZ (own_W hw 12 rfl)) (mvT hZ (own_W hw 14 rfl)) (by decide) (backOf (W := 0) (rmSJ2 l Z aw hw [] a0 a1 kc ic ca cb h0 n0 (Nat.le_trans Z0 (Keep.refl h0 [a0]).1) E_a0 F_v F_c g_a0 V1 hca hcb (O.keep (Keep.refl h0 [a0]) (allS g_a0 all0)) CS) hZ (own_W hw 14 rfl) (own_W hw 6 rfl) (by decide) (by decide)) (g := (mkF m 6 #[.val (.ref a0), .val (.ref a1)] [.null, (.int (2 : Int32)), (.int (0 : Int32)), (.ref a1), (.ref a0)])) rfl (by rw [hml]; rfl) (Steps.refl _) (a := a0) (argsL := [(.ref a1), (.int (0 : Int32)), (.int (2 : Int32)), .null]) (rest := []) (lenOf pd_3 rfl) rfl (by show 2 * 0 + _ ≤ _; exact Nat.le_of_eq rfl) (hb hby d2_6) (fun _ _ => ⟨rfl, eh0, (by decide : 0 + 1 ≤ _), (by decide : 0 + 2 ≤ _)⟩)
  dsimp only [Pt.U, Pt.locs, Pt.cells, Pt.slots] at X2 l2 y2 z2 st2 hQ2
  subst l2 y2 z2
  obtain ⟨h2, e2⟩ : ∃ z, T2.heap = z := ⟨_, rfl⟩
  rw [e2] at hQ2
  obtain ⟨rfl, Nq2, Kq2, va2, kb2, sd2, Fv2, Fc2, Vq2, nb2⟩ := hQ2
  have N2 := Fr.app N0 Nq2
  have K2 : Keep h0 h2 [a0] := (Keep.refl h0 [a0]).trans Kq2 (allS (Or.inl (List.mem_of_getElem? (i := 0) rfl)) all0)
  refine Rest.via (fun t k => st2.trans k) ?_
  show Rest p.tables e below s _ _ _ (T2.setTop (mkF m 9 #[.val (.ref a0), .val (.ref a1)] []))
  refine Rest.ret X2 (v := none) (fun _ => rfl) hlk (fun fs hr => X2.returnOut hx Bd.returns (hb hby d2_9) hr) ?_ (by decide) (by decide)
  rw [e2]
  exact ⟨rfl, N2, K2, va2, kb2, Nat.le_trans (Keep.refl h0 [a0]).1 sd2, Fv2, Fc2, Vq2, nb2⟩
theorem own_wS {Z : State} {aw : Array Value} (hw : ∀ d ∈ tables_1, d.before aw Z = true) : ∀ a ∈ Bundle.stringAtoms, a.before aw Z = true := by
  intro a ha
  simp only [Bundle.stringAtoms, List.mem_cons, List.not_mem_nil, or_false] at ha
  rcases ha with rfl | rfl | rfl | rfl | rfl | rfl | rfl
  · exact (own_W hw 6 rfl)
  · exact (own_W hw 5 rfl)
  · exact (own_W hw 19 rfl)
  · exact (own_W hw 20 rfl)
  · exact (own_W hw 21 rfl)
  · exact (own_W hw 22 rfl)
  · exact (own_W hw 23 rfl)
def own_L0 (Z : State) (h : Heap) (vm : Vm) (a b : Addr) (k : ClassId) : Prop := Lit (Z.setVm vm) "java/lang/String" 7 a ∧ own_St Z h a b k (0 : Int32) []
theorem d3_8 : decode jdk_42_method_149_code 8 = .ok (.aload_n 0, 1) := by decide +kernel
theorem d3_9 : decode jdk_42_method_149_code 9 = .ok (.ldc 7, 2) := by decide +kernel
theorem d3_11 : decode jdk_42_method_149_code 11 = .ok (.getfield 9, 3) := by decide +kernel
theorem d3_14 : decode jdk_42_method_149_code 14 = .ok (.putfield 9, 3) := by decide +kernel
theorem d3_17 : decode jdk_42_method_149_code 17 = .ok (.aload_n 0, 1) := by decide +kernel
theorem d3_18 : decode jdk_42_method_149_code 18 = .ok (.ldc 7, 2) := by decide +kernel
theorem d3_20 : decode jdk_42_method_149_code 20 = .ok (.getfield 15, 3) := by decide +kernel
theorem d3_23 : decode jdk_42_method_149_code 23 = .ok (.putfield 15, 3) := by decide +kernel
theorem d3_26 : decode jdk_42_method_149_code 26 = .ok (.return_, 1) := by decide +kernel
theorem ef_SJ0c (m : MethodId) (a0 : Addr) (a1 : Addr) : entryFrame m #[(.ref a0), (.ref a1), (.int (0 : Int32)), (.int (0 : Int32)), .null] 6 = mkF m 0 #[.val (.ref a0), .val (.ref a1), .val (.int (0 : Int32)), .val (.int (0 : Int32)), .val .null, .unset] [] := by first | (simp [entryFrame, mkF, argsToLocals, Value.category, maxLocals]; done) | rfl
def QSJ0c (Z : State) (a0 : Addr) (a1 : Addr) (kc : ClassId) (Ts : List String) (h0 : Heap) (n0 : Nat) (v : Option Value) (h : Heap) (L : List Loc) (vm : Vm) : Prop := v = none ∧ Fr n0 L ∧ Keep h0 h [a0] ∧ Fld Z h a0 "java/lang/String" "coder" "B" (.int (0 : Int32)) ∧ ∃ a b k, Fld Z h a0 "java/lang/String" "value" "[B" (.ref b) ∧ own_L0 Z h vm a b k ∧ a0 ≠ b ∧ IB Z vm ("" :: Ts)
set_option maxRecDepth 65536 in
set_option maxHeartbeats 40000000 in
theorem rmSJ0c (l : Launch) (Z : State) (aw : Array Value) (hw : ∀ d ∈ tables_1, d.before aw Z = true) (ws : List Jvm.Cond) (a0 : Addr) (a1 : Addr) (kc : ClassId) (Ts : List String) (h0 : Heap) (n0 : Nat) (Z0 : n0 ≤ h0.size) (E_a0 : Exa Z h0 a0 "java/lang/String") (F_v : Fld Z h0 a0 "java/lang/String" "value" "[B" .null) (F_c : Fld Z h0 a0 "java/lang/String" "coder" "B" (.int (0 : Int32))) (g_a0 : n0 ≤ a0) (V1 : Arv Z h0 a1 kc .char (0 : Int32) [] (.int (0 : Int32))) (O : own_Old Z n0 h0) (hcw : Jvm.Lit.compactW.before aw Z = true) (HE : Jvm.Lit.constHeld Z "java/lang/String" 7) (hnot : "" ∉ Ts) :
    MetFree l (⟨"java/lang/String", "<init>", "([CIILjava/lang/Void;)V"⟩ : MethodName) (head1 (Jvm.Cond.code (⟨"java/lang/String", "<init>", "([CIILjava/lang/Void;)V"⟩ : MethodName) jdk_42_method_149_code 6 none :: ws) ({ frames := 1, cells := 2, slots := 4, locals := 12 } : Room)) (fun a U => a = #[(.ref a0), (.ref a1), (.int (0 : Int32)), (.int (0 : Int32)), .null] ∧ Z.Warmed39 U.vm ∧ U.heap = h0 ∧ (fun vm => IB Z vm Ts) U.vm) (fun _ _ _ _ _ => True) (fun _ U o U' => ∃ v L, o = .returned v ∧ QSJ0c Z a0 a1 kc Ts h0 n0 v U'.heap L U'.vm ∧ ReturnedEndW U o U' L ({ frames := 1, cells := 2, slots := 4, locals := 12 } : Room).cells ({ frames := 1, cells := 2, slots := 4, locals := 12 } : Room).slots) := by
  refine MetFree.of_bodySF (plainFor_of_name pn_1) hisR ?_
  intro p e s m args below meth c s₁ Bd hml0 hP hK
  obtain ⟨rfl, hZ, hh, hVP⟩ := hP
  have hx := Bd.exec
  have hby := Bd.bytes
  have hml : c.maxLocals = 6 := hml0
  have hown : s.vm.findClass "java/lang/String" = some m.cls := findClass_of_methodNamed Bd.named
  have hnm := (name_of_methodNamed Bd.named Bd.method).1
  have hlk : meth.locks = false := BodyLoose.notSynchronized Bd
  have X0 : Stand p l e ({ frames := 1, cells := 2, slots := 4, locals := 12 } : Room) (s.setVm s.vm) m #[(.ref a0), (.ref a1), (.int (0 : Int32)), (.int (0 : Int32)), .null] below meth c s₁ [] 0 0 := Stand.of_body Bd
  have hS : s.Since s.vm h0.size := (State.WarmedH.refl s).since _
  have eh0 : s₁.heap = h0 := by rw [← hh, Bd.state]; rfl
  have N0 := Fr.nil n0
  show RestW p.tables e below s (QSJ0c Z a0 a1 kc Ts h0 n0) _ _ (s₁.setTop (entryFrame m #[(.ref a0), (.ref a1), (.int (0 : Int32)), (.int (0 : Int32)), .null] 6))
  refine RestW.via (fun t k => castTop (ef_SJ0c m a0 a1) k) ?_
  have I := hVP
  show RestW p.tables e below s _ _ _ (s₁.setTop (mkF m 0 #[.val (.ref a0), .val (.ref a1), .val (.int (0 : Int32)), .val (.int (0 : Int32)), .val .null, .unset] []))
  refine RestW.via (fun t k => XS.aloadN X0.here hx rfl (hb hby d3_0) rfl rfl k) ?_
  show RestW p.tables e below s _ _ _ (s₁.setTop (mkF m 1 #[.val (.ref a0), .val (.ref a1), .val (.int (0 : Int32)), .val (.int (0 : Int32)), .val .null, .unset] [(.ref a0)]))
  obtain ⟨T1, X1, e1, st1⟩ := initO X0 hx hZ hown (own_W hw 15 rfl) (own_W hw 16 rfl) (own_W hw 17 rfl) eh0 (g := (mkF m 1 #[.val (.ref a0), .val (.ref a1), .val (.int (0 : Int32)), .val (.int (0 : Int32)), .val .null, .unset] [(.ref a0)])) rfl (by rw [hml]; rfl) rfl (hb hby d3_1) (by decide) (W := 0) (by show 2 * 0 + _ ≤ _; exact Nat.le_of_eq rfl) (by decide)
  refine RestW.via (fun t k => st1 t k) ?_
  show RestW p.tables e below s _ _ _ (T1.setTop (mkF m 4 #[.val (.ref a0), .val (.ref a1), .val (.int (0 : Int32)), .val (.int (0 : Int32)), .val .null, .unset] []))
  refine RestW.via (fun t k => XS.iloadN X1.here hx rfl (hb hby d3_4) rfl k) ?_
  refine RestW.via (fun t k => XS.ifNo X1.here hx rfl (hb hby d3_5) rfl ((if0 _ _).trans (teq (by decide : (0 : Int32) = (0 : Int32))).2) k) ?_
  show RestW p.tables e below s _ _ _ (T1.setTop (mkF m 8 #[.val (.ref a0), .val (.ref a1), .val (.int (0 : Int32)), .val (.int (0 : Int32)), .val .null, .unset] []))
  refine RestW.via (fun t k => XS.aloadN X1.here hx rfl (hb hby d3_8) rfl rfl k) ?_
  show RestW p.tables e below s _ _ _ (T1.setTop (mkF m 9 #[.val (.ref a0), .val (.ref a1), .val (.int (0 : Int32)), .val (.int (0 : Int32)), .val .null, .unset] [(.ref a0)]))
  obtain ⟨sa2, T2, h2, kk2, sb2, kb2, X2, e2, E2, hS, hk2, hZ, hown, Ea2, Fc2, Fv2, Vb2, la2, lb2, I, Li2, st2⟩ := ldcSVL (s := s) (vm0 := s.vm) X1 hx hZ hown (own_W hw 18 rfl) (own_wS hw) e1 hS (Nat.le_refl _) (by rw [hh]; exact (Fr.nil _)) (fun b cl q => by rw [hh]; exact O.2.2 b cl q) I hnot HE hcw (vs := []) (z := (0 : Int32)) (by decide) (by decide) rfl (g := (mkF m 9 #[.val (.ref a0), .val (.ref a1), .val (.int (0 : Int32)), .val (.int (0 : Int32)), .val .null, .unset] [(.ref a0)])) rfl (hb hby d3_9) (n := 0) (by decide) (by decide) (by decide) (by decide)
  refine RestW.via (fun t k => st2 t k) ?_
  have K2 : Keep h0 h2 [a0] := (Keep.refl h0 [a0]).ext E2
  have ne_sa2_a0 : sa2 ≠ a0 := Fld.ne Fv2 (F_v.ext E2) (by simp)
  have ne_a0_sb2 : a0 ≠ sb2 := Exa.neArv (E_a0.ext E2) Vb2 (own_W hw 5 rfl)
  show RestW p.tables e below s _ _ _ (T2.setTop (mkF m 11 #[.val (.ref a0), .val (.ref a1), .val (.int (0 : Int32)), .val (.int (0 : Int32)), .val .null, .unset] [(.ref sa2), (.ref a0)]))
  obtain ⟨T3, X3, e3, st3⟩ := getF X2 hx hZ hown (host := "") (Or.inl (own_W hw 24 rfl)) Via.refl e2 Fv2 (g := (mkF m 11 #[.val (.ref a0), .val (.ref a1), .val (.int (0 : Int32)), .val (.int (0 : Int32)), .val .null, .unset] [(.ref sa2), (.ref a0)])) rfl rfl (hb hby d3_11)
  refine RestW.via (fun t k => st3 t k) ?_
  show RestW p.tables e below s _ _ _ (T3.setTop (mkF m 14 #[.val (.ref a0), .val (.ref a1), .val (.int (0 : Int32)), .val (.int (0 : Int32)), .val .null, .unset] [(.ref sb2), (.ref a0)]))
  have Fo4 := (F_v.ext E2)
  obtain ⟨T4, h4, X4, e4, W4, st4⟩ := putF X3 hx hZ hown (host := "") (Or.inl (own_W hw 24 rfl)) Via.refl e3 Fo4 (E_a0.ext E2) (Or.inr ⟨(own_W hw 20 rfl), rfl, hnm⟩) (own_W hw 5 rfl) (ty := (.array .byte)) (by decide) rfl rfl (g := (mkF m 14 #[.val (.ref a0), .val (.ref a1), .val (.int (0 : Int32)), .val (.int (0 : Int32)), .val .null, .unset] [(.ref sb2), (.ref a0)])) rfl rfl (hb hby d3_14)
  refine RestW.via (fun t k => st4 t k) ?_
  have N4 := Fr.snoc X4 N0 g_a0
  have K4 : Keep h0 h4 [a0] := K2.wr W4 (Or.inl (List.mem_of_getElem? (i := 0) rfl))
  have Fw4 := Fo4.same W4
  show RestW p.tables e below s _ _ _ (T4.setTop (mkF m 17 #[.val (.ref a0), .val (.ref a1), .val (.int (0 : Int32)), .val (.int (0 : Int32)), .val .null, .unset] []))
  refine RestW.via (fun t k => XS.aloadN X4.here hx rfl (hb hby d3_17) rfl rfl k) ?_
  show RestW p.tables e below s _ _ _ (T4.setTop (mkF m 18 #[.val (.ref a0), .val (.ref a1), .val (.int (0 : Int32)), .val (.int (0 : Int32)), .val .null, .unset] [(.ref a0)]))
  refine RestW.via (fun t k => ldcAgain (s := s) (vm0 := T2.vm) X4 hx hZ hown (own_W hw 18 rfl) Li2 (g := (mkF m 18 #[.val (.ref a0), .val (.ref a1), .val (.int (0 : Int32)), .val (.int (0 : Int32)), .val .null, .unset] [(.ref a0)])) rfl (hb hby d3_18) t k) ?_
  show RestW p.tables e below s _ _ _ (T4.setTop (mkF m 20 #[.val (.ref a0), .val (.ref a1), .val (.int (0 : Int32)), .val (.int (0 : Int32)), .val .null, .unset] [(.ref sa2), (.ref a0)]))
  obtain ⟨T5, X5, e5, st5⟩ := getF X4 hx hZ hown (host := "") (Or.inl (own_W hw 25 rfl)) Via.refl e4 (Fc2.other W4 (Or.inl ne_sa2_a0)) (g := (mkF m 20 #[.val (.ref a0), .val (.ref a1), .val (.int (0 : Int32)), .val (.int (0 : Int32)), .val .null, .unset] [(.ref sa2), (.ref a0)])) rfl rfl (hb hby d3_20)
  refine RestW.via (fun t k => st5 t k) ?_
  show RestW p.tables e below s _ _ _ (T5.setTop (mkF m 23 #[.val (.ref a0), .val (.ref a1), .val (.int (0 : Int32)), .val (.int (0 : Int32)), .val .null, .unset] [(.int (0 : Int32)), (.ref a0)]))
  have Fo6 := ((F_c.ext E2).other W4 (Or.inr (slot_ne (Or.inr (own_W hw 21 rfl)) (Or.inr (own_W hw 20 rfl)) (by decide) (t := .byte) (t' := (.array .byte)) (by decide) (by decide))))
  obtain ⟨T6, h6, X6, e6, W6, st6⟩ := putFN X5 hx hZ hown (own_W hw 25 rfl) Via.refl e5 Fo6 ((E_a0.ext E2).wr W4) (Or.inr ⟨(own_W hw 21 rfl), rfl, hnm⟩) (own_W hw 5 rfl) (ty := .byte) (v' := (.int (0 : Int32))) (by decide) rfl (by decide) (g := (mkF m 23 #[.val (.ref a0), .val (.ref a1), .val (.int (0 : Int32)), .val (.int (0 : Int32)), .val .null, .unset] [(.int (0 : Int32)), (.ref a0)])) rfl rfl (hb hby d3_23)
  refine RestW.via (fun t k => st6 t k) ?_
  have N6 := Fr.snoc X6 N4 g_a0
  have K6 : Keep h0 h6 [a0] := K4.wr W6 (Or.inl (List.mem_of_getElem? (i := 0) rfl))
  have Fw6 := Fo6.same W6
  show RestW p.tables e below s _ _ _ (T6.setTop (mkF m 26 #[.val (.ref a0), .val (.ref a1), .val (.int (0 : Int32)), .val (.int (0 : Int32)), .val .null, .unset] []))
  refine RestW.ret X6 hS (by rw [e6]; first | exact (Nat.le_trans (Nat.le_trans hk2 (Keep.of_wr W4).1) (Keep.of_wr W6).1) | exact Nat.le_refl _) (v := none) (fun _ => rfl) hlk (fun fs hr => X6.returnOut hx Bd.returns (hb hby d3_26) hr) ?_ (by decide) (by decide)
  rw [e6]
  exact ⟨rfl, N6, K6, Fw6, sa2, sb2, kb2, (Fw4.other W6 (Or.inr (slot_ne (Or.inr (own_W hw 20 rfl)) (Or.inr (own_W hw 21 rfl)) (by decide) (t := (.array .byte)) (t' := .byte) (by decide) (by decide)))), ⟨own_Lit_warm Li2 X6.warmed.wide, ⟨((Ea2.wr W4).wr W6), ((Fv2.other W4 (Or.inl ne_sa2_a0)).other W6 (Or.inl ne_sa2_a0)), ((Fc2.other W4 (Or.inl ne_sa2_a0)).other W6 (Or.inl ne_sa2_a0)), ((Vb2.other W4 (Ne.symm ne_a0_sb2)).other W6 (Ne.symm ne_a0_sb2))⟩⟩, ne_a0_sb2, own_IB_warm I X6.warmed⟩
theorem ef_SI0c (m : MethodId) (a0 : Addr) (a1 : Addr) : entryFrame m #[(.ref a0), (.ref a1)] 2 = mkF m 0 #[.val (.ref a0), .val (.ref a1)] [] := by first | (simp [entryFrame, mkF, argsToLocals, Value.category, maxLocals]; done) | rfl
def QSI0c (Z : State) (a0 : Addr) (a1 : Addr) (kc : ClassId) (Ts : List String) (h0 : Heap) (n0 : Nat) (v : Option Value) (h : Heap) (L : List Loc) (vm : Vm) : Prop := v = none ∧ Fr n0 L ∧ Keep h0 h [a0] ∧ Fld Z h a0 "java/lang/String" "coder" "B" (.int (0 : Int32)) ∧ ∃ a b k, Fld Z h a0 "java/lang/String" "value" "[B" (.ref b) ∧ own_L0 Z h vm a b k ∧ a0 ≠ b ∧ IB Z vm ("" :: Ts)
set_option maxRecDepth 65536 in
set_option maxHeartbeats 40000000 in
theorem rmSI0c (l : Launch) (Z : State) (aw : Array Value) (hw : ∀ d ∈ tables_1, d.before aw Z = true) (ws : List Jvm.Cond) (a0 : Addr) (a1 : Addr) (kc : ClassId) (Ts : List String) (h0 : Heap) (n0 : Nat) (Z0 : n0 ≤ h0.size) (E_a0 : Exa Z h0 a0 "java/lang/String") (F_v : Fld Z h0 a0 "java/lang/String" "value" "[B" .null) (F_c : Fld Z h0 a0 "java/lang/String" "coder" "B" (.int (0 : Int32))) (g_a0 : n0 ≤ a0) (V1 : Arv Z h0 a1 kc .char (0 : Int32) [] (.int (0 : Int32))) (O : own_Old Z n0 h0) (hcw : Jvm.Lit.compactW.before aw Z = true) (HE : Jvm.Lit.constHeld Z "java/lang/String" 7) (hnot : "" ∉ Ts) :
    MetFree l (⟨"java/lang/String", "<init>", "([C)V"⟩ : MethodName) (head1 (Jvm.Cond.code (⟨"java/lang/String", "<init>", "([C)V"⟩ : MethodName) jdk_42_method_3_code 2 none :: ws) ({ frames := 2, cells := 2, slots := 4, locals := 29 } : Room)) (fun a U => a = #[(.ref a0), (.ref a1)] ∧ Z.Warmed39 U.vm ∧ U.heap = h0 ∧ (fun vm => IB Z vm Ts) U.vm) (fun _ _ _ _ _ => True) (fun _ U o U' => ∃ v L, o = .returned v ∧ QSI0c Z a0 a1 kc Ts h0 n0 v U'.heap L U'.vm ∧ ReturnedEndW U o U' L ({ frames := 2, cells := 2, slots := 4, locals := 29 } : Room).cells ({ frames := 2, cells := 2, slots := 4, locals := 29 } : Room).slots) := by
  refine MetFree.of_bodySF (plainFor_of_name pn_1) hisR ?_
  intro p e s m args below meth c s₁ Bd hml0 hP hK
  obtain ⟨rfl, hZ, hh, hVP⟩ := hP
  have hx := Bd.exec
  have hby := Bd.bytes
  have hml : c.maxLocals = 2 := hml0
  have hown : s.vm.findClass "java/lang/String" = some m.cls := findClass_of_methodNamed Bd.named
  have hnm := (name_of_methodNamed Bd.named Bd.method).1
  have hlk : meth.locks = false := BodyLoose.notSynchronized Bd
  have X0 : Stand p l e ({ frames := 2, cells := 2, slots := 4, locals := 29 } : Room) (s.setVm s.vm) m #[(.ref a0), (.ref a1)] below meth c s₁ [] 0 0 := Stand.of_body Bd
  have hS : s.Since s.vm h0.size := (State.WarmedH.refl s).since _
  have eh0 : s₁.heap = h0 := by rw [← hh, Bd.state]; rfl
  have N0 := Fr.nil n0
  show RestW p.tables e below s (QSI0c Z a0 a1 kc Ts h0 n0) _ _ (s₁.setTop (entryFrame m #[(.ref a0), (.ref a1)] 2))
  refine RestW.via (fun t k => castTop (ef_SI0c m a0 a1) k) ?_
  have I := hVP
  show RestW p.tables e below s _ _ _ (s₁.setTop (mkF m 0 #[.val (.ref a0), .val (.ref a1)] []))
  refine RestW.via (fun t k => XS.aloadN X0.here hx rfl (hb hby d2_0) rfl rfl k) ?_
  refine RestW.via (fun t k => XS.aloadN X0.here hx rfl (hb hby d2_1) rfl rfl k) ?_
  refine RestW.via (fun t k => XS.iconst X0.here hx rfl (hb hby d2_2) k) ?_
  refine RestW.via (fun t k => XS.aloadN X0.here hx rfl (hb hby d2_3) rfl rfl k) ?_
  obtain ⟨cl1, Ar1, -, S1, P1, -, -⟩ := id V1
  refine RestW.via (fun t k => X0.arraylength hx (by rw [eh0]; exact Ar1.1) (State.isArrayOf_alike hZ.alike Ar1.2.1) (g := (mkF m 4 #[.val (.ref a0), .val (.ref a1)] [(.ref a1), (.int (0 : Int32)), (.ref a1), (.ref a0)])) rfl rfl (hb hby d2_4) t k) ?_
  rw [len_of S1 P1]
  show RestW p.tables e below s _ _ _ (s₁.setTop (mkF m 5 #[.val (.ref a0), .val (.ref a1)] [(.int (0 : Int32)), (.int (0 : Int32)), (.ref a1), (.ref a0)]))
  refine RestW.via (fun t k => XS.aconstNull X0.here hx rfl (hb hby d2_5) k) ?_
  show RestW p.tables e below s _ _ _ (s₁.setTop (mkF m 6 #[.val (.ref a0), .val (.ref a1)] [.null, (.int (0 : Int32)), (.int (0 : Int32)), (.ref a1), (.ref a0)]))
  obtain ⟨_, _, ⟨T2, L2, k2, n2⟩, -, X2, hSq2, gr2, ⟨Lc2, hQ2, l2, y2, z2⟩, st2⟩ := X0.specialBackS hx (y := (⟨"java/lang/String", "<init>", "([CIILjava/lang/Void;)V"⟩ : MethodName)) rfl hown (mvT hZ (own_W hw 11 rfl)) (mvT hZ (own_W hw 12 rfl)) (mvT hZ (own_W hw 14 rfl)) (by decide) (own_backV (W := 0) (rmSJ0c l Z aw hw [] a0 a1 kc Ts h0 n0 (Nat.le_trans Z0 (Keep.refl h0 [a0]).1) E_a0 F_v F_c g_a0 V1 (O.keep (Keep.refl h0 [a0]) (allS g_a0 all0)) hcw HE hnot) hZ (own_W hw 14 rfl) (own_W hw 6 rfl) (by decide) (by decide) (fun vm' hw' => own_IB_warm (s := s) I hw')) (g := (mkF m 6 #[.val (.ref a0), .val (.ref a1)] [.null, (.int (0 : Int32)), (.int (0 : Int32)), (.ref a1), (.ref a0)])) rfl (by rw [hml]; rfl) (Steps.refl _) (a := a0) (argsL := [(.ref a1), (.int (0 : Int32)), (.int (0 : Int32)), .null]) (rest := []) (lenOf pd_3 rfl) rfl (by show 2 * 0 + _ ≤ _; exact Nat.le_of_eq rfl) (hb hby d2_6) (fun _ _ => ⟨rfl, eh0, (by decide : 0 + 2 ≤ _), (by decide : 0 + 4 ≤ _)⟩)
  dsimp only [Pt.U, Pt.locs, Pt.cells, Pt.slots] at X2 l2 y2 z2 st2 hQ2 hSq2 gr2
  subst l2 y2 z2
  obtain ⟨X2, hS, hZ, hown⟩ := rebS hS (by rw [eh0]; first | exact (Nat.le_refl _) | exact Nat.le_refl _) X2 hSq2 gr2 hZ hown
  obtain ⟨h2, e2⟩ : ∃ z, T2.heap = z := ⟨_, rfl⟩
  rw [e2] at hQ2
  obtain ⟨rfl, Nq2, Kq2, rq2⟩ := hQ2
  have N2 := Fr.app N0 Nq2
  have K2 : Keep h0 h2 [a0] := (Keep.refl h0 [a0]).trans Kq2 (allS (Or.inl (List.mem_of_getElem? (i := 0) rfl)) all0)
  refine RestW.via (fun t k => st2.trans k) ?_
  show RestW p.tables e below s _ _ _ (T2.setTop (mkF m 9 #[.val (.ref a0), .val (.ref a1)] []))
  refine RestW.ret X2 hS (by rw [e2]; first | exact (Nat.le_of_eq (congrArg Array.size e2)) | exact Nat.le_refl _) (v := none) (fun _ => rfl) hlk (fun fs hr => X2.returnOut hx Bd.returns (hb hby d2_9) hr) ?_ (by decide) (by decide)
  rw [e2]
  obtain ⟨r1, a, b, k, r2, ⟨r3, r4⟩, r5, r6⟩ := id rq2; exact ⟨rfl, N2, K2, r1, a, b, k, r2, ⟨own_Lit_warm r3 X2.warmed.wide, r4⟩, r5, own_IB_warm r6 X2.warmed⟩
theorem ef_SJ0w (m : MethodId) (a0 : Addr) (a1 : Addr) : entryFrame m #[(.ref a0), (.ref a1), (.int (0 : Int32)), (.int (0 : Int32)), .null] 6 = mkF m 0 #[.val (.ref a0), .val (.ref a1), .val (.int (0 : Int32)), .val (.int (0 : Int32)), .val .null, .unset] [] := by first | (simp [entryFrame, mkF, argsToLocals, Value.category, maxLocals]; done) | rfl
def QSJ0w (Z : State) (a0 : Addr) (a1 : Addr) (kc : ClassId) (la : Addr) (lb : Addr) (lk : ClassId) (Ts : List String) (h0 : Heap) (n0 : Nat) (v : Option Value) (h : Heap) (L : List Loc) (vm : Vm) : Prop := v = none ∧ Fr n0 L ∧ Keep h0 h [a0] ∧ Fld Z h a0 "java/lang/String" "coder" "B" (.int (0 : Int32)) ∧ Fld Z h a0 "java/lang/String" "value" "[B" (.ref lb) ∧ own_St Z h la lb lk (0 : Int32) [] ∧ a0 ≠ lb ∧ IB Z vm Ts
set_option maxRecDepth 65536 in
set_option maxHeartbeats 40000000 in
theorem rmSJ0w (l : Launch) (Z : State) (aw : Array Value) (hw : ∀ d ∈ tables_1, d.before aw Z = true) (ws : List Jvm.Cond) (a0 : Addr) (a1 : Addr) (kc : ClassId) (la : Addr) (lb : Addr) (lk : ClassId) (Ts : List String) (h0 : Heap) (n0 : Nat) (Z0 : n0 ≤ h0.size) (E_a0 : Exa Z h0 a0 "java/lang/String") (F_v : Fld Z h0 a0 "java/lang/String" "value" "[B" .null) (F_c : Fld Z h0 a0 "java/lang/String" "coder" "B" (.int (0 : Int32))) (g_a0 : n0 ≤ a0) (V1 : Arv Z h0 a1 kc .char (0 : Int32) [] (.int (0 : Int32))) (O : own_Old Z n0 h0) (SL : own_St Z h0 la lb lk (0 : Int32) []) :
    MetFree l (⟨"java/lang/String", "<init>", "([CIILjava/lang/Void;)V"⟩ : MethodName) (head1 (Jvm.Cond.code (⟨"java/lang/String", "<init>", "([CIILjava/lang/Void;)V"⟩ : MethodName) jdk_42_method_149_code 6 none :: ws) ({ frames := 1, cells := 0, slots := 0, locals := 12 } : Room)) (fun a U => a = #[(.ref a0), (.ref a1), (.int (0 : Int32)), (.int (0 : Int32)), .null] ∧ Z.Warmed39 U.vm ∧ U.heap = h0 ∧ (fun vm => Lit (Z.setVm vm) "java/lang/String" 7 la ∧ IB Z vm Ts) U.vm) (fun _ _ _ _ _ => True) (fun _ U o U' => ∃ v L, o = .returned v ∧ QSJ0w Z a0 a1 kc la lb lk Ts h0 n0 v U'.heap L U'.vm ∧ ReturnedEndW U o U' L ({ frames := 1, cells := 0, slots := 0, locals := 12 } : Room).cells ({ frames := 1, cells := 0, slots := 0, locals := 12 } : Room).slots) := by
  refine MetFree.of_bodySF (plainFor_of_name pn_1) hisR ?_
  intro p e s m args below meth c s₁ Bd hml0 hP hK
  obtain ⟨rfl, hZ, hh, hVP⟩ := hP
  have hx := Bd.exec
  have hby := Bd.bytes
  have hml : c.maxLocals = 6 := hml0
  have hown : s.vm.findClass "java/lang/String" = some m.cls := findClass_of_methodNamed Bd.named
  have hnm := (name_of_methodNamed Bd.named Bd.method).1
  have hlk : meth.locks = false := BodyLoose.notSynchronized Bd
  have X0 : Stand p l e ({ frames := 1, cells := 0, slots := 0, locals := 12 } : Room) (s.setVm s.vm) m #[(.ref a0), (.ref a1), (.int (0 : Int32)), (.int (0 : Int32)), .null] below meth c s₁ [] 0 0 := Stand.of_body Bd
  have hS : s.Since s.vm h0.size := (State.WarmedH.refl s).since _
  have eh0 : s₁.heap = h0 := by rw [← hh, Bd.state]; rfl
  have N0 := Fr.nil n0
  show RestW p.tables e below s (QSJ0w Z a0 a1 kc la lb lk Ts h0 n0) _ _ (s₁.setTop (entryFrame m #[(.ref a0), (.ref a1), (.int (0 : Int32)), (.int (0 : Int32)), .null] 6))
  refine RestW.via (fun t k => castTop (ef_SJ0w m a0 a1) k) ?_
  obtain ⟨Li0, I⟩ := hVP
  obtain ⟨Ea, Fva, Fca, Vba⟩ := id SL
  show RestW p.tables e below s _ _ _ (s₁.setTop (mkF m 0 #[.val (.ref a0), .val (.ref a1), .val (.int (0 : Int32)), .val (.int (0 : Int32)), .val .null, .unset] []))
  refine RestW.via (fun t k => XS.aloadN X0.here hx rfl (hb hby d3_0) rfl rfl k) ?_
  show RestW p.tables e below s _ _ _ (s₁.setTop (mkF m 1 #[.val (.ref a0), .val (.ref a1), .val (.int (0 : Int32)), .val (.int (0 : Int32)), .val .null, .unset] [(.ref a0)]))
  obtain ⟨T1, X1, e1, st1⟩ := initO X0 hx hZ hown (own_W hw 15 rfl) (own_W hw 16 rfl) (own_W hw 17 rfl) eh0 (g := (mkF m 1 #[.val (.ref a0), .val (.ref a1), .val (.int (0 : Int32)), .val (.int (0 : Int32)), .val .null, .unset] [(.ref a0)])) rfl (by rw [hml]; rfl) rfl (hb hby d3_1) (by decide) (W := 0) (by show 2 * 0 + _ ≤ _; exact Nat.le_of_eq rfl) (by decide)
  refine RestW.via (fun t k => st1 t k) ?_
  show RestW p.tables e below s _ _ _ (T1.setTop (mkF m 4 #[.val (.ref a0), .val (.ref a1), .val (.int (0 : Int32)), .val (.int (0 : Int32)), .val .null, .unset] []))
  refine RestW.via (fun t k => XS.iloadN X1.here hx rfl (hb hby d3_4) rfl k) ?_
  refine RestW.via (fun t k => XS.ifNo X1.here hx rfl (hb hby d3_5) rfl ((if0 _ _).trans (teq (by decide : (0 : Int32) = (0 : Int32))).2) k) ?_
  show RestW p.tables e below s _ _ _ (T1.setTop (mkF m 8 #[.val (.ref a0), .val (.ref a1), .val (.int (0 : Int32)), .val (.int (0 : Int32)), .val .null, .unset] []))
  refine RestW.via (fun t k => XS.aloadN X1.here hx rfl (hb hby d3_8) rfl rfl k) ?_
  show RestW p.tables e below s _ _ _ (T1.setTop (mkF m 9 #[.val (.ref a0), .val (.ref a1), .val (.int (0 : Int32)), .val (.int (0 : Int32)), .val .null, .unset] [(.ref a0)]))
  refine RestW.via (fun t k => ldcAgain (s := s) (vm0 := s.vm) X1 hx hZ hown (own_W hw 18 rfl) Li0 (g := (mkF m 9 #[.val (.ref a0), .val (.ref a1), .val (.int (0 : Int32)), .val (.int (0 : Int32)), .val .null, .unset] [(.ref a0)])) rfl (hb hby d3_9) t k) ?_
  have ne_la_a0 : la ≠ a0 := Fld.ne Fva F_v (by simp)
  have ne_a0_lb : a0 ≠ lb := Exa.neArv E_a0 Vba (own_W hw 5 rfl)
  show RestW p.tables e below s _ _ _ (T1.setTop (mkF m 11 #[.val (.ref a0), .val (.ref a1), .val (.int (0 : Int32)), .val (.int (0 : Int32)), .val .null, .unset] [(.ref la), (.ref a0)]))
  obtain ⟨T2, X2, e2, st2⟩ := getF X1 hx hZ hown (host := "") (Or.inl (own_W hw 24 rfl)) Via.refl e1 Fva (g := (mkF m 11 #[.val (.ref a0), .val (.ref a1), .val (.int (0 : Int32)), .val (.int (0 : Int32)), .val .null, .unset] [(.ref la), (.ref a0)])) rfl rfl (hb hby d3_11)
  refine RestW.via (fun t k => st2 t k) ?_
  show RestW p.tables e below s _ _ _ (T2.setTop (mkF m 14 #[.val (.ref a0), .val (.ref a1), .val (.int (0 : Int32)), .val (.int (0 : Int32)), .val .null, .unset] [(.ref lb), (.ref a0)]))
  have Fo3 := F_v
  obtain ⟨T3, h3, X3, e3, W3, st3⟩ := putF X2 hx hZ hown (host := "") (Or.inl (own_W hw 24 rfl)) Via.refl e2 Fo3 E_a0 (Or.inr ⟨(own_W hw 20 rfl), rfl, hnm⟩) (own_W hw 5 rfl) (ty := (.array .byte)) (by decide) rfl rfl (g := (mkF m 14 #[.val (.ref a0), .val (.ref a1), .val (.int (0 : Int32)), .val (.int (0 : Int32)), .val .null, .unset] [(.ref lb), (.ref a0)])) rfl rfl (hb hby d3_14)
  refine RestW.via (fun t k => st3 t k) ?_
  have N3 := Fr.snoc X3 N0 g_a0
  have K3 : Keep h0 h3 [a0] := (Keep.refl h0 [a0]).wr W3 (Or.inl (List.mem_of_getElem? (i := 0) rfl))
  have Fw3 := Fo3.same W3
  show RestW p.tables e below s _ _ _ (T3.setTop (mkF m 17 #[.val (.ref a0), .val (.ref a1), .val (.int (0 : Int32)), .val (.int (0 : Int32)), .val .null, .unset] []))
  refine RestW.via (fun t k => XS.aloadN X3.here hx rfl (hb hby d3_17) rfl rfl k) ?_
  show RestW p.tables e below s _ _ _ (T3.setTop (mkF m 18 #[.val (.ref a0), .val (.ref a1), .val (.int (0 : Int32)), .val (.int (0 : Int32)), .val .null, .unset] [(.ref a0)]))
  refine RestW.via (fun t k => ldcAgain (s := s) (vm0 := s.vm) X3 hx hZ hown (own_W hw 18 rfl) Li0 (g := (mkF m 18 #[.val (.ref a0), .val (.ref a1), .val (.int (0 : Int32)), .val (.int (0 : Int32)), .val .null, .unset] [(.ref a0)])) rfl (hb hby d3_18) t k) ?_
  show RestW p.tables e below s _ _ _ (T3.setTop (mkF m 20 #[.val (.ref a0), .val (.ref a1), .val (.int (0 : Int32)), .val (.int (0 : Int32)), .val .null, .unset] [(.ref la), (.ref a0)]))
  obtain ⟨T4, X4, e4, st4⟩ := getF X3 hx hZ hown (host := "") (Or.inl (own_W hw 25 rfl)) Via.refl e3 (Fca.other W3 (Or.inl ne_la_a0)) (g := (mkF m 20 #[.val (.ref a0), .val (.ref a1), .val (.int (0 : Int32)), .val (.int (0 : Int32)), .val .null, .unset] [(.ref la), (.ref a0)])) rfl rfl (hb hby d3_20)
  refine RestW.via (fun t k => st4 t k) ?_
  show RestW p.tables e below s _ _ _ (T4.setTop (mkF m 23 #[.val (.ref a0), .val (.ref a1), .val (.int (0 : Int32)), .val (.int (0 : Int32)), .val .null, .unset] [(.int (0 : Int32)), (.ref a0)]))
  have Fo5 := (F_c.other W3 (Or.inr (slot_ne (Or.inr (own_W hw 21 rfl)) (Or.inr (own_W hw 20 rfl)) (by decide) (t := .byte) (t' := (.array .byte)) (by decide) (by decide))))
  obtain ⟨T5, h5, X5, e5, W5, st5⟩ := putFN X4 hx hZ hown (own_W hw 25 rfl) Via.refl e4 Fo5 (E_a0.wr W3) (Or.inr ⟨(own_W hw 21 rfl), rfl, hnm⟩) (own_W hw 5 rfl) (ty := .byte) (v' := (.int (0 : Int32))) (by decide) rfl (by decide) (g := (mkF m 23 #[.val (.ref a0), .val (.ref a1), .val (.int (0 : Int32)), .val (.int (0 : Int32)), .val .null, .unset] [(.int (0 : Int32)), (.ref a0)])) rfl rfl (hb hby d3_23)
  refine RestW.via (fun t k => st5 t k) ?_
  have N5 := Fr.snoc X5 N3 g_a0
  have K5 : Keep h0 h5 [a0] := K3.wr W5 (Or.inl (List.mem_of_getElem? (i := 0) rfl))
  have Fw5 := Fo5.same W5
  show RestW p.tables e below s _ _ _ (T5.setTop (mkF m 26 #[.val (.ref a0), .val (.ref a1), .val (.int (0 : Int32)), .val (.int (0 : Int32)), .val .null, .unset] []))
  refine RestW.ret X5 hS (by rw [e5]; first | exact (Nat.le_trans (Nat.le_trans (Nat.le_refl _) (Keep.of_wr W3).1) (Keep.of_wr W5).1) | exact Nat.le_refl _) (v := none) (fun _ => rfl) hlk (fun fs hr => X5.returnOut hx Bd.returns (hb hby d3_26) hr) ?_ (by decide) (by decide)
  rw [e5]
  exact ⟨rfl, N5, K5, Fw5, (Fw3.other W5 (Or.inr (slot_ne (Or.inr (own_W hw 20 rfl)) (Or.inr (own_W hw 21 rfl)) (by decide) (t := (.array .byte)) (t' := .byte) (by decide) (by decide)))), ⟨((Ea.wr W3).wr W5), ((Fva.other W3 (Or.inl ne_la_a0)).other W5 (Or.inl ne_la_a0)), ((Fca.other W3 (Or.inl ne_la_a0)).other W5 (Or.inl ne_la_a0)), ((Vba.other W3 (Ne.symm ne_a0_lb)).other W5 (Ne.symm ne_a0_lb))⟩, ne_a0_lb, own_IB_warm I X5.warmed⟩
theorem ef_SI0w (m : MethodId) (a0 : Addr) (a1 : Addr) : entryFrame m #[(.ref a0), (.ref a1)] 2 = mkF m 0 #[.val (.ref a0), .val (.ref a1)] [] := by first | (simp [entryFrame, mkF, argsToLocals, Value.category, maxLocals]; done) | rfl
def QSI0w (Z : State) (a0 : Addr) (a1 : Addr) (kc : ClassId) (la : Addr) (lb : Addr) (lk : ClassId) (Ts : List String) (h0 : Heap) (n0 : Nat) (v : Option Value) (h : Heap) (L : List Loc) (vm : Vm) : Prop := v = none ∧ Fr n0 L ∧ Keep h0 h [a0] ∧ Fld Z h a0 "java/lang/String" "coder" "B" (.int (0 : Int32)) ∧ Fld Z h a0 "java/lang/String" "value" "[B" (.ref lb) ∧ own_St Z h la lb lk (0 : Int32) [] ∧ a0 ≠ lb ∧ IB Z vm Ts
set_option maxRecDepth 65536 in
set_option maxHeartbeats 40000000 in
theorem rmSI0w (l : Launch) (Z : State) (aw : Array Value) (hw : ∀ d ∈ tables_1, d.before aw Z = true) (ws : List Jvm.Cond) (a0 : Addr) (a1 : Addr) (kc : ClassId) (la : Addr) (lb : Addr) (lk : ClassId) (Ts : List String) (h0 : Heap) (n0 : Nat) (Z0 : n0 ≤ h0.size) (E_a0 : Exa Z h0 a0 "java/lang/String") (F_v : Fld Z h0 a0 "java/lang/String" "value" "[B" .null) (F_c : Fld Z h0 a0 "java/lang/String" "coder" "B" (.int (0 : Int32))) (g_a0 : n0 ≤ a0) (V1 : Arv Z h0 a1 kc .char (0 : Int32) [] (.int (0 : Int32))) (O : own_Old Z n0 h0) (SL : own_St Z h0 la lb lk (0 : Int32) []) :
    MetFree l (⟨"java/lang/String", "<init>", "([C)V"⟩ : MethodName) (head1 (Jvm.Cond.code (⟨"java/lang/String", "<init>", "([C)V"⟩ : MethodName) jdk_42_method_3_code 2 none :: ws) ({ frames := 2, cells := 0, slots := 0, locals := 29 } : Room)) (fun a U => a = #[(.ref a0), (.ref a1)] ∧ Z.Warmed39 U.vm ∧ U.heap = h0 ∧ (fun vm => Lit (Z.setVm vm) "java/lang/String" 7 la ∧ IB Z vm Ts) U.vm) (fun _ _ _ _ _ => True) (fun _ U o U' => ∃ v L, o = .returned v ∧ QSI0w Z a0 a1 kc la lb lk Ts h0 n0 v U'.heap L U'.vm ∧ ReturnedEndW U o U' L ({ frames := 2, cells := 0, slots := 0, locals := 29 } : Room).cells ({ frames := 2, cells := 0, slots := 0, locals := 29 } : Room).slots) := by
  refine MetFree.of_bodySF (plainFor_of_name pn_1) hisR ?_
  intro p e s m args below meth c s₁ Bd hml0 hP hK
  obtain ⟨rfl, hZ, hh, hVP⟩ := hP
  have hx := Bd.exec
  have hby := Bd.bytes
  have hml : c.maxLocals = 2 := hml0
  have hown : s.vm.findClass "java/lang/String" = some m.cls := findClass_of_methodNamed Bd.named
  have hnm := (name_of_methodNamed Bd.named Bd.method).1
  have hlk : meth.locks = false := BodyLoose.notSynchronized Bd
  have X0 : Stand p l e ({ frames := 2, cells := 0, slots := 0, locals := 29 } : Room) (s.setVm s.vm) m #[(.ref a0), (.ref a1)] below meth c s₁ [] 0 0 := Stand.of_body Bd
  have hS : s.Since s.vm h0.size := (State.WarmedH.refl s).since _
  have eh0 : s₁.heap = h0 := by rw [← hh, Bd.state]; rfl
  have N0 := Fr.nil n0
  show RestW p.tables e below s (QSI0w Z a0 a1 kc la lb lk Ts h0 n0) _ _ (s₁.setTop (entryFrame m #[(.ref a0), (.ref a1)] 2))
  refine RestW.via (fun t k => castTop (ef_SI0w m a0 a1) k) ?_
  obtain ⟨Li0, I⟩ := hVP
  obtain ⟨Ea, Fva, Fca, Vba⟩ := id SL
  show RestW p.tables e below s _ _ _ (s₁.setTop (mkF m 0 #[.val (.ref a0), .val (.ref a1)] []))
  refine RestW.via (fun t k => XS.aloadN X0.here hx rfl (hb hby d2_0) rfl rfl k) ?_
  refine RestW.via (fun t k => XS.aloadN X0.here hx rfl (hb hby d2_1) rfl rfl k) ?_
  refine RestW.via (fun t k => XS.iconst X0.here hx rfl (hb hby d2_2) k) ?_
  refine RestW.via (fun t k => XS.aloadN X0.here hx rfl (hb hby d2_3) rfl rfl k) ?_
  obtain ⟨cl1, Ar1, -, S1, P1, -, -⟩ := id V1
  refine RestW.via (fun t k => X0.arraylength hx (by rw [eh0]; exact Ar1.1) (State.isArrayOf_alike hZ.alike Ar1.2.1) (g := (mkF m 4 #[.val (.ref a0), .val (.ref a1)] [(.ref a1), (.int (0 : Int32)), (.ref a1), (.ref a0)])) rfl rfl (hb hby d2_4) t k) ?_
  rw [len_of S1 P1]
  show RestW p.tables e below s _ _ _ (s₁.setTop (mkF m 5 #[.val (.ref a0), .val (.ref a1)] [(.int (0 : Int32)), (.int (0 : Int32)), (.ref a1), (.ref a0)]))
  refine RestW.via (fun t k => XS.aconstNull X0.here hx rfl (hb hby d2_5) k) ?_
  show RestW p.tables e below s _ _ _ (s₁.setTop (mkF m 6 #[.val (.ref a0), .val (.ref a1)] [.null, (.int (0 : Int32)), (.int (0 : Int32)), (.ref a1), (.ref a0)]))
  obtain ⟨_, _, ⟨T2, L2, k2, n2⟩, -, X2, hSq2, gr2, ⟨Lc2, hQ2, l2, y2, z2⟩, st2⟩ := X0.specialBackS hx (y := (⟨"java/lang/String", "<init>", "([CIILjava/lang/Void;)V"⟩ : MethodName)) rfl hown (mvT hZ (own_W hw 11 rfl)) (mvT hZ (own_W hw 12 rfl)) (mvT hZ (own_W hw 14 rfl)) (by decide) (own_backV (W := 0) (rmSJ0w l Z aw hw [] a0 a1 kc la lb lk Ts h0 n0 (Nat.le_trans Z0 (Keep.refl h0 [a0]).1) E_a0 F_v F_c g_a0 V1 (O.keep (Keep.refl h0 [a0]) (allS g_a0 all0)) SL) hZ (own_W hw 14 rfl) (own_W hw 6 rfl) (by decide) (by decide) (fun vm' hw' => And.intro (own_Lit_warm (s := s) Li0 hw'.wide) (own_IB_warm (s := s) I hw'))) (g := (mkF m 6 #[.val (.ref a0), .val (.ref a1)] [.null, (.int (0 : Int32)), (.int (0 : Int32)), (.ref a1), (.ref a0)])) rfl (by rw [hml]; rfl) (Steps.refl _) (a := a0) (argsL := [(.ref a1), (.int (0 : Int32)), (.int (0 : Int32)), .null]) (rest := []) (lenOf pd_3 rfl) rfl (by show 2 * 0 + _ ≤ _; exact Nat.le_of_eq rfl) (hb hby d2_6) (fun _ _ => ⟨rfl, eh0, (by decide : 0 + 0 ≤ _), (by decide : 0 + 0 ≤ _)⟩)
  dsimp only [Pt.U, Pt.locs, Pt.cells, Pt.slots] at X2 l2 y2 z2 st2 hQ2 hSq2 gr2
  subst l2 y2 z2
  obtain ⟨X2, hS, hZ, hown⟩ := rebS hS (by rw [eh0]; first | exact (Nat.le_refl _) | exact Nat.le_refl _) X2 hSq2 gr2 hZ hown
  obtain ⟨h2, e2⟩ : ∃ z, T2.heap = z := ⟨_, rfl⟩
  rw [e2] at hQ2
  obtain ⟨rfl, Nq2, Kq2, rq2⟩ := hQ2
  have N2 := Fr.app N0 Nq2
  have K2 : Keep h0 h2 [a0] := (Keep.refl h0 [a0]).trans Kq2 (allS (Or.inl (List.mem_of_getElem? (i := 0) rfl)) all0)
  refine RestW.via (fun t k => st2.trans k) ?_
  show RestW p.tables e below s _ _ _ (T2.setTop (mkF m 9 #[.val (.ref a0), .val (.ref a1)] []))
  refine RestW.ret X2 hS (by rw [e2]; first | exact (Nat.le_of_eq (congrArg Array.size e2)) | exact Nat.le_refl _) (v := none) (fun _ => rfl) hlk (fun fs hr => X2.returnOut hx Bd.returns (hb hby d2_9) hr) ?_ (by decide) (by decide)
  rw [e2]
  obtain ⟨r1, r2, r3, r4, r5⟩ := id rq2; exact ⟨rfl, N2, K2, r1, r2, r3, r4, own_IB_warm r5 X2.warmed⟩
def own_isch (x : Int32) : Prop := ¬ x < (0 : Int32) ∧ ¬ ((255 : Int32) < x)
theorem own_nc {x : Int32} (h : own_isch x) : nar .char x = x := by
  have q := c_i2c x
  have e0 : (0 : Int32).toInt = 0 := by decide
  have e255 : (255 : Int32).toInt = 255 := by decide
  have h1 := h.1
  have h2 := h.2
  rw [Int32.lt_iff_toInt_lt] at h1 h2
  apply Int32.toInt_inj.mp
  show (x.toUInt32.toUInt16.toUInt32.toInt32).toInt = _
  omega
theorem own_c8 (x : Int32) : own_isch ((x &&& (255 : Int32)).toUInt32.toUInt16.toUInt32.toInt32) := by
  have e := c_mask x 255 8 (by decide) (by decide)
  have h1 := Int.emod_nonneg x.toInt (b := ((2 ^ 8 : Nat) : Int)) (by decide)
  have h2 := Int.emod_lt_of_pos x.toInt (b := ((2 ^ 8 : Nat) : Int)) (by decide)
  have q := c_i2c (x &&& (255 : Int32))
  have e0 : (0 : Int32).toInt = 0 := by decide
  have e255 : (255 : Int32).toInt = 255 := by decide
  unfold own_isch
  rw [Int32.lt_iff_toInt_lt, Int32.lt_iff_toInt_lt, e0, e255]
  omega
def own_n (x : Int32) : Int32 := ((((x.toUInt32 >>> ((16 : Int32) &&& 31).toUInt32).toInt32) &&& (3 : Int32)) % (3 : Int32))
def own_a (x : Int32) : Int32 := ((x &&& (255 : Int32)).toUInt32.toUInt16.toUInt32.toInt32)
def own_b (x : Int32) : Int32 := ((((x.toUInt32 >>> ((8 : Int32) &&& 31).toUInt32).toInt32) &&& (255 : Int32)).toUInt32.toUInt16.toUInt32.toInt32)
def own_l (x : Int32) : List Int32 := if own_n x = (0 : Int32) then [] else if own_n x = (1 : Int32) then [own_by (own_a x)] else [own_by (own_a x), own_by (own_b x)]
theorem own_n3 (x : Int32) : own_n x = 0 ∨ own_n x = 1 ∨ own_n x = 2 := by
  unfold own_n
  generalize (x.toUInt32 >>> ((16 : Int32) &&& 31).toUInt32).toInt32 = y
  have e := c_mask y 3 2 (by decide) (by decide)
  have h1 := Int.emod_nonneg y.toInt (b := ((2 ^ 2 : Nat) : Int)) (by decide)
  have r := (c_irem (y &&& 3) 3 3 (by decide)).1 (by rw [e]; exact h1)
  have e0 : (0 : Int32).toInt = 0 := by decide
  have e1 : (1 : Int32).toInt = 1 := by decide
  have e2 : (2 : Int32).toInt = 2 := by decide
  simp only [← Int32.toInt_inj, e0, e1, e2]
  omega
theorem own_l0 {x : Int32} (h : own_n x = 0) : own_l x = [] := by rw [own_l, if_pos h]
theorem own_l1 {x : Int32} (h : own_n x = 1) : own_l x = [own_by (own_a x)] := by rw [own_l, if_neg (by rw [h]; decide), if_pos h]
theorem own_l2 {x : Int32} (h : own_n x = 2) : own_l x = [own_by (own_a x), own_by (own_b x)] := by rw [own_l, if_neg (by rw [h]; decide), if_neg (by rw [h]; decide)]
theorem own_two {x : Int32} (h0 : ¬ own_n x = 0) (h1 : ¬ own_n x = 1) : own_n x = 2 := by
  rcases own_n3 x with h | h | h
  · exact absurd h h0
  · exact absurd h h1
  · exact h
theorem own_lln (x : Int32) : own_ln (own_n x) (own_l x) ∧ (own_l x).length ≤ 2 := by
  rcases own_n3 x with h | h | h
  · rw [own_l0 h, h]; exact ⟨⟨by simp, by simp⟩, by simp⟩
  · rw [own_l1 h, h]; exact ⟨⟨by simp, by simp⟩, by simp⟩
  · rw [own_l2 h, h]; exact ⟨⟨by simp, by simp⟩, by simp⟩
def own_EV (Z : State) (h : Heap) (vm : Vm) : Prop := IB Z vm [] ∨ (IB Z vm [""] ∧ ∃ a b k, own_L0 Z h vm a b k)
theorem own_EV_keep {Z s : State} {h h' : Heap} {vm0 vm' : Vm} (V : own_EV Z h vm0) (W : (s.setVm vm0).WarmedH vm') (K : Keep h h' []) : own_EV Z h' vm' := by
  rcases V with I | ⟨I, a, b, k, Li, SL⟩
  · exact Or.inl (own_IB_warm I W)
  · exact Or.inr ⟨own_IB_warm I W, a, b, k, own_Lit_warm Li W.wide, own_St_keep SL K nin0 nin0⟩
theorem own_EV_ib {Z : State} {h : Heap} {vm : Vm} (V : own_EV Z h vm) : IB Z vm [""] := by
  rcases V with I | ⟨I, -⟩
  · exact own_IB_mono I (by simp)
  · exact I
theorem pd_4 : parseMethodDescriptor "([C)V" = some ⟨[(.array .char)], none⟩ := by decide +kernel
theorem d1_0 : decode method_3_code 0 = .ok (.iload_n 0, 1) := by decide +kernel
theorem d1_1 : decode method_3_code 1 = .ok (.sipush 255, 3) := by decide +kernel
theorem d1_4 : decode method_3_code 4 = .ok (.iand, 1) := by decide +kernel
theorem d1_5 : decode method_3_code 5 = .ok (.i2c, 1) := by decide +kernel
theorem d1_6 : decode method_3_code 6 = .ok (.istore_n 1, 1) := by decide +kernel
theorem d1_7 : decode method_3_code 7 = .ok (.iload_n 0, 1) := by decide +kernel
theorem d1_8 : decode method_3_code 8 = .ok (.bipush 8, 2) := by decide +kernel
theorem d1_10 : decode method_3_code 10 = .ok (.iushr, 1) := by decide +kernel
theorem d1_11 : decode method_3_code 11 = .ok (.sipush 255, 3) := by decide +kernel
theorem d1_14 : decode method_3_code 14 = .ok (.iand, 1) := by decide +kernel
theorem d1_15 : decode method_3_code 15 = .ok (.i2c, 1) := by decide +kernel
theorem d1_16 : decode method_3_code 16 = .ok (.istore_n 2, 1) := by decide +kernel
theorem d1_17 : decode method_3_code 17 = .ok (.iload_n 0, 1) := by decide +kernel
theorem d1_18 : decode method_3_code 18 = .ok (.bipush 16, 2) := by decide +kernel
theorem d1_20 : decode method_3_code 20 = .ok (.iushr, 1) := by decide +kernel
theorem d1_21 : decode method_3_code 21 = .ok (.iconst 3, 1) := by decide +kernel
theorem d1_22 : decode method_3_code 22 = .ok (.iand, 1) := by decide +kernel
theorem d1_23 : decode method_3_code 23 = .ok (.iconst 3, 1) := by decide +kernel
theorem d1_24 : decode method_3_code 24 = .ok (.irem, 1) := by decide +kernel
theorem d1_25 : decode method_3_code 25 = .ok (.istore_n 3, 1) := by decide +kernel
theorem d1_26 : decode method_3_code 26 = .ok (.iload_n 3, 1) := by decide +kernel
theorem d1_27 : decode method_3_code 27 = .ok (.ifCond .ne 14, 3) := by decide +kernel
theorem d1_30 : decode method_3_code 30 = .ok (.new 34, 3) := by decide +kernel
theorem d1_33 : decode method_3_code 33 = .ok (.dup, 1) := by decide +kernel
theorem d1_34 : decode method_3_code 34 = .ok (.iconst 0, 1) := by decide +kernel
theorem d1_35 : decode method_3_code 35 = .ok (.newarray .char, 2) := by decide +kernel
theorem d1_37 : decode method_3_code 37 = .ok (.invokespecial 51, 3) := by decide +kernel
theorem d1_40 : decode method_3_code 40 = .ok (.areturn, 1) := by decide +kernel
theorem d1_41 : decode method_3_code 41 = .ok (.iload_n 3, 1) := by decide +kernel
theorem d1_42 : decode method_3_code 42 = .ok (.iconst 1, 1) := by decide +kernel
theorem d1_43 : decode method_3_code 43 = .ok (.if_icmp .ne 18, 3) := by decide +kernel
theorem d1_46 : decode method_3_code 46 = .ok (.new 34, 3) := by decide +kernel
theorem d1_49 : decode method_3_code 49 = .ok (.dup, 1) := by decide +kernel
theorem d1_50 : decode method_3_code 50 = .ok (.iconst 1, 1) := by decide +kernel
theorem d1_51 : decode method_3_code 51 = .ok (.newarray .char, 2) := by decide +kernel
theorem d1_53 : decode method_3_code 53 = .ok (.dup, 1) := by decide +kernel
theorem d1_54 : decode method_3_code 54 = .ok (.iconst 0, 1) := by decide +kernel
theorem d1_55 : decode method_3_code 55 = .ok (.iload_n 1, 1) := by decide +kernel
theorem d1_56 : decode method_3_code 56 = .ok (.castore, 1) := by decide +kernel
theorem d1_57 : decode method_3_code 57 = .ok (.invokespecial 51, 3) := by decide +kernel
theorem d1_60 : decode method_3_code 60 = .ok (.areturn, 1) := by decide +kernel
theorem d1_61 : decode method_3_code 61 = .ok (.new 34, 3) := by decide +kernel
theorem d1_64 : decode method_3_code 64 = .ok (.dup, 1) := by decide +kernel
theorem d1_65 : decode method_3_code 65 = .ok (.iconst 2, 1) := by decide +kernel
theorem d1_66 : decode method_3_code 66 = .ok (.newarray .char, 2) := by decide +kernel
theorem d1_68 : decode method_3_code 68 = .ok (.dup, 1) := by decide +kernel
theorem d1_69 : decode method_3_code 69 = .ok (.iconst 0, 1) := by decide +kernel
theorem d1_70 : decode method_3_code 70 = .ok (.iload_n 1, 1) := by decide +kernel
theorem d1_71 : decode method_3_code 71 = .ok (.castore, 1) := by decide +kernel
theorem d1_72 : decode method_3_code 72 = .ok (.dup, 1) := by decide +kernel
theorem d1_73 : decode method_3_code 73 = .ok (.iconst 1, 1) := by decide +kernel
theorem d1_74 : decode method_3_code 74 = .ok (.iload_n 2, 1) := by decide +kernel
theorem d1_75 : decode method_3_code 75 = .ok (.castore, 1) := by decide +kernel
theorem d1_76 : decode method_3_code 76 = .ok (.invokespecial 51, 3) := by decide +kernel
theorem d1_79 : decode method_3_code 79 = .ok (.areturn, 1) := by decide +kernel
theorem pn_2 : plainName "com/example/zapros/zapros/io/sql/SqlDatabaseToStringPinLaw" = true := by first | (simp [plainName, overriddenIn]; done) | decide +kernel
theorem ef_MK (m : MethodId) (p0 : Int32) : entryFrame m #[(.int p0)] 4 = mkF m 0 #[.val (.int p0), .unset, .unset, .unset] [] := by first | (simp [entryFrame, mkF, argsToLocals, Value.category, maxLocals]; done) | rfl
def QMK (Z : State) (p0 : Int32) (ic : Int32) (h0 : Heap) (n0 : Nat) (v : Option Value) (h : Heap) (L : List Loc) (vm : Vm) : Prop := ∃ t va k, v = some (.ref t) ∧ Fr n0 L ∧ Keep h0 h [] ∧ h0.size ≤ t ∧ own_St Z h t va k (own_n p0) ((own_l p0).map Value.int) ∧ own_EV Z h vm
set_option maxRecDepth 65536 in
set_option maxHeartbeats 40000000 in
theorem rmMK (l : Launch) (Z : State) (aw : Array Value) (hw : ∀ d ∈ tables_1, d.before aw Z = true) (ws : List Jvm.Cond) (p0 : Int32) (ic : Int32) (h0 : Heap) (n0 : Nat) (Z0 : n0 ≤ h0.size) (O : own_Old Z n0 h0) (CS : own_CS Z ic) (hcw : Jvm.Lit.compactW.before aw Z = true) (HE : Jvm.Lit.constHeld Z "java/lang/String" 7) :
    MetFree l (⟨"com/example/zapros/zapros/io/sql/SqlDatabaseToStringPinLaw", "mk", "(I)Ljava/lang/String;"⟩ : MethodName) (head1 (Jvm.Cond.code (⟨"com/example/zapros/zapros/io/sql/SqlDatabaseToStringPinLaw", "mk", "(I)Ljava/lang/String;"⟩ : MethodName) method_3_code 4 (some (.object "java/lang/String")) :: ws) ({ frames := 4, cells := 4, slots := 8, locals := 66 } : Room)) (fun a U => a = #[(.int p0)] ∧ Z.Warmed39 U.vm ∧ U.heap = h0 ∧ (fun vm => own_EV Z h0 vm) U.vm) (fun _ _ _ _ _ => True) (fun _ U o U' => ∃ v L, o = .returned v ∧ QMK Z p0 ic h0 n0 v U'.heap L U'.vm ∧ ReturnedEndW U o U' L ({ frames := 4, cells := 4, slots := 8, locals := 66 } : Room).cells ({ frames := 4, cells := 4, slots := 8, locals := 66 } : Room).slots) := by
  refine MetFree.of_bodySF (plainFor_of_name pn_2) hisR ?_
  intro p e s m args below meth c s₁ Bd hml0 hP hK
  obtain ⟨rfl, hZ, hh, hVP⟩ := hP
  have hx := Bd.exec
  have hby := Bd.bytes
  have hml : c.maxLocals = 4 := hml0
  have hown : s.vm.findClass "com/example/zapros/zapros/io/sql/SqlDatabaseToStringPinLaw" = some m.cls := findClass_of_methodNamed Bd.named
  have hnm := (name_of_methodNamed Bd.named Bd.method).1
  have hlk : meth.locks = false := BodyLoose.notSynchronized Bd
  have X0 : Stand p l e ({ frames := 4, cells := 4, slots := 8, locals := 66 } : Room) (s.setVm s.vm) m #[(.int p0)] below meth c s₁ [] 0 0 := Stand.of_body Bd
  have hS : s.Since s.vm h0.size := (State.WarmedH.refl s).since _
  have eh0 : s₁.heap = h0 := by rw [← hh, Bd.state]; rfl
  have N0 := Fr.nil n0
  show RestW p.tables e below s (QMK Z p0 ic h0 n0) _ _ (s₁.setTop (entryFrame m #[(.int p0)] 4))
  refine RestW.via (fun t k => castTop (ef_MK m p0) k) ?_
  have EV := hVP
  show RestW p.tables e below s _ _ _ (s₁.setTop (mkF m 0 #[.val (.int p0), .unset, .unset, .unset] []))
  refine RestW.via (fun t k => XS.iloadN X0.here hx rfl (hb hby d1_0) rfl k) ?_
  refine RestW.via (fun t k => XS.sipush X0.here hx rfl (hb hby d1_1) k) ?_
  refine RestW.via (fun t k => XS.iand X0.here hx rfl (hb hby d1_4) rfl k) ?_
  refine RestW.via (fun t k => XS.i2c X0.here hx rfl (hb hby d1_5) rfl k) ?_
  show RestW p.tables e below s _ _ _ (s₁.setTop (mkF m 6 #[.val (.int p0), .unset, .unset, .unset] [(.int ((p0 &&& (255 : Int32)).toUInt32.toUInt16.toUInt32.toInt32))]))
  refine RestW.via (fun t k => XS.istoreN X0.here hx rfl (hb hby d1_6) rfl (l' := #[.val (.int p0), .val (.int ((p0 &&& (255 : Int32)).toUInt32.toUInt16.toUInt32.toInt32)), .unset, .unset]) rfl k) ?_
  show RestW p.tables e below s _ _ _ (s₁.setTop (mkF m 7 #[.val (.int p0), .val (.int ((p0 &&& (255 : Int32)).toUInt32.toUInt16.toUInt32.toInt32)), .unset, .unset] []))
  obtain ⟨ca, hv_ca⟩ : ∃ z : Int32, z = ((p0 &&& (255 : Int32)).toUInt32.toUInt16.toUInt32.toInt32) := ⟨_, rfl⟩
  rw [← hv_ca]
  refine RestW.via (fun t k => XS.iloadN X0.here hx rfl (hb hby d1_7) rfl k) ?_
  refine RestW.via (fun t k => XS.bipush X0.here hx rfl (hb hby d1_8) k) ?_
  refine RestW.via (fun t k => XS.iushr X0.here hx rfl (hb hby d1_10) rfl k) ?_
  show RestW p.tables e below s _ _ _ (s₁.setTop (mkF m 11 #[.val (.int p0), .val (.int ca), .unset, .unset] [(.int ((p0.toUInt32 >>> ((8 : Int32) &&& 31).toUInt32).toInt32))]))
  refine RestW.via (fun t k => XS.sipush X0.here hx rfl (hb hby d1_11) k) ?_
  refine RestW.via (fun t k => XS.iand X0.here hx rfl (hb hby d1_14) rfl k) ?_
  refine RestW.via (fun t k => XS.i2c X0.here hx rfl (hb hby d1_15) rfl k) ?_
  show RestW p.tables e below s _ _ _ (s₁.setTop (mkF m 16 #[.val (.int p0), .val (.int ca), .unset, .unset] [(.int ((((p0.toUInt32 >>> ((8 : Int32) &&& 31).toUInt32).toInt32) &&& (255 : Int32)).toUInt32.toUInt16.toUInt32.toInt32))]))
  refine RestW.via (fun t k => XS.istoreN X0.here hx rfl (hb hby d1_16) rfl (l' := #[.val (.int p0), .val (.int ca), .val (.int ((((p0.toUInt32 >>> ((8 : Int32) &&& 31).toUInt32).toInt32) &&& (255 : Int32)).toUInt32.toUInt16.toUInt32.toInt32)), .unset]) rfl k) ?_
  show RestW p.tables e below s _ _ _ (s₁.setTop (mkF m 17 #[.val (.int p0), .val (.int ca), .val (.int ((((p0.toUInt32 >>> ((8 : Int32) &&& 31).toUInt32).toInt32) &&& (255 : Int32)).toUInt32.toUInt16.toUInt32.toInt32)), .unset] []))
  obtain ⟨cb, hv_cb⟩ : ∃ z : Int32, z = ((((p0.toUInt32 >>> ((8 : Int32) &&& 31).toUInt32).toInt32) &&& (255 : Int32)).toUInt32.toUInt16.toUInt32.toInt32) := ⟨_, rfl⟩
  rw [← hv_cb]
  refine RestW.via (fun t k => XS.iloadN X0.here hx rfl (hb hby d1_17) rfl k) ?_
  refine RestW.via (fun t k => XS.bipush X0.here hx rfl (hb hby d1_18) k) ?_
  refine RestW.via (fun t k => XS.iushr X0.here hx rfl (hb hby d1_20) rfl k) ?_
  show RestW p.tables e below s _ _ _ (s₁.setTop (mkF m 21 #[.val (.int p0), .val (.int ca), .val (.int cb), .unset] [(.int ((p0.toUInt32 >>> ((16 : Int32) &&& 31).toUInt32).toInt32))]))
  refine RestW.via (fun t k => XS.iconst X0.here hx rfl (hb hby d1_21) k) ?_
  refine RestW.via (fun t k => XS.iand X0.here hx rfl (hb hby d1_22) rfl k) ?_
  refine RestW.via (fun t k => XS.iconst X0.here hx rfl (hb hby d1_23) k) ?_
  refine RestW.via (fun t k => iremM X0 hx rfl (hb hby d1_24) rfl (by decide) k) ?_
  show RestW p.tables e below s _ _ _ (s₁.setTop (mkF m 25 #[.val (.int p0), .val (.int ca), .val (.int cb), .unset] [(.int ((((p0.toUInt32 >>> ((16 : Int32) &&& 31).toUInt32).toInt32) &&& (3 : Int32)) % (3 : Int32)))]))
  refine RestW.via (fun t k => XS.istoreN X0.here hx rfl (hb hby d1_25) rfl (l' := #[.val (.int p0), .val (.int ca), .val (.int cb), .val (.int ((((p0.toUInt32 >>> ((16 : Int32) &&& 31).toUInt32).toInt32) &&& (3 : Int32)) % (3 : Int32)))]) rfl k) ?_
  show RestW p.tables e below s _ _ _ (s₁.setTop (mkF m 26 #[.val (.int p0), .val (.int ca), .val (.int cb), .val (.int ((((p0.toUInt32 >>> ((16 : Int32) &&& 31).toUInt32).toInt32) &&& (3 : Int32)) % (3 : Int32)))] []))
  obtain ⟨nn, hv_nn⟩ : ∃ z : Int32, z = ((((p0.toUInt32 >>> ((16 : Int32) &&& 31).toUInt32).toInt32) &&& (3 : Int32)) % (3 : Int32)) := ⟨_, rfl⟩
  rw [← hv_nn]
  show RestW p.tables e below s _ _ _ (s₁.setTop (mkF m 26 #[.val (.int p0), .val (.int ca), .val (.int cb), .val (.int nn)] []))
  have hca : own_isch ca := by rw [hv_ca]; exact own_c8 _
  have hcb : own_isch cb := by rw [hv_cb]; exact own_c8 _
  refine RestW.via (fun t k => XS.iloadN X0.here hx rfl (hb hby d1_26) rfl k) ?_
  by_cases hc27 : nn = (0 : Int32)
  · refine RestW.via (fun t k => XS.ifNo X0.here hx rfl (hb hby d1_27) rfl ((if0 _ _).trans (teq hc27).2) k) ?_
    show RestW p.tables e below s _ _ _ (s₁.setTop (mkF m 30 #[.val (.int p0), .val (.int ca), .val (.int cb), .val (.int nn)] []))
    obtain ⟨T1, h1, X1, e1, E1, A1, D1, -, st1⟩ := newO X0 hx hZ hown (own_W hw 4 rfl) (own_W hw 5 rfl) (own_W hw 6 rfl) eh0 (g := (mkF m 30 #[.val (.int p0), .val (.int ca), .val (.int cb), .val (.int nn)] [])) rfl (hb hby d1_30) (by decide) (by decide)
    obtain ⟨b1, gq1⟩ : ∃ z, z = h0.size := ⟨_, rfl⟩
    rw [← gq1] at A1 D1 st1
    have sz_b1 : h0.size ≤ b1 := Nat.le_trans (Keep.refl h0 []).1 (Nat.le_of_eq gq1.symm)
    have g_b1 : n0 ≤ b1 := Nat.le_trans Z0 sz_b1
    have K1 : Keep h0 h1 [] := (Keep.refl h0 []).ext E1
    have E_b1 := A1
    have F_value_b1 : Fld Z h1 b1 "java/lang/String" "value" "[B" .null := D1 (Or.inr (own_W hw 20 rfl)) (ty := (.array .byte)) (by decide)
    have F_coder_b1 : Fld Z h1 b1 "java/lang/String" "coder" "B" (.int (0 : Int32)) := D1 (Or.inr (own_W hw 21 rfl)) (ty := .byte) (by decide)
    refine RestW.via (fun t k => st1 t k) ?_
    show RestW p.tables e below s _ _ _ (T1.setTop (mkF m 33 #[.val (.int p0), .val (.int ca), .val (.int cb), .val (.int nn)] [(.ref b1)]))
    refine RestW.via (fun t k => XS.dup X1.here hx rfl (hb hby d1_33) rfl rfl k) ?_
    refine RestW.via (fun t k => XS.iconst X1.here hx rfl (hb hby d1_34) k) ?_
    show RestW p.tables e below s _ _ _ (T1.setTop (mkF m 35 #[.val (.int p0), .val (.int ca), .val (.int cb), .val (.int nn)] [(.int (0 : Int32)), (.ref b1), (.ref b1)]))
    obtain ⟨T2, h2, k2, X2, e2, E2, A2, st2⟩ := newP X1 hx hZ (own_W hw 7 rfl) e1 (g := (mkF m 35 #[.val (.int p0), .val (.int ca), .val (.int cb), .val (.int nn)] [(.int (0 : Int32)), (.ref b1), (.ref b1)])) rfl (hb hby d1_35) rfl (by decide) (cap := 0) (by decide) (by decide) (by decide) (by decide)
    obtain ⟨b2, gq2⟩ : ∃ z, z = h1.size := ⟨_, rfl⟩
    rw [← gq2] at A2 st2
    have sz_b2 : h0.size ≤ b2 := Nat.le_trans K1.1 (Nat.le_of_eq gq2.symm)
    have g_b2 : n0 ≤ b2 := Nat.le_trans Z0 sz_b2
    have ne_b1_b2 : b1 ≠ b2 := Nat.ne_of_lt (Nat.lt_of_lt_of_le E_b1.lt (Nat.le_of_eq gq2.symm))
    have K2 : Keep h0 h2 [] := K1.ext E2
    have V_b2 := Arv.new A2 (by decide)
    have V_b2 : Arv Z h2 b2 k2 .char (0 : Int32) [] (.int (0 : Int32)) := V_b2.pad (pad_rep [] (.int (0 : Int32)) 0)
    refine RestW.via (fun t k => st2 t k) ?_
    show RestW p.tables e below s _ _ _ (T2.setTop (mkF m 37 #[.val (.int p0), .val (.int ca), .val (.int cb), .val (.int nn)] [(.ref b2), (.ref b1), (.ref b1)]))
    rcases EV with I | ⟨I, la, lb, lk, Li0, SL⟩
    · skip
      show RestW p.tables e below s _ _ _ (T2.setTop (mkF m 37 #[.val (.int p0), .val (.int ca), .val (.int cb), .val (.int nn)] [(.ref b2), (.ref b1), (.ref b1)]))
      obtain ⟨_, _, ⟨T3, L3, k3, n3⟩, -, X3, hSq3, gr3, ⟨Lc3, hQ3, l3, y3, z3⟩, st3⟩ := X2.specialBackS hx (y := (⟨"java/lang/String", "<init>", "([C)V"⟩ : MethodName)) rfl hown (mvT hZ (own_W hw 8 rfl)) (mvT hZ (own_W hw 9 rfl)) (mvT hZ (own_W hw 10 rfl)) (by decide) (own_backV (W := 1) (rmSI0c l Z aw hw [] b1 b2 k2 [] h2 n0 (Nat.le_trans Z0 K2.1) (E_b1.ext E2) (F_value_b1.ext E2) (F_coder_b1.ext E2) g_b1 V_b2 (O.keep K2 all0) hcw HE (by simp)) hZ (own_W hw 10 rfl) (own_W hw 6 rfl) (by decide) (by decide) (fun vm' hw' => own_IB_warm (s := s) I hw')) (g := (mkF m 37 #[.val (.int p0), .val (.int ca), .val (.int cb), .val (.int nn)] [(.ref b2), (.ref b1), (.ref b1)])) rfl (by rw [hml]; rfl) (Steps.refl _) (a := b1) (argsL := [(.ref b2)]) (rest := [(.ref b1)]) (lenOf pd_4 rfl) rfl (by show 2 * 0 + _ ≤ _; exact Nat.le_of_eq rfl) (hb hby d1_37) (fun _ _ => ⟨rfl, e2, (by decide : 2 + 2 ≤ _), (by decide : 4 + 4 ≤ _)⟩)
      dsimp only [Pt.U, Pt.locs, Pt.cells, Pt.slots] at X3 l3 y3 z3 st3 hQ3 hSq3 gr3
      subst l3 y3 z3
      obtain ⟨X3, hS, hZ, hown⟩ := rebS hS (by rw [e2]; first | exact (Nat.le_trans (Nat.le_trans (Nat.le_refl _) E1.1) E2.1) | exact Nat.le_refl _) X3 hSq3 gr3 hZ hown
      obtain ⟨h3, e3⟩ : ∃ z, T3.heap = z := ⟨_, rfl⟩
      rw [e3] at hQ3
      obtain ⟨rfl, Nq3, Kq3, Fc3, sl3, va3, kb3, Fv3, ⟨Li3, Sl3⟩, nb3, I3⟩ := hQ3
      have N3 := Fr.app N0 Nq3
      have K3 : Keep h0 h3 [] := K2.trans Kq3 (allS (Or.inr sz_b1) all0)
      have St3 : own_St Z h3 b1 va3 kb3 (0 : Int32) [] := ⟨(E_b1.ext E2).keep Kq3, Fv3, Fc3, Sl3.2.2.2⟩
      refine RestW.via (fun t k => st3.trans k) ?_
      show RestW p.tables e below s _ _ _ (T3.setTop (mkF m 40 #[.val (.int p0), .val (.int ca), .val (.int cb), .val (.int nn)] [(.ref b1)]))
      refine RestW.ret X3 hS (by rw [e3]; first | exact (Nat.le_of_eq (congrArg Array.size e3)) | exact Nat.le_refl _) (v := some (.ref b1)) (fun h => by rw [Bd.returns] at h; cases h) hlk (fun fs hr => retOut X3 hx Bd.returns rfl (Or.inr (Or.inr (Or.inr (Or.inr ⟨rfl, rfl, rfl⟩)))) (hb hby d1_40) hr) ?_ (by decide) (by decide)
      rw [e3]
      have en : own_n p0 = (0 : Int32) := hv_nn.symm.trans hc27; exact ⟨b1, va3, kb3, rfl, N3, K3, sz_b1, (by rw [en, (own_l0 en)]; exact St3), Or.inr ⟨own_IB_warm I3 X3.warmed, sl3, va3, kb3, own_Lit_warm Li3 X3.warmed.wide, Sl3⟩⟩
    · skip
      show RestW p.tables e below s _ _ _ (T2.setTop (mkF m 37 #[.val (.int p0), .val (.int ca), .val (.int cb), .val (.int nn)] [(.ref b2), (.ref b1), (.ref b1)]))
      obtain ⟨_, _, ⟨T4, L4, k4, n4⟩, -, X4, hSq4, gr4, ⟨Lc4, hQ4, l4, y4, z4⟩, st4⟩ := X2.specialBackS hx (y := (⟨"java/lang/String", "<init>", "([C)V"⟩ : MethodName)) rfl hown (mvT hZ (own_W hw 8 rfl)) (mvT hZ (own_W hw 9 rfl)) (mvT hZ (own_W hw 10 rfl)) (by decide) (own_backV (W := 1) (rmSI0w l Z aw hw [] b1 b2 k2 la lb lk [""] h2 n0 (Nat.le_trans Z0 K2.1) (E_b1.ext E2) (F_value_b1.ext E2) (F_coder_b1.ext E2) g_b1 V_b2 (O.keep K2 all0) (own_St_keep SL K2 nin0 nin0)) hZ (own_W hw 10 rfl) (own_W hw 6 rfl) (by decide) (by decide) (fun vm' hw' => And.intro (own_Lit_warm (s := s) Li0 hw'.wide) (own_IB_warm (s := s) I hw'))) (g := (mkF m 37 #[.val (.int p0), .val (.int ca), .val (.int cb), .val (.int nn)] [(.ref b2), (.ref b1), (.ref b1)])) rfl (by rw [hml]; rfl) (Steps.refl _) (a := b1) (argsL := [(.ref b2)]) (rest := [(.ref b1)]) (lenOf pd_4 rfl) rfl (by show 2 * 0 + _ ≤ _; exact Nat.le_of_eq rfl) (hb hby d1_37) (fun _ _ => ⟨rfl, e2, (by decide : 2 + 0 ≤ _), (by decide : 4 + 0 ≤ _)⟩)
      dsimp only [Pt.U, Pt.locs, Pt.cells, Pt.slots] at X4 l4 y4 z4 st4 hQ4 hSq4 gr4
      subst l4 y4 z4
      obtain ⟨X4, hS, hZ, hown⟩ := rebS hS (by rw [e2]; first | exact (Nat.le_trans (Nat.le_trans (Nat.le_refl _) E1.1) E2.1) | exact Nat.le_refl _) X4 hSq4 gr4 hZ hown
      obtain ⟨h4, e4⟩ : ∃ z, T4.heap = z := ⟨_, rfl⟩
      rw [e4] at hQ4
      obtain ⟨rfl, Nq4, Kq4, Fc4, Fv4, Sl4, nb4, I4⟩ := hQ4
      have N4 := Fr.app N0 Nq4
      have K4 : Keep h0 h4 [] := K2.trans Kq4 (allS (Or.inr sz_b1) all0)
      have St4 : own_St Z h4 b1 lb lk (0 : Int32) [] := ⟨(E_b1.ext E2).keep Kq4, Fv4, Fc4, Sl4.2.2.2⟩
      refine RestW.via (fun t k => st4.trans k) ?_
      show RestW p.tables e below s _ _ _ (T4.setTop (mkF m 40 #[.val (.int p0), .val (.int ca), .val (.int cb), .val (.int nn)] [(.ref b1)]))
      refine RestW.ret X4 hS (by rw [e4]; first | exact (Nat.le_of_eq (congrArg Array.size e4)) | exact Nat.le_refl _) (v := some (.ref b1)) (fun h => by rw [Bd.returns] at h; cases h) hlk (fun fs hr => retOut X4 hx Bd.returns rfl (Or.inr (Or.inr (Or.inr (Or.inr ⟨rfl, rfl, rfl⟩)))) (hb hby d1_40) hr) ?_ (by decide) (by decide)
      rw [e4]
      have en : own_n p0 = (0 : Int32) := hv_nn.symm.trans hc27; exact ⟨b1, lb, lk, rfl, N4, K4, sz_b1, (by rw [en, (own_l0 en)]; exact St4), Or.inr ⟨own_IB_warm I4 X4.warmed, la, lb, lk, own_Lit_warm (own_Lit_warm Li0 hSq4.1) X4.warmed.wide, Sl4⟩⟩
  · refine RestW.via (fun t k => XS.ifYes X0.here hx rfl (pc0 := 27) (pc' := 41) rfl (hb hby d1_27) rfl ((if0 _ _).trans (feq hc27).2) (by decide) (by decide) k) ?_
    show RestW p.tables e below s _ _ _ (s₁.setTop (mkF m 41 #[.val (.int p0), .val (.int ca), .val (.int cb), .val (.int nn)] []))
    refine RestW.via (fun t k => XS.iloadN X0.here hx rfl (hb hby d1_41) rfl k) ?_
    refine RestW.via (fun t k => XS.iconst X0.here hx rfl (hb hby d1_42) k) ?_
    by_cases hc43 : nn = (1 : Int32)
    · refine RestW.via (fun t k => XS.icmpNo X0.here hx rfl (hb hby d1_43) rfl (teq hc43).2 k) ?_
      show RestW p.tables e below s _ _ _ (s₁.setTop (mkF m 46 #[.val (.int p0), .val (.int ca), .val (.int cb), .val (.int nn)] []))
      obtain ⟨T5, h5, X5, e5, E5, A5, D5, -, st5⟩ := newO X0 hx hZ hown (own_W hw 4 rfl) (own_W hw 5 rfl) (own_W hw 6 rfl) eh0 (g := (mkF m 46 #[.val (.int p0), .val (.int ca), .val (.int cb), .val (.int nn)] [])) rfl (hb hby d1_46) (by decide) (by decide)
      obtain ⟨b5, gq5⟩ : ∃ z, z = h0.size := ⟨_, rfl⟩
      rw [← gq5] at A5 D5 st5
      have sz_b5 : h0.size ≤ b5 := Nat.le_trans (Keep.refl h0 []).1 (Nat.le_of_eq gq5.symm)
      have g_b5 : n0 ≤ b5 := Nat.le_trans Z0 sz_b5
      have K5 : Keep h0 h5 [] := (Keep.refl h0 []).ext E5
      have E_b5 := A5
      have F_value_b5 : Fld Z h5 b5 "java/lang/String" "value" "[B" .null := D5 (Or.inr (own_W hw 20 rfl)) (ty := (.array .byte)) (by decide)
      have F_coder_b5 : Fld Z h5 b5 "java/lang/String" "coder" "B" (.int (0 : Int32)) := D5 (Or.inr (own_W hw 21 rfl)) (ty := .byte) (by decide)
      refine RestW.via (fun t k => st5 t k) ?_
      show RestW p.tables e below s _ _ _ (T5.setTop (mkF m 49 #[.val (.int p0), .val (.int ca), .val (.int cb), .val (.int nn)] [(.ref b5)]))
      refine RestW.via (fun t k => XS.dup X5.here hx rfl (hb hby d1_49) rfl rfl k) ?_
      refine RestW.via (fun t k => XS.iconst X5.here hx rfl (hb hby d1_50) k) ?_
      show RestW p.tables e below s _ _ _ (T5.setTop (mkF m 51 #[.val (.int p0), .val (.int ca), .val (.int cb), .val (.int nn)] [(.int (1 : Int32)), (.ref b5), (.ref b5)]))
      obtain ⟨T6, h6, k6, X6, e6, E6, A6, st6⟩ := newP X5 hx hZ (own_W hw 7 rfl) e5 (g := (mkF m 51 #[.val (.int p0), .val (.int ca), .val (.int cb), .val (.int nn)] [(.int (1 : Int32)), (.ref b5), (.ref b5)])) rfl (hb hby d1_51) rfl (by decide) (cap := 1) (by decide) (by decide) (by decide) (by decide)
      obtain ⟨b6, gq6⟩ : ∃ z, z = h5.size := ⟨_, rfl⟩
      rw [← gq6] at A6 st6
      have sz_b6 : h0.size ≤ b6 := Nat.le_trans K5.1 (Nat.le_of_eq gq6.symm)
      have g_b6 : n0 ≤ b6 := Nat.le_trans Z0 sz_b6
      have ne_b5_b6 : b5 ≠ b6 := Nat.ne_of_lt (Nat.lt_of_lt_of_le E_b5.lt (Nat.le_of_eq gq6.symm))
      have K6 : Keep h0 h6 [] := K5.ext E6
      have V_b6 := Arv.new A6 (by decide)
      have V_b6 : Arv Z h6 b6 k6 .char (1 : Int32) [(.int (0 : Int32))] (.int (0 : Int32)) := V_b6.pad (pad_rep [] (.int (0 : Int32)) 1)
      refine RestW.via (fun t k => st6 t k) ?_
      show RestW p.tables e below s _ _ _ (T6.setTop (mkF m 53 #[.val (.int p0), .val (.int ca), .val (.int cb), .val (.int nn)] [(.ref b6), (.ref b5), (.ref b5)]))
      refine RestW.via (fun t k => XS.dup X6.here hx rfl (hb hby d1_53) rfl rfl k) ?_
      refine RestW.via (fun t k => XS.iconst X6.here hx rfl (hb hby d1_54) k) ?_
      refine RestW.via (fun t k => XS.iloadN X6.here hx rfl (hb hby d1_55) rfl k) ?_
      obtain ⟨cl7, Ar7, qa7, Sa7, Pa7, Ha7, Ga7⟩ := id V_b6
      have hin7 := inb_of (j := (0 : Int32)) Sa7 ⟨by decide, by decide⟩
      obtain ⟨T7, h7, X7, e7, W7, st7⟩ := stC X6 hx hZ e6 Ar7 (j := (0 : Int32)) hin7 (g := (mkF m 56 #[.val (.int p0), .val (.int ca), .val (.int cb), .val (.int nn)] [(.int ca), (.int (0 : Int32)), (.ref b6), (.ref b6), (.ref b5), (.ref b5)])) rfl rfl (hb hby d1_56)
      refine RestW.via (fun t k => st7 t k) ?_
      have N7 := Fr.snoc X7 N0 g_b6
      have K7 : Keep h0 h7 [] := K6.wr W7 (Or.inr sz_b6)
      have V7 : Arv Z h7 b6 k6 .char (1 : Int32) [(.int ca)] (.int (0 : Int32)) := by have q := Arv.set Ar7 qa7 Sa7 Pa7 Ha7 Ga7 (fits_nar_char _) W7 0 rfl (Nat.le_of_ble_eq_true rfl); rw [own_nc hca] at q; exact q
      show RestW p.tables e below s _ _ _ (T7.setTop (mkF m 57 #[.val (.int p0), .val (.int ca), .val (.int cb), .val (.int nn)] [(.ref b6), (.ref b5), (.ref b5)]))
      obtain ⟨_, _, ⟨T8, L8, k8, n8⟩, -, X8, ⟨Lc8, hQ8, l8, y8, z8⟩, st8⟩ := X7.specialBack hx (y := (⟨"java/lang/String", "<init>", "([C)V"⟩ : MethodName)) rfl hown (mvT hZ (own_W hw 8 rfl)) (mvT hZ (own_W hw 9 rfl)) (mvT hZ (own_W hw 10 rfl)) (by decide) (backOf (W := 1) (rmSI1 l Z aw hw [] b5 b6 k6 ic ca h7 n0 (Nat.le_trans Z0 K7.1) ((E_b5.ext E6).wr W7) ((F_value_b5.ext E6).other W7 (Or.inl ne_b5_b6)) ((F_coder_b5.ext E6).other W7 (Or.inl ne_b5_b6)) g_b5 V7 hca.2 (O.keep K7 all0) CS) hZ (own_W hw 10 rfl) (own_W hw 6 rfl) (by decide) (by decide)) (g := (mkF m 57 #[.val (.int p0), .val (.int ca), .val (.int cb), .val (.int nn)] [(.ref b6), (.ref b5), (.ref b5)])) rfl (by rw [hml]; rfl) (Steps.refl _) (a := b5) (argsL := [(.ref b6)]) (rest := [(.ref b5)]) (lenOf pd_4 rfl) rfl (by show 2 * 0 + _ ≤ _; exact Nat.le_of_eq rfl) (hb hby d1_57) (fun _ _ => ⟨rfl, e7, (by decide : 2 + 1 ≤ _), (by decide : 5 + 1 ≤ _)⟩)
      dsimp only [Pt.U, Pt.locs, Pt.cells, Pt.slots] at X8 l8 y8 z8 st8 hQ8
      subst l8 y8 z8
      obtain ⟨h8, e8⟩ : ∃ z, T8.heap = z := ⟨_, rfl⟩
      rw [e8] at hQ8
      obtain ⟨rfl, Nq8, Kq8, va8, kb8, sd8, Fv8, Fc8, Vq8, nb8⟩ := hQ8
      have N8 := Fr.app N7 Nq8
      have K8 : Keep h0 h8 [] := K7.trans Kq8 (allS (Or.inr sz_b5) all0)
      have St8 : own_St Z h8 b5 va8 kb8 (1 : Int32) [(.int (own_by ca))] := ⟨((E_b5.ext E6).wr W7).keep Kq8, Fv8, Fc8, Vq8⟩
      refine RestW.via (fun t k => st8.trans k) ?_
      show RestW p.tables e below s _ _ _ (T8.setTop (mkF m 60 #[.val (.int p0), .val (.int ca), .val (.int cb), .val (.int nn)] [(.ref b5)]))
      refine RestW.ret X8 hS (by rw [e8]; first | exact (Nat.le_trans (Nat.le_trans (Nat.le_trans (Nat.le_trans (Nat.le_refl _) E5.1) E6.1) (Keep.of_wr W7).1) Kq8.1) | exact Nat.le_refl _) (v := some (.ref b5)) (fun h => by rw [Bd.returns] at h; cases h) hlk (fun fs hr => retOut X8 hx Bd.returns rfl (Or.inr (Or.inr (Or.inr (Or.inr ⟨rfl, rfl, rfl⟩)))) (hb hby d1_60) hr) ?_ (by decide) (by decide)
      rw [e8]
      have en : own_n p0 = (1 : Int32) := hv_nn.symm.trans hc43; have eca : own_a p0 = ca := hv_ca.symm; exact ⟨b5, va8, kb8, rfl, N8, K8, sz_b5, (by rw [en, (own_l1 en), eca]; exact St8), own_EV_keep EV X8.warmed K8⟩
    · refine RestW.via (fun t k => XS.icmpYes X0.here hx rfl (pc0 := 43) (pc' := 61) rfl (hb hby d1_43) rfl (feq hc43).2 (by decide) (by decide) k) ?_
      show RestW p.tables e below s _ _ _ (s₁.setTop (mkF m 61 #[.val (.int p0), .val (.int ca), .val (.int cb), .val (.int nn)] []))
      obtain ⟨T9, h9, X9, e9, E9, A9, D9, -, st9⟩ := newO X0 hx hZ hown (own_W hw 4 rfl) (own_W hw 5 rfl) (own_W hw 6 rfl) eh0 (g := (mkF m 61 #[.val (.int p0), .val (.int ca), .val (.int cb), .val (.int nn)] [])) rfl (hb hby d1_61) (by decide) (by decide)
      obtain ⟨b9, gq9⟩ : ∃ z, z = h0.size := ⟨_, rfl⟩
      rw [← gq9] at A9 D9 st9
      have sz_b9 : h0.size ≤ b9 := Nat.le_trans (Keep.refl h0 []).1 (Nat.le_of_eq gq9.symm)
      have g_b9 : n0 ≤ b9 := Nat.le_trans Z0 sz_b9
      have K9 : Keep h0 h9 [] := (Keep.refl h0 []).ext E9
      have E_b9 := A9
      have F_value_b9 : Fld Z h9 b9 "java/lang/String" "value" "[B" .null := D9 (Or.inr (own_W hw 20 rfl)) (ty := (.array .byte)) (by decide)
      have F_coder_b9 : Fld Z h9 b9 "java/lang/String" "coder" "B" (.int (0 : Int32)) := D9 (Or.inr (own_W hw 21 rfl)) (ty := .byte) (by decide)
      refine RestW.via (fun t k => st9 t k) ?_
      show RestW p.tables e below s _ _ _ (T9.setTop (mkF m 64 #[.val (.int p0), .val (.int ca), .val (.int cb), .val (.int nn)] [(.ref b9)]))
      refine RestW.via (fun t k => XS.dup X9.here hx rfl (hb hby d1_64) rfl rfl k) ?_
      refine RestW.via (fun t k => XS.iconst X9.here hx rfl (hb hby d1_65) k) ?_
      show RestW p.tables e below s _ _ _ (T9.setTop (mkF m 66 #[.val (.int p0), .val (.int ca), .val (.int cb), .val (.int nn)] [(.int (2 : Int32)), (.ref b9), (.ref b9)]))
      obtain ⟨T10, h10, k10, X10, e10, E10, A10, st10⟩ := newP X9 hx hZ (own_W hw 7 rfl) e9 (g := (mkF m 66 #[.val (.int p0), .val (.int ca), .val (.int cb), .val (.int nn)] [(.int (2 : Int32)), (.ref b9), (.ref b9)])) rfl (hb hby d1_66) rfl (by decide) (cap := 2) (by decide) (by decide) (by decide) (by decide)
      obtain ⟨b10, gq10⟩ : ∃ z, z = h9.size := ⟨_, rfl⟩
      rw [← gq10] at A10 st10
      have sz_b10 : h0.size ≤ b10 := Nat.le_trans K9.1 (Nat.le_of_eq gq10.symm)
      have g_b10 : n0 ≤ b10 := Nat.le_trans Z0 sz_b10
      have ne_b9_b10 : b9 ≠ b10 := Nat.ne_of_lt (Nat.lt_of_lt_of_le E_b9.lt (Nat.le_of_eq gq10.symm))
      have K10 : Keep h0 h10 [] := K9.ext E10
      have V_b10 := Arv.new A10 (by decide)
      have V_b10 : Arv Z h10 b10 k10 .char (2 : Int32) [(.int (0 : Int32)), (.int (0 : Int32))] (.int (0 : Int32)) := V_b10.pad (pad_rep [] (.int (0 : Int32)) 2)
      refine RestW.via (fun t k => st10 t k) ?_
      show RestW p.tables e below s _ _ _ (T10.setTop (mkF m 68 #[.val (.int p0), .val (.int ca), .val (.int cb), .val (.int nn)] [(.ref b10), (.ref b9), (.ref b9)]))
      refine RestW.via (fun t k => XS.dup X10.here hx rfl (hb hby d1_68) rfl rfl k) ?_
      refine RestW.via (fun t k => XS.iconst X10.here hx rfl (hb hby d1_69) k) ?_
      refine RestW.via (fun t k => XS.iloadN X10.here hx rfl (hb hby d1_70) rfl k) ?_
      obtain ⟨cl11, Ar11, qa11, Sa11, Pa11, Ha11, Ga11⟩ := id V_b10
      have hin11 := inb_of (j := (0 : Int32)) Sa11 ⟨by decide, by decide⟩
      obtain ⟨T11, h11, X11, e11, W11, st11⟩ := stC X10 hx hZ e10 Ar11 (j := (0 : Int32)) hin11 (g := (mkF m 71 #[.val (.int p0), .val (.int ca), .val (.int cb), .val (.int nn)] [(.int ca), (.int (0 : Int32)), (.ref b10), (.ref b10), (.ref b9), (.ref b9)])) rfl rfl (hb hby d1_71)
      refine RestW.via (fun t k => st11 t k) ?_
      have N11 := Fr.snoc X11 N0 g_b10
      have K11 : Keep h0 h11 [] := K10.wr W11 (Or.inr sz_b10)
      have V11 : Arv Z h11 b10 k10 .char (2 : Int32) [(.int ca), (.int (0 : Int32))] (.int (0 : Int32)) := by have q := Arv.set Ar11 qa11 Sa11 Pa11 Ha11 Ga11 (fits_nar_char _) W11 0 rfl (Nat.le_of_ble_eq_true rfl); rw [own_nc hca] at q; exact q
      show RestW p.tables e below s _ _ _ (T11.setTop (mkF m 72 #[.val (.int p0), .val (.int ca), .val (.int cb), .val (.int nn)] [(.ref b10), (.ref b9), (.ref b9)]))
      refine RestW.via (fun t k => XS.dup X11.here hx rfl (hb hby d1_72) rfl rfl k) ?_
      refine RestW.via (fun t k => XS.iconst X11.here hx rfl (hb hby d1_73) k) ?_
      refine RestW.via (fun t k => XS.iloadN X11.here hx rfl (hb hby d1_74) rfl k) ?_
      obtain ⟨cl12, Ar12, qa12, Sa12, Pa12, Ha12, Ga12⟩ := id V11
      have hin12 := inb_of (j := (1 : Int32)) Sa12 ⟨by decide, by decide⟩
      obtain ⟨T12, h12, X12, e12, W12, st12⟩ := stC X11 hx hZ e11 Ar12 (j := (1 : Int32)) hin12 (g := (mkF m 75 #[.val (.int p0), .val (.int ca), .val (.int cb), .val (.int nn)] [(.int cb), (.int (1 : Int32)), (.ref b10), (.ref b10), (.ref b9), (.ref b9)])) rfl rfl (hb hby d1_75)
      refine RestW.via (fun t k => st12 t k) ?_
      have N12 := Fr.snoc X12 N11 g_b10
      have K12 : Keep h0 h12 [] := K11.wr W12 (Or.inr sz_b10)
      have V12 : Arv Z h12 b10 k10 .char (2 : Int32) [(.int ca), (.int cb)] (.int (0 : Int32)) := by have q := Arv.set Ar12 qa12 Sa12 Pa12 Ha12 Ga12 (fits_nar_char _) W12 1 rfl (Nat.le_of_ble_eq_true rfl); rw [own_nc hcb] at q; exact q
      show RestW p.tables e below s _ _ _ (T12.setTop (mkF m 76 #[.val (.int p0), .val (.int ca), .val (.int cb), .val (.int nn)] [(.ref b10), (.ref b9), (.ref b9)]))
      obtain ⟨_, _, ⟨T13, L13, k13, n13⟩, -, X13, ⟨Lc13, hQ13, l13, y13, z13⟩, st13⟩ := X12.specialBack hx (y := (⟨"java/lang/String", "<init>", "([C)V"⟩ : MethodName)) rfl hown (mvT hZ (own_W hw 8 rfl)) (mvT hZ (own_W hw 9 rfl)) (mvT hZ (own_W hw 10 rfl)) (by decide) (backOf (W := 1) (rmSI2 l Z aw hw [] b9 b10 k10 ic ca cb h12 n0 (Nat.le_trans Z0 K12.1) (((E_b9.ext E10).wr W11).wr W12) (((F_value_b9.ext E10).other W11 (Or.inl ne_b9_b10)).other W12 (Or.inl ne_b9_b10)) (((F_coder_b9.ext E10).other W11 (Or.inl ne_b9_b10)).other W12 (Or.inl ne_b9_b10)) g_b9 V12 hca.2 hcb.2 (O.keep K12 all0) CS) hZ (own_W hw 10 rfl) (own_W hw 6 rfl) (by decide) (by decide)) (g := (mkF m 76 #[.val (.int p0), .val (.int ca), .val (.int cb), .val (.int nn)] [(.ref b10), (.ref b9), (.ref b9)])) rfl (by rw [hml]; rfl) (Steps.refl _) (a := b9) (argsL := [(.ref b10)]) (rest := [(.ref b9)]) (lenOf pd_4 rfl) rfl (by show 2 * 0 + _ ≤ _; exact Nat.le_of_eq rfl) (hb hby d1_76) (fun _ _ => ⟨rfl, e12, (by decide : 2 + 1 ≤ _), (by decide : 6 + 2 ≤ _)⟩)
      dsimp only [Pt.U, Pt.locs, Pt.cells, Pt.slots] at X13 l13 y13 z13 st13 hQ13
      subst l13 y13 z13
      obtain ⟨h13, e13⟩ : ∃ z, T13.heap = z := ⟨_, rfl⟩
      rw [e13] at hQ13
      obtain ⟨rfl, Nq13, Kq13, va13, kb13, sd13, Fv13, Fc13, Vq13, nb13⟩ := hQ13
      have N13 := Fr.app N12 Nq13
      have K13 : Keep h0 h13 [] := K12.trans Kq13 (allS (Or.inr sz_b9) all0)
      have St13 : own_St Z h13 b9 va13 kb13 (2 : Int32) [(.int (own_by ca)), (.int (own_by cb))] := ⟨(((E_b9.ext E10).wr W11).wr W12).keep Kq13, Fv13, Fc13, Vq13⟩
      refine RestW.via (fun t k => st13.trans k) ?_
      show RestW p.tables e below s _ _ _ (T13.setTop (mkF m 79 #[.val (.int p0), .val (.int ca), .val (.int cb), .val (.int nn)] [(.ref b9)]))
      refine RestW.ret X13 hS (by rw [e13]; first | exact (Nat.le_trans (Nat.le_trans (Nat.le_trans (Nat.le_trans (Nat.le_trans (Nat.le_refl _) E9.1) E10.1) (Keep.of_wr W11).1) (Keep.of_wr W12).1) Kq13.1) | exact Nat.le_refl _) (v := some (.ref b9)) (fun h => by rw [Bd.returns] at h; cases h) hlk (fun fs hr => retOut X13 hx Bd.returns rfl (Or.inr (Or.inr (Or.inr (Or.inr ⟨rfl, rfl, rfl⟩)))) (hb hby d1_79) hr) ?_ (by decide) (by decide)
      rw [e13]
      have en : own_n p0 = (2 : Int32) := own_two (fun q => hc27 (hv_nn.trans q)) (fun q => hc43 (hv_nn.trans q)); have eca : own_a p0 = ca := hv_ca.symm; have ecb : own_b p0 = cb := hv_cb.symm; exact ⟨b9, va13, kb13, rfl, N13, K13, sz_b9, (by rw [en, (own_l2 en), eca, ecb]; exact St13), own_EV_keep EV X13.warmed K13⟩
def own_SB (Z : State) (h : Heap) (b v : Addr) (k : ClassId) (n : Int32) (vs : List Value) : Prop := Exa Z h b "java/lang/StringBuilder" ∧ Fld Z h b "java/lang/AbstractStringBuilder" "value" "[B" (.ref v) ∧ Fld Z h b "java/lang/AbstractStringBuilder" "coder" "B" (.int (0 : Int32)) ∧ Fld Z h b "java/lang/AbstractStringBuilder" "count" "I" (.int n) ∧ Arv Z h v k .byte (16 : Int32) vs (.int (0 : Int32))
theorem own_SB_keep {Z : State} {h h' : Heap} {t va : Addr} {k : ClassId} {n : Int32} {vs : List Value} {ws : List Addr} (F : own_SB Z h t va k n vs) (K : Keep h h' ws) (q1 : t ∉ ws) (q2 : va ∉ ws) : own_SB Z h' t va k n vs := by
  obtain ⟨a, b, c, d, e⟩ := F
  exact ⟨a.keep K, b.keep K q1, c.keep K q1, d.keep K q1, e.keep K q2⟩
theorem own_room {x : Int32} {xs : List Int32} (h : own_ln x xs) : ¬ (0 : Int32) < (x - (16 : Int32)) := by
  have a := c_isub x 16
  have h1 := h.1
  have h2 := h.2
  have e16 : (16 : Int32).toInt = 16 := by decide
  have b := Int32.toInt_lt (x - (16 : Int32))
  have d := Int32.le_toInt (x - (16 : Int32))
  rw [Int32.lt_iff_toInt_lt, (by decide : (0 : Int32).toInt = 0)]
  omega
theorem own_DA_ext {Z : State} {h h' : Heap} {a : Addr} {f : Int32 → Int32} (F : own_DA Z h a f) (E : Ext h h') : own_DA Z h' a f := by
  obtain ⟨cl, A, r⟩ := F
  exact ⟨cl, A.ext E, r⟩
def own_DG (Z : State) (wo wt : Addr) : Prop := Sta Z Z.heap "java/lang/Integer" "DigitOnes" "[B" (.ref wo) ∧ Sta Z Z.heap "java/lang/Integer" "DigitTens" "[B" (.ref wt) ∧ own_DA Z Z.heap wo (fun j => (48 : Int32) + (j % (10 : Int32))) ∧ own_DA Z Z.heap wt (fun j => (48 : Int32) + (j / (10 : Int32)))
theorem d14_0 : decode jdk_42_method_152_code 0 = .ok (.getstatic 38, 3) := by decide +kernel
theorem d14_3 : decode jdk_42_method_152_code 3 = .ok (.ifCond .eq 10, 3) := by decide +kernel
theorem d14_6 : decode jdk_42_method_152_code 6 = .ok (.aload_n 0, 1) := by decide +kernel
theorem d14_7 : decode jdk_42_method_152_code 7 = .ok (.getfield 15, 3) := by decide +kernel
theorem d14_10 : decode jdk_42_method_152_code 10 = .ok (.goto 4, 3) := by decide +kernel
theorem d14_14 : decode jdk_42_method_152_code 14 = .ok (.ireturn, 1) := by decide +kernel
theorem ef_SCo (m : MethodId) (a0 : Addr) : entryFrame m #[(.ref a0)] 1 = mkF m 0 #[.val (.ref a0)] [] := by first | (simp [entryFrame, mkF, argsToLocals, Value.category, maxLocals]; done) | rfl
def QSCo (Z : State) (a0 : Addr) (va : Addr) (k : ClassId) (m0 : Int32) (ys : List Int32) (ic : Int32) (h0 : Heap) (n0 : Nat) (v : Option Value) (h : Heap) (L : List Loc) : Prop := v = some (.int (0 : Int32)) ∧ Fr n0 L ∧ h = h0
set_option maxRecDepth 65536 in
set_option maxHeartbeats 40000000 in
theorem rmSCo (l : Launch) (Z : State) (aw : Array Value) (hw : ∀ d ∈ tables_1, d.before aw Z = true) (ws : List Jvm.Cond) (a0 : Addr) (va : Addr) (k : ClassId) (m0 : Int32) (ys : List Int32) (ic : Int32) (h0 : Heap) (n0 : Nat) (Z0 : n0 ≤ h0.size) (S1 : own_St Z h0 a0 va k m0 (ys.map Value.int)) (O : own_Old Z n0 h0) (CS : own_CS Z ic) :
    MetFree l (⟨"java/lang/String", "coder", "()B"⟩ : MethodName) (head1 (Jvm.Cond.code (⟨"java/lang/String", "coder", "()B"⟩ : MethodName) jdk_42_method_152_code 1 (some .byte) :: ws) ({ frames := 0, cells := 0, slots := 0, locals := 0 } : Room)) (fun a U => a = #[(.ref a0)] ∧ Z.Warmed39 U.vm ∧ U.heap = h0) (fun _ _ _ _ _ => True) (fun _ U o U' => ∃ v L, o = .returned v ∧ QSCo Z a0 va k m0 ys ic h0 n0 v U'.heap L ∧ FrameEnd U o U' L ({ frames := 0, cells := 0, slots := 0, locals := 0 } : Room).cells ({ frames := 0, cells := 0, slots := 0, locals := 0 } : Room).slots) := by
  refine MetFree.of_bodySF (plainFor_of_name pn_1) hisR ?_
  intro p e s m args below meth c s₁ Bd hml0 hP hK
  obtain ⟨rfl, hZ, hh⟩ := hP
  have hx := Bd.exec
  have hby := Bd.bytes
  have hml : c.maxLocals = 1 := hml0
  have hown : s.vm.findClass "java/lang/String" = some m.cls := findClass_of_methodNamed Bd.named
  have hnm := (name_of_methodNamed Bd.named Bd.method).1
  have hlk : meth.locks = false := BodyLoose.notSynchronized Bd
  have X0 : Stand p l e ({ frames := 0, cells := 0, slots := 0, locals := 0 } : Room) s m #[(.ref a0)] below meth c s₁ [] 0 0 := Stand.of_body Bd
  have _u := trivial
  have eh0 : s₁.heap = h0 := by rw [← hh, Bd.state]; rfl
  have N0 := Fr.nil n0
  show Rest p.tables e below s (QSCo Z a0 va k m0 ys ic h0 n0) _ _ (s₁.setTop (entryFrame m #[(.ref a0)] 1))
  refine Rest.via (fun t k => castTop (ef_SCo m a0) k) ?_
  obtain ⟨E_a0, Fv_a0, Fc_a0, V_a0⟩ := id S1
  show Rest p.tables e below s _ _ _ (s₁.setTop (mkF m 0 #[.val (.ref a0)] []))
  obtain ⟨T1, X1, e1, st1⟩ := getS2 X0 hx hZ hown (host := "") (Or.inl (own_W hw 108 rfl)) Via.refl eh0 (CS.1.ext (O.keep (Keep.refl h0 []) all0).2) (g := (mkF m 0 #[.val (.ref a0)] [])) rfl (hb hby d14_0)
  refine Rest.via (fun t k => st1 t k) ?_
  show Rest p.tables e below s _ _ _ (T1.setTop (mkF m 3 #[.val (.ref a0)] [(.int ic)]))
  refine Rest.via (fun t k => XS.ifNo X1.here hx rfl (hb hby d14_3) rfl ((if0 _ _).trans (feq (CS.2 : ¬ (ic = (0 : Int32)))).1) k) ?_
  show Rest p.tables e below s _ _ _ (T1.setTop (mkF m 6 #[.val (.ref a0)] []))
  refine Rest.via (fun t k => XS.aloadN X1.here hx rfl (hb hby d14_6) rfl rfl k) ?_
  obtain ⟨T2, X2, e2, st2⟩ := getF X1 hx hZ hown (host := "") (Or.inl (own_W hw 25 rfl)) Via.refl e1 Fc_a0 (g := (mkF m 7 #[.val (.ref a0)] [(.ref a0)])) rfl rfl (hb hby d14_7)
  refine Rest.via (fun t k => st2 t k) ?_
  show Rest p.tables e below s _ _ _ (T2.setTop (mkF m 10 #[.val (.ref a0)] [(.int (0 : Int32))]))
  refine Rest.via (fun t k => XS.goto X2.here hx rfl (pc0 := 10) (pc' := 14) rfl (hb hby d14_10) (by decide) (by decide) k) ?_
  refine Rest.ret X2 (v := some (.int (nar .byte (0 : Int32)))) (fun h => by rw [Bd.returns] at h; cases h) hlk (fun fs hr => retN X2 hx (t := .byte) Bd.returns (by simp) (hb hby d14_14) hr) ?_ (by decide) (by decide)
  rw [e2]
  exact ⟨rfl, N0, rfl⟩
theorem pd_5 : parseMethodDescriptor "()B" = some ⟨[], some .byte⟩ := by decide +kernel
theorem d13_0 : decode jdk_42_method_54_code 0 = .ok (.aload_n 0, 1) := by decide +kernel
theorem d13_1 : decode jdk_42_method_54_code 1 = .ok (.getfield 9, 3) := by decide +kernel
theorem d13_4 : decode jdk_42_method_54_code 4 = .ok (.arraylength, 1) := by decide +kernel
theorem d13_5 : decode jdk_42_method_54_code 5 = .ok (.aload_n 0, 1) := by decide +kernel
theorem d13_6 : decode jdk_42_method_54_code 6 = .ok (.invokevirtual 335, 3) := by decide +kernel
theorem d13_9 : decode jdk_42_method_54_code 9 = .ok (.ishr, 1) := by decide +kernel
theorem d13_10 : decode jdk_42_method_54_code 10 = .ok (.ireturn, 1) := by decide +kernel
theorem ef_SLn (m : MethodId) (a0 : Addr) : entryFrame m #[(.ref a0)] 1 = mkF m 0 #[.val (.ref a0)] [] := by first | (simp [entryFrame, mkF, argsToLocals, Value.category, maxLocals]; done) | rfl
def QSLn (Z : State) (a0 : Addr) (va : Addr) (k : ClassId) (m0 : Int32) (ys : List Int32) (ic : Int32) (h0 : Heap) (n0 : Nat) (v : Option Value) (h : Heap) (L : List Loc) : Prop := v = some (.int m0) ∧ Fr n0 L ∧ h = h0
set_option maxRecDepth 65536 in
set_option maxHeartbeats 40000000 in
theorem rmSLn (l : Launch) (Z : State) (aw : Array Value) (hw : ∀ d ∈ tables_1, d.before aw Z = true) (ws : List Jvm.Cond) (a0 : Addr) (va : Addr) (k : ClassId) (m0 : Int32) (ys : List Int32) (ic : Int32) (h0 : Heap) (n0 : Nat) (Z0 : n0 ≤ h0.size) (S1 : own_St Z h0 a0 va k m0 (ys.map Value.int)) (O : own_Old Z n0 h0) (CS : own_CS Z ic) :
    MetFree l (⟨"java/lang/String", "length", "()I"⟩ : MethodName) (head1 (Jvm.Cond.code (⟨"java/lang/String", "length", "()I"⟩ : MethodName) jdk_42_method_54_code 1 (some .int) :: ws) ({ frames := 1, cells := 0, slots := 0, locals := 13 } : Room)) (fun a U => a = #[(.ref a0)] ∧ Z.Warmed39 U.vm ∧ U.heap = h0) (fun _ _ _ _ _ => True) (fun _ U o U' => ∃ v L, o = .returned v ∧ QSLn Z a0 va k m0 ys ic h0 n0 v U'.heap L ∧ FrameEnd U o U' L ({ frames := 1, cells := 0, slots := 0, locals := 13 } : Room).cells ({ frames := 1, cells := 0, slots := 0, locals := 13 } : Room).slots) := by
  refine MetFree.of_bodySF (plainFor_of_name pn_1) hisR ?_
  intro p e s m args below meth c s₁ Bd hml0 hP hK
  obtain ⟨rfl, hZ, hh⟩ := hP
  have hx := Bd.exec
  have hby := Bd.bytes
  have hml : c.maxLocals = 1 := hml0
  have hown : s.vm.findClass "java/lang/String" = some m.cls := findClass_of_methodNamed Bd.named
  have hnm := (name_of_methodNamed Bd.named Bd.method).1
  have hlk : meth.locks = false := BodyLoose.notSynchronized Bd
  have X0 : Stand p l e ({ frames := 1, cells := 0, slots := 0, locals := 13 } : Room) s m #[(.ref a0)] below meth c s₁ [] 0 0 := Stand.of_body Bd
  have _u := trivial
  have eh0 : s₁.heap = h0 := by rw [← hh, Bd.state]; rfl
  have N0 := Fr.nil n0
  show Rest p.tables e below s (QSLn Z a0 va k m0 ys ic h0 n0) _ _ (s₁.setTop (entryFrame m #[(.ref a0)] 1))
  refine Rest.via (fun t k => castTop (ef_SLn m a0) k) ?_
  obtain ⟨E_a0, Fv_a0, Fc_a0, V_a0⟩ := id S1
  show Rest p.tables e below s _ _ _ (s₁.setTop (mkF m 0 #[.val (.ref a0)] []))
  refine Rest.via (fun t k => XS.aloadN X0.here hx rfl (hb hby d13_0) rfl rfl k) ?_
  obtain ⟨T1, X1, e1, st1⟩ := getF X0 hx hZ hown (host := "") (Or.inl (own_W hw 24 rfl)) Via.refl eh0 Fv_a0 (g := (mkF m 1 #[.val (.ref a0)] [(.ref a0)])) rfl rfl (hb hby d13_1)
  refine Rest.via (fun t k => st1 t k) ?_
  show Rest p.tables e below s _ _ _ (T1.setTop (mkF m 4 #[.val (.ref a0)] [(.ref va)]))
  obtain ⟨cl2, Ar2, -, S2, P2, -, -⟩ := id V_a0
  refine Rest.via (fun t k => X1.arraylength hx (by rw [e1]; exact Ar2.1) (State.isArrayOf_alike hZ.alike Ar2.2.1) (g := (mkF m 4 #[.val (.ref a0)] [(.ref va)])) rfl rfl (hb hby d13_4) t k) ?_
  rw [len_of S2 P2]
  show Rest p.tables e below s _ _ _ (T1.setTop (mkF m 5 #[.val (.ref a0)] [(.int m0)]))
  refine Rest.via (fun t k => XS.aloadN X1.here hx rfl (hb hby d13_5) rfl rfl k) ?_
  show Rest p.tables e below s _ _ _ (T1.setTop (mkF m 6 #[.val (.ref a0)] [(.ref a0), (.int m0)]))
  obtain ⟨cq3, kq3, q3a, q3b, q3c⟩ := isOf hZ e1 E_a0
  obtain ⟨_, _, ⟨T3, L3, k3, n3⟩, -, X3, ⟨Lc3, hQ3, l3, y3, z3⟩, st3⟩ := X1.virtualBack hx (y := (⟨"java/lang/String", "coder", "()B"⟩ : MethodName)) (z := (⟨"java/lang/String", "coder", "()B"⟩ : MethodName)) hown (mvT hZ (own_W hw 103 rfl)) (mvT hZ (own_W hw 104 rfl)) (notFace_of_selects (args := #[]) (mvT hZ (own_W hw 106 rfl))) (mvT hZ (own_W hw 106 rfl)) (mvT hZ (own_W hw 105 rfl)) (by decide) (backOf (W := 1) (rmSCo l Z aw hw [] a0 va k m0 ys ic h0 n0 (Nat.le_trans Z0 (Keep.refl h0 []).1) S1 (O.keep (Keep.refl h0 []) all0) CS) hZ (own_W hw 107 rfl) (own_W hw 6 rfl) (by decide) (by decide)) q3a q3c (g := (mkF m 6 #[.val (.ref a0)] [(.ref a0), (.int m0)])) rfl (by rw [hml]; rfl) (Steps.refl _) (argsL := []) (rest := [(.int m0)]) (lenOf pd_5 rfl) rfl (by show 2 * 0 + _ ≤ _; exact Nat.le_of_eq rfl) (hb hby d13_6) (fun _ _ => ⟨rfl, e1, (by decide : 0 + 0 ≤ _), (by decide : 0 + 0 ≤ _)⟩)
  dsimp only [Pt.U, Pt.locs, Pt.cells, Pt.slots] at X3 l3 y3 z3 st3 hQ3
  subst l3 y3 z3
  obtain ⟨rfl, Nq3, e3⟩ := hQ3
  have N3 := Fr.app N0 Nq3
  refine Rest.via (fun t k => st3.trans k) ?_
  show Rest p.tables e below s _ _ _ (T3.setTop (mkF m 9 #[.val (.ref a0)] [(.int (0 : Int32)), (.int m0)]))
  refine Rest.via (fun t k => XS.ishr X3.here hx rfl (hb hby d13_9) rfl k) ?_
  show Rest p.tables e below s _ _ _ (T3.setTop (mkF m 10 #[.val (.ref a0)] [(.int (m0 >>> ((0 : Int32) &&& 31)))]))
  rw [own_shr0]
  show Rest p.tables e below s _ _ _ (T3.setTop (mkF m 10 #[.val (.ref a0)] [(.int m0)]))
  refine Rest.ret X3 (v := some (.int m0)) (fun h => by rw [Bd.returns] at h; cases h) hlk (fun fs hr => retOut X3 hx Bd.returns rfl (Or.inl ⟨rfl, Or.inl rfl, _, rfl⟩) (hb hby d13_10) hr) ?_ (by decide) (by decide)
  rw [e3]
  exact ⟨rfl, N3, rfl⟩
theorem d10_0 : decode jdk_68_method_2_code 0 = .ok (.aload_n 0, 1) := by decide +kernel
theorem d10_1 : decode jdk_68_method_2_code 1 = .ok (.invokespecial 3, 3) := by decide +kernel
theorem d10_4 : decode jdk_68_method_2_code 4 = .ok (.getstatic 18, 3) := by decide +kernel
theorem d10_7 : decode jdk_68_method_2_code 7 = .ok (.ifCond .eq 18, 3) := by decide +kernel
theorem d10_10 : decode jdk_68_method_2_code 10 = .ok (.aload_n 0, 1) := by decide +kernel
theorem d10_11 : decode jdk_68_method_2_code 11 = .ok (.iload_n 1, 1) := by decide +kernel
theorem d10_12 : decode jdk_68_method_2_code 12 = .ok (.newarray .byte, 2) := by decide +kernel
theorem d10_14 : decode jdk_68_method_2_code 14 = .ok (.putfield 15, 3) := by decide +kernel
theorem d10_17 : decode jdk_68_method_2_code 17 = .ok (.aload_n 0, 1) := by decide +kernel
theorem d10_18 : decode jdk_68_method_2_code 18 = .ok (.iconst 0, 1) := by decide +kernel
theorem d10_19 : decode jdk_68_method_2_code 19 = .ok (.putfield 22, 3) := by decide +kernel
theorem d10_22 : decode jdk_68_method_2_code 22 = .ok (.goto 16, 3) := by decide +kernel
theorem d10_38 : decode jdk_68_method_2_code 38 = .ok (.return_, 1) := by decide +kernel
theorem pn_3 : plainName "java/lang/AbstractStringBuilder" = true := by first | (simp [plainName, overriddenIn]; done) | decide +kernel
theorem ef_ASI (m : MethodId) (a0 : Addr) : entryFrame m #[(.ref a0), (.int (16 : Int32))] 2 = mkF m 0 #[.val (.ref a0), .val (.int (16 : Int32))] [] := by first | (simp [entryFrame, mkF, argsToLocals, Value.category, maxLocals]; done) | rfl
def QASI (Z : State) (a0 : Addr) (ic : Int32) (h0 : Heap) (n0 : Nat) (v : Option Value) (h : Heap) (L : List Loc) : Prop := v = none ∧ Fr n0 L ∧ Keep h0 h [a0] ∧ ∃ bv kb, h0.size ≤ bv ∧ own_SB Z h a0 bv kb (0 : Int32) []
set_option maxRecDepth 65536 in
set_option maxHeartbeats 40000000 in
theorem rmASI (l : Launch) (Z : State) (aw : Array Value) (hw : ∀ d ∈ tables_1, d.before aw Z = true) (ws : List Jvm.Cond) (a0 : Addr) (ic : Int32) (h0 : Heap) (n0 : Nat) (Z0 : n0 ≤ h0.size) (E_a0 : Exa Z h0 a0 "java/lang/StringBuilder") (F_v : Fld Z h0 a0 "java/lang/AbstractStringBuilder" "value" "[B" .null) (F_c : Fld Z h0 a0 "java/lang/AbstractStringBuilder" "coder" "B" (.int (0 : Int32))) (F_n : Fld Z h0 a0 "java/lang/AbstractStringBuilder" "count" "I" (.int (0 : Int32))) (g_a0 : n0 ≤ a0) (O : own_Old Z n0 h0) (CS : own_CS Z ic) :
    MetFree l (⟨"java/lang/AbstractStringBuilder", "<init>", "(I)V"⟩ : MethodName) (head1 (Jvm.Cond.code (⟨"java/lang/AbstractStringBuilder", "<init>", "(I)V"⟩ : MethodName) jdk_68_method_2_code 2 none :: ws) ({ frames := 1, cells := 1, slots := 16, locals := 12 } : Room)) (fun a U => a = #[(.ref a0), (.int (16 : Int32))] ∧ Z.Warmed39 U.vm ∧ U.heap = h0) (fun _ _ _ _ _ => True) (fun _ U o U' => ∃ v L, o = .returned v ∧ QASI Z a0 ic h0 n0 v U'.heap L ∧ FrameEnd U o U' L ({ frames := 1, cells := 1, slots := 16, locals := 12 } : Room).cells ({ frames := 1, cells := 1, slots := 16, locals := 12 } : Room).slots) := by
  refine MetFree.of_bodySF (plainFor_of_name pn_3) hisR ?_
  intro p e s m args below meth c s₁ Bd hml0 hP hK
  obtain ⟨rfl, hZ, hh⟩ := hP
  have hx := Bd.exec
  have hby := Bd.bytes
  have hml : c.maxLocals = 2 := hml0
  have hown : s.vm.findClass "java/lang/AbstractStringBuilder" = some m.cls := findClass_of_methodNamed Bd.named
  have hnm := (name_of_methodNamed Bd.named Bd.method).1
  have hlk : meth.locks = false := BodyLoose.notSynchronized Bd
  have X0 : Stand p l e ({ frames := 1, cells := 1, slots := 16, locals := 12 } : Room) s m #[(.ref a0), (.int (16 : Int32))] below meth c s₁ [] 0 0 := Stand.of_body Bd
  have _u := trivial
  have eh0 : s₁.heap = h0 := by rw [← hh, Bd.state]; rfl
  have N0 := Fr.nil n0
  show Rest p.tables e below s (QASI Z a0 ic h0 n0) _ _ (s₁.setTop (entryFrame m #[(.ref a0), (.int (16 : Int32))] 2))
  refine Rest.via (fun t k => castTop (ef_ASI m a0) k) ?_
  show Rest p.tables e below s _ _ _ (s₁.setTop (mkF m 0 #[.val (.ref a0), .val (.int (16 : Int32))] []))
  refine Rest.via (fun t k => XS.aloadN X0.here hx rfl (hb hby d10_0) rfl rfl k) ?_
  show Rest p.tables e below s _ _ _ (s₁.setTop (mkF m 1 #[.val (.ref a0), .val (.int (16 : Int32))] [(.ref a0)]))
  obtain ⟨T1, X1, e1, st1⟩ := initO X0 hx hZ hown (own_W hw 82 rfl) (own_W hw 16 rfl) (own_W hw 17 rfl) eh0 (g := (mkF m 1 #[.val (.ref a0), .val (.int (16 : Int32))] [(.ref a0)])) rfl (by rw [hml]; rfl) rfl (hb hby d10_1) (by decide) (W := 0) (by show 2 * 0 + _ ≤ _; exact Nat.le_of_eq rfl) (by decide)
  refine Rest.via (fun t k => st1 t k) ?_
  show Rest p.tables e below s _ _ _ (T1.setTop (mkF m 4 #[.val (.ref a0), .val (.int (16 : Int32))] []))
  obtain ⟨T2, X2, e2, st2⟩ := getS2 X1 hx hZ hown (host := "") (Or.inl (own_W hw 83 rfl)) Via.refl e1 (CS.1.ext (O.keep (Keep.refl h0 [a0]) (allS g_a0 all0)).2) (g := (mkF m 4 #[.val (.ref a0), .val (.int (16 : Int32))] [])) rfl (hb hby d10_4)
  refine Rest.via (fun t k => st2 t k) ?_
  show Rest p.tables e below s _ _ _ (T2.setTop (mkF m 7 #[.val (.ref a0), .val (.int (16 : Int32))] [(.int ic)]))
  refine Rest.via (fun t k => XS.ifNo X2.here hx rfl (hb hby d10_7) rfl ((if0 _ _).trans (feq (CS.2 : ¬ (ic = (0 : Int32)))).1) k) ?_
  show Rest p.tables e below s _ _ _ (T2.setTop (mkF m 10 #[.val (.ref a0), .val (.int (16 : Int32))] []))
  refine Rest.via (fun t k => XS.aloadN X2.here hx rfl (hb hby d10_10) rfl rfl k) ?_
  refine Rest.via (fun t k => XS.iloadN X2.here hx rfl (hb hby d10_11) rfl k) ?_
  show Rest p.tables e below s _ _ _ (T2.setTop (mkF m 12 #[.val (.ref a0), .val (.int (16 : Int32))] [(.int (16 : Int32)), (.ref a0)]))
  obtain ⟨T3, h3, k3, X3, e3, E3, A3, st3⟩ := newP X2 hx hZ (own_W hw 19 rfl) e2 (g := (mkF m 12 #[.val (.ref a0), .val (.int (16 : Int32))] [(.int (16 : Int32)), (.ref a0)])) rfl (hb hby d10_12) rfl (by decide) (cap := 16) (by decide) (by decide) (by decide) (by decide)
  obtain ⟨b3, gq3⟩ : ∃ z, z = h0.size := ⟨_, rfl⟩
  rw [← gq3] at A3 st3
  have sz_b3 : h0.size ≤ b3 := Nat.le_trans (Keep.refl h0 [a0]).1 (Nat.le_of_eq gq3.symm)
  have g_b3 : n0 ≤ b3 := Nat.le_trans Z0 sz_b3
  have ne_a0_b3 : a0 ≠ b3 := Nat.ne_of_lt (Nat.lt_of_lt_of_le E_a0.lt (Nat.le_of_eq gq3.symm))
  have K3 : Keep h0 h3 [a0] := (Keep.refl h0 [a0]).ext E3
  have V_b3 := Arv.new A3 (by decide)
  refine Rest.via (fun t k => st3 t k) ?_
  show Rest p.tables e below s _ _ _ (T3.setTop (mkF m 14 #[.val (.ref a0), .val (.int (16 : Int32))] [(.ref b3), (.ref a0)]))
  have Fo4 := (F_v.ext E3)
  obtain ⟨T4, h4, X4, e4, W4, st4⟩ := putF X3 hx hZ hown (host := "") (Or.inl (own_W hw 84 rfl)) Via.refl e3 Fo4 (E_a0.ext E3) (Or.inl (own_W hw 85 rfl)) (own_W hw 71 rfl) (ty := (.array .byte)) (by decide) rfl rfl (g := (mkF m 14 #[.val (.ref a0), .val (.int (16 : Int32))] [(.ref b3), (.ref a0)])) rfl rfl (hb hby d10_14)
  refine Rest.via (fun t k => st4 t k) ?_
  have N4 := Fr.snoc X4 N0 g_a0
  have K4 : Keep h0 h4 [a0] := K3.wr W4 (Or.inl (List.mem_of_getElem? (i := 0) rfl))
  have Fw4 := Fo4.same W4
  show Rest p.tables e below s _ _ _ (T4.setTop (mkF m 17 #[.val (.ref a0), .val (.int (16 : Int32))] []))
  refine Rest.via (fun t k => XS.aloadN X4.here hx rfl (hb hby d10_17) rfl rfl k) ?_
  refine Rest.via (fun t k => XS.iconst X4.here hx rfl (hb hby d10_18) k) ?_
  have Fo5 := ((F_c.ext E3).other W4 (Or.inr (slot_ne (Or.inl (own_W hw 87 rfl)) (Or.inl (own_W hw 85 rfl)) (by decide) (t := .byte) (t' := (.array .byte)) (by decide) (by decide))))
  obtain ⟨T5, h5, X5, e5, W5, st5⟩ := putFN X4 hx hZ hown (own_W hw 86 rfl) Via.refl e4 Fo5 ((E_a0.ext E3).wr W4) (Or.inl (own_W hw 87 rfl)) (own_W hw 71 rfl) (ty := .byte) (v' := (.int (0 : Int32))) (by decide) rfl (by decide) (g := (mkF m 19 #[.val (.ref a0), .val (.int (16 : Int32))] [(.int (0 : Int32)), (.ref a0)])) rfl rfl (hb hby d10_19)
  refine Rest.via (fun t k => st5 t k) ?_
  have N5 := Fr.snoc X5 N4 g_a0
  have K5 : Keep h0 h5 [a0] := K4.wr W5 (Or.inl (List.mem_of_getElem? (i := 0) rfl))
  have Fw5 := Fo5.same W5
  show Rest p.tables e below s _ _ _ (T5.setTop (mkF m 22 #[.val (.ref a0), .val (.int (16 : Int32))] []))
  refine Rest.via (fun t k => XS.goto X5.here hx rfl (pc0 := 22) (pc' := 38) rfl (hb hby d10_22) (by decide) (by decide) k) ?_
  refine Rest.ret X5 (v := none) (fun _ => rfl) hlk (fun fs hr => X5.returnOut hx Bd.returns (hb hby d10_38) hr) ?_ (by decide) (by decide)
  rw [e5]
  exact ⟨rfl, N5, K5, b3, _, sz_b3, (((E_a0.ext E3).wr W4).wr W5), (Fw4.other W5 (Or.inr (slot_ne (Or.inl (own_W hw 85 rfl)) (Or.inl (own_W hw 87 rfl)) (by decide) (t := (.array .byte)) (t' := .byte) (by decide) (by decide)))), Fw5, (((F_n.ext E3).other W4 (Or.inr (slot_ne (Or.inl (own_W hw 110 rfl)) (Or.inl (own_W hw 85 rfl)) (by decide) (t := .int) (t' := (.array .byte)) (by decide) (by decide)))).other W5 (Or.inr (slot_ne (Or.inl (own_W hw 110 rfl)) (Or.inl (own_W hw 87 rfl)) (by decide) (t := .int) (t' := .byte) (by decide) (by decide)))), ((V_b3.other W4 (Ne.symm ne_a0_b3)).other W5 (Ne.symm ne_a0_b3))⟩
theorem pd_6 : parseMethodDescriptor "(I)V" = some ⟨[.int], none⟩ := by decide +kernel
theorem d9_0 : decode jdk_67_method_1_code 0 = .ok (.aload_n 0, 1) := by decide +kernel
theorem d9_1 : decode jdk_67_method_1_code 1 = .ok (.bipush 16, 2) := by decide +kernel
theorem d9_3 : decode jdk_67_method_1_code 3 = .ok (.invokespecial 1, 3) := by decide +kernel
theorem d9_6 : decode jdk_67_method_1_code 6 = .ok (.return_, 1) := by decide +kernel
theorem pn_4 : plainName "java/lang/StringBuilder" = true := by first | (simp [plainName, overriddenIn]; done) | decide +kernel
theorem ef_SBI (m : MethodId) (a0 : Addr) : entryFrame m #[(.ref a0)] 1 = mkF m 0 #[.val (.ref a0)] [] := by first | (simp [entryFrame, mkF, argsToLocals, Value.category, maxLocals]; done) | rfl
def QSBI (Z : State) (a0 : Addr) (ic : Int32) (h0 : Heap) (n0 : Nat) (v : Option Value) (h : Heap) (L : List Loc) : Prop := v = none ∧ Fr n0 L ∧ Keep h0 h [a0] ∧ ∃ bv kb, h0.size ≤ bv ∧ own_SB Z h a0 bv kb (0 : Int32) []
set_option maxRecDepth 65536 in
set_option maxHeartbeats 40000000 in
theorem rmSBI (l : Launch) (Z : State) (aw : Array Value) (hw : ∀ d ∈ tables_1, d.before aw Z = true) (ws : List Jvm.Cond) (a0 : Addr) (ic : Int32) (h0 : Heap) (n0 : Nat) (Z0 : n0 ≤ h0.size) (E_a0 : Exa Z h0 a0 "java/lang/StringBuilder") (F_v : Fld Z h0 a0 "java/lang/AbstractStringBuilder" "value" "[B" .null) (F_c : Fld Z h0 a0 "java/lang/AbstractStringBuilder" "coder" "B" (.int (0 : Int32))) (F_n : Fld Z h0 a0 "java/lang/AbstractStringBuilder" "count" "I" (.int (0 : Int32))) (g_a0 : n0 ≤ a0) (O : own_Old Z n0 h0) (CS : own_CS Z ic) :
    MetFree l (⟨"java/lang/StringBuilder", "<init>", "()V"⟩ : MethodName) (head1 (Jvm.Cond.code (⟨"java/lang/StringBuilder", "<init>", "()V"⟩ : MethodName) jdk_67_method_1_code 1 none :: ws) ({ frames := 2, cells := 1, slots := 16, locals := 25 } : Room)) (fun a U => a = #[(.ref a0)] ∧ Z.Warmed39 U.vm ∧ U.heap = h0) (fun _ _ _ _ _ => True) (fun _ U o U' => ∃ v L, o = .returned v ∧ QSBI Z a0 ic h0 n0 v U'.heap L ∧ FrameEnd U o U' L ({ frames := 2, cells := 1, slots := 16, locals := 25 } : Room).cells ({ frames := 2, cells := 1, slots := 16, locals := 25 } : Room).slots) := by
  refine MetFree.of_bodySF (plainFor_of_name pn_4) hisR ?_
  intro p e s m args below meth c s₁ Bd hml0 hP hK
  obtain ⟨rfl, hZ, hh⟩ := hP
  have hx := Bd.exec
  have hby := Bd.bytes
  have hml : c.maxLocals = 1 := hml0
  have hown : s.vm.findClass "java/lang/StringBuilder" = some m.cls := findClass_of_methodNamed Bd.named
  have hnm := (name_of_methodNamed Bd.named Bd.method).1
  have hlk : meth.locks = false := BodyLoose.notSynchronized Bd
  have X0 : Stand p l e ({ frames := 2, cells := 1, slots := 16, locals := 25 } : Room) s m #[(.ref a0)] below meth c s₁ [] 0 0 := Stand.of_body Bd
  have _u := trivial
  have eh0 : s₁.heap = h0 := by rw [← hh, Bd.state]; rfl
  have N0 := Fr.nil n0
  show Rest p.tables e below s (QSBI Z a0 ic h0 n0) _ _ (s₁.setTop (entryFrame m #[(.ref a0)] 1))
  refine Rest.via (fun t k => castTop (ef_SBI m a0) k) ?_
  show Rest p.tables e below s _ _ _ (s₁.setTop (mkF m 0 #[.val (.ref a0)] []))
  refine Rest.via (fun t k => XS.aloadN X0.here hx rfl (hb hby d9_0) rfl rfl k) ?_
  refine Rest.via (fun t k => XS.bipush X0.here hx rfl (hb hby d9_1) k) ?_
  show Rest p.tables e below s _ _ _ (s₁.setTop (mkF m 3 #[.val (.ref a0)] [(.int (16 : Int32)), (.ref a0)]))
  obtain ⟨_, _, ⟨T1, L1, k1, n1⟩, -, X1, ⟨Lc1, hQ1, l1, y1, z1⟩, st1⟩ := X0.specialBack hx (y := (⟨"java/lang/AbstractStringBuilder", "<init>", "(I)V"⟩ : MethodName)) rfl hown (mvT hZ (own_W hw 76 rfl)) (mvT hZ (own_W hw 77 rfl)) (mvT hZ (own_W hw 81 rfl)) (by decide) (backOf (W := 0) (rmASI l Z aw hw [] a0 ic h0 n0 (Nat.le_trans Z0 (Keep.refl h0 [a0]).1) E_a0 F_v F_c F_n g_a0 (O.keep (Keep.refl h0 [a0]) (allS g_a0 all0)) CS) hZ (own_W hw 81 rfl) (own_W hw 80 rfl) (by decide) (by decide)) (g := (mkF m 3 #[.val (.ref a0)] [(.int (16 : Int32)), (.ref a0)])) rfl (by rw [hml]; rfl) (Steps.refl _) (a := a0) (argsL := [(.int (16 : Int32))]) (rest := []) (lenOf pd_6 rfl) rfl (by show 2 * 0 + _ ≤ _; exact Nat.le_of_eq rfl) (hb hby d9_3) (fun _ _ => ⟨rfl, eh0, (by decide : 0 + 1 ≤ _), (by decide : 0 + 16 ≤ _)⟩)
  dsimp only [Pt.U, Pt.locs, Pt.cells, Pt.slots] at X1 l1 y1 z1 st1 hQ1
  subst l1 y1 z1
  obtain ⟨h1, e1⟩ : ∃ z, T1.heap = z := ⟨_, rfl⟩
  rw [e1] at hQ1
  obtain ⟨rfl, Nq1, Kq1, rq1⟩ := hQ1
  have N1 := Fr.app N0 Nq1
  have K1 : Keep h0 h1 [a0] := (Keep.refl h0 [a0]).trans Kq1 (allS (Or.inl (List.mem_of_getElem? (i := 0) rfl)) all0)
  refine Rest.via (fun t k => st1.trans k) ?_
  show Rest p.tables e below s _ _ _ (T1.setTop (mkF m 6 #[.val (.ref a0)] []))
  refine Rest.ret X1 (v := none) (fun _ => rfl) hlk (fun fs hr => X1.returnOut hx Bd.returns (hb hby d9_6) hr) ?_ (by decide) (by decide)
  rw [e1]
  exact ⟨rfl, N1, K1, rq1⟩
theorem d15_0 : decode jdk_68_method_9_code 0 = .ok (.aload_n 0, 1) := by decide +kernel
theorem d15_1 : decode jdk_68_method_9_code 1 = .ok (.getfield 15, 3) := by decide +kernel
theorem d15_4 : decode jdk_68_method_9_code 4 = .ok (.arraylength, 1) := by decide +kernel
theorem d15_5 : decode jdk_68_method_9_code 5 = .ok (.aload_n 0, 1) := by decide +kernel
theorem d15_6 : decode jdk_68_method_9_code 6 = .ok (.getfield 22, 3) := by decide +kernel
theorem d15_9 : decode jdk_68_method_9_code 9 = .ok (.ishr, 1) := by decide +kernel
theorem d15_10 : decode jdk_68_method_9_code 10 = .ok (.istore_n 2, 1) := by decide +kernel
theorem d15_11 : decode jdk_68_method_9_code 11 = .ok (.iload_n 1, 1) := by decide +kernel
theorem d15_12 : decode jdk_68_method_9_code 12 = .ok (.iload_n 2, 1) := by decide +kernel
theorem d15_13 : decode jdk_68_method_9_code 13 = .ok (.isub, 1) := by decide +kernel
theorem d15_14 : decode jdk_68_method_9_code 14 = .ok (.ifCond .le 24, 3) := by decide +kernel
theorem d15_38 : decode jdk_68_method_9_code 38 = .ok (.return_, 1) := by decide +kernel
theorem ef_ECI (m : MethodId) (a0 : Addr) (p1 : Int32) : entryFrame m #[(.ref a0), (.int p1)] 3 = mkF m 0 #[.val (.ref a0), .val (.int p1), .unset] [] := by first | (simp [entryFrame, mkF, argsToLocals, Value.category, maxLocals]; done) | rfl
def QECI (Z : State) (a0 : Addr) (p1 : Int32) (bv : Addr) (kb : ClassId) (cn : Int32) (xs : List Int32) (h0 : Heap) (n0 : Nat) (v : Option Value) (h : Heap) (L : List Loc) : Prop := v = none ∧ Fr n0 L ∧ h = h0
set_option maxRecDepth 65536 in
set_option maxHeartbeats 40000000 in
theorem rmECI (l : Launch) (Z : State) (aw : Array Value) (hw : ∀ d ∈ tables_1, d.before aw Z = true) (ws : List Jvm.Cond) (a0 : Addr) (p1 : Int32) (bv : Addr) (kb : ClassId) (cn : Int32) (xs : List Int32) (h0 : Heap) (n0 : Nat) (Z0 : n0 ≤ h0.size) (B : own_SB Z h0 a0 bv kb cn (xs.map Value.int)) (hm : ¬ (0 : Int32) < (p1 - (16 : Int32))) :
    MetFree l (⟨"java/lang/AbstractStringBuilder", "ensureCapacityInternal", "(I)V"⟩ : MethodName) (head1 (Jvm.Cond.code (⟨"java/lang/AbstractStringBuilder", "ensureCapacityInternal", "(I)V"⟩ : MethodName) jdk_68_method_9_code 3 none :: ws) ({ frames := 0, cells := 0, slots := 0, locals := 0 } : Room)) (fun a U => a = #[(.ref a0), (.int p1)] ∧ Z.Warmed39 U.vm ∧ U.heap = h0) (fun _ _ _ _ _ => True) (fun _ U o U' => ∃ v L, o = .returned v ∧ QECI Z a0 p1 bv kb cn xs h0 n0 v U'.heap L ∧ FrameEnd U o U' L ({ frames := 0, cells := 0, slots := 0, locals := 0 } : Room).cells ({ frames := 0, cells := 0, slots := 0, locals := 0 } : Room).slots) := by
  refine MetFree.of_bodySF (plainFor_of_name pn_3) hisR ?_
  intro p e s m args below meth c s₁ Bd hml0 hP hK
  obtain ⟨rfl, hZ, hh⟩ := hP
  have hx := Bd.exec
  have hby := Bd.bytes
  have hml : c.maxLocals = 3 := hml0
  have hown : s.vm.findClass "java/lang/AbstractStringBuilder" = some m.cls := findClass_of_methodNamed Bd.named
  have hnm := (name_of_methodNamed Bd.named Bd.method).1
  have hlk : meth.locks = false := BodyLoose.notSynchronized Bd
  have X0 : Stand p l e ({ frames := 0, cells := 0, slots := 0, locals := 0 } : Room) s m #[(.ref a0), (.int p1)] below meth c s₁ [] 0 0 := Stand.of_body Bd
  have _u := trivial
  have eh0 : s₁.heap = h0 := by rw [← hh, Bd.state]; rfl
  have N0 := Fr.nil n0
  show Rest p.tables e below s (QECI Z a0 p1 bv kb cn xs h0 n0) _ _ (s₁.setTop (entryFrame m #[(.ref a0), (.int p1)] 3))
  refine Rest.via (fun t k => castTop (ef_ECI m a0 p1) k) ?_
  obtain ⟨E_a0, Fv_a0, Fc_a0, Fn_a0, V_a0⟩ := id B
  have ne_a0_bv : a0 ≠ bv := Exa.neArv E_a0 V_a0 (own_W hw 71 rfl)
  show Rest p.tables e below s _ _ _ (s₁.setTop (mkF m 0 #[.val (.ref a0), .val (.int p1), .unset] []))
  refine Rest.via (fun t k => XS.aloadN X0.here hx rfl (hb hby d15_0) rfl rfl k) ?_
  obtain ⟨T1, X1, e1, st1⟩ := getF X0 hx hZ hown (host := "") (Or.inl (own_W hw 84 rfl)) Via.refl eh0 Fv_a0 (g := (mkF m 1 #[.val (.ref a0), .val (.int p1), .unset] [(.ref a0)])) rfl rfl (hb hby d15_1)
  refine Rest.via (fun t k => st1 t k) ?_
  show Rest p.tables e below s _ _ _ (T1.setTop (mkF m 4 #[.val (.ref a0), .val (.int p1), .unset] [(.ref bv)]))
  obtain ⟨cl2, Ar2, -, S2, P2, -, -⟩ := id V_a0
  refine Rest.via (fun t k => X1.arraylength hx (by rw [e1]; exact Ar2.1) (State.isArrayOf_alike hZ.alike Ar2.2.1) (g := (mkF m 4 #[.val (.ref a0), .val (.int p1), .unset] [(.ref bv)])) rfl rfl (hb hby d15_4) t k) ?_
  rw [len_of S2 P2]
  show Rest p.tables e below s _ _ _ (T1.setTop (mkF m 5 #[.val (.ref a0), .val (.int p1), .unset] [(.int (16 : Int32))]))
  refine Rest.via (fun t k => XS.aloadN X1.here hx rfl (hb hby d15_5) rfl rfl k) ?_
  obtain ⟨T3, X3, e3, st3⟩ := getF X1 hx hZ hown (host := "") (Or.inl (own_W hw 86 rfl)) Via.refl e1 Fc_a0 (g := (mkF m 6 #[.val (.ref a0), .val (.int p1), .unset] [(.ref a0), (.int (16 : Int32))])) rfl rfl (hb hby d15_6)
  refine Rest.via (fun t k => st3 t k) ?_
  show Rest p.tables e below s _ _ _ (T3.setTop (mkF m 9 #[.val (.ref a0), .val (.int p1), .unset] [(.int (0 : Int32)), (.int (16 : Int32))]))
  refine Rest.via (fun t k => XS.ishr X3.here hx rfl (hb hby d15_9) rfl k) ?_
  show Rest p.tables e below s _ _ _ (T3.setTop (mkF m 10 #[.val (.ref a0), .val (.int p1), .unset] [(.int ((16 : Int32) >>> ((0 : Int32) &&& 31)))]))
  rw [(by decide : ((16 : Int32) >>> ((0 : Int32) &&& 31)) = (16 : Int32))]
  show Rest p.tables e below s _ _ _ (T3.setTop (mkF m 10 #[.val (.ref a0), .val (.int p1), .unset] [(.int (16 : Int32))]))
  refine Rest.via (fun t k => XS.istoreN X3.here hx rfl (hb hby d15_10) rfl (l' := #[.val (.ref a0), .val (.int p1), .val (.int (16 : Int32))]) rfl k) ?_
  refine Rest.via (fun t k => XS.iloadN X3.here hx rfl (hb hby d15_11) rfl k) ?_
  refine Rest.via (fun t k => XS.iloadN X3.here hx rfl (hb hby d15_12) rfl k) ?_
  refine Rest.via (fun t k => XS.isub X3.here hx rfl (hb hby d15_13) rfl k) ?_
  refine Rest.via (fun t k => XS.ifYes X3.here hx rfl (pc0 := 14) (pc' := 38) rfl (hb hby d15_14) rfl ((if0 _ _).trans (flt (hm : ¬ ((0 : Int32) < (p1 - (16 : Int32))))).2.2.2) (by decide) (by decide) k) ?_
  show Rest p.tables e below s _ _ _ (T3.setTop (mkF m 38 #[.val (.ref a0), .val (.int p1), .val (.int (16 : Int32))] []))
  refine Rest.ret X3 (v := none) (fun _ => rfl) hlk (fun fs hr => X3.returnOut hx Bd.returns (hb hby d15_38) hr) ?_ (by decide) (by decide)
  rw [e3]
  exact ⟨rfl, N0, rfl⟩
theorem d22_0 : decode jdk_68_method_68_code 0 = .ok (.getstatic 18, 3) := by decide +kernel
theorem d22_3 : decode jdk_68_method_68_code 3 = .ok (.ifCond .eq 14, 3) := by decide +kernel
theorem d22_6 : decode jdk_68_method_68_code 6 = .ok (.aload_n 0, 1) := by decide +kernel
theorem d22_7 : decode jdk_68_method_68_code 7 = .ok (.getfield 22, 3) := by decide +kernel
theorem d22_10 : decode jdk_68_method_68_code 10 = .ok (.ifCond .ne 7, 3) := by decide +kernel
theorem d22_13 : decode jdk_68_method_68_code 13 = .ok (.iconst 1, 1) := by decide +kernel
theorem d22_14 : decode jdk_68_method_68_code 14 = .ok (.goto 4, 3) := by decide +kernel
theorem d22_18 : decode jdk_68_method_68_code 18 = .ok (.ireturn, 1) := by decide +kernel
theorem ef_AIL (m : MethodId) (a0 : Addr) : entryFrame m #[(.ref a0)] 1 = mkF m 0 #[.val (.ref a0)] [] := by first | (simp [entryFrame, mkF, argsToLocals, Value.category, maxLocals]; done) | rfl
def QAIL (Z : State) (a0 : Addr) (bv : Addr) (kb : ClassId) (cn : Int32) (xs : List Int32) (ic : Int32) (h0 : Heap) (n0 : Nat) (v : Option Value) (h : Heap) (L : List Loc) : Prop := v = some (.int (1 : Int32)) ∧ Fr n0 L ∧ h = h0
set_option maxRecDepth 65536 in
set_option maxHeartbeats 40000000 in
theorem rmAIL (l : Launch) (Z : State) (aw : Array Value) (hw : ∀ d ∈ tables_1, d.before aw Z = true) (ws : List Jvm.Cond) (a0 : Addr) (bv : Addr) (kb : ClassId) (cn : Int32) (xs : List Int32) (ic : Int32) (h0 : Heap) (n0 : Nat) (Z0 : n0 ≤ h0.size) (B : own_SB Z h0 a0 bv kb cn (xs.map Value.int)) (O : own_Old Z n0 h0) (CS : own_CS Z ic) :
    MetFree l (⟨"java/lang/AbstractStringBuilder", "isLatin1", "()Z"⟩ : MethodName) (head1 (Jvm.Cond.code (⟨"java/lang/AbstractStringBuilder", "isLatin1", "()Z"⟩ : MethodName) jdk_68_method_68_code 1 (some .boolean) :: ws) ({ frames := 0, cells := 0, slots := 0, locals := 0 } : Room)) (fun a U => a = #[(.ref a0)] ∧ Z.Warmed39 U.vm ∧ U.heap = h0) (fun _ _ _ _ _ => True) (fun _ U o U' => ∃ v L, o = .returned v ∧ QAIL Z a0 bv kb cn xs ic h0 n0 v U'.heap L ∧ FrameEnd U o U' L ({ frames := 0, cells := 0, slots := 0, locals := 0 } : Room).cells ({ frames := 0, cells := 0, slots := 0, locals := 0 } : Room).slots) := by
  refine MetFree.of_bodySF (plainFor_of_name pn_3) hisR ?_
  intro p e s m args below meth c s₁ Bd hml0 hP hK
  obtain ⟨rfl, hZ, hh⟩ := hP
  have hx := Bd.exec
  have hby := Bd.bytes
  have hml : c.maxLocals = 1 := hml0
  have hown : s.vm.findClass "java/lang/AbstractStringBuilder" = some m.cls := findClass_of_methodNamed Bd.named
  have hnm := (name_of_methodNamed Bd.named Bd.method).1
  have hlk : meth.locks = false := BodyLoose.notSynchronized Bd
  have X0 : Stand p l e ({ frames := 0, cells := 0, slots := 0, locals := 0 } : Room) s m #[(.ref a0)] below meth c s₁ [] 0 0 := Stand.of_body Bd
  have _u := trivial
  have eh0 : s₁.heap = h0 := by rw [← hh, Bd.state]; rfl
  have N0 := Fr.nil n0
  show Rest p.tables e below s (QAIL Z a0 bv kb cn xs ic h0 n0) _ _ (s₁.setTop (entryFrame m #[(.ref a0)] 1))
  refine Rest.via (fun t k => castTop (ef_AIL m a0) k) ?_
  obtain ⟨E_a0, Fv_a0, Fc_a0, Fn_a0, V_a0⟩ := id B
  have ne_a0_bv : a0 ≠ bv := Exa.neArv E_a0 V_a0 (own_W hw 71 rfl)
  show Rest p.tables e below s _ _ _ (s₁.setTop (mkF m 0 #[.val (.ref a0)] []))
  obtain ⟨T1, X1, e1, st1⟩ := getS2 X0 hx hZ hown (host := "") (Or.inl (own_W hw 83 rfl)) Via.refl eh0 (CS.1.ext (O.keep (Keep.refl h0 []) all0).2) (g := (mkF m 0 #[.val (.ref a0)] [])) rfl (hb hby d22_0)
  refine Rest.via (fun t k => st1 t k) ?_
  show Rest p.tables e below s _ _ _ (T1.setTop (mkF m 3 #[.val (.ref a0)] [(.int ic)]))
  refine Rest.via (fun t k => XS.ifNo X1.here hx rfl (hb hby d22_3) rfl ((if0 _ _).trans (feq (CS.2 : ¬ (ic = (0 : Int32)))).1) k) ?_
  show Rest p.tables e below s _ _ _ (T1.setTop (mkF m 6 #[.val (.ref a0)] []))
  refine Rest.via (fun t k => XS.aloadN X1.here hx rfl (hb hby d22_6) rfl rfl k) ?_
  obtain ⟨T2, X2, e2, st2⟩ := getF X1 hx hZ hown (host := "") (Or.inl (own_W hw 86 rfl)) Via.refl e1 Fc_a0 (g := (mkF m 7 #[.val (.ref a0)] [(.ref a0)])) rfl rfl (hb hby d22_7)
  refine Rest.via (fun t k => st2 t k) ?_
  show Rest p.tables e below s _ _ _ (T2.setTop (mkF m 10 #[.val (.ref a0)] [(.int (0 : Int32))]))
  refine Rest.via (fun t k => XS.ifNo X2.here hx rfl (hb hby d22_10) rfl ((if0 _ _).trans (teq (by decide : (0 : Int32) = (0 : Int32))).2) k) ?_
  show Rest p.tables e below s _ _ _ (T2.setTop (mkF m 13 #[.val (.ref a0)] []))
  refine Rest.via (fun t k => XS.iconst X2.here hx rfl (hb hby d22_13) k) ?_
  refine Rest.via (fun t k => XS.goto X2.here hx rfl (pc0 := 14) (pc' := 18) rfl (hb hby d22_14) (by decide) (by decide) k) ?_
  refine Rest.ret X2 (v := some (.int (nar .boolean (1 : Int32)))) (fun h => by rw [Bd.returns] at h; cases h) hlk (fun fs hr => retN X2 hx (t := .boolean) Bd.returns (by simp) (hb hby d22_18) hr) ?_ (by decide) (by decide)
  rw [e2]
  exact ⟨rfl, N0, rfl⟩
theorem d27_0 : decode jdk_68_method_64_code 0 = .ok (.aload_n 0, 1) := by decide +kernel
theorem d27_1 : decode jdk_68_method_64_code 1 = .ok (.getfield 15, 3) := by decide +kernel
theorem d27_4 : decode jdk_68_method_64_code 4 = .ok (.areturn, 1) := by decide +kernel
theorem ef_AGV (m : MethodId) (a0 : Addr) : entryFrame m #[(.ref a0)] 1 = mkF m 0 #[.val (.ref a0)] [] := by first | (simp [entryFrame, mkF, argsToLocals, Value.category, maxLocals]; done) | rfl
def QAGV (Z : State) (a0 : Addr) (bv : Addr) (kb : ClassId) (cn : Int32) (xs : List Int32) (h0 : Heap) (n0 : Nat) (v : Option Value) (h : Heap) (L : List Loc) : Prop := v = some (.ref bv) ∧ Fr n0 L ∧ h = h0
set_option maxRecDepth 65536 in
set_option maxHeartbeats 40000000 in
theorem rmAGV (l : Launch) (Z : State) (aw : Array Value) (hw : ∀ d ∈ tables_1, d.before aw Z = true) (ws : List Jvm.Cond) (a0 : Addr) (bv : Addr) (kb : ClassId) (cn : Int32) (xs : List Int32) (h0 : Heap) (n0 : Nat) (Z0 : n0 ≤ h0.size) (B : own_SB Z h0 a0 bv kb cn (xs.map Value.int)) :
    MetFree l (⟨"java/lang/AbstractStringBuilder", "getValue", "()[B"⟩ : MethodName) (head1 (Jvm.Cond.code (⟨"java/lang/AbstractStringBuilder", "getValue", "()[B"⟩ : MethodName) jdk_68_method_64_code 1 (some (.array .byte)) :: ws) ({ frames := 0, cells := 0, slots := 0, locals := 0 } : Room)) (fun a U => a = #[(.ref a0)] ∧ Z.Warmed39 U.vm ∧ U.heap = h0) (fun _ _ _ _ _ => True) (fun _ U o U' => ∃ v L, o = .returned v ∧ QAGV Z a0 bv kb cn xs h0 n0 v U'.heap L ∧ FrameEnd U o U' L ({ frames := 0, cells := 0, slots := 0, locals := 0 } : Room).cells ({ frames := 0, cells := 0, slots := 0, locals := 0 } : Room).slots) := by
  refine MetFree.of_bodySF (plainFor_of_name pn_3) hisR ?_
  intro p e s m args below meth c s₁ Bd hml0 hP hK
  obtain ⟨rfl, hZ, hh⟩ := hP
  have hx := Bd.exec
  have hby := Bd.bytes
  have hml : c.maxLocals = 1 := hml0
  have hown : s.vm.findClass "java/lang/AbstractStringBuilder" = some m.cls := findClass_of_methodNamed Bd.named
  have hnm := (name_of_methodNamed Bd.named Bd.method).1
  have hlk : meth.locks = false := BodyLoose.notSynchronized Bd
  have X0 : Stand p l e ({ frames := 0, cells := 0, slots := 0, locals := 0 } : Room) s m #[(.ref a0)] below meth c s₁ [] 0 0 := Stand.of_body Bd
  have _u := trivial
  have eh0 : s₁.heap = h0 := by rw [← hh, Bd.state]; rfl
  have N0 := Fr.nil n0
  show Rest p.tables e below s (QAGV Z a0 bv kb cn xs h0 n0) _ _ (s₁.setTop (entryFrame m #[(.ref a0)] 1))
  refine Rest.via (fun t k => castTop (ef_AGV m a0) k) ?_
  obtain ⟨E_a0, Fv_a0, Fc_a0, Fn_a0, V_a0⟩ := id B
  have ne_a0_bv : a0 ≠ bv := Exa.neArv E_a0 V_a0 (own_W hw 71 rfl)
  show Rest p.tables e below s _ _ _ (s₁.setTop (mkF m 0 #[.val (.ref a0)] []))
  refine Rest.via (fun t k => XS.aloadN X0.here hx rfl (hb hby d27_0) rfl rfl k) ?_
  obtain ⟨T1, X1, e1, st1⟩ := getF X0 hx hZ hown (host := "") (Or.inl (own_W hw 84 rfl)) Via.refl eh0 Fv_a0 (g := (mkF m 1 #[.val (.ref a0)] [(.ref a0)])) rfl rfl (hb hby d27_1)
  refine Rest.via (fun t k => st1 t k) ?_
  show Rest p.tables e below s _ _ _ (T1.setTop (mkF m 4 #[.val (.ref a0)] [(.ref bv)]))
  refine Rest.ret X1 (v := some (.ref bv)) (fun h => by rw [Bd.returns] at h; cases h) hlk (fun fs hr => retOut X1 hx Bd.returns rfl (Or.inr (Or.inr (Or.inr (Or.inr ⟨rfl, rfl, rfl⟩)))) (hb hby d27_4) hr) ?_ (by decide) (by decide)
  rw [e1]
  exact ⟨rfl, N0, rfl⟩
theorem d29_0 : decode jdk_68_method_6_code 0 = .ok (.aload_n 0, 1) := by decide +kernel
theorem d29_1 : decode jdk_68_method_6_code 1 = .ok (.getfield 79, 3) := by decide +kernel
theorem d29_4 : decode jdk_68_method_6_code 4 = .ok (.ireturn, 1) := by decide +kernel
theorem ef_ALN (m : MethodId) (a0 : Addr) : entryFrame m #[(.ref a0)] 1 = mkF m 0 #[.val (.ref a0)] [] := by first | (simp [entryFrame, mkF, argsToLocals, Value.category, maxLocals]; done) | rfl
def QALN (Z : State) (a0 : Addr) (bv : Addr) (kb : ClassId) (cn : Int32) (xs : List Int32) (h0 : Heap) (n0 : Nat) (v : Option Value) (h : Heap) (L : List Loc) : Prop := v = some (.int cn) ∧ Fr n0 L ∧ h = h0
set_option maxRecDepth 65536 in
set_option maxHeartbeats 40000000 in
theorem rmALN (l : Launch) (Z : State) (aw : Array Value) (hw : ∀ d ∈ tables_1, d.before aw Z = true) (ws : List Jvm.Cond) (a0 : Addr) (bv : Addr) (kb : ClassId) (cn : Int32) (xs : List Int32) (h0 : Heap) (n0 : Nat) (Z0 : n0 ≤ h0.size) (B : own_SB Z h0 a0 bv kb cn (xs.map Value.int)) :
    MetFree l (⟨"java/lang/AbstractStringBuilder", "length", "()I"⟩ : MethodName) (head1 (Jvm.Cond.code (⟨"java/lang/AbstractStringBuilder", "length", "()I"⟩ : MethodName) jdk_68_method_6_code 1 (some .int) :: ws) ({ frames := 0, cells := 0, slots := 0, locals := 0 } : Room)) (fun a U => a = #[(.ref a0)] ∧ Z.Warmed39 U.vm ∧ U.heap = h0) (fun _ _ _ _ _ => True) (fun _ U o U' => ∃ v L, o = .returned v ∧ QALN Z a0 bv kb cn xs h0 n0 v U'.heap L ∧ FrameEnd U o U' L ({ frames := 0, cells := 0, slots := 0, locals := 0 } : Room).cells ({ frames := 0, cells := 0, slots := 0, locals := 0 } : Room).slots) := by
  refine MetFree.of_bodySF (plainFor_of_name pn_3) hisR ?_
  intro p e s m args below meth c s₁ Bd hml0 hP hK
  obtain ⟨rfl, hZ, hh⟩ := hP
  have hx := Bd.exec
  have hby := Bd.bytes
  have hml : c.maxLocals = 1 := hml0
  have hown : s.vm.findClass "java/lang/AbstractStringBuilder" = some m.cls := findClass_of_methodNamed Bd.named
  have hnm := (name_of_methodNamed Bd.named Bd.method).1
  have hlk : meth.locks = false := BodyLoose.notSynchronized Bd
  have X0 : Stand p l e ({ frames := 0, cells := 0, slots := 0, locals := 0 } : Room) s m #[(.ref a0)] below meth c s₁ [] 0 0 := Stand.of_body Bd
  have _u := trivial
  have eh0 : s₁.heap = h0 := by rw [← hh, Bd.state]; rfl
  have N0 := Fr.nil n0
  show Rest p.tables e below s (QALN Z a0 bv kb cn xs h0 n0) _ _ (s₁.setTop (entryFrame m #[(.ref a0)] 1))
  refine Rest.via (fun t k => castTop (ef_ALN m a0) k) ?_
  obtain ⟨E_a0, Fv_a0, Fc_a0, Fn_a0, V_a0⟩ := id B
  have ne_a0_bv : a0 ≠ bv := Exa.neArv E_a0 V_a0 (own_W hw 71 rfl)
  show Rest p.tables e below s _ _ _ (s₁.setTop (mkF m 0 #[.val (.ref a0)] []))
  refine Rest.via (fun t k => XS.aloadN X0.here hx rfl (hb hby d29_0) rfl rfl k) ?_
  obtain ⟨T1, X1, e1, st1⟩ := getF X0 hx hZ hown (host := "") (Or.inl (own_W hw 109 rfl)) Via.refl eh0 Fn_a0 (g := (mkF m 1 #[.val (.ref a0)] [(.ref a0)])) rfl rfl (hb hby d29_1)
  refine Rest.via (fun t k => st1 t k) ?_
  show Rest p.tables e below s _ _ _ (T1.setTop (mkF m 4 #[.val (.ref a0)] [(.int cn)]))
  refine Rest.ret X1 (v := some (.int cn)) (fun h => by rw [Bd.returns] at h; cases h) hlk (fun fs hr => retOut X1 hx Bd.returns rfl (Or.inl ⟨rfl, Or.inl rfl, _, rfl⟩) (hb hby d29_4) hr) ?_ (by decide) (by decide)
  rw [e1]
  exact ⟨rfl, N0, rfl⟩
theorem pd_7 : parseMethodDescriptor "()I" = some ⟨[], some .int⟩ := by decide +kernel
theorem d28_0 : decode jdk_67_method_93_code 0 = .ok (.aload_n 0, 1) := by decide +kernel
theorem d28_1 : decode jdk_67_method_93_code 1 = .ok (.invokespecial 343, 3) := by decide +kernel
theorem d28_4 : decode jdk_67_method_93_code 4 = .ok (.ireturn, 1) := by decide +kernel
theorem ef_SBL (m : MethodId) (a0 : Addr) : entryFrame m #[(.ref a0)] 1 = mkF m 0 #[.val (.ref a0)] [] := by first | (simp [entryFrame, mkF, argsToLocals, Value.category, maxLocals]; done) | rfl
def QSBL (Z : State) (a0 : Addr) (bv : Addr) (kb : ClassId) (cn : Int32) (xs : List Int32) (h0 : Heap) (n0 : Nat) (v : Option Value) (h : Heap) (L : List Loc) : Prop := v = some (.int cn) ∧ Fr n0 L ∧ h = h0
set_option maxRecDepth 65536 in
set_option maxHeartbeats 40000000 in
theorem rmSBL (l : Launch) (Z : State) (aw : Array Value) (hw : ∀ d ∈ tables_1, d.before aw Z = true) (ws : List Jvm.Cond) (a0 : Addr) (bv : Addr) (kb : ClassId) (cn : Int32) (xs : List Int32) (h0 : Heap) (n0 : Nat) (Z0 : n0 ≤ h0.size) (B : own_SB Z h0 a0 bv kb cn (xs.map Value.int)) :
    MetFree l (⟨"java/lang/StringBuilder", "length", "()I"⟩ : MethodName) (head1 (Jvm.Cond.code (⟨"java/lang/StringBuilder", "length", "()I"⟩ : MethodName) jdk_67_method_93_code 1 (some .int) :: ws) ({ frames := 1, cells := 0, slots := 0, locals := 12 } : Room)) (fun a U => a = #[(.ref a0)] ∧ Z.Warmed39 U.vm ∧ U.heap = h0) (fun _ _ _ _ _ => True) (fun _ U o U' => ∃ v L, o = .returned v ∧ QSBL Z a0 bv kb cn xs h0 n0 v U'.heap L ∧ FrameEnd U o U' L ({ frames := 1, cells := 0, slots := 0, locals := 12 } : Room).cells ({ frames := 1, cells := 0, slots := 0, locals := 12 } : Room).slots) := by
  refine MetFree.of_bodySF (plainFor_of_name pn_4) hisR ?_
  intro p e s m args below meth c s₁ Bd hml0 hP hK
  obtain ⟨rfl, hZ, hh⟩ := hP
  have hx := Bd.exec
  have hby := Bd.bytes
  have hml : c.maxLocals = 1 := hml0
  have hown : s.vm.findClass "java/lang/StringBuilder" = some m.cls := findClass_of_methodNamed Bd.named
  have hnm := (name_of_methodNamed Bd.named Bd.method).1
  have hlk : meth.locks = false := BodyLoose.notSynchronized Bd
  have X0 : Stand p l e ({ frames := 1, cells := 0, slots := 0, locals := 12 } : Room) s m #[(.ref a0)] below meth c s₁ [] 0 0 := Stand.of_body Bd
  have _u := trivial
  have eh0 : s₁.heap = h0 := by rw [← hh, Bd.state]; rfl
  have N0 := Fr.nil n0
  show Rest p.tables e below s (QSBL Z a0 bv kb cn xs h0 n0) _ _ (s₁.setTop (entryFrame m #[(.ref a0)] 1))
  refine Rest.via (fun t k => castTop (ef_SBL m a0) k) ?_
  obtain ⟨E_a0, Fv_a0, Fc_a0, Fn_a0, V_a0⟩ := id B
  have ne_a0_bv : a0 ≠ bv := Exa.neArv E_a0 V_a0 (own_W hw 71 rfl)
  show Rest p.tables e below s _ _ _ (s₁.setTop (mkF m 0 #[.val (.ref a0)] []))
  refine Rest.via (fun t k => XS.aloadN X0.here hx rfl (hb hby d28_0) rfl rfl k) ?_
  show Rest p.tables e below s _ _ _ (s₁.setTop (mkF m 1 #[.val (.ref a0)] [(.ref a0)]))
  obtain ⟨_, _, ⟨T1, L1, k1, n1⟩, -, X1, ⟨Lc1, hQ1, l1, y1, z1⟩, st1⟩ := superBack X0 hx hZ (y := (⟨"java/lang/AbstractStringBuilder", "length", "()I"⟩ : MethodName)) hown (own_W hw 184 rfl) (own_sameM (own_W hw 154 rfl) rfl (own_W hw 180 rfl) (by decide)) (own_W hw 180 rfl) (own_W hw 95 rfl) (by decide) (backOf (W := 0) (rmALN l Z aw hw [] a0 bv kb cn xs h0 n0 (Nat.le_trans Z0 (Keep.refl h0 []).1) B) hZ (own_W hw 185 rfl) (own_W hw 80 rfl) (by decide) (by decide)) eh0 (Ins.self E_a0) (g := (mkF m 1 #[.val (.ref a0)] [(.ref a0)])) rfl (by rw [hml]; rfl) (own_W hw 185 rfl) (argsL := []) (rest := []) (lenOf pd_7 rfl) rfl (by show 2 * 0 + _ ≤ _; exact Nat.le_of_eq rfl) (hb hby d28_1) (fun _ _ => ⟨rfl, eh0, (by decide : 0 + 0 ≤ _), (by decide : 0 + 0 ≤ _)⟩)
  dsimp only [Pt.U, Pt.locs, Pt.cells, Pt.slots] at X1 l1 y1 z1 st1 hQ1
  subst l1 y1 z1
  obtain ⟨rfl, Nq1, e1⟩ := hQ1
  have N1 := Fr.app N0 Nq1
  refine Rest.via (fun t k => st1.trans k) ?_
  show Rest p.tables e below s _ _ _ (T1.setTop (mkF m 4 #[.val (.ref a0)] [(.int cn)]))
  refine Rest.ret X1 (v := some (.int cn)) (fun h => by rw [Bd.returns] at h; cases h) hlk (fun fs hr => retOut X1 hx Bd.returns rfl (Or.inl ⟨rfl, Or.inl rfl, _, rfl⟩) (hb hby d28_4) hr) ?_ (by decide) (by decide)
  rw [e1]
  exact ⟨rfl, N1, rfl⟩
theorem d17_0 : decode jdk_68_method_71_code 0 = .ok (.getstatic 18, 3) := by decide +kernel
theorem d17_3 : decode jdk_68_method_71_code 3 = .ok (.ifCond .eq 18, 3) := by decide +kernel
theorem d17_6 : decode jdk_68_method_71_code 6 = .ok (.aload_n 0, 1) := by decide +kernel
theorem d17_7 : decode jdk_68_method_71_code 7 = .ok (.getfield 22, 3) := by decide +kernel
theorem d17_10 : decode jdk_68_method_71_code 10 = .ok (.aload_n 1, 1) := by decide +kernel
theorem d17_11 : decode jdk_68_method_71_code 11 = .ok (.invokevirtual 40, 3) := by decide +kernel
theorem d17_14 : decode jdk_68_method_71_code 14 = .ok (.if_icmp .eq 7, 3) := by decide +kernel
theorem d17_21 : decode jdk_68_method_71_code 21 = .ok (.return_, 1) := by decide +kernel
theorem ef_INF (m : MethodId) (a0 : Addr) (a1 : Addr) : entryFrame m #[(.ref a0), (.ref a1)] 2 = mkF m 0 #[.val (.ref a0), .val (.ref a1)] [] := by first | (simp [entryFrame, mkF, argsToLocals, Value.category, maxLocals]; done) | rfl
def QINF (Z : State) (a0 : Addr) (a1 : Addr) (bv : Addr) (kb : ClassId) (cn : Int32) (xs : List Int32) (va : Addr) (k : ClassId) (m0 : Int32) (ys : List Int32) (ic : Int32) (h0 : Heap) (n0 : Nat) (v : Option Value) (h : Heap) (L : List Loc) : Prop := v = none ∧ Fr n0 L ∧ h = h0
set_option maxRecDepth 65536 in
set_option maxHeartbeats 40000000 in
theorem rmINF (l : Launch) (Z : State) (aw : Array Value) (hw : ∀ d ∈ tables_1, d.before aw Z = true) (ws : List Jvm.Cond) (a0 : Addr) (a1 : Addr) (bv : Addr) (kb : ClassId) (cn : Int32) (xs : List Int32) (va : Addr) (k : ClassId) (m0 : Int32) (ys : List Int32) (ic : Int32) (h0 : Heap) (n0 : Nat) (Z0 : n0 ≤ h0.size) (B : own_SB Z h0 a0 bv kb cn (xs.map Value.int)) (S1 : own_St Z h0 a1 va k m0 (ys.map Value.int)) (O : own_Old Z n0 h0) (CS : own_CS Z ic) :
    MetFree l (⟨"java/lang/AbstractStringBuilder", "inflateIfNeededFor", "(Ljava/lang/String;)V"⟩ : MethodName) (head1 (Jvm.Cond.code (⟨"java/lang/AbstractStringBuilder", "inflateIfNeededFor", "(Ljava/lang/String;)V"⟩ : MethodName) jdk_68_method_71_code 2 none :: ws) ({ frames := 1, cells := 0, slots := 0, locals := 13 } : Room)) (fun a U => a = #[(.ref a0), (.ref a1)] ∧ Z.Warmed39 U.vm ∧ U.heap = h0) (fun _ _ _ _ _ => True) (fun _ U o U' => ∃ v L, o = .returned v ∧ QINF Z a0 a1 bv kb cn xs va k m0 ys ic h0 n0 v U'.heap L ∧ FrameEnd U o U' L ({ frames := 1, cells := 0, slots := 0, locals := 13 } : Room).cells ({ frames := 1, cells := 0, slots := 0, locals := 13 } : Room).slots) := by
  refine MetFree.of_bodySF (plainFor_of_name pn_3) hisR ?_
  intro p e s m args below meth c s₁ Bd hml0 hP hK
  obtain ⟨rfl, hZ, hh⟩ := hP
  have hx := Bd.exec
  have hby := Bd.bytes
  have hml : c.maxLocals = 2 := hml0
  have hown : s.vm.findClass "java/lang/AbstractStringBuilder" = some m.cls := findClass_of_methodNamed Bd.named
  have hnm := (name_of_methodNamed Bd.named Bd.method).1
  have hlk : meth.locks = false := BodyLoose.notSynchronized Bd
  have X0 : Stand p l e ({ frames := 1, cells := 0, slots := 0, locals := 13 } : Room) s m #[(.ref a0), (.ref a1)] below meth c s₁ [] 0 0 := Stand.of_body Bd
  have _u := trivial
  have eh0 : s₁.heap = h0 := by rw [← hh, Bd.state]; rfl
  have N0 := Fr.nil n0
  show Rest p.tables e below s (QINF Z a0 a1 bv kb cn xs va k m0 ys ic h0 n0) _ _ (s₁.setTop (entryFrame m #[(.ref a0), (.ref a1)] 2))
  refine Rest.via (fun t k => castTop (ef_INF m a0 a1) k) ?_
  obtain ⟨E_a0, Fv_a0, Fc_a0, Fn_a0, V_a0⟩ := id B
  have ne_a0_bv : a0 ≠ bv := Exa.neArv E_a0 V_a0 (own_W hw 71 rfl)
  obtain ⟨E_a1, Fv_a1, Fc_a1, V_a1⟩ := id S1
  show Rest p.tables e below s _ _ _ (s₁.setTop (mkF m 0 #[.val (.ref a0), .val (.ref a1)] []))
  obtain ⟨T1, X1, e1, st1⟩ := getS2 X0 hx hZ hown (host := "") (Or.inl (own_W hw 83 rfl)) Via.refl eh0 (CS.1.ext (O.keep (Keep.refl h0 []) all0).2) (g := (mkF m 0 #[.val (.ref a0), .val (.ref a1)] [])) rfl (hb hby d17_0)
  refine Rest.via (fun t k => st1 t k) ?_
  show Rest p.tables e below s _ _ _ (T1.setTop (mkF m 3 #[.val (.ref a0), .val (.ref a1)] [(.int ic)]))
  refine Rest.via (fun t k => XS.ifNo X1.here hx rfl (hb hby d17_3) rfl ((if0 _ _).trans (feq (CS.2 : ¬ (ic = (0 : Int32)))).1) k) ?_
  show Rest p.tables e below s _ _ _ (T1.setTop (mkF m 6 #[.val (.ref a0), .val (.ref a1)] []))
  refine Rest.via (fun t k => XS.aloadN X1.here hx rfl (hb hby d17_6) rfl rfl k) ?_
  obtain ⟨T2, X2, e2, st2⟩ := getF X1 hx hZ hown (host := "") (Or.inl (own_W hw 86 rfl)) Via.refl e1 Fc_a0 (g := (mkF m 7 #[.val (.ref a0), .val (.ref a1)] [(.ref a0)])) rfl rfl (hb hby d17_7)
  refine Rest.via (fun t k => st2 t k) ?_
  show Rest p.tables e below s _ _ _ (T2.setTop (mkF m 10 #[.val (.ref a0), .val (.ref a1)] [(.int (0 : Int32))]))
  refine Rest.via (fun t k => XS.aloadN X2.here hx rfl (hb hby d17_10) rfl rfl k) ?_
  show Rest p.tables e below s _ _ _ (T2.setTop (mkF m 11 #[.val (.ref a0), .val (.ref a1)] [(.ref a1), (.int (0 : Int32))]))
  obtain ⟨cq3, kq3, q3a, q3b, q3c⟩ := isOf hZ e2 E_a1
  obtain ⟨_, _, ⟨T3, L3, k3, n3⟩, -, X3, ⟨Lc3, hQ3, l3, y3, z3⟩, st3⟩ := X2.virtualBack hx (y := (⟨"java/lang/String", "coder", "()B"⟩ : MethodName)) (z := (⟨"java/lang/String", "coder", "()B"⟩ : MethodName)) hown (mvT hZ (own_W hw 126 rfl)) (mvT hZ (own_W hw 104 rfl)) (notFace_of_selects (args := #[]) (mvT hZ (own_W hw 106 rfl))) (mvT hZ (own_W hw 106 rfl)) (mvT hZ (own_W hw 105 rfl)) (by decide) (backOf (W := 1) (rmSCo l Z aw hw [] a1 va k m0 ys ic h0 n0 (Nat.le_trans Z0 (Keep.refl h0 []).1) S1 (O.keep (Keep.refl h0 []) all0) CS) hZ (own_W hw 107 rfl) (own_W hw 6 rfl) (by decide) (by decide)) q3a q3c (g := (mkF m 11 #[.val (.ref a0), .val (.ref a1)] [(.ref a1), (.int (0 : Int32))])) rfl (by rw [hml]; rfl) (Steps.refl _) (argsL := []) (rest := [(.int (0 : Int32))]) (lenOf pd_5 rfl) rfl (by show 2 * 0 + _ ≤ _; exact Nat.le_of_eq rfl) (hb hby d17_11) (fun _ _ => ⟨rfl, e2, (by decide : 0 + 0 ≤ _), (by decide : 0 + 0 ≤ _)⟩)
  dsimp only [Pt.U, Pt.locs, Pt.cells, Pt.slots] at X3 l3 y3 z3 st3 hQ3
  subst l3 y3 z3
  obtain ⟨rfl, Nq3, e3⟩ := hQ3
  have N3 := Fr.app N0 Nq3
  refine Rest.via (fun t k => st3.trans k) ?_
  show Rest p.tables e below s _ _ _ (T3.setTop (mkF m 14 #[.val (.ref a0), .val (.ref a1)] [(.int (0 : Int32)), (.int (0 : Int32))]))
  refine Rest.via (fun t k => XS.icmpYes X3.here hx rfl (pc0 := 14) (pc' := 21) rfl (hb hby d17_14) rfl (teq (by decide : (0 : Int32) = (0 : Int32))).1 (by decide) (by decide) k) ?_
  show Rest p.tables e below s _ _ _ (T3.setTop (mkF m 21 #[.val (.ref a0), .val (.ref a1)] []))
  refine Rest.ret X3 (v := none) (fun _ => rfl) hlk (fun fs hr => X3.returnOut hx Bd.returns (hb hby d17_21) hr) ?_ (by decide) (by decide)
  rw [e3]
  exact ⟨rfl, N3, rfl⟩
theorem d18_0 : decode jdk_42_method_147_code 0 = .ok (.aload_n 0, 1) := by decide +kernel
theorem d18_1 : decode jdk_42_method_147_code 1 = .ok (.invokevirtual 335, 3) := by decide +kernel
theorem d18_4 : decode jdk_42_method_147_code 4 = .ok (.iload_n 3, 1) := by decide +kernel
theorem d18_5 : decode jdk_42_method_147_code 5 = .ok (.if_icmp .ne 23, 3) := by decide +kernel
theorem d18_8 : decode jdk_42_method_147_code 8 = .ok (.aload_n 0, 1) := by decide +kernel
theorem d18_9 : decode jdk_42_method_147_code 9 = .ok (.getfield 9, 3) := by decide +kernel
theorem d18_12 : decode jdk_42_method_147_code 12 = .ok (.iconst 0, 1) := by decide +kernel
theorem d18_13 : decode jdk_42_method_147_code 13 = .ok (.aload_n 1, 1) := by decide +kernel
theorem d18_14 : decode jdk_42_method_147_code 14 = .ok (.iload_n 2, 1) := by decide +kernel
theorem d18_15 : decode jdk_42_method_147_code 15 = .ok (.iload_n 3, 1) := by decide +kernel
theorem d18_16 : decode jdk_42_method_147_code 16 = .ok (.ishl, 1) := by decide +kernel
theorem d18_17 : decode jdk_42_method_147_code 17 = .ok (.aload_n 0, 1) := by decide +kernel
theorem d18_18 : decode jdk_42_method_147_code 18 = .ok (.getfield 9, 3) := by decide +kernel
theorem d18_21 : decode jdk_42_method_147_code 21 = .ok (.arraylength, 1) := by decide +kernel
theorem d18_22 : decode jdk_42_method_147_code 22 = .ok (.invokestatic 212, 3) := by decide +kernel
theorem d18_25 : decode jdk_42_method_147_code 25 = .ok (.goto 18, 3) := by decide +kernel
theorem d18_43 : decode jdk_42_method_147_code 43 = .ok (.return_, 1) := by decide +kernel
theorem ef_GB (m : MethodId) (a0 : Addr) (a1 : Addr) (p2 : Int32) : entryFrame m #[(.ref a0), (.ref a1), (.int p2), (.int (0 : Int32))] 4 = mkF m 0 #[.val (.ref a0), .val (.ref a1), .val (.int p2), .val (.int (0 : Int32))] [] := by first | (simp [entryFrame, mkF, argsToLocals, Value.category, maxLocals]; done) | rfl
def QGB (Z : State) (a0 : Addr) (a1 : Addr) (p2 : Int32) (kb : ClassId) (xs : List Int32) (va : Addr) (k : ClassId) (m0 : Int32) (ys : List Int32) (ic : Int32) (h0 : Heap) (n0 : Nat) (v : Option Value) (h : Heap) (L : List Loc) : Prop := v = none ∧ Fr n0 L ∧ Keep h0 h [a1] ∧ Arv Z h a1 kb .byte (16 : Int32) ((xs ++ ys).map Value.int) (.int (0 : Int32))
set_option maxRecDepth 65536 in
set_option maxHeartbeats 40000000 in
theorem rmGB (l : Launch) (Z : State) (aw : Array Value) (hw : ∀ d ∈ tables_1, d.before aw Z = true) (ws : List Jvm.Cond) (a0 : Addr) (a1 : Addr) (p2 : Int32) (kb : ClassId) (xs : List Int32) (va : Addr) (k : ClassId) (m0 : Int32) (ys : List Int32) (ic : Int32) (h0 : Heap) (n0 : Nat) (Z0 : n0 ≤ h0.size) (V1 : Arv Z h0 a1 kb .byte (16 : Int32) (xs.map Value.int) (.int (0 : Int32))) (S1 : own_St Z h0 a0 va k m0 (ys.map Value.int)) (lx : own_ln p2 xs) (ly : own_ln m0 ys) (hs : xs.length + ys.length ≤ 16) (g_a1 : n0 ≤ a1) (O : own_Old Z n0 h0) (CS : own_CS Z ic) :
    MetFree l (⟨"java/lang/String", "getBytes", "([BIB)V"⟩ : MethodName) (head1 (Jvm.Cond.code (⟨"java/lang/String", "getBytes", "([BIB)V"⟩ : MethodName) jdk_42_method_147_code 4 none :: ws) ({ frames := 1, cells := 0, slots := 0, locals := 40 } : Room)) (fun a U => a = #[(.ref a0), (.ref a1), (.int p2), (.int (0 : Int32))] ∧ Z.Warmed39 U.vm ∧ U.heap = h0) (fun _ _ _ _ _ => True) (fun _ U o U' => ∃ v L, o = .returned v ∧ QGB Z a0 a1 p2 kb xs va k m0 ys ic h0 n0 v U'.heap L ∧ FrameEnd U o U' L ({ frames := 1, cells := 0, slots := 0, locals := 40 } : Room).cells ({ frames := 1, cells := 0, slots := 0, locals := 40 } : Room).slots) := by
  refine MetFree.of_bodySF (plainFor_of_name pn_1) hisR ?_
  intro p e s m args below meth c s₁ Bd hml0 hP hK
  obtain ⟨rfl, hZ, hh⟩ := hP
  have hx := Bd.exec
  have hby := Bd.bytes
  have hml : c.maxLocals = 4 := hml0
  have hown : s.vm.findClass "java/lang/String" = some m.cls := findClass_of_methodNamed Bd.named
  have hnm := (name_of_methodNamed Bd.named Bd.method).1
  have hlk : meth.locks = false := BodyLoose.notSynchronized Bd
  have X0 : Stand p l e ({ frames := 1, cells := 0, slots := 0, locals := 40 } : Room) s m #[(.ref a0), (.ref a1), (.int p2), (.int (0 : Int32))] below meth c s₁ [] 0 0 := Stand.of_body Bd
  have _u := trivial
  have eh0 : s₁.heap = h0 := by rw [← hh, Bd.state]; rfl
  have N0 := Fr.nil n0
  show Rest p.tables e below s (QGB Z a0 a1 p2 kb xs va k m0 ys ic h0 n0) _ _ (s₁.setTop (entryFrame m #[(.ref a0), (.ref a1), (.int p2), (.int (0 : Int32))] 4))
  refine Rest.via (fun t k => castTop (ef_GB m a0 a1 p2) k) ?_
  obtain ⟨E_a0, Fv_a0, Fc_a0, V_a0⟩ := id S1
  show Rest p.tables e below s _ _ _ (s₁.setTop (mkF m 0 #[.val (.ref a0), .val (.ref a1), .val (.int p2), .val (.int (0 : Int32))] []))
  refine Rest.via (fun t k => XS.aloadN X0.here hx rfl (hb hby d18_0) rfl rfl k) ?_
  show Rest p.tables e below s _ _ _ (s₁.setTop (mkF m 1 #[.val (.ref a0), .val (.ref a1), .val (.int p2), .val (.int (0 : Int32))] [(.ref a0)]))
  obtain ⟨cq1, kq1, q1a, q1b, q1c⟩ := isOf hZ eh0 E_a0
  obtain ⟨_, _, ⟨T1, L1, k1, n1⟩, -, X1, ⟨Lc1, hQ1, l1, y1, z1⟩, st1⟩ := X0.virtualBack hx (y := (⟨"java/lang/String", "coder", "()B"⟩ : MethodName)) (z := (⟨"java/lang/String", "coder", "()B"⟩ : MethodName)) hown (mvT hZ (own_W hw 103 rfl)) (mvT hZ (own_W hw 104 rfl)) (notFace_of_selects (args := #[]) (mvT hZ (own_W hw 106 rfl))) (mvT hZ (own_W hw 106 rfl)) (mvT hZ (own_W hw 105 rfl)) (by decide) (backOf (W := 0) (rmSCo l Z aw hw [] a0 va k m0 ys ic h0 n0 (Nat.le_trans Z0 (Keep.refl h0 [a1]).1) S1 (O.keep (Keep.refl h0 [a1]) (allS g_a1 all0)) CS) hZ (own_W hw 107 rfl) (own_W hw 6 rfl) (by decide) (by decide)) q1a q1c (g := (mkF m 1 #[.val (.ref a0), .val (.ref a1), .val (.int p2), .val (.int (0 : Int32))] [(.ref a0)])) rfl (by rw [hml]; rfl) (Steps.refl _) (argsL := []) (rest := []) (lenOf pd_5 rfl) rfl (by show 2 * 0 + _ ≤ _; exact Nat.le_of_eq rfl) (hb hby d18_1) (fun _ _ => ⟨rfl, eh0, (by decide : 0 + 0 ≤ _), (by decide : 0 + 0 ≤ _)⟩)
  dsimp only [Pt.U, Pt.locs, Pt.cells, Pt.slots] at X1 l1 y1 z1 st1 hQ1
  subst l1 y1 z1
  obtain ⟨rfl, Nq1, e1⟩ := hQ1
  have N1 := Fr.app N0 Nq1
  refine Rest.via (fun t k => st1.trans k) ?_
  show Rest p.tables e below s _ _ _ (T1.setTop (mkF m 4 #[.val (.ref a0), .val (.ref a1), .val (.int p2), .val (.int (0 : Int32))] [(.int (0 : Int32))]))
  refine Rest.via (fun t k => XS.iloadN X1.here hx rfl (hb hby d18_4) rfl k) ?_
  refine Rest.via (fun t k => XS.icmpNo X1.here hx rfl (hb hby d18_5) rfl (teq (by decide : (0 : Int32) = (0 : Int32))).2 k) ?_
  show Rest p.tables e below s _ _ _ (T1.setTop (mkF m 8 #[.val (.ref a0), .val (.ref a1), .val (.int p2), .val (.int (0 : Int32))] []))
  refine Rest.via (fun t k => XS.aloadN X1.here hx rfl (hb hby d18_8) rfl rfl k) ?_
  obtain ⟨T2, X2, e2, st2⟩ := getF X1 hx hZ hown (host := "") (Or.inl (own_W hw 24 rfl)) Via.refl e1 Fv_a0 (g := (mkF m 9 #[.val (.ref a0), .val (.ref a1), .val (.int p2), .val (.int (0 : Int32))] [(.ref a0)])) rfl rfl (hb hby d18_9)
  refine Rest.via (fun t k => st2 t k) ?_
  show Rest p.tables e below s _ _ _ (T2.setTop (mkF m 12 #[.val (.ref a0), .val (.ref a1), .val (.int p2), .val (.int (0 : Int32))] [(.ref va)]))
  refine Rest.via (fun t k => XS.iconst X2.here hx rfl (hb hby d18_12) k) ?_
  refine Rest.via (fun t k => XS.aloadN X2.here hx rfl (hb hby d18_13) rfl rfl k) ?_
  refine Rest.via (fun t k => XS.iloadN X2.here hx rfl (hb hby d18_14) rfl k) ?_
  refine Rest.via (fun t k => XS.iloadN X2.here hx rfl (hb hby d18_15) rfl k) ?_
  show Rest p.tables e below s _ _ _ (T2.setTop (mkF m 16 #[.val (.ref a0), .val (.ref a1), .val (.int p2), .val (.int (0 : Int32))] [(.int (0 : Int32)), (.int p2), (.ref a1), (.int (0 : Int32)), (.ref va)]))
  refine Rest.via (fun t k => XS.ishl X2.here hx rfl (hb hby d18_16) rfl k) ?_
  show Rest p.tables e below s _ _ _ (T2.setTop (mkF m 17 #[.val (.ref a0), .val (.ref a1), .val (.int p2), .val (.int (0 : Int32))] [(.int (p2 <<< ((0 : Int32) &&& 31))), (.ref a1), (.int (0 : Int32)), (.ref va)]))
  rw [own_shl0]
  show Rest p.tables e below s _ _ _ (T2.setTop (mkF m 17 #[.val (.ref a0), .val (.ref a1), .val (.int p2), .val (.int (0 : Int32))] [(.int p2), (.ref a1), (.int (0 : Int32)), (.ref va)]))
  refine Rest.via (fun t k => XS.aloadN X2.here hx rfl (hb hby d18_17) rfl rfl k) ?_
  obtain ⟨T3, X3, e3, st3⟩ := getF X2 hx hZ hown (host := "") (Or.inl (own_W hw 24 rfl)) Via.refl e2 Fv_a0 (g := (mkF m 18 #[.val (.ref a0), .val (.ref a1), .val (.int p2), .val (.int (0 : Int32))] [(.ref a0), (.int p2), (.ref a1), (.int (0 : Int32)), (.ref va)])) rfl rfl (hb hby d18_18)
  refine Rest.via (fun t k => st3 t k) ?_
  show Rest p.tables e below s _ _ _ (T3.setTop (mkF m 21 #[.val (.ref a0), .val (.ref a1), .val (.int p2), .val (.int (0 : Int32))] [(.ref va), (.int p2), (.ref a1), (.int (0 : Int32)), (.ref va)]))
  obtain ⟨cl4, Ar4, -, S4, P4, -, -⟩ := id V_a0
  refine Rest.via (fun t k => X3.arraylength hx (by rw [e3]; exact Ar4.1) (State.isArrayOf_alike hZ.alike Ar4.2.1) (g := (mkF m 21 #[.val (.ref a0), .val (.ref a1), .val (.int p2), .val (.int (0 : Int32))] [(.ref va), (.int p2), (.ref a1), (.int (0 : Int32)), (.ref va)])) rfl rfl (hb hby d18_21) t k) ?_
  rw [len_of S4 P4]
  show Rest p.tables e below s _ _ _ (T3.setTop (mkF m 22 #[.val (.ref a0), .val (.ref a1), .val (.int p2), .val (.int (0 : Int32))] [(.int m0), (.int p2), (.ref a1), (.int (0 : Int32)), (.ref va)]))
  obtain ⟨T5, h5, L5, X5, e5, Kq5, Nq5, V5, st5⟩ := own_copy X3 hx hZ hown (own_W hw 132 rfl) (own_W hw 135 rfl) (own_W hw 133 rfl) (own_W hw 134 rfl) e3 V_a0 V1 (by rw [List.length_map]; exact lx.of) (by rw [List.length_map]; exact ly.of) (by rw [List.length_map, ly.cl]; exact Nat.le_refl _) (by rw [List.length_map, List.length_map]; exact hs) (g := (mkF m 22 #[.val (.ref a0), .val (.ref a1), .val (.int p2), .val (.int (0 : Int32))] [(.int m0), (.int p2), (.ref a1), (.int (0 : Int32)), (.ref va)])) rfl (by rw [hml]; rfl) rfl (hb hby d18_22) (W := 0) (by show 2 * 0 + _ ≤ _; exact Nat.le_of_eq rfl) (by decide) (by decide)
  refine Rest.via (fun t k => st5 t k) ?_
  have N5 := Fr.app N1 (Nq5 _ g_a1)
  have K5 : Keep h0 h5 [a1] := (Keep.refl h0 [a1]).trans Kq5 (allS (Or.inl (List.mem_of_getElem? (i := 0) rfl)) all0)
  have Vc5 : Arv Z h5 a1 kb .byte (16 : Int32) ((xs ++ ys).map Value.int) (.int (0 : Int32)) := by have q := V5; rw [← List.map_append] at q; exact q
  show Rest p.tables e below s _ _ _ (T5.setTop (mkF m 25 #[.val (.ref a0), .val (.ref a1), .val (.int p2), .val (.int (0 : Int32))] []))
  refine Rest.via (fun t k => XS.goto X5.here hx rfl (pc0 := 25) (pc' := 43) rfl (hb hby d18_25) (by decide) (by decide) k) ?_
  refine Rest.ret X5 (v := none) (fun _ => rfl) hlk (fun fs hr => X5.returnOut hx Bd.returns (hb hby d18_43) hr) ?_ (by decide) (by decide)
  rw [e5]
  exact ⟨rfl, N5, K5, Vc5⟩
theorem pd_8 : parseMethodDescriptor "(Ljava/lang/String;)V" = some ⟨[(.object "java/lang/String")], none⟩ := by decide +kernel
theorem pd_9 : parseMethodDescriptor "([BIB)V" = some ⟨[(.array .byte), .int, .byte], none⟩ := by decide +kernel
theorem d16_0 : decode jdk_68_method_73_code 0 = .ok (.aload_n 0, 1) := by decide +kernel
theorem d16_1 : decode jdk_68_method_73_code 1 = .ok (.aload_n 2, 1) := by decide +kernel
theorem d16_2 : decode jdk_68_method_73_code 2 = .ok (.invokevirtual 397, 3) := by decide +kernel
theorem d16_5 : decode jdk_68_method_73_code 5 = .ok (.aload_n 2, 1) := by decide +kernel
theorem d16_6 : decode jdk_68_method_73_code 6 = .ok (.aload_n 0, 1) := by decide +kernel
theorem d16_7 : decode jdk_68_method_73_code 7 = .ok (.getfield 15, 3) := by decide +kernel
theorem d16_10 : decode jdk_68_method_73_code 10 = .ok (.iload_n 1, 1) := by decide +kernel
theorem d16_11 : decode jdk_68_method_73_code 11 = .ok (.aload_n 0, 1) := by decide +kernel
theorem d16_12 : decode jdk_68_method_73_code 12 = .ok (.getfield 22, 3) := by decide +kernel
theorem d16_15 : decode jdk_68_method_73_code 15 = .ok (.invokevirtual 399, 3) := by decide +kernel
theorem d16_18 : decode jdk_68_method_73_code 18 = .ok (.return_, 1) := by decide +kernel
theorem ef_PSA (m : MethodId) (a0 : Addr) (p1 : Int32) (a2 : Addr) : entryFrame m #[(.ref a0), (.int p1), (.ref a2)] 3 = mkF m 0 #[.val (.ref a0), .val (.int p1), .val (.ref a2)] [] := by first | (simp [entryFrame, mkF, argsToLocals, Value.category, maxLocals]; done) | rfl
def QPSA (Z : State) (a0 : Addr) (p1 : Int32) (a2 : Addr) (bv : Addr) (kb : ClassId) (cn : Int32) (xs : List Int32) (va : Addr) (k : ClassId) (m0 : Int32) (ys : List Int32) (ic : Int32) (h0 : Heap) (n0 : Nat) (v : Option Value) (h : Heap) (L : List Loc) : Prop := v = none ∧ Fr n0 L ∧ Keep h0 h [bv] ∧ Arv Z h bv kb .byte (16 : Int32) ((xs ++ ys).map Value.int) (.int (0 : Int32))
set_option maxRecDepth 65536 in
set_option maxHeartbeats 40000000 in
theorem rmPSA (l : Launch) (Z : State) (aw : Array Value) (hw : ∀ d ∈ tables_1, d.before aw Z = true) (ws : List Jvm.Cond) (a0 : Addr) (p1 : Int32) (a2 : Addr) (bv : Addr) (kb : ClassId) (cn : Int32) (xs : List Int32) (va : Addr) (k : ClassId) (m0 : Int32) (ys : List Int32) (ic : Int32) (h0 : Heap) (n0 : Nat) (Z0 : n0 ≤ h0.size) (B : own_SB Z h0 a0 bv kb cn (xs.map Value.int)) (S1 : own_St Z h0 a2 va k m0 (ys.map Value.int)) (lx : own_ln p1 xs) (ly : own_ln m0 ys) (hs : xs.length + ys.length ≤ 16) (g_bv : n0 ≤ bv) (O : own_Old Z n0 h0) (CS : own_CS Z ic) :
    MetFree l (⟨"java/lang/AbstractStringBuilder", "putStringAt", "(ILjava/lang/String;)V"⟩ : MethodName) (head1 (Jvm.Cond.code (⟨"java/lang/AbstractStringBuilder", "putStringAt", "(ILjava/lang/String;)V"⟩ : MethodName) jdk_68_method_73_code 3 none :: ws) ({ frames := 2, cells := 0, slots := 0, locals := 55 } : Room)) (fun a U => a = #[(.ref a0), (.int p1), (.ref a2)] ∧ Z.Warmed39 U.vm ∧ U.heap = h0) (fun _ _ _ _ _ => True) (fun _ U o U' => ∃ v L, o = .returned v ∧ QPSA Z a0 p1 a2 bv kb cn xs va k m0 ys ic h0 n0 v U'.heap L ∧ FrameEnd U o U' L ({ frames := 2, cells := 0, slots := 0, locals := 55 } : Room).cells ({ frames := 2, cells := 0, slots := 0, locals := 55 } : Room).slots) := by
  refine MetFree.of_bodySF (plainFor_of_name pn_3) hisR ?_
  intro p e s m args below meth c s₁ Bd hml0 hP hK
  obtain ⟨rfl, hZ, hh⟩ := hP
  have hx := Bd.exec
  have hby := Bd.bytes
  have hml : c.maxLocals = 3 := hml0
  have hown : s.vm.findClass "java/lang/AbstractStringBuilder" = some m.cls := findClass_of_methodNamed Bd.named
  have hnm := (name_of_methodNamed Bd.named Bd.method).1
  have hlk : meth.locks = false := BodyLoose.notSynchronized Bd
  have X0 : Stand p l e ({ frames := 2, cells := 0, slots := 0, locals := 55 } : Room) s m #[(.ref a0), (.int p1), (.ref a2)] below meth c s₁ [] 0 0 := Stand.of_body Bd
  have _u := trivial
  have eh0 : s₁.heap = h0 := by rw [← hh, Bd.state]; rfl
  have N0 := Fr.nil n0
  show Rest p.tables e below s (QPSA Z a0 p1 a2 bv kb cn xs va k m0 ys ic h0 n0) _ _ (s₁.setTop (entryFrame m #[(.ref a0), (.int p1), (.ref a2)] 3))
  refine Rest.via (fun t k => castTop (ef_PSA m a0 p1 a2) k) ?_
  obtain ⟨E_a0, Fv_a0, Fc_a0, Fn_a0, V_a0⟩ := id B
  have ne_a0_bv : a0 ≠ bv := Exa.neArv E_a0 V_a0 (own_W hw 71 rfl)
  obtain ⟨E_a2, Fv_a2, Fc_a2, V_a2⟩ := id S1
  show Rest p.tables e below s _ _ _ (s₁.setTop (mkF m 0 #[.val (.ref a0), .val (.int p1), .val (.ref a2)] []))
  refine Rest.via (fun t k => XS.aloadN X0.here hx rfl (hb hby d16_0) rfl rfl k) ?_
  refine Rest.via (fun t k => XS.aloadN X0.here hx rfl (hb hby d16_1) rfl rfl k) ?_
  show Rest p.tables e below s _ _ _ (s₁.setTop (mkF m 2 #[.val (.ref a0), .val (.int p1), .val (.ref a2)] [(.ref a2), (.ref a0)]))
  obtain ⟨cq1, qz1, qz1'⟩ := (E_a0).cell
  obtain ⟨_, _, ⟨T1, L1, k1, n1⟩, -, X1, ⟨Lc1, hQ1, l1, y1, z1⟩, st1⟩ := X0.privateBack hx (y := (⟨"java/lang/AbstractStringBuilder", "inflateIfNeededFor", "(Ljava/lang/String;)V"⟩ : MethodName)) hown (mvT hZ (own_W hw 121 rfl)) (mvT hZ (own_W hw 122 rfl)) (own_selup (mvT hZ (own_W hw 124 rfl) (args := #[])) (mvP hZ (own_W hw 123 rfl) (args := #[])) (mvT hZ (own_W hw 122 rfl) (args := #[])) (by decide)) (Cond.privateMethod_at (mvP hZ (own_W hw 123 rfl) (args := #[]))) (mvT hZ (own_W hw 125 rfl)) (by decide) (backOf (W := 0) (rmINF l Z aw hw [] a0 a2 bv kb cn xs va k m0 ys ic h0 n0 (Nat.le_trans Z0 (Keep.refl h0 [bv]).1) B S1 (O.keep (Keep.refl h0 [bv]) (allS g_bv all0)) CS) hZ (own_W hw 125 rfl) (own_W hw 80 rfl) (by decide) (by decide)) (g := (mkF m 2 #[.val (.ref a0), .val (.int p1), .val (.ref a2)] [(.ref a2), (.ref a0)])) rfl (by rw [hml]; rfl) (Steps.refl _) (a := a0) (by rw [eh0]; exact qz1) qz1' (argsL := [(.ref a2)]) (rest := []) (lenOf pd_8 rfl) rfl (by show 2 * 0 + _ ≤ _; exact Nat.le_of_eq rfl) (hb hby d16_2) (fun _ _ => ⟨rfl, eh0, (by decide : 0 + 0 ≤ _), (by decide : 0 + 0 ≤ _)⟩)
  dsimp only [Pt.U, Pt.locs, Pt.cells, Pt.slots] at X1 l1 y1 z1 st1 hQ1
  subst l1 y1 z1
  obtain ⟨rfl, Nq1, e1⟩ := hQ1
  have N1 := Fr.app N0 Nq1
  refine Rest.via (fun t k => st1.trans k) ?_
  show Rest p.tables e below s _ _ _ (T1.setTop (mkF m 5 #[.val (.ref a0), .val (.int p1), .val (.ref a2)] []))
  refine Rest.via (fun t k => XS.aloadN X1.here hx rfl (hb hby d16_5) rfl rfl k) ?_
  refine Rest.via (fun t k => XS.aloadN X1.here hx rfl (hb hby d16_6) rfl rfl k) ?_
  obtain ⟨T2, X2, e2, st2⟩ := getF X1 hx hZ hown (host := "") (Or.inl (own_W hw 84 rfl)) Via.refl e1 Fv_a0 (g := (mkF m 7 #[.val (.ref a0), .val (.int p1), .val (.ref a2)] [(.ref a0), (.ref a2)])) rfl rfl (hb hby d16_7)
  refine Rest.via (fun t k => st2 t k) ?_
  show Rest p.tables e below s _ _ _ (T2.setTop (mkF m 10 #[.val (.ref a0), .val (.int p1), .val (.ref a2)] [(.ref bv), (.ref a2)]))
  refine Rest.via (fun t k => XS.iloadN X2.here hx rfl (hb hby d16_10) rfl k) ?_
  refine Rest.via (fun t k => XS.aloadN X2.here hx rfl (hb hby d16_11) rfl rfl k) ?_
  obtain ⟨T3, X3, e3, st3⟩ := getF X2 hx hZ hown (host := "") (Or.inl (own_W hw 86 rfl)) Via.refl e2 Fc_a0 (g := (mkF m 12 #[.val (.ref a0), .val (.int p1), .val (.ref a2)] [(.ref a0), (.int p1), (.ref bv), (.ref a2)])) rfl rfl (hb hby d16_12)
  refine Rest.via (fun t k => st3 t k) ?_
  show Rest p.tables e below s _ _ _ (T3.setTop (mkF m 15 #[.val (.ref a0), .val (.int p1), .val (.ref a2)] [(.int (0 : Int32)), (.int p1), (.ref bv), (.ref a2)]))
  obtain ⟨cq4, kq4, q4a, q4b, q4c⟩ := isOf hZ e3 E_a2
  obtain ⟨_, _, ⟨T4, L4, k4, n4⟩, -, X4, ⟨Lc4, hQ4, l4, y4, z4⟩, st4⟩ := X3.virtualBack hx (y := (⟨"java/lang/String", "getBytes", "([BIB)V"⟩ : MethodName)) (z := (⟨"java/lang/String", "getBytes", "([BIB)V"⟩ : MethodName)) hown (mvT hZ (own_W hw 127 rfl)) (mvT hZ (own_W hw 128 rfl)) (notFace_of_selects (args := #[]) (mvT hZ (own_W hw 130 rfl))) (mvT hZ (own_W hw 130 rfl)) (mvT hZ (own_W hw 129 rfl)) (by decide) (backOf (W := 0) (rmGB l Z aw hw [] a2 bv p1 kb xs va k m0 ys ic h0 n0 (Nat.le_trans Z0 (Keep.refl h0 [bv]).1) V_a0 S1 lx ly hs g_bv (O.keep (Keep.refl h0 [bv]) (allS g_bv all0)) CS) hZ (own_W hw 131 rfl) (own_W hw 6 rfl) (by decide) (by decide)) q4a q4c (g := (mkF m 15 #[.val (.ref a0), .val (.int p1), .val (.ref a2)] [(.int (0 : Int32)), (.int p1), (.ref bv), (.ref a2)])) rfl (by rw [hml]; rfl) (Steps.refl _) (argsL := [(.ref bv), (.int p1), (.int (0 : Int32))]) (rest := []) (lenOf pd_9 rfl) rfl (by show 2 * 0 + _ ≤ _; exact Nat.le_of_eq rfl) (hb hby d16_15) (fun _ _ => ⟨rfl, e3, (by decide : 0 + 0 ≤ _), (by decide : 0 + 0 ≤ _)⟩)
  dsimp only [Pt.U, Pt.locs, Pt.cells, Pt.slots] at X4 l4 y4 z4 st4 hQ4
  subst l4 y4 z4
  obtain ⟨h4, e4⟩ : ∃ z, T4.heap = z := ⟨_, rfl⟩
  rw [e4] at hQ4
  obtain ⟨rfl, Nq4, Kq4, Vq4⟩ := hQ4
  have N4 := Fr.app N1 Nq4
  have K4 : Keep h0 h4 [bv] := (Keep.refl h0 [bv]).trans Kq4 (allS (Or.inl (List.mem_of_getElem? (i := 0) rfl)) all0)
  refine Rest.via (fun t k => st4.trans k) ?_
  show Rest p.tables e below s _ _ _ (T4.setTop (mkF m 18 #[.val (.ref a0), .val (.int p1), .val (.ref a2)] []))
  refine Rest.ret X4 (v := none) (fun _ => rfl) hlk (fun fs hr => X4.returnOut hx Bd.returns (hb hby d16_18) hr) ?_ (by decide) (by decide)
  rw [e4]
  exact ⟨rfl, N4, K4, Vq4⟩
theorem pd_10 : parseMethodDescriptor "(ILjava/lang/String;)V" = some ⟨[.int, (.object "java/lang/String")], none⟩ := by decide +kernel
theorem d12_0 : decode jdk_68_method_22_code 0 = .ok (.aload_n 1, 1) := by decide +kernel
theorem d12_1 : decode jdk_68_method_22_code 1 = .ok (.ifnonnull 8, 3) := by decide +kernel
theorem d12_9 : decode jdk_68_method_22_code 9 = .ok (.aload_n 1, 1) := by decide +kernel
theorem d12_10 : decode jdk_68_method_22_code 10 = .ok (.invokevirtual 32, 3) := by decide +kernel
theorem d12_13 : decode jdk_68_method_22_code 13 = .ok (.istore_n 2, 1) := by decide +kernel
theorem d12_14 : decode jdk_68_method_22_code 14 = .ok (.aload_n 0, 1) := by decide +kernel
theorem d12_15 : decode jdk_68_method_22_code 15 = .ok (.aload_n 0, 1) := by decide +kernel
theorem d12_16 : decode jdk_68_method_22_code 16 = .ok (.getfield 79, 3) := by decide +kernel
theorem d12_19 : decode jdk_68_method_22_code 19 = .ok (.iload_n 2, 1) := by decide +kernel
theorem d12_20 : decode jdk_68_method_22_code 20 = .ok (.iadd, 1) := by decide +kernel
theorem d12_21 : decode jdk_68_method_22_code 21 = .ok (.invokevirtual 100, 3) := by decide +kernel
theorem d12_24 : decode jdk_68_method_22_code 24 = .ok (.aload_n 0, 1) := by decide +kernel
theorem d12_25 : decode jdk_68_method_22_code 25 = .ok (.aload_n 0, 1) := by decide +kernel
theorem d12_26 : decode jdk_68_method_22_code 26 = .ok (.getfield 79, 3) := by decide +kernel
theorem d12_29 : decode jdk_68_method_22_code 29 = .ok (.aload_n 1, 1) := by decide +kernel
theorem d12_30 : decode jdk_68_method_22_code 30 = .ok (.invokevirtual 208, 3) := by decide +kernel
theorem d12_33 : decode jdk_68_method_22_code 33 = .ok (.aload_n 0, 1) := by decide +kernel
theorem d12_34 : decode jdk_68_method_22_code 34 = .ok (.dup, 1) := by decide +kernel
theorem d12_35 : decode jdk_68_method_22_code 35 = .ok (.getfield 79, 3) := by decide +kernel
theorem d12_38 : decode jdk_68_method_22_code 38 = .ok (.iload_n 2, 1) := by decide +kernel
theorem d12_39 : decode jdk_68_method_22_code 39 = .ok (.iadd, 1) := by decide +kernel
theorem d12_40 : decode jdk_68_method_22_code 40 = .ok (.putfield 79, 3) := by decide +kernel
theorem d12_43 : decode jdk_68_method_22_code 43 = .ok (.aload_n 0, 1) := by decide +kernel
theorem d12_44 : decode jdk_68_method_22_code 44 = .ok (.areturn, 1) := by decide +kernel
theorem ef_AAS (m : MethodId) (a0 : Addr) (a1 : Addr) : entryFrame m #[(.ref a0), (.ref a1)] 3 = mkF m 0 #[.val (.ref a0), .val (.ref a1), .unset] [] := by first | (simp [entryFrame, mkF, argsToLocals, Value.category, maxLocals]; done) | rfl
def QAAS (Z : State) (a0 : Addr) (a1 : Addr) (bv : Addr) (kb : ClassId) (cn : Int32) (xs : List Int32) (va : Addr) (k : ClassId) (m0 : Int32) (ys : List Int32) (ic : Int32) (h0 : Heap) (n0 : Nat) (v : Option Value) (h : Heap) (L : List Loc) : Prop := v = some (.ref a0) ∧ Fr n0 L ∧ Keep h0 h [a0, bv] ∧ own_SB Z h a0 bv kb (cn + m0) ((xs ++ ys).map Value.int)
set_option maxRecDepth 65536 in
set_option maxHeartbeats 40000000 in
theorem rmAAS (l : Launch) (Z : State) (aw : Array Value) (hw : ∀ d ∈ tables_1, d.before aw Z = true) (ws : List Jvm.Cond) (a0 : Addr) (a1 : Addr) (bv : Addr) (kb : ClassId) (cn : Int32) (xs : List Int32) (va : Addr) (k : ClassId) (m0 : Int32) (ys : List Int32) (ic : Int32) (h0 : Heap) (n0 : Nat) (Z0 : n0 ≤ h0.size) (B : own_SB Z h0 a0 bv kb cn (xs.map Value.int)) (S1 : own_St Z h0 a1 va k m0 (ys.map Value.int)) (lx : own_ln cn xs) (ly : own_ln m0 ys) (hs : xs.length + ys.length ≤ 16) (g_a0 : n0 ≤ a0) (g_bv : n0 ≤ bv) (O : own_Old Z n0 h0) (CS : own_CS Z ic) :
    MetFree l (⟨"java/lang/AbstractStringBuilder", "append", "(Ljava/lang/String;)Ljava/lang/AbstractStringBuilder;"⟩ : MethodName) (head1 (Jvm.Cond.code (⟨"java/lang/AbstractStringBuilder", "append", "(Ljava/lang/String;)Ljava/lang/AbstractStringBuilder;"⟩ : MethodName) jdk_68_method_22_code 3 (some (.object "java/lang/AbstractStringBuilder")) :: ws) ({ frames := 3, cells := 0, slots := 0, locals := 69 } : Room)) (fun a U => a = #[(.ref a0), (.ref a1)] ∧ Z.Warmed39 U.vm ∧ U.heap = h0) (fun _ _ _ _ _ => True) (fun _ U o U' => ∃ v L, o = .returned v ∧ QAAS Z a0 a1 bv kb cn xs va k m0 ys ic h0 n0 v U'.heap L ∧ FrameEnd U o U' L ({ frames := 3, cells := 0, slots := 0, locals := 69 } : Room).cells ({ frames := 3, cells := 0, slots := 0, locals := 69 } : Room).slots) := by
  refine MetFree.of_bodySF (plainFor_of_name pn_3) hisR ?_
  intro p e s m args below meth c s₁ Bd hml0 hP hK
  obtain ⟨rfl, hZ, hh⟩ := hP
  have hx := Bd.exec
  have hby := Bd.bytes
  have hml : c.maxLocals = 3 := hml0
  have hown : s.vm.findClass "java/lang/AbstractStringBuilder" = some m.cls := findClass_of_methodNamed Bd.named
  have hnm := (name_of_methodNamed Bd.named Bd.method).1
  have hlk : meth.locks = false := BodyLoose.notSynchronized Bd
  have X0 : Stand p l e ({ frames := 3, cells := 0, slots := 0, locals := 69 } : Room) s m #[(.ref a0), (.ref a1)] below meth c s₁ [] 0 0 := Stand.of_body Bd
  have _u := trivial
  have eh0 : s₁.heap = h0 := by rw [← hh, Bd.state]; rfl
  have N0 := Fr.nil n0
  show Rest p.tables e below s (QAAS Z a0 a1 bv kb cn xs va k m0 ys ic h0 n0) _ _ (s₁.setTop (entryFrame m #[(.ref a0), (.ref a1)] 3))
  refine Rest.via (fun t k => castTop (ef_AAS m a0 a1) k) ?_
  obtain ⟨E_a0, Fv_a0, Fc_a0, Fn_a0, V_a0⟩ := id B
  have ne_a0_bv : a0 ≠ bv := Exa.neArv E_a0 V_a0 (own_W hw 71 rfl)
  obtain ⟨E_a1, Fv_a1, Fc_a1, V_a1⟩ := id S1
  show Rest p.tables e below s _ _ _ (s₁.setTop (mkF m 0 #[.val (.ref a0), .val (.ref a1), .unset] []))
  refine Rest.via (fun t k => XS.aloadN X0.here hx rfl (hb hby d12_0) rfl rfl k) ?_
  refine Rest.via (fun t k => XS.ifnonnullYes X0.here hx rfl (pc0 := 1) (pc' := 9) rfl (hb hby d12_1) rfl (by decide) (by decide) k) ?_
  show Rest p.tables e below s _ _ _ (s₁.setTop (mkF m 9 #[.val (.ref a0), .val (.ref a1), .unset] []))
  refine Rest.via (fun t k => XS.aloadN X0.here hx rfl (hb hby d12_9) rfl rfl k) ?_
  show Rest p.tables e below s _ _ _ (s₁.setTop (mkF m 10 #[.val (.ref a0), .val (.ref a1), .unset] [(.ref a1)]))
  obtain ⟨cq1, kq1, q1a, q1b, q1c⟩ := isOf hZ eh0 E_a1
  obtain ⟨_, _, ⟨T1, L1, k1, n1⟩, -, X1, ⟨Lc1, hQ1, l1, y1, z1⟩, st1⟩ := X0.virtualBack hx (y := (⟨"java/lang/String", "length", "()I"⟩ : MethodName)) (z := (⟨"java/lang/String", "length", "()I"⟩ : MethodName)) hown (mvT hZ (own_W hw 98 rfl)) (mvT hZ (own_W hw 99 rfl)) (notFace_of_selects (args := #[]) (mvT hZ (own_W hw 101 rfl))) (mvT hZ (own_W hw 101 rfl)) (mvT hZ (own_W hw 100 rfl)) (by decide) (backOf (W := 0) (rmSLn l Z aw hw [] a1 va k m0 ys ic h0 n0 (Nat.le_trans Z0 (Keep.refl h0 [a0, bv]).1) S1 (O.keep (Keep.refl h0 [a0, bv]) (allS g_a0 (allS g_bv all0))) CS) hZ (own_W hw 102 rfl) (own_W hw 6 rfl) (by decide) (by decide)) q1a q1c (g := (mkF m 10 #[.val (.ref a0), .val (.ref a1), .unset] [(.ref a1)])) rfl (by rw [hml]; rfl) (Steps.refl _) (argsL := []) (rest := []) (lenOf pd_7 rfl) rfl (by show 2 * 0 + _ ≤ _; exact Nat.le_of_eq rfl) (hb hby d12_10) (fun _ _ => ⟨rfl, eh0, (by decide : 0 + 0 ≤ _), (by decide : 0 + 0 ≤ _)⟩)
  dsimp only [Pt.U, Pt.locs, Pt.cells, Pt.slots] at X1 l1 y1 z1 st1 hQ1
  subst l1 y1 z1
  obtain ⟨rfl, Nq1, e1⟩ := hQ1
  have N1 := Fr.app N0 Nq1
  refine Rest.via (fun t k => st1.trans k) ?_
  show Rest p.tables e below s _ _ _ (T1.setTop (mkF m 13 #[.val (.ref a0), .val (.ref a1), .unset] [(.int m0)]))
  refine Rest.via (fun t k => XS.istoreN X1.here hx rfl (hb hby d12_13) rfl (l' := #[.val (.ref a0), .val (.ref a1), .val (.int m0)]) rfl k) ?_
  refine Rest.via (fun t k => XS.aloadN X1.here hx rfl (hb hby d12_14) rfl rfl k) ?_
  refine Rest.via (fun t k => XS.aloadN X1.here hx rfl (hb hby d12_15) rfl rfl k) ?_
  obtain ⟨T2, X2, e2, st2⟩ := getF X1 hx hZ hown (host := "") (Or.inl (own_W hw 109 rfl)) Via.refl e1 Fn_a0 (g := (mkF m 16 #[.val (.ref a0), .val (.ref a1), .val (.int m0)] [(.ref a0), (.ref a0)])) rfl rfl (hb hby d12_16)
  refine Rest.via (fun t k => st2 t k) ?_
  show Rest p.tables e below s _ _ _ (T2.setTop (mkF m 19 #[.val (.ref a0), .val (.ref a1), .val (.int m0)] [(.int cn), (.ref a0)]))
  refine Rest.via (fun t k => XS.iloadN X2.here hx rfl (hb hby d12_19) rfl k) ?_
  refine Rest.via (fun t k => XS.iadd X2.here hx rfl (hb hby d12_20) rfl k) ?_
  show Rest p.tables e below s _ _ _ (T2.setTop (mkF m 21 #[.val (.ref a0), .val (.ref a1), .val (.int m0)] [(.int (cn + m0)), (.ref a0)]))
  obtain ⟨cq3, qz3, qz3'⟩ := (E_a0).cell
  obtain ⟨_, _, ⟨T3, L3, k3, n3⟩, -, X3, ⟨Lc3, hQ3, l3, y3, z3⟩, st3⟩ := X2.privateBack hx (y := (⟨"java/lang/AbstractStringBuilder", "ensureCapacityInternal", "(I)V"⟩ : MethodName)) hown (mvT hZ (own_W hw 111 rfl)) (mvT hZ (own_W hw 112 rfl)) (own_selup (mvT hZ (own_W hw 114 rfl) (args := #[])) (mvP hZ (own_W hw 113 rfl) (args := #[])) (mvT hZ (own_W hw 112 rfl) (args := #[])) (by decide)) (Cond.privateMethod_at (mvP hZ (own_W hw 113 rfl) (args := #[]))) (mvT hZ (own_W hw 115 rfl)) (by decide) (backOf (W := 0) (rmECI l Z aw hw [] a0 (cn + m0) bv kb cn xs h0 n0 (Nat.le_trans Z0 (Keep.refl h0 [a0, bv]).1) B (own_room (lx.app ly hs))) hZ (own_W hw 115 rfl) (own_W hw 80 rfl) (by decide) (by decide)) (g := (mkF m 21 #[.val (.ref a0), .val (.ref a1), .val (.int m0)] [(.int (cn + m0)), (.ref a0)])) rfl (by rw [hml]; rfl) (Steps.refl _) (a := a0) (by rw [e2]; exact qz3) qz3' (argsL := [(.int (cn + m0))]) (rest := []) (lenOf pd_6 rfl) rfl (by show 2 * 0 + _ ≤ _; exact Nat.le_of_eq rfl) (hb hby d12_21) (fun _ _ => ⟨rfl, e2, (by decide : 0 + 0 ≤ _), (by decide : 0 + 0 ≤ _)⟩)
  dsimp only [Pt.U, Pt.locs, Pt.cells, Pt.slots] at X3 l3 y3 z3 st3 hQ3
  subst l3 y3 z3
  obtain ⟨rfl, Nq3, e3⟩ := hQ3
  have N3 := Fr.app N1 Nq3
  refine Rest.via (fun t k => st3.trans k) ?_
  show Rest p.tables e below s _ _ _ (T3.setTop (mkF m 24 #[.val (.ref a0), .val (.ref a1), .val (.int m0)] []))
  refine Rest.via (fun t k => XS.aloadN X3.here hx rfl (hb hby d12_24) rfl rfl k) ?_
  refine Rest.via (fun t k => XS.aloadN X3.here hx rfl (hb hby d12_25) rfl rfl k) ?_
  obtain ⟨T4, X4, e4, st4⟩ := getF X3 hx hZ hown (host := "") (Or.inl (own_W hw 109 rfl)) Via.refl e3 Fn_a0 (g := (mkF m 26 #[.val (.ref a0), .val (.ref a1), .val (.int m0)] [(.ref a0), (.ref a0)])) rfl rfl (hb hby d12_26)
  refine Rest.via (fun t k => st4 t k) ?_
  show Rest p.tables e below s _ _ _ (T4.setTop (mkF m 29 #[.val (.ref a0), .val (.ref a1), .val (.int m0)] [(.int cn), (.ref a0)]))
  refine Rest.via (fun t k => XS.aloadN X4.here hx rfl (hb hby d12_29) rfl rfl k) ?_
  show Rest p.tables e below s _ _ _ (T4.setTop (mkF m 30 #[.val (.ref a0), .val (.ref a1), .val (.int m0)] [(.ref a1), (.int cn), (.ref a0)]))
  obtain ⟨cq5, qz5, qz5'⟩ := (E_a0).cell
  obtain ⟨_, _, ⟨T5, L5, k5, n5⟩, -, X5, ⟨Lc5, hQ5, l5, y5, z5⟩, st5⟩ := X4.privateBack hx (y := (⟨"java/lang/AbstractStringBuilder", "putStringAt", "(ILjava/lang/String;)V"⟩ : MethodName)) hown (mvT hZ (own_W hw 116 rfl)) (mvT hZ (own_W hw 117 rfl)) (own_selup (mvT hZ (own_W hw 119 rfl) (args := #[])) (mvP hZ (own_W hw 118 rfl) (args := #[])) (mvT hZ (own_W hw 117 rfl) (args := #[])) (by decide)) (Cond.privateMethod_at (mvP hZ (own_W hw 118 rfl) (args := #[]))) (mvT hZ (own_W hw 120 rfl)) (by decide) (backOf (W := 0) (rmPSA l Z aw hw [] a0 cn a1 bv kb cn xs va k m0 ys ic h0 n0 (Nat.le_trans Z0 (Keep.refl h0 [a0, bv]).1) B S1 lx ly hs g_bv (O.keep (Keep.refl h0 [a0, bv]) (allS g_a0 (allS g_bv all0))) CS) hZ (own_W hw 120 rfl) (own_W hw 80 rfl) (by decide) (by decide)) (g := (mkF m 30 #[.val (.ref a0), .val (.ref a1), .val (.int m0)] [(.ref a1), (.int cn), (.ref a0)])) rfl (by rw [hml]; rfl) (Steps.refl _) (a := a0) (by rw [e4]; exact qz5) qz5' (argsL := [(.int cn), (.ref a1)]) (rest := []) (lenOf pd_10 rfl) rfl (by show 2 * 0 + _ ≤ _; exact Nat.le_of_eq rfl) (hb hby d12_30) (fun _ _ => ⟨rfl, e4, (by decide : 0 + 0 ≤ _), (by decide : 0 + 0 ≤ _)⟩)
  dsimp only [Pt.U, Pt.locs, Pt.cells, Pt.slots] at X5 l5 y5 z5 st5 hQ5
  subst l5 y5 z5
  obtain ⟨h5, e5⟩ : ∃ z, T5.heap = z := ⟨_, rfl⟩
  rw [e5] at hQ5
  obtain ⟨rfl, Nq5, Kq5, Vq5⟩ := hQ5
  have N5 := Fr.app N3 Nq5
  have K5 : Keep h0 h5 [a0, bv] := (Keep.refl h0 [a0, bv]).trans Kq5 (allS (Or.inl (List.mem_of_getElem? (i := 1) rfl)) all0)
  refine Rest.via (fun t k => st5.trans k) ?_
  show Rest p.tables e below s _ _ _ (T5.setTop (mkF m 33 #[.val (.ref a0), .val (.ref a1), .val (.int m0)] []))
  refine Rest.via (fun t k => XS.aloadN X5.here hx rfl (hb hby d12_33) rfl rfl k) ?_
  refine Rest.via (fun t k => XS.dup X5.here hx rfl (hb hby d12_34) rfl rfl k) ?_
  obtain ⟨T6, X6, e6, st6⟩ := getF X5 hx hZ hown (host := "") (Or.inl (own_W hw 109 rfl)) Via.refl e5 (Fn_a0.keep Kq5 (ninS ne_a0_bv nin0)) (g := (mkF m 35 #[.val (.ref a0), .val (.ref a1), .val (.int m0)] [(.ref a0), (.ref a0)])) rfl rfl (hb hby d12_35)
  refine Rest.via (fun t k => st6 t k) ?_
  show Rest p.tables e below s _ _ _ (T6.setTop (mkF m 38 #[.val (.ref a0), .val (.ref a1), .val (.int m0)] [(.int cn), (.ref a0)]))
  refine Rest.via (fun t k => XS.iloadN X6.here hx rfl (hb hby d12_38) rfl k) ?_
  refine Rest.via (fun t k => XS.iadd X6.here hx rfl (hb hby d12_39) rfl k) ?_
  have Fo7 := (Fn_a0.keep Kq5 (ninS ne_a0_bv nin0))
  obtain ⟨T7, h7, X7, e7, W7, st7⟩ := putF X6 hx hZ hown (host := "") (Or.inl (own_W hw 109 rfl)) Via.refl e6 Fo7 (E_a0.keep Kq5) (Or.inl (own_W hw 110 rfl)) (own_W hw 71 rfl) (ty := .int) (by decide) rfl rfl (g := (mkF m 40 #[.val (.ref a0), .val (.ref a1), .val (.int m0)] [(.int (cn + m0)), (.ref a0)])) rfl rfl (hb hby d12_40)
  refine Rest.via (fun t k => st7 t k) ?_
  have N7 := Fr.snoc X7 N5 g_a0
  have K7 : Keep h0 h7 [a0, bv] := K5.wr W7 (Or.inl (List.mem_of_getElem? (i := 0) rfl))
  have Fw7 := Fo7.same W7
  show Rest p.tables e below s _ _ _ (T7.setTop (mkF m 43 #[.val (.ref a0), .val (.ref a1), .val (.int m0)] []))
  refine Rest.via (fun t k => XS.aloadN X7.here hx rfl (hb hby d12_43) rfl rfl k) ?_
  refine Rest.ret X7 (v := some (.ref a0)) (fun h => by rw [Bd.returns] at h; cases h) hlk (fun fs hr => retOut X7 hx Bd.returns rfl (Or.inr (Or.inr (Or.inr (Or.inr ⟨rfl, rfl, rfl⟩)))) (hb hby d12_44) hr) ?_ (by decide) (by decide)
  rw [e7]
  exact ⟨rfl, N7, K7, ((E_a0.keep Kq5).wr W7), ((Fv_a0.keep Kq5 (ninS ne_a0_bv nin0)).other W7 (Or.inr (slot_ne (Or.inl (own_W hw 85 rfl)) (Or.inl (own_W hw 110 rfl)) (by decide) (t := (.array .byte)) (t' := .int) (by decide) (by decide)))), ((Fc_a0.keep Kq5 (ninS ne_a0_bv nin0)).other W7 (Or.inr (slot_ne (Or.inl (own_W hw 87 rfl)) (Or.inl (own_W hw 110 rfl)) (by decide) (t := .byte) (t' := .int) (by decide) (by decide)))), Fw7, (Vq5.other W7 (Ne.symm ne_a0_bv))⟩
theorem pd_11 : parseMethodDescriptor "(Ljava/lang/String;)Ljava/lang/AbstractStringBuilder;" = some ⟨[(.object "java/lang/String")], some (.object "java/lang/AbstractStringBuilder")⟩ := by decide +kernel
theorem d11_0 : decode jdk_67_method_7_code 0 = .ok (.aload_n 0, 1) := by decide +kernel
theorem d11_1 : decode jdk_67_method_7_code 1 = .ok (.aload_n 1, 1) := by decide +kernel
theorem d11_2 : decode jdk_67_method_7_code 2 = .ok (.invokespecial 29, 3) := by decide +kernel
theorem d11_5 : decode jdk_67_method_7_code 5 = .ok (.pop, 1) := by decide +kernel
theorem d11_6 : decode jdk_67_method_7_code 6 = .ok (.aload_n 0, 1) := by decide +kernel
theorem d11_7 : decode jdk_67_method_7_code 7 = .ok (.areturn, 1) := by decide +kernel
theorem ef_AS (m : MethodId) (a0 : Addr) (a1 : Addr) : entryFrame m #[(.ref a0), (.ref a1)] 2 = mkF m 0 #[.val (.ref a0), .val (.ref a1)] [] := by first | (simp [entryFrame, mkF, argsToLocals, Value.category, maxLocals]; done) | rfl
def QAS (Z : State) (a0 : Addr) (a1 : Addr) (bv : Addr) (kb : ClassId) (cn : Int32) (xs : List Int32) (va : Addr) (k : ClassId) (m0 : Int32) (ys : List Int32) (ic : Int32) (h0 : Heap) (n0 : Nat) (v : Option Value) (h : Heap) (L : List Loc) : Prop := v = some (.ref a0) ∧ Fr n0 L ∧ Keep h0 h [a0, bv] ∧ own_SB Z h a0 bv kb (cn + m0) ((xs ++ ys).map Value.int)
set_option maxRecDepth 65536 in
set_option maxHeartbeats 40000000 in
theorem rmAS (l : Launch) (Z : State) (aw : Array Value) (hw : ∀ d ∈ tables_1, d.before aw Z = true) (ws : List Jvm.Cond) (a0 : Addr) (a1 : Addr) (bv : Addr) (kb : ClassId) (cn : Int32) (xs : List Int32) (va : Addr) (k : ClassId) (m0 : Int32) (ys : List Int32) (ic : Int32) (h0 : Heap) (n0 : Nat) (Z0 : n0 ≤ h0.size) (B : own_SB Z h0 a0 bv kb cn (xs.map Value.int)) (S1 : own_St Z h0 a1 va k m0 (ys.map Value.int)) (lx : own_ln cn xs) (ly : own_ln m0 ys) (hs : xs.length + ys.length ≤ 16) (g_a0 : n0 ≤ a0) (g_bv : n0 ≤ bv) (O : own_Old Z n0 h0) (CS : own_CS Z ic) :
    MetFree l (⟨"java/lang/StringBuilder", "append", "(Ljava/lang/String;)Ljava/lang/StringBuilder;"⟩ : MethodName) (head1 (Jvm.Cond.code (⟨"java/lang/StringBuilder", "append", "(Ljava/lang/String;)Ljava/lang/StringBuilder;"⟩ : MethodName) jdk_67_method_7_code 2 (some (.object "java/lang/StringBuilder")) :: ws) ({ frames := 4, cells := 0, slots := 0, locals := 83 } : Room)) (fun a U => a = #[(.ref a0), (.ref a1)] ∧ Z.Warmed39 U.vm ∧ U.heap = h0) (fun _ _ _ _ _ => True) (fun _ U o U' => ∃ v L, o = .returned v ∧ QAS Z a0 a1 bv kb cn xs va k m0 ys ic h0 n0 v U'.heap L ∧ FrameEnd U o U' L ({ frames := 4, cells := 0, slots := 0, locals := 83 } : Room).cells ({ frames := 4, cells := 0, slots := 0, locals := 83 } : Room).slots) := by
  refine MetFree.of_bodySF (plainFor_of_name pn_4) hisR ?_
  intro p e s m args below meth c s₁ Bd hml0 hP hK
  obtain ⟨rfl, hZ, hh⟩ := hP
  have hx := Bd.exec
  have hby := Bd.bytes
  have hml : c.maxLocals = 2 := hml0
  have hown : s.vm.findClass "java/lang/StringBuilder" = some m.cls := findClass_of_methodNamed Bd.named
  have hnm := (name_of_methodNamed Bd.named Bd.method).1
  have hlk : meth.locks = false := BodyLoose.notSynchronized Bd
  have X0 : Stand p l e ({ frames := 4, cells := 0, slots := 0, locals := 83 } : Room) s m #[(.ref a0), (.ref a1)] below meth c s₁ [] 0 0 := Stand.of_body Bd
  have _u := trivial
  have eh0 : s₁.heap = h0 := by rw [← hh, Bd.state]; rfl
  have N0 := Fr.nil n0
  show Rest p.tables e below s (QAS Z a0 a1 bv kb cn xs va k m0 ys ic h0 n0) _ _ (s₁.setTop (entryFrame m #[(.ref a0), (.ref a1)] 2))
  refine Rest.via (fun t k => castTop (ef_AS m a0 a1) k) ?_
  obtain ⟨E_a0, Fv_a0, Fc_a0, Fn_a0, V_a0⟩ := id B
  have ne_a0_bv : a0 ≠ bv := Exa.neArv E_a0 V_a0 (own_W hw 71 rfl)
  obtain ⟨E_a1, Fv_a1, Fc_a1, V_a1⟩ := id S1
  show Rest p.tables e below s _ _ _ (s₁.setTop (mkF m 0 #[.val (.ref a0), .val (.ref a1)] []))
  refine Rest.via (fun t k => XS.aloadN X0.here hx rfl (hb hby d11_0) rfl rfl k) ?_
  refine Rest.via (fun t k => XS.aloadN X0.here hx rfl (hb hby d11_1) rfl rfl k) ?_
  show Rest p.tables e below s _ _ _ (s₁.setTop (mkF m 2 #[.val (.ref a0), .val (.ref a1)] [(.ref a1), (.ref a0)]))
  obtain ⟨_, _, ⟨T1, L1, k1, n1⟩, -, X1, ⟨Lc1, hQ1, l1, y1, z1⟩, st1⟩ := superBack X0 hx hZ (y := (⟨"java/lang/AbstractStringBuilder", "append", "(Ljava/lang/String;)Ljava/lang/AbstractStringBuilder;"⟩ : MethodName)) hown (own_W hw 93 rfl) (own_sameM (own_W hw 154 rfl) rfl (own_W hw 94 rfl) (by decide)) (own_W hw 94 rfl) (own_W hw 95 rfl) (by decide) (backOf (W := 0) (rmAAS l Z aw hw [] a0 a1 bv kb cn xs va k m0 ys ic h0 n0 (Nat.le_trans Z0 (Keep.refl h0 [a0, bv]).1) B S1 lx ly hs g_a0 g_bv (O.keep (Keep.refl h0 [a0, bv]) (allS g_a0 (allS g_bv all0))) CS) hZ (own_W hw 97 rfl) (own_W hw 80 rfl) (by decide) (by decide)) eh0 (Ins.self E_a0) (g := (mkF m 2 #[.val (.ref a0), .val (.ref a1)] [(.ref a1), (.ref a0)])) rfl (by rw [hml]; rfl) (own_W hw 97 rfl) (argsL := [(.ref a1)]) (rest := []) (lenOf pd_11 rfl) rfl (by show 2 * 0 + _ ≤ _; exact Nat.le_of_eq rfl) (hb hby d11_2) (fun _ _ => ⟨rfl, eh0, (by decide : 0 + 0 ≤ _), (by decide : 0 + 0 ≤ _)⟩)
  dsimp only [Pt.U, Pt.locs, Pt.cells, Pt.slots] at X1 l1 y1 z1 st1 hQ1
  subst l1 y1 z1
  obtain ⟨h1, e1⟩ : ∃ z, T1.heap = z := ⟨_, rfl⟩
  rw [e1] at hQ1
  obtain ⟨rfl, Nq1, Kq1, rq1⟩ := hQ1
  have N1 := Fr.app N0 Nq1
  have K1 : Keep h0 h1 [a0, bv] := (Keep.refl h0 [a0, bv]).trans Kq1 (allS (Or.inl (List.mem_of_getElem? (i := 0) rfl)) (allS (Or.inl (List.mem_of_getElem? (i := 1) rfl)) all0))
  refine Rest.via (fun t k => st1.trans k) ?_
  show Rest p.tables e below s _ _ _ (T1.setTop (mkF m 5 #[.val (.ref a0), .val (.ref a1)] [(.ref a0)]))
  refine Rest.via (fun t k => XS.pop X1.here hx rfl (hb hby d11_5) rfl rfl k) ?_
  refine Rest.via (fun t k => XS.aloadN X1.here hx rfl (hb hby d11_6) rfl rfl k) ?_
  refine Rest.ret X1 (v := some (.ref a0)) (fun h => by rw [Bd.returns] at h; cases h) hlk (fun fs hr => retOut X1 hx Bd.returns rfl (Or.inr (Or.inr (Or.inr (Or.inr ⟨rfl, rfl, rfl⟩)))) (hb hby d11_7) hr) ?_ (by decide) (by decide)
  rw [e1]
  exact ⟨rfl, N1, K1, rq1⟩
theorem d21_0 : decode jdk_33_method_13_code 0 = .ok (.iconst 1, 1) := by decide +kernel
theorem d21_1 : decode jdk_33_method_13_code 1 = .ok (.istore_n 1, 1) := by decide +kernel
theorem d21_2 : decode jdk_33_method_13_code 2 = .ok (.iload_n 0, 1) := by decide +kernel
theorem d21_3 : decode jdk_33_method_13_code 3 = .ok (.ifCond .lt 8, 3) := by decide +kernel
theorem d21_6 : decode jdk_33_method_13_code 6 = .ok (.iconst 0, 1) := by decide +kernel
theorem d21_7 : decode jdk_33_method_13_code 7 = .ok (.istore_n 1, 1) := by decide +kernel
theorem d21_8 : decode jdk_33_method_13_code 8 = .ok (.iload_n 0, 1) := by decide +kernel
theorem d21_9 : decode jdk_33_method_13_code 9 = .ok (.ineg, 1) := by decide +kernel
theorem d21_10 : decode jdk_33_method_13_code 10 = .ok (.istore_n 0, 1) := by decide +kernel
theorem d21_11 : decode jdk_33_method_13_code 11 = .ok (.bipush (-10), 2) := by decide +kernel
theorem d21_13 : decode jdk_33_method_13_code 13 = .ok (.istore_n 2, 1) := by decide +kernel
theorem d21_14 : decode jdk_33_method_13_code 14 = .ok (.iconst 1, 1) := by decide +kernel
theorem d21_15 : decode jdk_33_method_13_code 15 = .ok (.istore_n 3, 1) := by decide +kernel
theorem d21_16 : decode jdk_33_method_13_code 16 = .ok (.iload_n 3, 1) := by decide +kernel
theorem d21_17 : decode jdk_33_method_13_code 17 = .ok (.bipush 10, 2) := by decide +kernel
theorem d21_19 : decode jdk_33_method_13_code 19 = .ok (.if_icmp .ge 23, 3) := by decide +kernel
theorem d21_22 : decode jdk_33_method_13_code 22 = .ok (.iload_n 0, 1) := by decide +kernel
theorem d21_23 : decode jdk_33_method_13_code 23 = .ok (.iload_n 2, 1) := by decide +kernel
theorem d21_24 : decode jdk_33_method_13_code 24 = .ok (.if_icmp .le 7, 3) := by decide +kernel
theorem d21_27 : decode jdk_33_method_13_code 27 = .ok (.iload_n 3, 1) := by decide +kernel
theorem d21_28 : decode jdk_33_method_13_code 28 = .ok (.iload_n 1, 1) := by decide +kernel
theorem d21_29 : decode jdk_33_method_13_code 29 = .ok (.iadd, 1) := by decide +kernel
theorem d21_30 : decode jdk_33_method_13_code 30 = .ok (.ireturn, 1) := by decide +kernel
theorem d21_31 : decode jdk_33_method_13_code 31 = .ok (.bipush 10, 2) := by decide +kernel
theorem d21_33 : decode jdk_33_method_13_code 33 = .ok (.iload_n 2, 1) := by decide +kernel
theorem d21_34 : decode jdk_33_method_13_code 34 = .ok (.imul, 1) := by decide +kernel
theorem d21_35 : decode jdk_33_method_13_code 35 = .ok (.istore_n 2, 1) := by decide +kernel
theorem d21_36 : decode jdk_33_method_13_code 36 = .ok (.iinc 3 1, 3) := by decide +kernel
theorem d21_39 : decode jdk_33_method_13_code 39 = .ok (.goto (-23), 3) := by decide +kernel
theorem pn_5 : plainName "java/lang/Integer" = true := by first | (simp [plainName, overriddenIn]; done) | decide +kernel
theorem ef_SZ (m : MethodId) (p0 : Int32) : entryFrame m #[(.int p0)] 4 = mkF m 0 #[.val (.int p0), .unset, .unset, .unset] [] := by first | (simp [entryFrame, mkF, argsToLocals, Value.category, maxLocals]; done) | rfl
def QSZ (Z : State) (p0 : Int32) (h0 : Heap) (n0 : Nat) (v : Option Value) (h : Heap) (L : List Loc) : Prop := v = some (.int (own_dd p0)) ∧ Fr n0 L ∧ h = h0
set_option maxRecDepth 65536 in
set_option maxHeartbeats 40000000 in
theorem rmSZ (l : Launch) (Z : State) (aw : Array Value) (hw : ∀ d ∈ tables_1, d.before aw Z = true) (ws : List Jvm.Cond) (p0 : Int32) (h0 : Heap) (n0 : Nat) (Z0 : n0 ≤ h0.size) (hp : own_pt p0) :
    MetFree l (⟨"java/lang/Integer", "stringSize", "(I)I"⟩ : MethodName) (head1 (Jvm.Cond.code (⟨"java/lang/Integer", "stringSize", "(I)I"⟩ : MethodName) jdk_33_method_13_code 4 (some .int) :: ws) ({ frames := 0, cells := 0, slots := 0, locals := 0 } : Room)) (fun a U => a = #[(.int p0)] ∧ Z.Warmed39 U.vm ∧ U.heap = h0) (fun _ _ _ _ _ => True) (fun _ U o U' => ∃ v L, o = .returned v ∧ QSZ Z p0 h0 n0 v U'.heap L ∧ FrameEnd U o U' L ({ frames := 0, cells := 0, slots := 0, locals := 0 } : Room).cells ({ frames := 0, cells := 0, slots := 0, locals := 0 } : Room).slots) := by
  refine MetFree.of_bodySF (plainFor_of_name pn_5) hisR ?_
  intro p e s m args below meth c s₁ Bd hml0 hP hK
  obtain ⟨rfl, hZ, hh⟩ := hP
  have hx := Bd.exec
  have hby := Bd.bytes
  have hml : c.maxLocals = 4 := hml0
  have hown : s.vm.findClass "java/lang/Integer" = some m.cls := findClass_of_methodNamed Bd.named
  have hnm := (name_of_methodNamed Bd.named Bd.method).1
  have hlk : meth.locks = false := BodyLoose.notSynchronized Bd
  have X0 : Stand p l e ({ frames := 0, cells := 0, slots := 0, locals := 0 } : Room) s m #[(.int p0)] below meth c s₁ [] 0 0 := Stand.of_body Bd
  have _u := trivial
  have eh0 : s₁.heap = h0 := by rw [← hh, Bd.state]; rfl
  have N0 := Fr.nil n0
  show Rest p.tables e below s (QSZ Z p0 h0 n0) _ _ (s₁.setTop (entryFrame m #[(.int p0)] 4))
  refine Rest.via (fun t k => castTop (ef_SZ m p0) k) ?_
  show Rest p.tables e below s _ _ _ (s₁.setTop (mkF m 0 #[.val (.int p0), .unset, .unset, .unset] []))
  refine Rest.via (fun t k => XS.iconst X0.here hx rfl (hb hby d21_0) k) ?_
  refine Rest.via (fun t k => XS.istoreN X0.here hx rfl (hb hby d21_1) rfl (l' := #[.val (.int p0), .val (.int (1 : Int32)), .unset, .unset]) rfl k) ?_
  refine Rest.via (fun t k => XS.iloadN X0.here hx rfl (hb hby d21_2) rfl k) ?_
  refine Rest.via (fun t k => XS.ifNo X0.here hx rfl (hb hby d21_3) rfl ((if0 _ _).trans (flt (own_nlt (A := p0.toInt) (B := 0) rfl (by decide) (by have := hp.int; omega) : ¬ (p0 < (0 : Int32)))).1) k) ?_
  show Rest p.tables e below s _ _ _ (s₁.setTop (mkF m 6 #[.val (.int p0), .val (.int (1 : Int32)), .unset, .unset] []))
  refine Rest.via (fun t k => XS.iconst X0.here hx rfl (hb hby d21_6) k) ?_
  refine Rest.via (fun t k => XS.istoreN X0.here hx rfl (hb hby d21_7) rfl (l' := #[.val (.int p0), .val (.int (0 : Int32)), .unset, .unset]) rfl k) ?_
  refine Rest.via (fun t k => XS.iloadN X0.here hx rfl (hb hby d21_8) rfl k) ?_
  refine Rest.via (fun t k => XS.ineg X0.here hx rfl (hb hby d21_9) rfl k) ?_
  refine Rest.via (fun t k => XS.istoreN X0.here hx rfl (hb hby d21_10) rfl (l' := #[.val (.int (-p0)), .val (.int (0 : Int32)), .unset, .unset]) rfl k) ?_
  refine Rest.via (fun t k => XS.bipush X0.here hx rfl (hb hby d21_11) k) ?_
  refine Rest.via (fun t k => XS.istoreN X0.here hx rfl (hb hby d21_13) rfl (l' := #[.val (.int (-p0)), .val (.int (0 : Int32)), .val (.int (-10 : Int32)), .unset]) rfl k) ?_
  refine Rest.via (fun t k => XS.iconst X0.here hx rfl (hb hby d21_14) k) ?_
  refine Rest.via (fun t k => XS.istoreN X0.here hx rfl (hb hby d21_15) rfl (l' := #[.val (.int (-p0)), .val (.int (0 : Int32)), .val (.int (-10 : Int32)), .val (.int (1 : Int32))]) rfl k) ?_
  refine Rest.via (fun t k => XS.iloadN X0.here hx rfl (hb hby d21_16) rfl k) ?_
  refine Rest.via (fun t k => XS.bipush X0.here hx rfl (hb hby d21_17) k) ?_
  refine Rest.via (fun t k => XS.icmpNo X0.here hx rfl (hb hby d21_19) rfl (tlt (by decide : (1 : Int32) < (10 : Int32))).2.1 k) ?_
  show Rest p.tables e below s _ _ _ (s₁.setTop (mkF m 22 #[.val (.int (-p0)), .val (.int (0 : Int32)), .val (.int (-10 : Int32)), .val (.int (1 : Int32))] []))
  refine Rest.via (fun t k => XS.iloadN X0.here hx rfl (hb hby d21_22) rfl k) ?_
  refine Rest.via (fun t k => XS.iloadN X0.here hx rfl (hb hby d21_23) rfl k) ?_
  by_cases hs1 : (-10 : Int32) < (-p0)
  · refine Rest.via (fun t k => XS.icmpNo X0.here hx rfl (hb hby d21_24) rfl (tlt hs1).2.2.2 k) ?_
    show Rest p.tables e below s _ _ _ (s₁.setTop (mkF m 27 #[.val (.int (-p0)), .val (.int (0 : Int32)), .val (.int (-10 : Int32)), .val (.int (1 : Int32))] []))
    refine Rest.via (fun t k => XS.iloadN X0.here hx rfl (hb hby d21_27) rfl k) ?_
    refine Rest.via (fun t k => XS.iloadN X0.here hx rfl (hb hby d21_28) rfl k) ?_
    refine Rest.via (fun t k => XS.iadd X0.here hx rfl (hb hby d21_29) rfl k) ?_
    show Rest p.tables e below s _ _ _ (s₁.setTop (mkF m 30 #[.val (.int (-p0)), .val (.int (0 : Int32)), .val (.int (-10 : Int32)), .val (.int (1 : Int32))] [(.int ((1 : Int32) + (0 : Int32)))]))
    rw [(by decide : ((1 : Int32) + (0 : Int32)) = (1 : Int32))]
    refine Rest.ret X0 (v := some (.int (1 : Int32))) (fun h => by rw [Bd.returns] at h; cases h) hlk (fun fs hr => retOut X0 hx Bd.returns rfl (Or.inl ⟨rfl, Or.inl rfl, _, rfl⟩) (hb hby d21_30) hr) ?_ (by decide) (by decide)
    rw [eh0]
    exact ⟨by show some (Value.int (1 : Int32)) = _; rw [own_sz1 hp hs1], N0, rfl⟩
  · refine Rest.via (fun t k => XS.icmpYes X0.here hx rfl (pc0 := 24) (pc' := 31) rfl (hb hby d21_24) rfl (flt hs1).2.2.2 (by decide) (by decide) k) ?_
    show Rest p.tables e below s _ _ _ (s₁.setTop (mkF m 31 #[.val (.int (-p0)), .val (.int (0 : Int32)), .val (.int (-10 : Int32)), .val (.int (1 : Int32))] []))
    refine Rest.via (fun t k => XS.bipush X0.here hx rfl (hb hby d21_31) k) ?_
    refine Rest.via (fun t k => XS.iloadN X0.here hx rfl (hb hby d21_33) rfl k) ?_
    refine Rest.via (fun t k => XS.imul X0.here hx rfl (hb hby d21_34) rfl k) ?_
    show Rest p.tables e below s _ _ _ (s₁.setTop (mkF m 35 #[.val (.int (-p0)), .val (.int (0 : Int32)), .val (.int (-10 : Int32)), .val (.int (1 : Int32))] [(.int ((10 : Int32) * (-10 : Int32)))]))
    rw [(by decide : ((10 : Int32) * (-10 : Int32)) = (-100 : Int32))]
    refine Rest.via (fun t k => XS.istoreN X0.here hx rfl (hb hby d21_35) rfl (l' := #[.val (.int (-p0)), .val (.int (0 : Int32)), .val (.int (-100 : Int32)), .val (.int (1 : Int32))]) rfl k) ?_
    refine Rest.via (fun t k => XS.iinc X0.here hx rfl (hb hby d21_36) rfl (l' := #[.val (.int (-p0)), .val (.int (0 : Int32)), .val (.int (-100 : Int32)), .val (.int ((1 : Int32) + (1 : Int32)))]) rfl k) ?_
    show Rest p.tables e below s _ _ _ (s₁.setTop (mkF m 39 #[.val (.int (-p0)), .val (.int (0 : Int32)), .val (.int (-100 : Int32)), .val (.int ((1 : Int32) + (1 : Int32)))] []))
    rw [(by decide : ((1 : Int32) + (1 : Int32)) = (2 : Int32))]
    show Rest p.tables e below s _ _ _ (s₁.setTop (mkF m 39 #[.val (.int (-p0)), .val (.int (0 : Int32)), .val (.int (-100 : Int32)), .val (.int (2 : Int32))] []))
    refine Rest.via (fun t k => XS.goto X0.here hx rfl (pc0 := 39) (pc' := 16) rfl (hb hby d21_39) (by decide) (by decide) k) ?_
    refine Rest.via (fun t k => XS.iloadN X0.here hx rfl (hb hby d21_16) rfl k) ?_
    refine Rest.via (fun t k => XS.bipush X0.here hx rfl (hb hby d21_17) k) ?_
    refine Rest.via (fun t k => XS.icmpNo X0.here hx rfl (hb hby d21_19) rfl (tlt (by decide : (2 : Int32) < (10 : Int32))).2.1 k) ?_
    show Rest p.tables e below s _ _ _ (s₁.setTop (mkF m 22 #[.val (.int (-p0)), .val (.int (0 : Int32)), .val (.int (-100 : Int32)), .val (.int (2 : Int32))] []))
    refine Rest.via (fun t k => XS.iloadN X0.here hx rfl (hb hby d21_22) rfl k) ?_
    refine Rest.via (fun t k => XS.iloadN X0.here hx rfl (hb hby d21_23) rfl k) ?_
    by_cases hs2 : (-100 : Int32) < (-p0)
    · refine Rest.via (fun t k => XS.icmpNo X0.here hx rfl (hb hby d21_24) rfl (tlt hs2).2.2.2 k) ?_
      show Rest p.tables e below s _ _ _ (s₁.setTop (mkF m 27 #[.val (.int (-p0)), .val (.int (0 : Int32)), .val (.int (-100 : Int32)), .val (.int (2 : Int32))] []))
      refine Rest.via (fun t k => XS.iloadN X0.here hx rfl (hb hby d21_27) rfl k) ?_
      refine Rest.via (fun t k => XS.iloadN X0.here hx rfl (hb hby d21_28) rfl k) ?_
      refine Rest.via (fun t k => XS.iadd X0.here hx rfl (hb hby d21_29) rfl k) ?_
      show Rest p.tables e below s _ _ _ (s₁.setTop (mkF m 30 #[.val (.int (-p0)), .val (.int (0 : Int32)), .val (.int (-100 : Int32)), .val (.int (2 : Int32))] [(.int ((2 : Int32) + (0 : Int32)))]))
      rw [(by decide : ((2 : Int32) + (0 : Int32)) = (2 : Int32))]
      refine Rest.ret X0 (v := some (.int (2 : Int32))) (fun h => by rw [Bd.returns] at h; cases h) hlk (fun fs hr => retOut X0 hx Bd.returns rfl (Or.inl ⟨rfl, Or.inl rfl, _, rfl⟩) (hb hby d21_30) hr) ?_ (by decide) (by decide)
      rw [eh0]
      exact ⟨by show some (Value.int (2 : Int32)) = _; rw [own_sz2 hp hs1 hs2], N0, rfl⟩
    · refine Rest.via (fun t k => XS.icmpYes X0.here hx rfl (pc0 := 24) (pc' := 31) rfl (hb hby d21_24) rfl (flt hs2).2.2.2 (by decide) (by decide) k) ?_
      show Rest p.tables e below s _ _ _ (s₁.setTop (mkF m 31 #[.val (.int (-p0)), .val (.int (0 : Int32)), .val (.int (-100 : Int32)), .val (.int (2 : Int32))] []))
      refine Rest.via (fun t k => XS.bipush X0.here hx rfl (hb hby d21_31) k) ?_
      refine Rest.via (fun t k => XS.iloadN X0.here hx rfl (hb hby d21_33) rfl k) ?_
      refine Rest.via (fun t k => XS.imul X0.here hx rfl (hb hby d21_34) rfl k) ?_
      show Rest p.tables e below s _ _ _ (s₁.setTop (mkF m 35 #[.val (.int (-p0)), .val (.int (0 : Int32)), .val (.int (-100 : Int32)), .val (.int (2 : Int32))] [(.int ((10 : Int32) * (-100 : Int32)))]))
      rw [(by decide : ((10 : Int32) * (-100 : Int32)) = (-1000 : Int32))]
      refine Rest.via (fun t k => XS.istoreN X0.here hx rfl (hb hby d21_35) rfl (l' := #[.val (.int (-p0)), .val (.int (0 : Int32)), .val (.int (-1000 : Int32)), .val (.int (2 : Int32))]) rfl k) ?_
      refine Rest.via (fun t k => XS.iinc X0.here hx rfl (hb hby d21_36) rfl (l' := #[.val (.int (-p0)), .val (.int (0 : Int32)), .val (.int (-1000 : Int32)), .val (.int ((2 : Int32) + (1 : Int32)))]) rfl k) ?_
      show Rest p.tables e below s _ _ _ (s₁.setTop (mkF m 39 #[.val (.int (-p0)), .val (.int (0 : Int32)), .val (.int (-1000 : Int32)), .val (.int ((2 : Int32) + (1 : Int32)))] []))
      rw [(by decide : ((2 : Int32) + (1 : Int32)) = (3 : Int32))]
      show Rest p.tables e below s _ _ _ (s₁.setTop (mkF m 39 #[.val (.int (-p0)), .val (.int (0 : Int32)), .val (.int (-1000 : Int32)), .val (.int (3 : Int32))] []))
      refine Rest.via (fun t k => XS.goto X0.here hx rfl (pc0 := 39) (pc' := 16) rfl (hb hby d21_39) (by decide) (by decide) k) ?_
      refine Rest.via (fun t k => XS.iloadN X0.here hx rfl (hb hby d21_16) rfl k) ?_
      refine Rest.via (fun t k => XS.bipush X0.here hx rfl (hb hby d21_17) k) ?_
      refine Rest.via (fun t k => XS.icmpNo X0.here hx rfl (hb hby d21_19) rfl (tlt (by decide : (3 : Int32) < (10 : Int32))).2.1 k) ?_
      show Rest p.tables e below s _ _ _ (s₁.setTop (mkF m 22 #[.val (.int (-p0)), .val (.int (0 : Int32)), .val (.int (-1000 : Int32)), .val (.int (3 : Int32))] []))
      refine Rest.via (fun t k => XS.iloadN X0.here hx rfl (hb hby d21_22) rfl k) ?_
      refine Rest.via (fun t k => XS.iloadN X0.here hx rfl (hb hby d21_23) rfl k) ?_
      by_cases hs3 : (-1000 : Int32) < (-p0)
      · refine Rest.via (fun t k => XS.icmpNo X0.here hx rfl (hb hby d21_24) rfl (tlt hs3).2.2.2 k) ?_
        show Rest p.tables e below s _ _ _ (s₁.setTop (mkF m 27 #[.val (.int (-p0)), .val (.int (0 : Int32)), .val (.int (-1000 : Int32)), .val (.int (3 : Int32))] []))
        refine Rest.via (fun t k => XS.iloadN X0.here hx rfl (hb hby d21_27) rfl k) ?_
        refine Rest.via (fun t k => XS.iloadN X0.here hx rfl (hb hby d21_28) rfl k) ?_
        refine Rest.via (fun t k => XS.iadd X0.here hx rfl (hb hby d21_29) rfl k) ?_
        show Rest p.tables e below s _ _ _ (s₁.setTop (mkF m 30 #[.val (.int (-p0)), .val (.int (0 : Int32)), .val (.int (-1000 : Int32)), .val (.int (3 : Int32))] [(.int ((3 : Int32) + (0 : Int32)))]))
        rw [(by decide : ((3 : Int32) + (0 : Int32)) = (3 : Int32))]
        refine Rest.ret X0 (v := some (.int (3 : Int32))) (fun h => by rw [Bd.returns] at h; cases h) hlk (fun fs hr => retOut X0 hx Bd.returns rfl (Or.inl ⟨rfl, Or.inl rfl, _, rfl⟩) (hb hby d21_30) hr) ?_ (by decide) (by decide)
        rw [eh0]
        exact ⟨by show some (Value.int (3 : Int32)) = _; rw [own_sz3 hp hs2 hs3], N0, rfl⟩
      · refine Rest.via (fun t k => XS.icmpYes X0.here hx rfl (pc0 := 24) (pc' := 31) rfl (hb hby d21_24) rfl (flt hs3).2.2.2 (by decide) (by decide) k) ?_
        show Rest p.tables e below s _ _ _ (s₁.setTop (mkF m 31 #[.val (.int (-p0)), .val (.int (0 : Int32)), .val (.int (-1000 : Int32)), .val (.int (3 : Int32))] []))
        refine Rest.via (fun t k => XS.bipush X0.here hx rfl (hb hby d21_31) k) ?_
        refine Rest.via (fun t k => XS.iloadN X0.here hx rfl (hb hby d21_33) rfl k) ?_
        refine Rest.via (fun t k => XS.imul X0.here hx rfl (hb hby d21_34) rfl k) ?_
        show Rest p.tables e below s _ _ _ (s₁.setTop (mkF m 35 #[.val (.int (-p0)), .val (.int (0 : Int32)), .val (.int (-1000 : Int32)), .val (.int (3 : Int32))] [(.int ((10 : Int32) * (-1000 : Int32)))]))
        rw [(by decide : ((10 : Int32) * (-1000 : Int32)) = (-10000 : Int32))]
        refine Rest.via (fun t k => XS.istoreN X0.here hx rfl (hb hby d21_35) rfl (l' := #[.val (.int (-p0)), .val (.int (0 : Int32)), .val (.int (-10000 : Int32)), .val (.int (3 : Int32))]) rfl k) ?_
        refine Rest.via (fun t k => XS.iinc X0.here hx rfl (hb hby d21_36) rfl (l' := #[.val (.int (-p0)), .val (.int (0 : Int32)), .val (.int (-10000 : Int32)), .val (.int ((3 : Int32) + (1 : Int32)))]) rfl k) ?_
        show Rest p.tables e below s _ _ _ (s₁.setTop (mkF m 39 #[.val (.int (-p0)), .val (.int (0 : Int32)), .val (.int (-10000 : Int32)), .val (.int ((3 : Int32) + (1 : Int32)))] []))
        rw [(by decide : ((3 : Int32) + (1 : Int32)) = (4 : Int32))]
        show Rest p.tables e below s _ _ _ (s₁.setTop (mkF m 39 #[.val (.int (-p0)), .val (.int (0 : Int32)), .val (.int (-10000 : Int32)), .val (.int (4 : Int32))] []))
        refine Rest.via (fun t k => XS.goto X0.here hx rfl (pc0 := 39) (pc' := 16) rfl (hb hby d21_39) (by decide) (by decide) k) ?_
        refine Rest.via (fun t k => XS.iloadN X0.here hx rfl (hb hby d21_16) rfl k) ?_
        refine Rest.via (fun t k => XS.bipush X0.here hx rfl (hb hby d21_17) k) ?_
        refine Rest.via (fun t k => XS.icmpNo X0.here hx rfl (hb hby d21_19) rfl (tlt (by decide : (4 : Int32) < (10 : Int32))).2.1 k) ?_
        show Rest p.tables e below s _ _ _ (s₁.setTop (mkF m 22 #[.val (.int (-p0)), .val (.int (0 : Int32)), .val (.int (-10000 : Int32)), .val (.int (4 : Int32))] []))
        refine Rest.via (fun t k => XS.iloadN X0.here hx rfl (hb hby d21_22) rfl k) ?_
        refine Rest.via (fun t k => XS.iloadN X0.here hx rfl (hb hby d21_23) rfl k) ?_
        by_cases hs4 : (-10000 : Int32) < (-p0)
        · refine Rest.via (fun t k => XS.icmpNo X0.here hx rfl (hb hby d21_24) rfl (tlt hs4).2.2.2 k) ?_
          show Rest p.tables e below s _ _ _ (s₁.setTop (mkF m 27 #[.val (.int (-p0)), .val (.int (0 : Int32)), .val (.int (-10000 : Int32)), .val (.int (4 : Int32))] []))
          refine Rest.via (fun t k => XS.iloadN X0.here hx rfl (hb hby d21_27) rfl k) ?_
          refine Rest.via (fun t k => XS.iloadN X0.here hx rfl (hb hby d21_28) rfl k) ?_
          refine Rest.via (fun t k => XS.iadd X0.here hx rfl (hb hby d21_29) rfl k) ?_
          show Rest p.tables e below s _ _ _ (s₁.setTop (mkF m 30 #[.val (.int (-p0)), .val (.int (0 : Int32)), .val (.int (-10000 : Int32)), .val (.int (4 : Int32))] [(.int ((4 : Int32) + (0 : Int32)))]))
          rw [(by decide : ((4 : Int32) + (0 : Int32)) = (4 : Int32))]
          refine Rest.ret X0 (v := some (.int (4 : Int32))) (fun h => by rw [Bd.returns] at h; cases h) hlk (fun fs hr => retOut X0 hx Bd.returns rfl (Or.inl ⟨rfl, Or.inl rfl, _, rfl⟩) (hb hby d21_30) hr) ?_ (by decide) (by decide)
          rw [eh0]
          exact ⟨by show some (Value.int (4 : Int32)) = _; rw [own_sz4 hp hs3 hs4], N0, rfl⟩
        · refine Rest.via (fun t k => XS.icmpYes X0.here hx rfl (pc0 := 24) (pc' := 31) rfl (hb hby d21_24) rfl (flt hs4).2.2.2 (by decide) (by decide) k) ?_
          show Rest p.tables e below s _ _ _ (s₁.setTop (mkF m 31 #[.val (.int (-p0)), .val (.int (0 : Int32)), .val (.int (-10000 : Int32)), .val (.int (4 : Int32))] []))
          refine Rest.via (fun t k => XS.bipush X0.here hx rfl (hb hby d21_31) k) ?_
          refine Rest.via (fun t k => XS.iloadN X0.here hx rfl (hb hby d21_33) rfl k) ?_
          refine Rest.via (fun t k => XS.imul X0.here hx rfl (hb hby d21_34) rfl k) ?_
          show Rest p.tables e below s _ _ _ (s₁.setTop (mkF m 35 #[.val (.int (-p0)), .val (.int (0 : Int32)), .val (.int (-10000 : Int32)), .val (.int (4 : Int32))] [(.int ((10 : Int32) * (-10000 : Int32)))]))
          rw [(by decide : ((10 : Int32) * (-10000 : Int32)) = (-100000 : Int32))]
          refine Rest.via (fun t k => XS.istoreN X0.here hx rfl (hb hby d21_35) rfl (l' := #[.val (.int (-p0)), .val (.int (0 : Int32)), .val (.int (-100000 : Int32)), .val (.int (4 : Int32))]) rfl k) ?_
          refine Rest.via (fun t k => XS.iinc X0.here hx rfl (hb hby d21_36) rfl (l' := #[.val (.int (-p0)), .val (.int (0 : Int32)), .val (.int (-100000 : Int32)), .val (.int ((4 : Int32) + (1 : Int32)))]) rfl k) ?_
          show Rest p.tables e below s _ _ _ (s₁.setTop (mkF m 39 #[.val (.int (-p0)), .val (.int (0 : Int32)), .val (.int (-100000 : Int32)), .val (.int ((4 : Int32) + (1 : Int32)))] []))
          rw [(by decide : ((4 : Int32) + (1 : Int32)) = (5 : Int32))]
          show Rest p.tables e below s _ _ _ (s₁.setTop (mkF m 39 #[.val (.int (-p0)), .val (.int (0 : Int32)), .val (.int (-100000 : Int32)), .val (.int (5 : Int32))] []))
          refine Rest.via (fun t k => XS.goto X0.here hx rfl (pc0 := 39) (pc' := 16) rfl (hb hby d21_39) (by decide) (by decide) k) ?_
          refine Rest.via (fun t k => XS.iloadN X0.here hx rfl (hb hby d21_16) rfl k) ?_
          refine Rest.via (fun t k => XS.bipush X0.here hx rfl (hb hby d21_17) k) ?_
          refine Rest.via (fun t k => XS.icmpNo X0.here hx rfl (hb hby d21_19) rfl (tlt (by decide : (5 : Int32) < (10 : Int32))).2.1 k) ?_
          show Rest p.tables e below s _ _ _ (s₁.setTop (mkF m 22 #[.val (.int (-p0)), .val (.int (0 : Int32)), .val (.int (-100000 : Int32)), .val (.int (5 : Int32))] []))
          refine Rest.via (fun t k => XS.iloadN X0.here hx rfl (hb hby d21_22) rfl k) ?_
          refine Rest.via (fun t k => XS.iloadN X0.here hx rfl (hb hby d21_23) rfl k) ?_
          refine Rest.via (fun t k => XS.icmpNo X0.here hx rfl (hb hby d21_24) rfl (tlt (own_lt (by decide : (-100000 : Int32).toInt = -100000) hp.neg (by have := hp.int; omega) : (-100000 : Int32) < (-p0))).2.2.2 k) ?_
          show Rest p.tables e below s _ _ _ (s₁.setTop (mkF m 27 #[.val (.int (-p0)), .val (.int (0 : Int32)), .val (.int (-100000 : Int32)), .val (.int (5 : Int32))] []))
          refine Rest.via (fun t k => XS.iloadN X0.here hx rfl (hb hby d21_27) rfl k) ?_
          refine Rest.via (fun t k => XS.iloadN X0.here hx rfl (hb hby d21_28) rfl k) ?_
          refine Rest.via (fun t k => XS.iadd X0.here hx rfl (hb hby d21_29) rfl k) ?_
          show Rest p.tables e below s _ _ _ (s₁.setTop (mkF m 30 #[.val (.int (-p0)), .val (.int (0 : Int32)), .val (.int (-100000 : Int32)), .val (.int (5 : Int32))] [(.int ((5 : Int32) + (0 : Int32)))]))
          rw [(by decide : ((5 : Int32) + (0 : Int32)) = (5 : Int32))]
          refine Rest.ret X0 (v := some (.int (5 : Int32))) (fun h => by rw [Bd.returns] at h; cases h) hlk (fun fs hr => retOut X0 hx Bd.returns rfl (Or.inl ⟨rfl, Or.inl rfl, _, rfl⟩) (hb hby d21_30) hr) ?_ (by decide) (by decide)
          rw [eh0]
          exact ⟨by show some (Value.int (5 : Int32)) = _; rw [own_sz5 hp hs4], N0, rfl⟩
theorem own_pad (xs : List Int32) (n : Nat) (i : Nat) : (xs.map Value.int ++ List.replicate n (Value.int (0 : Int32))).getD i (.int (0 : Int32)) = (xs.map Value.int).getD i (.int (0 : Int32)) := by
  simp only [List.getD]
  by_cases h : i < xs.length
  · rw [List.getElem?_append_left (by simpa using h)]
  · rw [List.getElem?_append_right (by simpa using h), List.getElem?_eq_none (l := xs.map Value.int) (by simpa using h)]
    simp only [List.getElem?_replicate]
    split <;> rfl
theorem own_ng {i : Int32} {I : Int} (hi : i.toInt = -I) (h0 : 0 ≤ I) (h1 : I ≤ 65535) : (-i).toInt = I := by
  have a := c_ineg i
  have c := Int32.toInt_lt (-i)
  have d := Int32.le_toInt (-i)
  omega
theorem d23_0 : decode jdk_33_method_12_code 0 = .ok (.iload_n 1, 1) := by decide +kernel
theorem d23_1 : decode jdk_33_method_12_code 1 = .ok (.istore 5, 2) := by decide +kernel
theorem d23_3 : decode jdk_33_method_12_code 3 = .ok (.iload_n 0, 1) := by decide +kernel
theorem d23_4 : decode jdk_33_method_12_code 4 = .ok (.ifCond .ge 7, 3) := by decide +kernel
theorem d23_11 : decode jdk_33_method_12_code 11 = .ok (.iconst 0, 1) := by decide +kernel
theorem d23_12 : decode jdk_33_method_12_code 12 = .ok (.istore 6, 2) := by decide +kernel
theorem d23_14 : decode jdk_33_method_12_code 14 = .ok (.iload 6, 2) := by decide +kernel
theorem d23_16 : decode jdk_33_method_12_code 16 = .ok (.ifCond .ne 6, 3) := by decide +kernel
theorem d23_19 : decode jdk_33_method_12_code 19 = .ok (.iload_n 0, 1) := by decide +kernel
theorem d23_20 : decode jdk_33_method_12_code 20 = .ok (.ineg, 1) := by decide +kernel
theorem d23_21 : decode jdk_33_method_12_code 21 = .ok (.istore_n 0, 1) := by decide +kernel
theorem d23_22 : decode jdk_33_method_12_code 22 = .ok (.iload_n 0, 1) := by decide +kernel
theorem d23_23 : decode jdk_33_method_12_code 23 = .ok (.bipush (-100), 2) := by decide +kernel
theorem d23_25 : decode jdk_33_method_12_code 25 = .ok (.if_icmp .gt 47, 3) := by decide +kernel
theorem d23_72 : decode jdk_33_method_12_code 72 = .ok (.aload_n 2, 1) := by decide +kernel
theorem d23_73 : decode jdk_33_method_12_code 73 = .ok (.iinc 5 (-1), 3) := by decide +kernel
theorem d23_76 : decode jdk_33_method_12_code 76 = .ok (.iload 5, 2) := by decide +kernel
theorem d23_78 : decode jdk_33_method_12_code 78 = .ok (.getstatic 83, 3) := by decide +kernel
theorem d23_81 : decode jdk_33_method_12_code 81 = .ok (.iload_n 0, 1) := by decide +kernel
theorem d23_82 : decode jdk_33_method_12_code 82 = .ok (.ineg, 1) := by decide +kernel
theorem d23_83 : decode jdk_33_method_12_code 83 = .ok (.baload, 1) := by decide +kernel
theorem d23_84 : decode jdk_33_method_12_code 84 = .ok (.bastore, 1) := by decide +kernel
theorem d23_85 : decode jdk_33_method_12_code 85 = .ok (.iload_n 0, 1) := by decide +kernel
theorem d23_86 : decode jdk_33_method_12_code 86 = .ok (.bipush (-9), 2) := by decide +kernel
theorem d23_88 : decode jdk_33_method_12_code 88 = .ok (.if_icmp .ge 16, 3) := by decide +kernel
theorem d23_104 : decode jdk_33_method_12_code 104 = .ok (.iload 6, 2) := by decide +kernel
theorem d23_106 : decode jdk_33_method_12_code 106 = .ok (.ifCond .eq 12, 3) := by decide +kernel
theorem d23_118 : decode jdk_33_method_12_code 118 = .ok (.iload 5, 2) := by decide +kernel
theorem d23_120 : decode jdk_33_method_12_code 120 = .ok (.ireturn, 1) := by decide +kernel
theorem ef_GC1 (m : MethodId) (p0 : Int32) (cn : Int32) (a2 : Addr) : entryFrame m #[(.int p0), (.int (cn + (1 : Int32))), (.ref a2)] 7 = mkF m 0 #[.val (.int p0), .val (.int (cn + (1 : Int32))), .val (.ref a2), .unset, .unset, .unset, .unset] [] := by first | (simp [entryFrame, mkF, argsToLocals, Value.category, maxLocals]; done) | rfl
def QGC1 (Z : State) (p0 : Int32) (cn : Int32) (a2 : Addr) (kb : ClassId) (xs : List Int32) (wo : Addr) (wt : Addr) (h0 : Heap) (n0 : Nat) (v : Option Value) (h : Heap) (L : List Loc) : Prop := v = some (.int (cn + (0 : Int32))) ∧ Fr n0 L ∧ Keep h0 h [a2] ∧ Arv Z h a2 kb .byte (16 : Int32) ((xs ++ own_dgs (1 : Int32) p0).map Value.int) (.int (0 : Int32))
set_option maxRecDepth 65536 in
set_option maxHeartbeats 40000000 in
theorem rmGC1 (l : Launch) (Z : State) (aw : Array Value) (hw : ∀ d ∈ tables_1, d.before aw Z = true) (ws : List Jvm.Cond) (p0 : Int32) (cn : Int32) (a2 : Addr) (kb : ClassId) (xs : List Int32) (wo : Addr) (wt : Addr) (h0 : Heap) (n0 : Nat) (Z0 : n0 ≤ h0.size) (hp : own_pt p0) (rr : 1 ≤ p0.toInt ∧ p0.toInt < 10) (V2 : Arv Z h0 a2 kb .byte (16 : Int32) (xs.map Value.int) (.int (0 : Int32))) (hc : own_ln cn xs) (hs : xs.length + 5 ≤ 16) (g_a2 : n0 ≤ a2) (O : own_Old Z n0 h0) (DG : own_DG Z wo wt) :
    MetFree l (⟨"java/lang/Integer", "getChars", "(II[B)I"⟩ : MethodName) (head1 (Jvm.Cond.code (⟨"java/lang/Integer", "getChars", "(II[B)I"⟩ : MethodName) jdk_33_method_12_code 7 (some .int) :: ws) ({ frames := 0, cells := 0, slots := 0, locals := 0 } : Room)) (fun a U => a = #[(.int p0), (.int (cn + (1 : Int32))), (.ref a2)] ∧ Z.Warmed39 U.vm ∧ U.heap = h0) (fun _ _ _ _ _ => True) (fun _ U o U' => ∃ v L, o = .returned v ∧ QGC1 Z p0 cn a2 kb xs wo wt h0 n0 v U'.heap L ∧ FrameEnd U o U' L ({ frames := 0, cells := 0, slots := 0, locals := 0 } : Room).cells ({ frames := 0, cells := 0, slots := 0, locals := 0 } : Room).slots) := by
  refine MetFree.of_bodySF (plainFor_of_name pn_5) hisR ?_
  intro p e s m args below meth c s₁ Bd hml0 hP hK
  obtain ⟨rfl, hZ, hh⟩ := hP
  have hx := Bd.exec
  have hby := Bd.bytes
  have hml : c.maxLocals = 7 := hml0
  have hown : s.vm.findClass "java/lang/Integer" = some m.cls := findClass_of_methodNamed Bd.named
  have hnm := (name_of_methodNamed Bd.named Bd.method).1
  have hlk : meth.locks = false := BodyLoose.notSynchronized Bd
  have X0 : Stand p l e ({ frames := 0, cells := 0, slots := 0, locals := 0 } : Room) s m #[(.int p0), (.int (cn + (1 : Int32))), (.ref a2)] below meth c s₁ [] 0 0 := Stand.of_body Bd
  have _u := trivial
  have eh0 : s₁.heap = h0 := by rw [← hh, Bd.state]; rfl
  have N0 := Fr.nil n0
  show Rest p.tables e below s (QGC1 Z p0 cn a2 kb xs wo wt h0 n0) _ _ (s₁.setTop (entryFrame m #[(.int p0), (.int (cn + (1 : Int32))), (.ref a2)] 7))
  refine Rest.via (fun t k => castTop (ef_GC1 m p0 cn a2) k) ?_
  have Vp : Arv Z h0 a2 kb .byte (16 : Int32) (xs.map Value.int ++ [(.int (0 : Int32))]) (.int (0 : Int32)) := V2.pad (own_pad xs 1)
  have hP := hp.int
  show Rest p.tables e below s _ _ _ (s₁.setTop (mkF m 0 #[.val (.int p0), .val (.int (cn + (1 : Int32))), .val (.ref a2), .unset, .unset, .unset, .unset] []))
  refine Rest.via (fun t k => XS.iloadN X0.here hx rfl (hb hby d23_0) rfl k) ?_
  refine Rest.via (fun t k => XS.istore X0.here hx rfl (hb hby d23_1) rfl (l' := #[.val (.int p0), .val (.int (cn + (1 : Int32))), .val (.ref a2), .unset, .unset, .val (.int (cn + (1 : Int32))), .unset]) rfl k) ?_
  refine Rest.via (fun t k => XS.iloadN X0.here hx rfl (hb hby d23_3) rfl k) ?_
  refine Rest.via (fun t k => XS.ifYes X0.here hx rfl (pc0 := 4) (pc' := 11) rfl (hb hby d23_4) rfl ((if0 _ _).trans (flt (own_nlt (A := p0.toInt) (B := 0) rfl (by decide) (by omega) : ¬ (p0 < (0 : Int32)))).2.1) (by decide) (by decide) k) ?_
  show Rest p.tables e below s _ _ _ (s₁.setTop (mkF m 11 #[.val (.int p0), .val (.int (cn + (1 : Int32))), .val (.ref a2), .unset, .unset, .val (.int (cn + (1 : Int32))), .unset] []))
  refine Rest.via (fun t k => XS.iconst X0.here hx rfl (hb hby d23_11) k) ?_
  refine Rest.via (fun t k => XS.istore X0.here hx rfl (hb hby d23_12) rfl (l' := #[.val (.int p0), .val (.int (cn + (1 : Int32))), .val (.ref a2), .unset, .unset, .val (.int (cn + (1 : Int32))), .val (.int (0 : Int32))]) rfl k) ?_
  refine Rest.via (fun t k => XS.iload X0.here hx rfl (hb hby d23_14) rfl k) ?_
  refine Rest.via (fun t k => XS.ifNo X0.here hx rfl (hb hby d23_16) rfl ((if0 _ _).trans (teq (by decide : (0 : Int32) = (0 : Int32))).2) k) ?_
  show Rest p.tables e below s _ _ _ (s₁.setTop (mkF m 19 #[.val (.int p0), .val (.int (cn + (1 : Int32))), .val (.ref a2), .unset, .unset, .val (.int (cn + (1 : Int32))), .val (.int (0 : Int32))] []))
  refine Rest.via (fun t k => XS.iloadN X0.here hx rfl (hb hby d23_19) rfl k) ?_
  refine Rest.via (fun t k => XS.ineg X0.here hx rfl (hb hby d23_20) rfl k) ?_
  refine Rest.via (fun t k => XS.istoreN X0.here hx rfl (hb hby d23_21) rfl (l' := #[.val (.int (-p0)), .val (.int (cn + (1 : Int32))), .val (.ref a2), .unset, .unset, .val (.int (cn + (1 : Int32))), .val (.int (0 : Int32))]) rfl k) ?_
  refine Rest.via (fun t k => XS.iloadN X0.here hx rfl (hb hby d23_22) rfl k) ?_
  refine Rest.via (fun t k => XS.bipush X0.here hx rfl (hb hby d23_23) k) ?_
  refine Rest.via (fun t k => XS.icmpYes X0.here hx rfl (pc0 := 25) (pc' := 72) rfl (hb hby d23_25) rfl (tlt (own_lt (by decide : (-100 : Int32).toInt = -100) hp.neg (by omega) : (-100 : Int32) < (-p0))).2.2.1 (by decide) (by decide) k) ?_
  show Rest p.tables e below s _ _ _ (s₁.setTop (mkF m 72 #[.val (.int (-p0)), .val (.int (cn + (1 : Int32))), .val (.ref a2), .unset, .unset, .val (.int (cn + (1 : Int32))), .val (.int (0 : Int32))] []))
  refine Rest.via (fun t k => XS.aloadN X0.here hx rfl (hb hby d23_72) rfl rfl k) ?_
  refine Rest.via (fun t k => XS.iinc X0.here hx rfl (hb hby d23_73) rfl (l' := #[.val (.int (-p0)), .val (.int (cn + (1 : Int32))), .val (.ref a2), .unset, .unset, .val (.int ((cn + (1 : Int32)) + (-1 : Int32))), .val (.int (0 : Int32))]) rfl k) ?_
  show Rest p.tables e below s _ _ _ (s₁.setTop (mkF m 76 #[.val (.int (-p0)), .val (.int (cn + (1 : Int32))), .val (.ref a2), .unset, .unset, .val (.int ((cn + (1 : Int32)) + (-1 : Int32))), .val (.int (0 : Int32))] [(.ref a2)]))
  rw [(own_assoc cn (1 : Int32) (-1 : Int32) : ((cn + (1 : Int32)) + (-1 : Int32)) = (cn + (0 : Int32)))]
  show Rest p.tables e below s _ _ _ (s₁.setTop (mkF m 76 #[.val (.int (-p0)), .val (.int (cn + (1 : Int32))), .val (.ref a2), .unset, .unset, .val (.int (cn + (0 : Int32))), .val (.int (0 : Int32))] [(.ref a2)]))
  refine Rest.via (fun t k => XS.iload X0.here hx rfl (hb hby d23_76) rfl k) ?_
  obtain ⟨T1, X1, e1, st1⟩ := getS2 X0 hx hZ hown (host := "") (Or.inl (own_W hw 159 rfl)) Via.refl eh0 (DG.1.ext (O.keep (Keep.refl h0 [a2]) (allS g_a2 all0)).2) (g := (mkF m 78 #[.val (.int (-p0)), .val (.int (cn + (1 : Int32))), .val (.ref a2), .unset, .unset, .val (.int (cn + (0 : Int32))), .val (.int (0 : Int32))] [(.int (cn + (0 : Int32))), (.ref a2)])) rfl (hb hby d23_78)
  refine Rest.via (fun t k => st1 t k) ?_
  show Rest p.tables e below s _ _ _ (T1.setTop (mkF m 81 #[.val (.int (-p0)), .val (.int (cn + (1 : Int32))), .val (.ref a2), .unset, .unset, .val (.int (cn + (0 : Int32))), .val (.int (0 : Int32))] [(.ref wo), (.int (cn + (0 : Int32))), (.ref a2)]))
  refine Rest.via (fun t k => XS.iloadN X1.here hx rfl (hb hby d23_81) rfl k) ?_
  refine Rest.via (fun t k => XS.ineg X1.here hx rfl (hb hby d23_82) rfl k) ?_
  show Rest p.tables e below s _ _ _ (T1.setTop (mkF m 83 #[.val (.int (-p0)), .val (.int (cn + (1 : Int32))), .val (.ref a2), .unset, .unset, .val (.int (cn + (0 : Int32))), .val (.int (0 : Int32))] [(.int (-(-p0))), (.ref wo), (.int (cn + (0 : Int32))), (.ref a2)]))
  have own_rr2 : ((-(-p0))).toInt = p0.toInt := own_ng hp.neg (by omega) (by omega)
  obtain ⟨cl2, Ar2, Sz2, El2⟩ := own_DA_ext DG.2.2.1 (O.keep (Keep.refl h0 [a2]) (allS g_a2 all0)).2
  have lo2 : ¬ (-(-p0)) < (0 : Int32) := own_nlt own_rr2 (by decide : (0 : Int32).toInt = 0) (by omega)
  have hi2 : (-(-p0)) < (100 : Int32) := own_lt own_rr2 (by decide : (100 : Int32).toInt = 100) (by omega)
  refine Rest.via (fun t k => X1.baloadBytes hx (j := (-(-p0))) (v := (.int ((48 : Int32) + ((-(-p0)) % (10 : Int32))))) (by rw [e1]; exact Ar2.1) (State.isArrayOf_alike hZ.alike Ar2.2.1) Ar2.2.2 (own_inb100 Sz2 lo2 hi2) (El2 (-(-p0)) lo2 hi2) (g := (mkF m 83 #[.val (.int (-p0)), .val (.int (cn + (1 : Int32))), .val (.ref a2), .unset, .unset, .val (.int (cn + (0 : Int32))), .val (.int (0 : Int32))] [(.int (-(-p0))), (.ref wo), (.int (cn + (0 : Int32))), (.ref a2)])) rfl rfl (hb hby d23_83) t k) ?_
  show Rest p.tables e below s _ _ _ (T1.setTop (mkF m 84 #[.val (.int (-p0)), .val (.int (cn + (1 : Int32))), .val (.ref a2), .unset, .unset, .val (.int (cn + (0 : Int32))), .val (.int (0 : Int32))] [(.int ((48 : Int32) + ((-(-p0)) % (10 : Int32)))), (.int (cn + (0 : Int32))), (.ref a2)]))
  have dg3 : (own_dg p0 (1 : Int32) (0 : Int32)).toInt = 48 + (p0.toInt / 1) % 10 := own_dgI hp (by decide) (by decide)
  have eq3 : nar .byte ((48 : Int32) + ((-(-p0)) % (10 : Int32))) = (own_dg p0 (1 : Int32) (0 : Int32)) := own_eO own_rr2 (by omega) (by omega) (by omega)
  obtain ⟨cl3, Ar3, qa_3, Sa3, Pa3, Ha3, Ga3⟩ := id Vp
  have ix3 := own_ix (k := (0 : Int32)) (K := 0) hc (by decide) (by omega)
  have hin3 := inb_of (j := (cn + (0 : Int32))) Sa3 ix3.1
  obtain ⟨T3, h3, X3, e3, W3, st3⟩ := stB X1 hx hZ e1 Ar3 (j := (cn + (0 : Int32))) hin3 (g := (mkF m 84 #[.val (.int (-p0)), .val (.int (cn + (1 : Int32))), .val (.ref a2), .unset, .unset, .val (.int (cn + (0 : Int32))), .val (.int (0 : Int32))] [(.int ((48 : Int32) + ((-(-p0)) % (10 : Int32)))), (.int (cn + (0 : Int32))), (.ref a2)])) rfl rfl (hb hby d23_84)
  refine Rest.via (fun t k => st3 t k) ?_
  have N3 := Fr.snoc X3 N0 g_a2
  have K3 : Keep h0 h3 [a2] := (Keep.refl h0 [a2]).wr W3 (Or.inl (List.mem_of_getElem? (i := 0) rfl))
  have V3 : Arv Z h3 a2 kb .byte (16 : Int32) (xs.map Value.int ++ [(.int (own_dg p0 (1 : Int32) (0 : Int32)))]) (.int (0 : Int32)) := by have q := Arv.set Ar3 qa_3 Sa3 Pa3 Ha3 Ga3 (fits_nar_byte _) W3 (xs.length + 0) ix3.2 (by simp); rw [own_setm] at q; have q2 : (((48 : Int32) + ((-(-p0)) % (10 : Int32)))).toInt8.toInt32 = (own_dg p0 (1 : Int32) (0 : Int32)) := eq3; rw [q2] at q; exact q
  show Rest p.tables e below s _ _ _ (T3.setTop (mkF m 85 #[.val (.int (-p0)), .val (.int (cn + (1 : Int32))), .val (.ref a2), .unset, .unset, .val (.int (cn + (0 : Int32))), .val (.int (0 : Int32))] []))
  refine Rest.via (fun t k => XS.iloadN X3.here hx rfl (hb hby d23_85) rfl k) ?_
  refine Rest.via (fun t k => XS.bipush X3.here hx rfl (hb hby d23_86) k) ?_
  refine Rest.via (fun t k => XS.icmpYes X3.here hx rfl (pc0 := 88) (pc' := 104) rfl (hb hby d23_88) rfl (flt (own_nlt hp.neg (by decide : (-9 : Int32).toInt = -9) (by omega) : ¬ ((-p0) < (-9 : Int32)))).2.1 (by decide) (by decide) k) ?_
  show Rest p.tables e below s _ _ _ (T3.setTop (mkF m 104 #[.val (.int (-p0)), .val (.int (cn + (1 : Int32))), .val (.ref a2), .unset, .unset, .val (.int (cn + (0 : Int32))), .val (.int (0 : Int32))] []))
  refine Rest.via (fun t k => XS.iload X3.here hx rfl (hb hby d23_104) rfl k) ?_
  refine Rest.via (fun t k => XS.ifYes X3.here hx rfl (pc0 := 106) (pc' := 118) rfl (hb hby d23_106) rfl ((if0 _ _).trans (teq (by decide : (0 : Int32) = (0 : Int32))).1) (by decide) (by decide) k) ?_
  show Rest p.tables e below s _ _ _ (T3.setTop (mkF m 118 #[.val (.int (-p0)), .val (.int (cn + (1 : Int32))), .val (.ref a2), .unset, .unset, .val (.int (cn + (0 : Int32))), .val (.int (0 : Int32))] []))
  refine Rest.via (fun t k => XS.iload X3.here hx rfl (hb hby d23_118) rfl k) ?_
  refine Rest.ret X3 (v := some (.int (cn + (0 : Int32)))) (fun h => by rw [Bd.returns] at h; cases h) hlk (fun fs hr => retOut X3 hx Bd.returns rfl (Or.inl ⟨rfl, Or.inl rfl, _, rfl⟩) (hb hby d23_120) hr) ?_ (by decide) (by decide)
  rw [e3]
  exact ⟨rfl, N3, K3, by rw [own_dgs_1, List.map_append]; exact V3⟩
theorem d23_91 : decode jdk_33_method_12_code 91 = .ok (.aload_n 2, 1) := by decide +kernel
theorem d23_92 : decode jdk_33_method_12_code 92 = .ok (.iinc 5 (-1), 3) := by decide +kernel
theorem d23_95 : decode jdk_33_method_12_code 95 = .ok (.iload 5, 2) := by decide +kernel
theorem d23_97 : decode jdk_33_method_12_code 97 = .ok (.getstatic 87, 3) := by decide +kernel
theorem d23_100 : decode jdk_33_method_12_code 100 = .ok (.iload_n 0, 1) := by decide +kernel
theorem d23_101 : decode jdk_33_method_12_code 101 = .ok (.ineg, 1) := by decide +kernel
theorem d23_102 : decode jdk_33_method_12_code 102 = .ok (.baload, 1) := by decide +kernel
theorem d23_103 : decode jdk_33_method_12_code 103 = .ok (.bastore, 1) := by decide +kernel
theorem ef_GC2 (m : MethodId) (p0 : Int32) (cn : Int32) (a2 : Addr) : entryFrame m #[(.int p0), (.int (cn + (2 : Int32))), (.ref a2)] 7 = mkF m 0 #[.val (.int p0), .val (.int (cn + (2 : Int32))), .val (.ref a2), .unset, .unset, .unset, .unset] [] := by first | (simp [entryFrame, mkF, argsToLocals, Value.category, maxLocals]; done) | rfl
def QGC2 (Z : State) (p0 : Int32) (cn : Int32) (a2 : Addr) (kb : ClassId) (xs : List Int32) (wo : Addr) (wt : Addr) (h0 : Heap) (n0 : Nat) (v : Option Value) (h : Heap) (L : List Loc) : Prop := v = some (.int (cn + (0 : Int32))) ∧ Fr n0 L ∧ Keep h0 h [a2] ∧ Arv Z h a2 kb .byte (16 : Int32) ((xs ++ own_dgs (2 : Int32) p0).map Value.int) (.int (0 : Int32))
set_option maxRecDepth 65536 in
set_option maxHeartbeats 40000000 in
theorem rmGC2 (l : Launch) (Z : State) (aw : Array Value) (hw : ∀ d ∈ tables_1, d.before aw Z = true) (ws : List Jvm.Cond) (p0 : Int32) (cn : Int32) (a2 : Addr) (kb : ClassId) (xs : List Int32) (wo : Addr) (wt : Addr) (h0 : Heap) (n0 : Nat) (Z0 : n0 ≤ h0.size) (hp : own_pt p0) (rr : 10 ≤ p0.toInt ∧ p0.toInt < 100) (V2 : Arv Z h0 a2 kb .byte (16 : Int32) (xs.map Value.int) (.int (0 : Int32))) (hc : own_ln cn xs) (hs : xs.length + 5 ≤ 16) (g_a2 : n0 ≤ a2) (O : own_Old Z n0 h0) (DG : own_DG Z wo wt) :
    MetFree l (⟨"java/lang/Integer", "getChars", "(II[B)I"⟩ : MethodName) (head1 (Jvm.Cond.code (⟨"java/lang/Integer", "getChars", "(II[B)I"⟩ : MethodName) jdk_33_method_12_code 7 (some .int) :: ws) ({ frames := 0, cells := 0, slots := 0, locals := 0 } : Room)) (fun a U => a = #[(.int p0), (.int (cn + (2 : Int32))), (.ref a2)] ∧ Z.Warmed39 U.vm ∧ U.heap = h0) (fun _ _ _ _ _ => True) (fun _ U o U' => ∃ v L, o = .returned v ∧ QGC2 Z p0 cn a2 kb xs wo wt h0 n0 v U'.heap L ∧ FrameEnd U o U' L ({ frames := 0, cells := 0, slots := 0, locals := 0 } : Room).cells ({ frames := 0, cells := 0, slots := 0, locals := 0 } : Room).slots) := by
  refine MetFree.of_bodySF (plainFor_of_name pn_5) hisR ?_
  intro p e s m args below meth c s₁ Bd hml0 hP hK
  obtain ⟨rfl, hZ, hh⟩ := hP
  have hx := Bd.exec
  have hby := Bd.bytes
  have hml : c.maxLocals = 7 := hml0
  have hown : s.vm.findClass "java/lang/Integer" = some m.cls := findClass_of_methodNamed Bd.named
  have hnm := (name_of_methodNamed Bd.named Bd.method).1
  have hlk : meth.locks = false := BodyLoose.notSynchronized Bd
  have X0 : Stand p l e ({ frames := 0, cells := 0, slots := 0, locals := 0 } : Room) s m #[(.int p0), (.int (cn + (2 : Int32))), (.ref a2)] below meth c s₁ [] 0 0 := Stand.of_body Bd
  have _u := trivial
  have eh0 : s₁.heap = h0 := by rw [← hh, Bd.state]; rfl
  have N0 := Fr.nil n0
  show Rest p.tables e below s (QGC2 Z p0 cn a2 kb xs wo wt h0 n0) _ _ (s₁.setTop (entryFrame m #[(.int p0), (.int (cn + (2 : Int32))), (.ref a2)] 7))
  refine Rest.via (fun t k => castTop (ef_GC2 m p0 cn a2) k) ?_
  have Vp : Arv Z h0 a2 kb .byte (16 : Int32) (xs.map Value.int ++ [(.int (0 : Int32)), (.int (0 : Int32))]) (.int (0 : Int32)) := V2.pad (own_pad xs 2)
  have hP := hp.int
  show Rest p.tables e below s _ _ _ (s₁.setTop (mkF m 0 #[.val (.int p0), .val (.int (cn + (2 : Int32))), .val (.ref a2), .unset, .unset, .unset, .unset] []))
  refine Rest.via (fun t k => XS.iloadN X0.here hx rfl (hb hby d23_0) rfl k) ?_
  refine Rest.via (fun t k => XS.istore X0.here hx rfl (hb hby d23_1) rfl (l' := #[.val (.int p0), .val (.int (cn + (2 : Int32))), .val (.ref a2), .unset, .unset, .val (.int (cn + (2 : Int32))), .unset]) rfl k) ?_
  refine Rest.via (fun t k => XS.iloadN X0.here hx rfl (hb hby d23_3) rfl k) ?_
  refine Rest.via (fun t k => XS.ifYes X0.here hx rfl (pc0 := 4) (pc' := 11) rfl (hb hby d23_4) rfl ((if0 _ _).trans (flt (own_nlt (A := p0.toInt) (B := 0) rfl (by decide) (by omega) : ¬ (p0 < (0 : Int32)))).2.1) (by decide) (by decide) k) ?_
  show Rest p.tables e below s _ _ _ (s₁.setTop (mkF m 11 #[.val (.int p0), .val (.int (cn + (2 : Int32))), .val (.ref a2), .unset, .unset, .val (.int (cn + (2 : Int32))), .unset] []))
  refine Rest.via (fun t k => XS.iconst X0.here hx rfl (hb hby d23_11) k) ?_
  refine Rest.via (fun t k => XS.istore X0.here hx rfl (hb hby d23_12) rfl (l' := #[.val (.int p0), .val (.int (cn + (2 : Int32))), .val (.ref a2), .unset, .unset, .val (.int (cn + (2 : Int32))), .val (.int (0 : Int32))]) rfl k) ?_
  refine Rest.via (fun t k => XS.iload X0.here hx rfl (hb hby d23_14) rfl k) ?_
  refine Rest.via (fun t k => XS.ifNo X0.here hx rfl (hb hby d23_16) rfl ((if0 _ _).trans (teq (by decide : (0 : Int32) = (0 : Int32))).2) k) ?_
  show Rest p.tables e below s _ _ _ (s₁.setTop (mkF m 19 #[.val (.int p0), .val (.int (cn + (2 : Int32))), .val (.ref a2), .unset, .unset, .val (.int (cn + (2 : Int32))), .val (.int (0 : Int32))] []))
  refine Rest.via (fun t k => XS.iloadN X0.here hx rfl (hb hby d23_19) rfl k) ?_
  refine Rest.via (fun t k => XS.ineg X0.here hx rfl (hb hby d23_20) rfl k) ?_
  refine Rest.via (fun t k => XS.istoreN X0.here hx rfl (hb hby d23_21) rfl (l' := #[.val (.int (-p0)), .val (.int (cn + (2 : Int32))), .val (.ref a2), .unset, .unset, .val (.int (cn + (2 : Int32))), .val (.int (0 : Int32))]) rfl k) ?_
  refine Rest.via (fun t k => XS.iloadN X0.here hx rfl (hb hby d23_22) rfl k) ?_
  refine Rest.via (fun t k => XS.bipush X0.here hx rfl (hb hby d23_23) k) ?_
  refine Rest.via (fun t k => XS.icmpYes X0.here hx rfl (pc0 := 25) (pc' := 72) rfl (hb hby d23_25) rfl (tlt (own_lt (by decide : (-100 : Int32).toInt = -100) hp.neg (by omega) : (-100 : Int32) < (-p0))).2.2.1 (by decide) (by decide) k) ?_
  show Rest p.tables e below s _ _ _ (s₁.setTop (mkF m 72 #[.val (.int (-p0)), .val (.int (cn + (2 : Int32))), .val (.ref a2), .unset, .unset, .val (.int (cn + (2 : Int32))), .val (.int (0 : Int32))] []))
  refine Rest.via (fun t k => XS.aloadN X0.here hx rfl (hb hby d23_72) rfl rfl k) ?_
  refine Rest.via (fun t k => XS.iinc X0.here hx rfl (hb hby d23_73) rfl (l' := #[.val (.int (-p0)), .val (.int (cn + (2 : Int32))), .val (.ref a2), .unset, .unset, .val (.int ((cn + (2 : Int32)) + (-1 : Int32))), .val (.int (0 : Int32))]) rfl k) ?_
  show Rest p.tables e below s _ _ _ (s₁.setTop (mkF m 76 #[.val (.int (-p0)), .val (.int (cn + (2 : Int32))), .val (.ref a2), .unset, .unset, .val (.int ((cn + (2 : Int32)) + (-1 : Int32))), .val (.int (0 : Int32))] [(.ref a2)]))
  rw [(own_assoc cn (2 : Int32) (-1 : Int32) : ((cn + (2 : Int32)) + (-1 : Int32)) = (cn + (1 : Int32)))]
  show Rest p.tables e below s _ _ _ (s₁.setTop (mkF m 76 #[.val (.int (-p0)), .val (.int (cn + (2 : Int32))), .val (.ref a2), .unset, .unset, .val (.int (cn + (1 : Int32))), .val (.int (0 : Int32))] [(.ref a2)]))
  refine Rest.via (fun t k => XS.iload X0.here hx rfl (hb hby d23_76) rfl k) ?_
  obtain ⟨T1, X1, e1, st1⟩ := getS2 X0 hx hZ hown (host := "") (Or.inl (own_W hw 159 rfl)) Via.refl eh0 (DG.1.ext (O.keep (Keep.refl h0 [a2]) (allS g_a2 all0)).2) (g := (mkF m 78 #[.val (.int (-p0)), .val (.int (cn + (2 : Int32))), .val (.ref a2), .unset, .unset, .val (.int (cn + (1 : Int32))), .val (.int (0 : Int32))] [(.int (cn + (1 : Int32))), (.ref a2)])) rfl (hb hby d23_78)
  refine Rest.via (fun t k => st1 t k) ?_
  show Rest p.tables e below s _ _ _ (T1.setTop (mkF m 81 #[.val (.int (-p0)), .val (.int (cn + (2 : Int32))), .val (.ref a2), .unset, .unset, .val (.int (cn + (1 : Int32))), .val (.int (0 : Int32))] [(.ref wo), (.int (cn + (1 : Int32))), (.ref a2)]))
  refine Rest.via (fun t k => XS.iloadN X1.here hx rfl (hb hby d23_81) rfl k) ?_
  refine Rest.via (fun t k => XS.ineg X1.here hx rfl (hb hby d23_82) rfl k) ?_
  show Rest p.tables e below s _ _ _ (T1.setTop (mkF m 83 #[.val (.int (-p0)), .val (.int (cn + (2 : Int32))), .val (.ref a2), .unset, .unset, .val (.int (cn + (1 : Int32))), .val (.int (0 : Int32))] [(.int (-(-p0))), (.ref wo), (.int (cn + (1 : Int32))), (.ref a2)]))
  have own_rr2 : ((-(-p0))).toInt = p0.toInt := own_ng hp.neg (by omega) (by omega)
  obtain ⟨cl2, Ar2, Sz2, El2⟩ := own_DA_ext DG.2.2.1 (O.keep (Keep.refl h0 [a2]) (allS g_a2 all0)).2
  have lo2 : ¬ (-(-p0)) < (0 : Int32) := own_nlt own_rr2 (by decide : (0 : Int32).toInt = 0) (by omega)
  have hi2 : (-(-p0)) < (100 : Int32) := own_lt own_rr2 (by decide : (100 : Int32).toInt = 100) (by omega)
  refine Rest.via (fun t k => X1.baloadBytes hx (j := (-(-p0))) (v := (.int ((48 : Int32) + ((-(-p0)) % (10 : Int32))))) (by rw [e1]; exact Ar2.1) (State.isArrayOf_alike hZ.alike Ar2.2.1) Ar2.2.2 (own_inb100 Sz2 lo2 hi2) (El2 (-(-p0)) lo2 hi2) (g := (mkF m 83 #[.val (.int (-p0)), .val (.int (cn + (2 : Int32))), .val (.ref a2), .unset, .unset, .val (.int (cn + (1 : Int32))), .val (.int (0 : Int32))] [(.int (-(-p0))), (.ref wo), (.int (cn + (1 : Int32))), (.ref a2)])) rfl rfl (hb hby d23_83) t k) ?_
  show Rest p.tables e below s _ _ _ (T1.setTop (mkF m 84 #[.val (.int (-p0)), .val (.int (cn + (2 : Int32))), .val (.ref a2), .unset, .unset, .val (.int (cn + (1 : Int32))), .val (.int (0 : Int32))] [(.int ((48 : Int32) + ((-(-p0)) % (10 : Int32)))), (.int (cn + (1 : Int32))), (.ref a2)]))
  have dg3 : (own_dg p0 (2 : Int32) (1 : Int32)).toInt = 48 + (p0.toInt / 1) % 10 := own_dgI hp (by decide) (by decide)
  have eq3 : nar .byte ((48 : Int32) + ((-(-p0)) % (10 : Int32))) = (own_dg p0 (2 : Int32) (1 : Int32)) := own_eO own_rr2 (by omega) (by omega) (by omega)
  obtain ⟨cl3, Ar3, qa_3, Sa3, Pa3, Ha3, Ga3⟩ := id Vp
  have ix3 := own_ix (k := (1 : Int32)) (K := 1) hc (by decide) (by omega)
  have hin3 := inb_of (j := (cn + (1 : Int32))) Sa3 ix3.1
  obtain ⟨T3, h3, X3, e3, W3, st3⟩ := stB X1 hx hZ e1 Ar3 (j := (cn + (1 : Int32))) hin3 (g := (mkF m 84 #[.val (.int (-p0)), .val (.int (cn + (2 : Int32))), .val (.ref a2), .unset, .unset, .val (.int (cn + (1 : Int32))), .val (.int (0 : Int32))] [(.int ((48 : Int32) + ((-(-p0)) % (10 : Int32)))), (.int (cn + (1 : Int32))), (.ref a2)])) rfl rfl (hb hby d23_84)
  refine Rest.via (fun t k => st3 t k) ?_
  have N3 := Fr.snoc X3 N0 g_a2
  have K3 : Keep h0 h3 [a2] := (Keep.refl h0 [a2]).wr W3 (Or.inl (List.mem_of_getElem? (i := 0) rfl))
  have V3 : Arv Z h3 a2 kb .byte (16 : Int32) (xs.map Value.int ++ [(.int (0 : Int32)), (.int (own_dg p0 (2 : Int32) (1 : Int32)))]) (.int (0 : Int32)) := by have q := Arv.set Ar3 qa_3 Sa3 Pa3 Ha3 Ga3 (fits_nar_byte _) W3 (xs.length + 1) ix3.2 (by simp); rw [own_setm] at q; have q2 : (((48 : Int32) + ((-(-p0)) % (10 : Int32)))).toInt8.toInt32 = (own_dg p0 (2 : Int32) (1 : Int32)) := eq3; rw [q2] at q; exact q
  show Rest p.tables e below s _ _ _ (T3.setTop (mkF m 85 #[.val (.int (-p0)), .val (.int (cn + (2 : Int32))), .val (.ref a2), .unset, .unset, .val (.int (cn + (1 : Int32))), .val (.int (0 : Int32))] []))
  refine Rest.via (fun t k => XS.iloadN X3.here hx rfl (hb hby d23_85) rfl k) ?_
  refine Rest.via (fun t k => XS.bipush X3.here hx rfl (hb hby d23_86) k) ?_
  refine Rest.via (fun t k => XS.icmpNo X3.here hx rfl (hb hby d23_88) rfl (tlt (own_lt hp.neg (by decide : (-9 : Int32).toInt = -9) (by omega) : (-p0) < (-9 : Int32))).2.1 k) ?_
  show Rest p.tables e below s _ _ _ (T3.setTop (mkF m 91 #[.val (.int (-p0)), .val (.int (cn + (2 : Int32))), .val (.ref a2), .unset, .unset, .val (.int (cn + (1 : Int32))), .val (.int (0 : Int32))] []))
  refine Rest.via (fun t k => XS.aloadN X3.here hx rfl (hb hby d23_91) rfl rfl k) ?_
  refine Rest.via (fun t k => XS.iinc X3.here hx rfl (hb hby d23_92) rfl (l' := #[.val (.int (-p0)), .val (.int (cn + (2 : Int32))), .val (.ref a2), .unset, .unset, .val (.int ((cn + (1 : Int32)) + (-1 : Int32))), .val (.int (0 : Int32))]) rfl k) ?_
  show Rest p.tables e below s _ _ _ (T3.setTop (mkF m 95 #[.val (.int (-p0)), .val (.int (cn + (2 : Int32))), .val (.ref a2), .unset, .unset, .val (.int ((cn + (1 : Int32)) + (-1 : Int32))), .val (.int (0 : Int32))] [(.ref a2)]))
  rw [(own_assoc cn (1 : Int32) (-1 : Int32) : ((cn + (1 : Int32)) + (-1 : Int32)) = (cn + (0 : Int32)))]
  show Rest p.tables e below s _ _ _ (T3.setTop (mkF m 95 #[.val (.int (-p0)), .val (.int (cn + (2 : Int32))), .val (.ref a2), .unset, .unset, .val (.int (cn + (0 : Int32))), .val (.int (0 : Int32))] [(.ref a2)]))
  refine Rest.via (fun t k => XS.iload X3.here hx rfl (hb hby d23_95) rfl k) ?_
  obtain ⟨T4, X4, e4, st4⟩ := getS2 X3 hx hZ hown (host := "") (Or.inl (own_W hw 237 rfl)) Via.refl e3 (DG.2.1.ext (O.keep K3 (allS g_a2 all0)).2) (g := (mkF m 97 #[.val (.int (-p0)), .val (.int (cn + (2 : Int32))), .val (.ref a2), .unset, .unset, .val (.int (cn + (0 : Int32))), .val (.int (0 : Int32))] [(.int (cn + (0 : Int32))), (.ref a2)])) rfl (hb hby d23_97)
  refine Rest.via (fun t k => st4 t k) ?_
  show Rest p.tables e below s _ _ _ (T4.setTop (mkF m 100 #[.val (.int (-p0)), .val (.int (cn + (2 : Int32))), .val (.ref a2), .unset, .unset, .val (.int (cn + (0 : Int32))), .val (.int (0 : Int32))] [(.ref wt), (.int (cn + (0 : Int32))), (.ref a2)]))
  refine Rest.via (fun t k => XS.iloadN X4.here hx rfl (hb hby d23_100) rfl k) ?_
  refine Rest.via (fun t k => XS.ineg X4.here hx rfl (hb hby d23_101) rfl k) ?_
  show Rest p.tables e below s _ _ _ (T4.setTop (mkF m 102 #[.val (.int (-p0)), .val (.int (cn + (2 : Int32))), .val (.ref a2), .unset, .unset, .val (.int (cn + (0 : Int32))), .val (.int (0 : Int32))] [(.int (-(-p0))), (.ref wt), (.int (cn + (0 : Int32))), (.ref a2)]))
  have own_rr5 : ((-(-p0))).toInt = p0.toInt := own_ng hp.neg (by omega) (by omega)
  obtain ⟨cl5, Ar5, Sz5, El5⟩ := own_DA_ext DG.2.2.2 (O.keep K3 (allS g_a2 all0)).2
  have lo5 : ¬ (-(-p0)) < (0 : Int32) := own_nlt own_rr5 (by decide : (0 : Int32).toInt = 0) (by omega)
  have hi5 : (-(-p0)) < (100 : Int32) := own_lt own_rr5 (by decide : (100 : Int32).toInt = 100) (by omega)
  refine Rest.via (fun t k => X4.baloadBytes hx (j := (-(-p0))) (v := (.int ((48 : Int32) + ((-(-p0)) / (10 : Int32))))) (by rw [e4]; exact Ar5.1) (State.isArrayOf_alike hZ.alike Ar5.2.1) Ar5.2.2 (own_inb100 Sz5 lo5 hi5) (El5 (-(-p0)) lo5 hi5) (g := (mkF m 102 #[.val (.int (-p0)), .val (.int (cn + (2 : Int32))), .val (.ref a2), .unset, .unset, .val (.int (cn + (0 : Int32))), .val (.int (0 : Int32))] [(.int (-(-p0))), (.ref wt), (.int (cn + (0 : Int32))), (.ref a2)])) rfl rfl (hb hby d23_102) t k) ?_
  show Rest p.tables e below s _ _ _ (T4.setTop (mkF m 103 #[.val (.int (-p0)), .val (.int (cn + (2 : Int32))), .val (.ref a2), .unset, .unset, .val (.int (cn + (0 : Int32))), .val (.int (0 : Int32))] [(.int ((48 : Int32) + ((-(-p0)) / (10 : Int32)))), (.int (cn + (0 : Int32))), (.ref a2)]))
  have dg6 : (own_dg p0 (2 : Int32) (0 : Int32)).toInt = 48 + (p0.toInt / 10) % 10 := own_dgI hp (by decide) (by decide)
  have eq6 : nar .byte ((48 : Int32) + ((-(-p0)) / (10 : Int32))) = (own_dg p0 (2 : Int32) (0 : Int32)) := own_eT own_rr5 (by omega) (by omega) (by omega)
  obtain ⟨cl6, Ar6, qa_6, Sa6, Pa6, Ha6, Ga6⟩ := id V3
  have ix6 := own_ix (k := (0 : Int32)) (K := 0) hc (by decide) (by omega)
  have hin6 := inb_of (j := (cn + (0 : Int32))) Sa6 ix6.1
  obtain ⟨T6, h6, X6, e6, W6, st6⟩ := stB X4 hx hZ e4 Ar6 (j := (cn + (0 : Int32))) hin6 (g := (mkF m 103 #[.val (.int (-p0)), .val (.int (cn + (2 : Int32))), .val (.ref a2), .unset, .unset, .val (.int (cn + (0 : Int32))), .val (.int (0 : Int32))] [(.int ((48 : Int32) + ((-(-p0)) / (10 : Int32)))), (.int (cn + (0 : Int32))), (.ref a2)])) rfl rfl (hb hby d23_103)
  refine Rest.via (fun t k => st6 t k) ?_
  have N6 := Fr.snoc X6 N3 g_a2
  have K6 : Keep h0 h6 [a2] := K3.wr W6 (Or.inl (List.mem_of_getElem? (i := 0) rfl))
  have V6 : Arv Z h6 a2 kb .byte (16 : Int32) (xs.map Value.int ++ [(.int (own_dg p0 (2 : Int32) (0 : Int32))), (.int (own_dg p0 (2 : Int32) (1 : Int32)))]) (.int (0 : Int32)) := by have q := Arv.set Ar6 qa_6 Sa6 Pa6 Ha6 Ga6 (fits_nar_byte _) W6 (xs.length + 0) ix6.2 (by simp); rw [own_setm] at q; have q2 : (((48 : Int32) + ((-(-p0)) / (10 : Int32)))).toInt8.toInt32 = (own_dg p0 (2 : Int32) (0 : Int32)) := eq6; rw [q2] at q; exact q
  show Rest p.tables e below s _ _ _ (T6.setTop (mkF m 104 #[.val (.int (-p0)), .val (.int (cn + (2 : Int32))), .val (.ref a2), .unset, .unset, .val (.int (cn + (0 : Int32))), .val (.int (0 : Int32))] []))
  refine Rest.via (fun t k => XS.iload X6.here hx rfl (hb hby d23_104) rfl k) ?_
  refine Rest.via (fun t k => XS.ifYes X6.here hx rfl (pc0 := 106) (pc' := 118) rfl (hb hby d23_106) rfl ((if0 _ _).trans (teq (by decide : (0 : Int32) = (0 : Int32))).1) (by decide) (by decide) k) ?_
  show Rest p.tables e below s _ _ _ (T6.setTop (mkF m 118 #[.val (.int (-p0)), .val (.int (cn + (2 : Int32))), .val (.ref a2), .unset, .unset, .val (.int (cn + (0 : Int32))), .val (.int (0 : Int32))] []))
  refine Rest.via (fun t k => XS.iload X6.here hx rfl (hb hby d23_118) rfl k) ?_
  refine Rest.ret X6 (v := some (.int (cn + (0 : Int32)))) (fun h => by rw [Bd.returns] at h; cases h) hlk (fun fs hr => retOut X6 hx Bd.returns rfl (Or.inl ⟨rfl, Or.inl rfl, _, rfl⟩) (hb hby d23_120) hr) ?_ (by decide) (by decide)
  rw [e6]
  exact ⟨rfl, N6, K6, by rw [own_dgs_2, List.map_append]; exact V6⟩
theorem d23_28 : decode jdk_33_method_12_code 28 = .ok (.iload_n 0, 1) := by decide +kernel
theorem d23_29 : decode jdk_33_method_12_code 29 = .ok (.bipush 100, 2) := by decide +kernel
theorem d23_31 : decode jdk_33_method_12_code 31 = .ok (.idiv, 1) := by decide +kernel
theorem d23_32 : decode jdk_33_method_12_code 32 = .ok (.istore_n 3, 1) := by decide +kernel
theorem d23_33 : decode jdk_33_method_12_code 33 = .ok (.iload_n 3, 1) := by decide +kernel
theorem d23_34 : decode jdk_33_method_12_code 34 = .ok (.bipush 100, 2) := by decide +kernel
theorem d23_36 : decode jdk_33_method_12_code 36 = .ok (.imul, 1) := by decide +kernel
theorem d23_37 : decode jdk_33_method_12_code 37 = .ok (.iload_n 0, 1) := by decide +kernel
theorem d23_38 : decode jdk_33_method_12_code 38 = .ok (.isub, 1) := by decide +kernel
theorem d23_39 : decode jdk_33_method_12_code 39 = .ok (.istore 4, 2) := by decide +kernel
theorem d23_41 : decode jdk_33_method_12_code 41 = .ok (.iload_n 3, 1) := by decide +kernel
theorem d23_42 : decode jdk_33_method_12_code 42 = .ok (.istore_n 0, 1) := by decide +kernel
theorem d23_43 : decode jdk_33_method_12_code 43 = .ok (.aload_n 2, 1) := by decide +kernel
theorem d23_44 : decode jdk_33_method_12_code 44 = .ok (.iinc 5 (-1), 3) := by decide +kernel
theorem d23_47 : decode jdk_33_method_12_code 47 = .ok (.iload 5, 2) := by decide +kernel
theorem d23_49 : decode jdk_33_method_12_code 49 = .ok (.getstatic 83, 3) := by decide +kernel
theorem d23_52 : decode jdk_33_method_12_code 52 = .ok (.iload 4, 2) := by decide +kernel
theorem d23_54 : decode jdk_33_method_12_code 54 = .ok (.baload, 1) := by decide +kernel
theorem d23_55 : decode jdk_33_method_12_code 55 = .ok (.bastore, 1) := by decide +kernel
theorem d23_56 : decode jdk_33_method_12_code 56 = .ok (.aload_n 2, 1) := by decide +kernel
theorem d23_57 : decode jdk_33_method_12_code 57 = .ok (.iinc 5 (-1), 3) := by decide +kernel
theorem d23_60 : decode jdk_33_method_12_code 60 = .ok (.iload 5, 2) := by decide +kernel
theorem d23_62 : decode jdk_33_method_12_code 62 = .ok (.getstatic 87, 3) := by decide +kernel
theorem d23_65 : decode jdk_33_method_12_code 65 = .ok (.iload 4, 2) := by decide +kernel
theorem d23_67 : decode jdk_33_method_12_code 67 = .ok (.baload, 1) := by decide +kernel
theorem d23_68 : decode jdk_33_method_12_code 68 = .ok (.bastore, 1) := by decide +kernel
theorem d23_69 : decode jdk_33_method_12_code 69 = .ok (.goto (-47), 3) := by decide +kernel
theorem ef_GC3 (m : MethodId) (p0 : Int32) (cn : Int32) (a2 : Addr) : entryFrame m #[(.int p0), (.int (cn + (3 : Int32))), (.ref a2)] 7 = mkF m 0 #[.val (.int p0), .val (.int (cn + (3 : Int32))), .val (.ref a2), .unset, .unset, .unset, .unset] [] := by first | (simp [entryFrame, mkF, argsToLocals, Value.category, maxLocals]; done) | rfl
def QGC3 (Z : State) (p0 : Int32) (cn : Int32) (a2 : Addr) (kb : ClassId) (xs : List Int32) (wo : Addr) (wt : Addr) (h0 : Heap) (n0 : Nat) (v : Option Value) (h : Heap) (L : List Loc) : Prop := v = some (.int (cn + (0 : Int32))) ∧ Fr n0 L ∧ Keep h0 h [a2] ∧ Arv Z h a2 kb .byte (16 : Int32) ((xs ++ own_dgs (3 : Int32) p0).map Value.int) (.int (0 : Int32))
set_option maxRecDepth 65536 in
set_option maxHeartbeats 40000000 in
theorem rmGC3 (l : Launch) (Z : State) (aw : Array Value) (hw : ∀ d ∈ tables_1, d.before aw Z = true) (ws : List Jvm.Cond) (p0 : Int32) (cn : Int32) (a2 : Addr) (kb : ClassId) (xs : List Int32) (wo : Addr) (wt : Addr) (h0 : Heap) (n0 : Nat) (Z0 : n0 ≤ h0.size) (hp : own_pt p0) (rr : 100 ≤ p0.toInt ∧ p0.toInt < 1000) (V2 : Arv Z h0 a2 kb .byte (16 : Int32) (xs.map Value.int) (.int (0 : Int32))) (hc : own_ln cn xs) (hs : xs.length + 5 ≤ 16) (g_a2 : n0 ≤ a2) (O : own_Old Z n0 h0) (DG : own_DG Z wo wt) :
    MetFree l (⟨"java/lang/Integer", "getChars", "(II[B)I"⟩ : MethodName) (head1 (Jvm.Cond.code (⟨"java/lang/Integer", "getChars", "(II[B)I"⟩ : MethodName) jdk_33_method_12_code 7 (some .int) :: ws) ({ frames := 0, cells := 0, slots := 0, locals := 0 } : Room)) (fun a U => a = #[(.int p0), (.int (cn + (3 : Int32))), (.ref a2)] ∧ Z.Warmed39 U.vm ∧ U.heap = h0) (fun _ _ _ _ _ => True) (fun _ U o U' => ∃ v L, o = .returned v ∧ QGC3 Z p0 cn a2 kb xs wo wt h0 n0 v U'.heap L ∧ FrameEnd U o U' L ({ frames := 0, cells := 0, slots := 0, locals := 0 } : Room).cells ({ frames := 0, cells := 0, slots := 0, locals := 0 } : Room).slots) := by
  refine MetFree.of_bodySF (plainFor_of_name pn_5) hisR ?_
  intro p e s m args below meth c s₁ Bd hml0 hP hK
  obtain ⟨rfl, hZ, hh⟩ := hP
  have hx := Bd.exec
  have hby := Bd.bytes
  have hml : c.maxLocals = 7 := hml0
  have hown : s.vm.findClass "java/lang/Integer" = some m.cls := findClass_of_methodNamed Bd.named
  have hnm := (name_of_methodNamed Bd.named Bd.method).1
  have hlk : meth.locks = false := BodyLoose.notSynchronized Bd
  have X0 : Stand p l e ({ frames := 0, cells := 0, slots := 0, locals := 0 } : Room) s m #[(.int p0), (.int (cn + (3 : Int32))), (.ref a2)] below meth c s₁ [] 0 0 := Stand.of_body Bd
  have _u := trivial
  have eh0 : s₁.heap = h0 := by rw [← hh, Bd.state]; rfl
  have N0 := Fr.nil n0
  show Rest p.tables e below s (QGC3 Z p0 cn a2 kb xs wo wt h0 n0) _ _ (s₁.setTop (entryFrame m #[(.int p0), (.int (cn + (3 : Int32))), (.ref a2)] 7))
  refine Rest.via (fun t k => castTop (ef_GC3 m p0 cn a2) k) ?_
  have Vp : Arv Z h0 a2 kb .byte (16 : Int32) (xs.map Value.int ++ [(.int (0 : Int32)), (.int (0 : Int32)), (.int (0 : Int32))]) (.int (0 : Int32)) := V2.pad (own_pad xs 3)
  have hP := hp.int
  show Rest p.tables e below s _ _ _ (s₁.setTop (mkF m 0 #[.val (.int p0), .val (.int (cn + (3 : Int32))), .val (.ref a2), .unset, .unset, .unset, .unset] []))
  refine Rest.via (fun t k => XS.iloadN X0.here hx rfl (hb hby d23_0) rfl k) ?_
  refine Rest.via (fun t k => XS.istore X0.here hx rfl (hb hby d23_1) rfl (l' := #[.val (.int p0), .val (.int (cn + (3 : Int32))), .val (.ref a2), .unset, .unset, .val (.int (cn + (3 : Int32))), .unset]) rfl k) ?_
  refine Rest.via (fun t k => XS.iloadN X0.here hx rfl (hb hby d23_3) rfl k) ?_
  refine Rest.via (fun t k => XS.ifYes X0.here hx rfl (pc0 := 4) (pc' := 11) rfl (hb hby d23_4) rfl ((if0 _ _).trans (flt (own_nlt (A := p0.toInt) (B := 0) rfl (by decide) (by omega) : ¬ (p0 < (0 : Int32)))).2.1) (by decide) (by decide) k) ?_
  show Rest p.tables e below s _ _ _ (s₁.setTop (mkF m 11 #[.val (.int p0), .val (.int (cn + (3 : Int32))), .val (.ref a2), .unset, .unset, .val (.int (cn + (3 : Int32))), .unset] []))
  refine Rest.via (fun t k => XS.iconst X0.here hx rfl (hb hby d23_11) k) ?_
  refine Rest.via (fun t k => XS.istore X0.here hx rfl (hb hby d23_12) rfl (l' := #[.val (.int p0), .val (.int (cn + (3 : Int32))), .val (.ref a2), .unset, .unset, .val (.int (cn + (3 : Int32))), .val (.int (0 : Int32))]) rfl k) ?_
  refine Rest.via (fun t k => XS.iload X0.here hx rfl (hb hby d23_14) rfl k) ?_
  refine Rest.via (fun t k => XS.ifNo X0.here hx rfl (hb hby d23_16) rfl ((if0 _ _).trans (teq (by decide : (0 : Int32) = (0 : Int32))).2) k) ?_
  show Rest p.tables e below s _ _ _ (s₁.setTop (mkF m 19 #[.val (.int p0), .val (.int (cn + (3 : Int32))), .val (.ref a2), .unset, .unset, .val (.int (cn + (3 : Int32))), .val (.int (0 : Int32))] []))
  refine Rest.via (fun t k => XS.iloadN X0.here hx rfl (hb hby d23_19) rfl k) ?_
  refine Rest.via (fun t k => XS.ineg X0.here hx rfl (hb hby d23_20) rfl k) ?_
  refine Rest.via (fun t k => XS.istoreN X0.here hx rfl (hb hby d23_21) rfl (l' := #[.val (.int (-p0)), .val (.int (cn + (3 : Int32))), .val (.ref a2), .unset, .unset, .val (.int (cn + (3 : Int32))), .val (.int (0 : Int32))]) rfl k) ?_
  refine Rest.via (fun t k => XS.iloadN X0.here hx rfl (hb hby d23_22) rfl k) ?_
  refine Rest.via (fun t k => XS.bipush X0.here hx rfl (hb hby d23_23) k) ?_
  refine Rest.via (fun t k => XS.icmpNo X0.here hx rfl (hb hby d23_25) rfl (flt (own_nlt (by decide : (-100 : Int32).toInt = -100) hp.neg (by omega) : ¬ ((-100 : Int32) < (-p0)))).2.2.1 k) ?_
  show Rest p.tables e below s _ _ _ (s₁.setTop (mkF m 28 #[.val (.int (-p0)), .val (.int (cn + (3 : Int32))), .val (.ref a2), .unset, .unset, .val (.int (cn + (3 : Int32))), .val (.int (0 : Int32))] []))
  refine Rest.via (fun t k => XS.iloadN X0.here hx rfl (hb hby d23_28) rfl k) ?_
  refine Rest.via (fun t k => XS.bipush X0.here hx rfl (hb hby d23_29) k) ?_
  refine Rest.via (fun t k => XS.idiv X0.here hx rfl (hb hby d23_31) rfl (by decide) k) ?_
  show Rest p.tables e below s _ _ _ (s₁.setTop (mkF m 32 #[.val (.int (-p0)), .val (.int (cn + (3 : Int32))), .val (.ref a2), .unset, .unset, .val (.int (cn + (3 : Int32))), .val (.int (0 : Int32))] [(.int ((-p0) / (100 : Int32)))]))
  refine Rest.via (fun t k => XS.istoreN X0.here hx rfl (hb hby d23_32) rfl (l' := #[.val (.int (-p0)), .val (.int (cn + (3 : Int32))), .val (.ref a2), .val (.int ((-p0) / (100 : Int32))), .unset, .val (.int (cn + (3 : Int32))), .val (.int (0 : Int32))]) rfl k) ?_
  show Rest p.tables e below s _ _ _ (s₁.setTop (mkF m 33 #[.val (.int (-p0)), .val (.int (cn + (3 : Int32))), .val (.ref a2), .val (.int ((-p0) / (100 : Int32))), .unset, .val (.int (cn + (3 : Int32))), .val (.int (0 : Int32))] []))
  obtain ⟨qa1, hv_qa1⟩ : ∃ z : Int32, z = ((-p0) / (100 : Int32)) := ⟨_, rfl⟩
  rw [← hv_qa1]
  refine Rest.via (fun t k => XS.iloadN X0.here hx rfl (hb hby d23_33) rfl k) ?_
  refine Rest.via (fun t k => XS.bipush X0.here hx rfl (hb hby d23_34) k) ?_
  refine Rest.via (fun t k => XS.imul X0.here hx rfl (hb hby d23_36) rfl k) ?_
  refine Rest.via (fun t k => XS.iloadN X0.here hx rfl (hb hby d23_37) rfl k) ?_
  refine Rest.via (fun t k => XS.isub X0.here hx rfl (hb hby d23_38) rfl k) ?_
  show Rest p.tables e below s _ _ _ (s₁.setTop (mkF m 39 #[.val (.int (-p0)), .val (.int (cn + (3 : Int32))), .val (.ref a2), .val (.int qa1), .unset, .val (.int (cn + (3 : Int32))), .val (.int (0 : Int32))] [(.int ((qa1 * (100 : Int32)) - (-p0)))]))
  refine Rest.via (fun t k => XS.istore X0.here hx rfl (hb hby d23_39) rfl (l' := #[.val (.int (-p0)), .val (.int (cn + (3 : Int32))), .val (.ref a2), .val (.int qa1), .val (.int ((qa1 * (100 : Int32)) - (-p0))), .val (.int (cn + (3 : Int32))), .val (.int (0 : Int32))]) rfl k) ?_
  show Rest p.tables e below s _ _ _ (s₁.setTop (mkF m 41 #[.val (.int (-p0)), .val (.int (cn + (3 : Int32))), .val (.ref a2), .val (.int qa1), .val (.int ((qa1 * (100 : Int32)) - (-p0))), .val (.int (cn + (3 : Int32))), .val (.int (0 : Int32))] []))
  obtain ⟨ra1, hv_ra1⟩ : ∃ z : Int32, z = ((qa1 * (100 : Int32)) - (-p0)) := ⟨_, rfl⟩
  rw [← hv_ra1]
  show Rest p.tables e below s _ _ _ (s₁.setTop (mkF m 41 #[.val (.int (-p0)), .val (.int (cn + (3 : Int32))), .val (.ref a2), .val (.int qa1), .val (.int ra1), .val (.int (cn + (3 : Int32))), .val (.int (0 : Int32))] []))
  have it1 := own_it hp.neg (by omega) (by omega) hv_qa1 hv_ra1
  refine Rest.via (fun t k => XS.iloadN X0.here hx rfl (hb hby d23_41) rfl k) ?_
  refine Rest.via (fun t k => XS.istoreN X0.here hx rfl (hb hby d23_42) rfl (l' := #[.val (.int qa1), .val (.int (cn + (3 : Int32))), .val (.ref a2), .val (.int qa1), .val (.int ra1), .val (.int (cn + (3 : Int32))), .val (.int (0 : Int32))]) rfl k) ?_
  refine Rest.via (fun t k => XS.aloadN X0.here hx rfl (hb hby d23_43) rfl rfl k) ?_
  refine Rest.via (fun t k => XS.iinc X0.here hx rfl (hb hby d23_44) rfl (l' := #[.val (.int qa1), .val (.int (cn + (3 : Int32))), .val (.ref a2), .val (.int qa1), .val (.int ra1), .val (.int ((cn + (3 : Int32)) + (-1 : Int32))), .val (.int (0 : Int32))]) rfl k) ?_
  show Rest p.tables e below s _ _ _ (s₁.setTop (mkF m 47 #[.val (.int qa1), .val (.int (cn + (3 : Int32))), .val (.ref a2), .val (.int qa1), .val (.int ra1), .val (.int ((cn + (3 : Int32)) + (-1 : Int32))), .val (.int (0 : Int32))] [(.ref a2)]))
  rw [(own_assoc cn (3 : Int32) (-1 : Int32) : ((cn + (3 : Int32)) + (-1 : Int32)) = (cn + (2 : Int32)))]
  show Rest p.tables e below s _ _ _ (s₁.setTop (mkF m 47 #[.val (.int qa1), .val (.int (cn + (3 : Int32))), .val (.ref a2), .val (.int qa1), .val (.int ra1), .val (.int (cn + (2 : Int32))), .val (.int (0 : Int32))] [(.ref a2)]))
  refine Rest.via (fun t k => XS.iload X0.here hx rfl (hb hby d23_47) rfl k) ?_
  obtain ⟨T1, X1, e1, st1⟩ := getS2 X0 hx hZ hown (host := "") (Or.inl (own_W hw 159 rfl)) Via.refl eh0 (DG.1.ext (O.keep (Keep.refl h0 [a2]) (allS g_a2 all0)).2) (g := (mkF m 49 #[.val (.int qa1), .val (.int (cn + (3 : Int32))), .val (.ref a2), .val (.int qa1), .val (.int ra1), .val (.int (cn + (2 : Int32))), .val (.int (0 : Int32))] [(.int (cn + (2 : Int32))), (.ref a2)])) rfl (hb hby d23_49)
  refine Rest.via (fun t k => st1 t k) ?_
  show Rest p.tables e below s _ _ _ (T1.setTop (mkF m 52 #[.val (.int qa1), .val (.int (cn + (3 : Int32))), .val (.ref a2), .val (.int qa1), .val (.int ra1), .val (.int (cn + (2 : Int32))), .val (.int (0 : Int32))] [(.ref wo), (.int (cn + (2 : Int32))), (.ref a2)]))
  refine Rest.via (fun t k => XS.iload X1.here hx rfl (hb hby d23_52) rfl k) ?_
  show Rest p.tables e below s _ _ _ (T1.setTop (mkF m 54 #[.val (.int qa1), .val (.int (cn + (3 : Int32))), .val (.ref a2), .val (.int qa1), .val (.int ra1), .val (.int (cn + (2 : Int32))), .val (.int (0 : Int32))] [(.int ra1), (.ref wo), (.int (cn + (2 : Int32))), (.ref a2)]))
  obtain ⟨cl2, Ar2, Sz2, El2⟩ := own_DA_ext DG.2.2.1 (O.keep (Keep.refl h0 [a2]) (allS g_a2 all0)).2
  have lo2 : ¬ ra1 < (0 : Int32) := own_nlt it1.2 (by decide : (0 : Int32).toInt = 0) (by omega)
  have hi2 : ra1 < (100 : Int32) := own_lt it1.2 (by decide : (100 : Int32).toInt = 100) (by omega)
  refine Rest.via (fun t k => X1.baloadBytes hx (j := ra1) (v := (.int ((48 : Int32) + (ra1 % (10 : Int32))))) (by rw [e1]; exact Ar2.1) (State.isArrayOf_alike hZ.alike Ar2.2.1) Ar2.2.2 (own_inb100 Sz2 lo2 hi2) (El2 ra1 lo2 hi2) (g := (mkF m 54 #[.val (.int qa1), .val (.int (cn + (3 : Int32))), .val (.ref a2), .val (.int qa1), .val (.int ra1), .val (.int (cn + (2 : Int32))), .val (.int (0 : Int32))] [(.int ra1), (.ref wo), (.int (cn + (2 : Int32))), (.ref a2)])) rfl rfl (hb hby d23_54) t k) ?_
  show Rest p.tables e below s _ _ _ (T1.setTop (mkF m 55 #[.val (.int qa1), .val (.int (cn + (3 : Int32))), .val (.ref a2), .val (.int qa1), .val (.int ra1), .val (.int (cn + (2 : Int32))), .val (.int (0 : Int32))] [(.int ((48 : Int32) + (ra1 % (10 : Int32)))), (.int (cn + (2 : Int32))), (.ref a2)]))
  have dg3 : (own_dg p0 (3 : Int32) (2 : Int32)).toInt = 48 + (p0.toInt / 1) % 10 := own_dgI hp (by decide) (by decide)
  have eq3 : nar .byte ((48 : Int32) + (ra1 % (10 : Int32))) = (own_dg p0 (3 : Int32) (2 : Int32)) := own_eO it1.2 (by omega) (by omega) (by omega)
  obtain ⟨cl3, Ar3, qa_3, Sa3, Pa3, Ha3, Ga3⟩ := id Vp
  have ix3 := own_ix (k := (2 : Int32)) (K := 2) hc (by decide) (by omega)
  have hin3 := inb_of (j := (cn + (2 : Int32))) Sa3 ix3.1
  obtain ⟨T3, h3, X3, e3, W3, st3⟩ := stB X1 hx hZ e1 Ar3 (j := (cn + (2 : Int32))) hin3 (g := (mkF m 55 #[.val (.int qa1), .val (.int (cn + (3 : Int32))), .val (.ref a2), .val (.int qa1), .val (.int ra1), .val (.int (cn + (2 : Int32))), .val (.int (0 : Int32))] [(.int ((48 : Int32) + (ra1 % (10 : Int32)))), (.int (cn + (2 : Int32))), (.ref a2)])) rfl rfl (hb hby d23_55)
  refine Rest.via (fun t k => st3 t k) ?_
  have N3 := Fr.snoc X3 N0 g_a2
  have K3 : Keep h0 h3 [a2] := (Keep.refl h0 [a2]).wr W3 (Or.inl (List.mem_of_getElem? (i := 0) rfl))
  have V3 : Arv Z h3 a2 kb .byte (16 : Int32) (xs.map Value.int ++ [(.int (0 : Int32)), (.int (0 : Int32)), (.int (own_dg p0 (3 : Int32) (2 : Int32)))]) (.int (0 : Int32)) := by have q := Arv.set Ar3 qa_3 Sa3 Pa3 Ha3 Ga3 (fits_nar_byte _) W3 (xs.length + 2) ix3.2 (by simp); rw [own_setm] at q; have q2 : (((48 : Int32) + (ra1 % (10 : Int32)))).toInt8.toInt32 = (own_dg p0 (3 : Int32) (2 : Int32)) := eq3; rw [q2] at q; exact q
  show Rest p.tables e below s _ _ _ (T3.setTop (mkF m 56 #[.val (.int qa1), .val (.int (cn + (3 : Int32))), .val (.ref a2), .val (.int qa1), .val (.int ra1), .val (.int (cn + (2 : Int32))), .val (.int (0 : Int32))] []))
  refine Rest.via (fun t k => XS.aloadN X3.here hx rfl (hb hby d23_56) rfl rfl k) ?_
  refine Rest.via (fun t k => XS.iinc X3.here hx rfl (hb hby d23_57) rfl (l' := #[.val (.int qa1), .val (.int (cn + (3 : Int32))), .val (.ref a2), .val (.int qa1), .val (.int ra1), .val (.int ((cn + (2 : Int32)) + (-1 : Int32))), .val (.int (0 : Int32))]) rfl k) ?_
  show Rest p.tables e below s _ _ _ (T3.setTop (mkF m 60 #[.val (.int qa1), .val (.int (cn + (3 : Int32))), .val (.ref a2), .val (.int qa1), .val (.int ra1), .val (.int ((cn + (2 : Int32)) + (-1 : Int32))), .val (.int (0 : Int32))] [(.ref a2)]))
  rw [(own_assoc cn (2 : Int32) (-1 : Int32) : ((cn + (2 : Int32)) + (-1 : Int32)) = (cn + (1 : Int32)))]
  show Rest p.tables e below s _ _ _ (T3.setTop (mkF m 60 #[.val (.int qa1), .val (.int (cn + (3 : Int32))), .val (.ref a2), .val (.int qa1), .val (.int ra1), .val (.int (cn + (1 : Int32))), .val (.int (0 : Int32))] [(.ref a2)]))
  refine Rest.via (fun t k => XS.iload X3.here hx rfl (hb hby d23_60) rfl k) ?_
  obtain ⟨T4, X4, e4, st4⟩ := getS2 X3 hx hZ hown (host := "") (Or.inl (own_W hw 237 rfl)) Via.refl e3 (DG.2.1.ext (O.keep K3 (allS g_a2 all0)).2) (g := (mkF m 62 #[.val (.int qa1), .val (.int (cn + (3 : Int32))), .val (.ref a2), .val (.int qa1), .val (.int ra1), .val (.int (cn + (1 : Int32))), .val (.int (0 : Int32))] [(.int (cn + (1 : Int32))), (.ref a2)])) rfl (hb hby d23_62)
  refine Rest.via (fun t k => st4 t k) ?_
  show Rest p.tables e below s _ _ _ (T4.setTop (mkF m 65 #[.val (.int qa1), .val (.int (cn + (3 : Int32))), .val (.ref a2), .val (.int qa1), .val (.int ra1), .val (.int (cn + (1 : Int32))), .val (.int (0 : Int32))] [(.ref wt), (.int (cn + (1 : Int32))), (.ref a2)]))
  refine Rest.via (fun t k => XS.iload X4.here hx rfl (hb hby d23_65) rfl k) ?_
  show Rest p.tables e below s _ _ _ (T4.setTop (mkF m 67 #[.val (.int qa1), .val (.int (cn + (3 : Int32))), .val (.ref a2), .val (.int qa1), .val (.int ra1), .val (.int (cn + (1 : Int32))), .val (.int (0 : Int32))] [(.int ra1), (.ref wt), (.int (cn + (1 : Int32))), (.ref a2)]))
  obtain ⟨cl5, Ar5, Sz5, El5⟩ := own_DA_ext DG.2.2.2 (O.keep K3 (allS g_a2 all0)).2
  have lo5 : ¬ ra1 < (0 : Int32) := own_nlt it1.2 (by decide : (0 : Int32).toInt = 0) (by omega)
  have hi5 : ra1 < (100 : Int32) := own_lt it1.2 (by decide : (100 : Int32).toInt = 100) (by omega)
  refine Rest.via (fun t k => X4.baloadBytes hx (j := ra1) (v := (.int ((48 : Int32) + (ra1 / (10 : Int32))))) (by rw [e4]; exact Ar5.1) (State.isArrayOf_alike hZ.alike Ar5.2.1) Ar5.2.2 (own_inb100 Sz5 lo5 hi5) (El5 ra1 lo5 hi5) (g := (mkF m 67 #[.val (.int qa1), .val (.int (cn + (3 : Int32))), .val (.ref a2), .val (.int qa1), .val (.int ra1), .val (.int (cn + (1 : Int32))), .val (.int (0 : Int32))] [(.int ra1), (.ref wt), (.int (cn + (1 : Int32))), (.ref a2)])) rfl rfl (hb hby d23_67) t k) ?_
  show Rest p.tables e below s _ _ _ (T4.setTop (mkF m 68 #[.val (.int qa1), .val (.int (cn + (3 : Int32))), .val (.ref a2), .val (.int qa1), .val (.int ra1), .val (.int (cn + (1 : Int32))), .val (.int (0 : Int32))] [(.int ((48 : Int32) + (ra1 / (10 : Int32)))), (.int (cn + (1 : Int32))), (.ref a2)]))
  have dg6 : (own_dg p0 (3 : Int32) (1 : Int32)).toInt = 48 + (p0.toInt / 10) % 10 := own_dgI hp (by decide) (by decide)
  have eq6 : nar .byte ((48 : Int32) + (ra1 / (10 : Int32))) = (own_dg p0 (3 : Int32) (1 : Int32)) := own_eT it1.2 (by omega) (by omega) (by omega)
  obtain ⟨cl6, Ar6, qa_6, Sa6, Pa6, Ha6, Ga6⟩ := id V3
  have ix6 := own_ix (k := (1 : Int32)) (K := 1) hc (by decide) (by omega)
  have hin6 := inb_of (j := (cn + (1 : Int32))) Sa6 ix6.1
  obtain ⟨T6, h6, X6, e6, W6, st6⟩ := stB X4 hx hZ e4 Ar6 (j := (cn + (1 : Int32))) hin6 (g := (mkF m 68 #[.val (.int qa1), .val (.int (cn + (3 : Int32))), .val (.ref a2), .val (.int qa1), .val (.int ra1), .val (.int (cn + (1 : Int32))), .val (.int (0 : Int32))] [(.int ((48 : Int32) + (ra1 / (10 : Int32)))), (.int (cn + (1 : Int32))), (.ref a2)])) rfl rfl (hb hby d23_68)
  refine Rest.via (fun t k => st6 t k) ?_
  have N6 := Fr.snoc X6 N3 g_a2
  have K6 : Keep h0 h6 [a2] := K3.wr W6 (Or.inl (List.mem_of_getElem? (i := 0) rfl))
  have V6 : Arv Z h6 a2 kb .byte (16 : Int32) (xs.map Value.int ++ [(.int (0 : Int32)), (.int (own_dg p0 (3 : Int32) (1 : Int32))), (.int (own_dg p0 (3 : Int32) (2 : Int32)))]) (.int (0 : Int32)) := by have q := Arv.set Ar6 qa_6 Sa6 Pa6 Ha6 Ga6 (fits_nar_byte _) W6 (xs.length + 1) ix6.2 (by simp); rw [own_setm] at q; have q2 : (((48 : Int32) + (ra1 / (10 : Int32)))).toInt8.toInt32 = (own_dg p0 (3 : Int32) (1 : Int32)) := eq6; rw [q2] at q; exact q
  show Rest p.tables e below s _ _ _ (T6.setTop (mkF m 69 #[.val (.int qa1), .val (.int (cn + (3 : Int32))), .val (.ref a2), .val (.int qa1), .val (.int ra1), .val (.int (cn + (1 : Int32))), .val (.int (0 : Int32))] []))
  refine Rest.via (fun t k => XS.goto X6.here hx rfl (pc0 := 69) (pc' := 22) rfl (hb hby d23_69) (by decide) (by decide) k) ?_
  refine Rest.via (fun t k => XS.iloadN X6.here hx rfl (hb hby d23_22) rfl k) ?_
  refine Rest.via (fun t k => XS.bipush X6.here hx rfl (hb hby d23_23) k) ?_
  refine Rest.via (fun t k => XS.icmpYes X6.here hx rfl (pc0 := 25) (pc' := 72) rfl (hb hby d23_25) rfl (tlt (own_lt (by decide : (-100 : Int32).toInt = -100) it1.1 (by omega) : (-100 : Int32) < qa1)).2.2.1 (by decide) (by decide) k) ?_
  show Rest p.tables e below s _ _ _ (T6.setTop (mkF m 72 #[.val (.int qa1), .val (.int (cn + (3 : Int32))), .val (.ref a2), .val (.int qa1), .val (.int ra1), .val (.int (cn + (1 : Int32))), .val (.int (0 : Int32))] []))
  refine Rest.via (fun t k => XS.aloadN X6.here hx rfl (hb hby d23_72) rfl rfl k) ?_
  refine Rest.via (fun t k => XS.iinc X6.here hx rfl (hb hby d23_73) rfl (l' := #[.val (.int qa1), .val (.int (cn + (3 : Int32))), .val (.ref a2), .val (.int qa1), .val (.int ra1), .val (.int ((cn + (1 : Int32)) + (-1 : Int32))), .val (.int (0 : Int32))]) rfl k) ?_
  show Rest p.tables e below s _ _ _ (T6.setTop (mkF m 76 #[.val (.int qa1), .val (.int (cn + (3 : Int32))), .val (.ref a2), .val (.int qa1), .val (.int ra1), .val (.int ((cn + (1 : Int32)) + (-1 : Int32))), .val (.int (0 : Int32))] [(.ref a2)]))
  rw [(own_assoc cn (1 : Int32) (-1 : Int32) : ((cn + (1 : Int32)) + (-1 : Int32)) = (cn + (0 : Int32)))]
  show Rest p.tables e below s _ _ _ (T6.setTop (mkF m 76 #[.val (.int qa1), .val (.int (cn + (3 : Int32))), .val (.ref a2), .val (.int qa1), .val (.int ra1), .val (.int (cn + (0 : Int32))), .val (.int (0 : Int32))] [(.ref a2)]))
  refine Rest.via (fun t k => XS.iload X6.here hx rfl (hb hby d23_76) rfl k) ?_
  obtain ⟨T7, X7, e7, st7⟩ := getS2 X6 hx hZ hown (host := "") (Or.inl (own_W hw 159 rfl)) Via.refl e6 (DG.1.ext (O.keep K6 (allS g_a2 all0)).2) (g := (mkF m 78 #[.val (.int qa1), .val (.int (cn + (3 : Int32))), .val (.ref a2), .val (.int qa1), .val (.int ra1), .val (.int (cn + (0 : Int32))), .val (.int (0 : Int32))] [(.int (cn + (0 : Int32))), (.ref a2)])) rfl (hb hby d23_78)
  refine Rest.via (fun t k => st7 t k) ?_
  show Rest p.tables e below s _ _ _ (T7.setTop (mkF m 81 #[.val (.int qa1), .val (.int (cn + (3 : Int32))), .val (.ref a2), .val (.int qa1), .val (.int ra1), .val (.int (cn + (0 : Int32))), .val (.int (0 : Int32))] [(.ref wo), (.int (cn + (0 : Int32))), (.ref a2)]))
  refine Rest.via (fun t k => XS.iloadN X7.here hx rfl (hb hby d23_81) rfl k) ?_
  refine Rest.via (fun t k => XS.ineg X7.here hx rfl (hb hby d23_82) rfl k) ?_
  show Rest p.tables e below s _ _ _ (T7.setTop (mkF m 83 #[.val (.int qa1), .val (.int (cn + (3 : Int32))), .val (.ref a2), .val (.int qa1), .val (.int ra1), .val (.int (cn + (0 : Int32))), .val (.int (0 : Int32))] [(.int (-qa1)), (.ref wo), (.int (cn + (0 : Int32))), (.ref a2)]))
  have own_rr8 : ((-qa1)).toInt = (p0.toInt / 100) := own_ng it1.1 (by omega) (by omega)
  obtain ⟨cl8, Ar8, Sz8, El8⟩ := own_DA_ext DG.2.2.1 (O.keep K6 (allS g_a2 all0)).2
  have lo8 : ¬ (-qa1) < (0 : Int32) := own_nlt own_rr8 (by decide : (0 : Int32).toInt = 0) (by omega)
  have hi8 : (-qa1) < (100 : Int32) := own_lt own_rr8 (by decide : (100 : Int32).toInt = 100) (by omega)
  refine Rest.via (fun t k => X7.baloadBytes hx (j := (-qa1)) (v := (.int ((48 : Int32) + ((-qa1) % (10 : Int32))))) (by rw [e7]; exact Ar8.1) (State.isArrayOf_alike hZ.alike Ar8.2.1) Ar8.2.2 (own_inb100 Sz8 lo8 hi8) (El8 (-qa1) lo8 hi8) (g := (mkF m 83 #[.val (.int qa1), .val (.int (cn + (3 : Int32))), .val (.ref a2), .val (.int qa1), .val (.int ra1), .val (.int (cn + (0 : Int32))), .val (.int (0 : Int32))] [(.int (-qa1)), (.ref wo), (.int (cn + (0 : Int32))), (.ref a2)])) rfl rfl (hb hby d23_83) t k) ?_
  show Rest p.tables e below s _ _ _ (T7.setTop (mkF m 84 #[.val (.int qa1), .val (.int (cn + (3 : Int32))), .val (.ref a2), .val (.int qa1), .val (.int ra1), .val (.int (cn + (0 : Int32))), .val (.int (0 : Int32))] [(.int ((48 : Int32) + ((-qa1) % (10 : Int32)))), (.int (cn + (0 : Int32))), (.ref a2)]))
  have dg9 : (own_dg p0 (3 : Int32) (0 : Int32)).toInt = 48 + (p0.toInt / 100) % 10 := own_dgI hp (by decide) (by decide)
  have eq9 : nar .byte ((48 : Int32) + ((-qa1) % (10 : Int32))) = (own_dg p0 (3 : Int32) (0 : Int32)) := own_eO own_rr8 (by omega) (by omega) (by omega)
  obtain ⟨cl9, Ar9, qa_9, Sa9, Pa9, Ha9, Ga9⟩ := id V6
  have ix9 := own_ix (k := (0 : Int32)) (K := 0) hc (by decide) (by omega)
  have hin9 := inb_of (j := (cn + (0 : Int32))) Sa9 ix9.1
  obtain ⟨T9, h9, X9, e9, W9, st9⟩ := stB X7 hx hZ e7 Ar9 (j := (cn + (0 : Int32))) hin9 (g := (mkF m 84 #[.val (.int qa1), .val (.int (cn + (3 : Int32))), .val (.ref a2), .val (.int qa1), .val (.int ra1), .val (.int (cn + (0 : Int32))), .val (.int (0 : Int32))] [(.int ((48 : Int32) + ((-qa1) % (10 : Int32)))), (.int (cn + (0 : Int32))), (.ref a2)])) rfl rfl (hb hby d23_84)
  refine Rest.via (fun t k => st9 t k) ?_
  have N9 := Fr.snoc X9 N6 g_a2
  have K9 : Keep h0 h9 [a2] := K6.wr W9 (Or.inl (List.mem_of_getElem? (i := 0) rfl))
  have V9 : Arv Z h9 a2 kb .byte (16 : Int32) (xs.map Value.int ++ [(.int (own_dg p0 (3 : Int32) (0 : Int32))), (.int (own_dg p0 (3 : Int32) (1 : Int32))), (.int (own_dg p0 (3 : Int32) (2 : Int32)))]) (.int (0 : Int32)) := by have q := Arv.set Ar9 qa_9 Sa9 Pa9 Ha9 Ga9 (fits_nar_byte _) W9 (xs.length + 0) ix9.2 (by simp); rw [own_setm] at q; have q2 : (((48 : Int32) + ((-qa1) % (10 : Int32)))).toInt8.toInt32 = (own_dg p0 (3 : Int32) (0 : Int32)) := eq9; rw [q2] at q; exact q
  show Rest p.tables e below s _ _ _ (T9.setTop (mkF m 85 #[.val (.int qa1), .val (.int (cn + (3 : Int32))), .val (.ref a2), .val (.int qa1), .val (.int ra1), .val (.int (cn + (0 : Int32))), .val (.int (0 : Int32))] []))
  refine Rest.via (fun t k => XS.iloadN X9.here hx rfl (hb hby d23_85) rfl k) ?_
  refine Rest.via (fun t k => XS.bipush X9.here hx rfl (hb hby d23_86) k) ?_
  refine Rest.via (fun t k => XS.icmpYes X9.here hx rfl (pc0 := 88) (pc' := 104) rfl (hb hby d23_88) rfl (flt (own_nlt it1.1 (by decide : (-9 : Int32).toInt = -9) (by omega) : ¬ (qa1 < (-9 : Int32)))).2.1 (by decide) (by decide) k) ?_
  show Rest p.tables e below s _ _ _ (T9.setTop (mkF m 104 #[.val (.int qa1), .val (.int (cn + (3 : Int32))), .val (.ref a2), .val (.int qa1), .val (.int ra1), .val (.int (cn + (0 : Int32))), .val (.int (0 : Int32))] []))
  refine Rest.via (fun t k => XS.iload X9.here hx rfl (hb hby d23_104) rfl k) ?_
  refine Rest.via (fun t k => XS.ifYes X9.here hx rfl (pc0 := 106) (pc' := 118) rfl (hb hby d23_106) rfl ((if0 _ _).trans (teq (by decide : (0 : Int32) = (0 : Int32))).1) (by decide) (by decide) k) ?_
  show Rest p.tables e below s _ _ _ (T9.setTop (mkF m 118 #[.val (.int qa1), .val (.int (cn + (3 : Int32))), .val (.ref a2), .val (.int qa1), .val (.int ra1), .val (.int (cn + (0 : Int32))), .val (.int (0 : Int32))] []))
  refine Rest.via (fun t k => XS.iload X9.here hx rfl (hb hby d23_118) rfl k) ?_
  refine Rest.ret X9 (v := some (.int (cn + (0 : Int32)))) (fun h => by rw [Bd.returns] at h; cases h) hlk (fun fs hr => retOut X9 hx Bd.returns rfl (Or.inl ⟨rfl, Or.inl rfl, _, rfl⟩) (hb hby d23_120) hr) ?_ (by decide) (by decide)
  rw [e9]
  exact ⟨rfl, N9, K9, by rw [own_dgs_3, List.map_append]; exact V9⟩
theorem ef_GC4 (m : MethodId) (p0 : Int32) (cn : Int32) (a2 : Addr) : entryFrame m #[(.int p0), (.int (cn + (4 : Int32))), (.ref a2)] 7 = mkF m 0 #[.val (.int p0), .val (.int (cn + (4 : Int32))), .val (.ref a2), .unset, .unset, .unset, .unset] [] := by first | (simp [entryFrame, mkF, argsToLocals, Value.category, maxLocals]; done) | rfl
def QGC4 (Z : State) (p0 : Int32) (cn : Int32) (a2 : Addr) (kb : ClassId) (xs : List Int32) (wo : Addr) (wt : Addr) (h0 : Heap) (n0 : Nat) (v : Option Value) (h : Heap) (L : List Loc) : Prop := v = some (.int (cn + (0 : Int32))) ∧ Fr n0 L ∧ Keep h0 h [a2] ∧ Arv Z h a2 kb .byte (16 : Int32) ((xs ++ own_dgs (4 : Int32) p0).map Value.int) (.int (0 : Int32))
set_option maxRecDepth 65536 in
set_option maxHeartbeats 40000000 in
theorem rmGC4 (l : Launch) (Z : State) (aw : Array Value) (hw : ∀ d ∈ tables_1, d.before aw Z = true) (ws : List Jvm.Cond) (p0 : Int32) (cn : Int32) (a2 : Addr) (kb : ClassId) (xs : List Int32) (wo : Addr) (wt : Addr) (h0 : Heap) (n0 : Nat) (Z0 : n0 ≤ h0.size) (hp : own_pt p0) (rr : 1000 ≤ p0.toInt ∧ p0.toInt < 10000) (V2 : Arv Z h0 a2 kb .byte (16 : Int32) (xs.map Value.int) (.int (0 : Int32))) (hc : own_ln cn xs) (hs : xs.length + 5 ≤ 16) (g_a2 : n0 ≤ a2) (O : own_Old Z n0 h0) (DG : own_DG Z wo wt) :
    MetFree l (⟨"java/lang/Integer", "getChars", "(II[B)I"⟩ : MethodName) (head1 (Jvm.Cond.code (⟨"java/lang/Integer", "getChars", "(II[B)I"⟩ : MethodName) jdk_33_method_12_code 7 (some .int) :: ws) ({ frames := 0, cells := 0, slots := 0, locals := 0 } : Room)) (fun a U => a = #[(.int p0), (.int (cn + (4 : Int32))), (.ref a2)] ∧ Z.Warmed39 U.vm ∧ U.heap = h0) (fun _ _ _ _ _ => True) (fun _ U o U' => ∃ v L, o = .returned v ∧ QGC4 Z p0 cn a2 kb xs wo wt h0 n0 v U'.heap L ∧ FrameEnd U o U' L ({ frames := 0, cells := 0, slots := 0, locals := 0 } : Room).cells ({ frames := 0, cells := 0, slots := 0, locals := 0 } : Room).slots) := by
  refine MetFree.of_bodySF (plainFor_of_name pn_5) hisR ?_
  intro p e s m args below meth c s₁ Bd hml0 hP hK
  obtain ⟨rfl, hZ, hh⟩ := hP
  have hx := Bd.exec
  have hby := Bd.bytes
  have hml : c.maxLocals = 7 := hml0
  have hown : s.vm.findClass "java/lang/Integer" = some m.cls := findClass_of_methodNamed Bd.named
  have hnm := (name_of_methodNamed Bd.named Bd.method).1
  have hlk : meth.locks = false := BodyLoose.notSynchronized Bd
  have X0 : Stand p l e ({ frames := 0, cells := 0, slots := 0, locals := 0 } : Room) s m #[(.int p0), (.int (cn + (4 : Int32))), (.ref a2)] below meth c s₁ [] 0 0 := Stand.of_body Bd
  have _u := trivial
  have eh0 : s₁.heap = h0 := by rw [← hh, Bd.state]; rfl
  have N0 := Fr.nil n0
  show Rest p.tables e below s (QGC4 Z p0 cn a2 kb xs wo wt h0 n0) _ _ (s₁.setTop (entryFrame m #[(.int p0), (.int (cn + (4 : Int32))), (.ref a2)] 7))
  refine Rest.via (fun t k => castTop (ef_GC4 m p0 cn a2) k) ?_
  have Vp : Arv Z h0 a2 kb .byte (16 : Int32) (xs.map Value.int ++ [(.int (0 : Int32)), (.int (0 : Int32)), (.int (0 : Int32)), (.int (0 : Int32))]) (.int (0 : Int32)) := V2.pad (own_pad xs 4)
  have hP := hp.int
  show Rest p.tables e below s _ _ _ (s₁.setTop (mkF m 0 #[.val (.int p0), .val (.int (cn + (4 : Int32))), .val (.ref a2), .unset, .unset, .unset, .unset] []))
  refine Rest.via (fun t k => XS.iloadN X0.here hx rfl (hb hby d23_0) rfl k) ?_
  refine Rest.via (fun t k => XS.istore X0.here hx rfl (hb hby d23_1) rfl (l' := #[.val (.int p0), .val (.int (cn + (4 : Int32))), .val (.ref a2), .unset, .unset, .val (.int (cn + (4 : Int32))), .unset]) rfl k) ?_
  refine Rest.via (fun t k => XS.iloadN X0.here hx rfl (hb hby d23_3) rfl k) ?_
  refine Rest.via (fun t k => XS.ifYes X0.here hx rfl (pc0 := 4) (pc' := 11) rfl (hb hby d23_4) rfl ((if0 _ _).trans (flt (own_nlt (A := p0.toInt) (B := 0) rfl (by decide) (by omega) : ¬ (p0 < (0 : Int32)))).2.1) (by decide) (by decide) k) ?_
  show Rest p.tables e below s _ _ _ (s₁.setTop (mkF m 11 #[.val (.int p0), .val (.int (cn + (4 : Int32))), .val (.ref a2), .unset, .unset, .val (.int (cn + (4 : Int32))), .unset] []))
  refine Rest.via (fun t k => XS.iconst X0.here hx rfl (hb hby d23_11) k) ?_
  refine Rest.via (fun t k => XS.istore X0.here hx rfl (hb hby d23_12) rfl (l' := #[.val (.int p0), .val (.int (cn + (4 : Int32))), .val (.ref a2), .unset, .unset, .val (.int (cn + (4 : Int32))), .val (.int (0 : Int32))]) rfl k) ?_
  refine Rest.via (fun t k => XS.iload X0.here hx rfl (hb hby d23_14) rfl k) ?_
  refine Rest.via (fun t k => XS.ifNo X0.here hx rfl (hb hby d23_16) rfl ((if0 _ _).trans (teq (by decide : (0 : Int32) = (0 : Int32))).2) k) ?_
  show Rest p.tables e below s _ _ _ (s₁.setTop (mkF m 19 #[.val (.int p0), .val (.int (cn + (4 : Int32))), .val (.ref a2), .unset, .unset, .val (.int (cn + (4 : Int32))), .val (.int (0 : Int32))] []))
  refine Rest.via (fun t k => XS.iloadN X0.here hx rfl (hb hby d23_19) rfl k) ?_
  refine Rest.via (fun t k => XS.ineg X0.here hx rfl (hb hby d23_20) rfl k) ?_
  refine Rest.via (fun t k => XS.istoreN X0.here hx rfl (hb hby d23_21) rfl (l' := #[.val (.int (-p0)), .val (.int (cn + (4 : Int32))), .val (.ref a2), .unset, .unset, .val (.int (cn + (4 : Int32))), .val (.int (0 : Int32))]) rfl k) ?_
  refine Rest.via (fun t k => XS.iloadN X0.here hx rfl (hb hby d23_22) rfl k) ?_
  refine Rest.via (fun t k => XS.bipush X0.here hx rfl (hb hby d23_23) k) ?_
  refine Rest.via (fun t k => XS.icmpNo X0.here hx rfl (hb hby d23_25) rfl (flt (own_nlt (by decide : (-100 : Int32).toInt = -100) hp.neg (by omega) : ¬ ((-100 : Int32) < (-p0)))).2.2.1 k) ?_
  show Rest p.tables e below s _ _ _ (s₁.setTop (mkF m 28 #[.val (.int (-p0)), .val (.int (cn + (4 : Int32))), .val (.ref a2), .unset, .unset, .val (.int (cn + (4 : Int32))), .val (.int (0 : Int32))] []))
  refine Rest.via (fun t k => XS.iloadN X0.here hx rfl (hb hby d23_28) rfl k) ?_
  refine Rest.via (fun t k => XS.bipush X0.here hx rfl (hb hby d23_29) k) ?_
  refine Rest.via (fun t k => XS.idiv X0.here hx rfl (hb hby d23_31) rfl (by decide) k) ?_
  show Rest p.tables e below s _ _ _ (s₁.setTop (mkF m 32 #[.val (.int (-p0)), .val (.int (cn + (4 : Int32))), .val (.ref a2), .unset, .unset, .val (.int (cn + (4 : Int32))), .val (.int (0 : Int32))] [(.int ((-p0) / (100 : Int32)))]))
  refine Rest.via (fun t k => XS.istoreN X0.here hx rfl (hb hby d23_32) rfl (l' := #[.val (.int (-p0)), .val (.int (cn + (4 : Int32))), .val (.ref a2), .val (.int ((-p0) / (100 : Int32))), .unset, .val (.int (cn + (4 : Int32))), .val (.int (0 : Int32))]) rfl k) ?_
  show Rest p.tables e below s _ _ _ (s₁.setTop (mkF m 33 #[.val (.int (-p0)), .val (.int (cn + (4 : Int32))), .val (.ref a2), .val (.int ((-p0) / (100 : Int32))), .unset, .val (.int (cn + (4 : Int32))), .val (.int (0 : Int32))] []))
  obtain ⟨qa1, hv_qa1⟩ : ∃ z : Int32, z = ((-p0) / (100 : Int32)) := ⟨_, rfl⟩
  rw [← hv_qa1]
  refine Rest.via (fun t k => XS.iloadN X0.here hx rfl (hb hby d23_33) rfl k) ?_
  refine Rest.via (fun t k => XS.bipush X0.here hx rfl (hb hby d23_34) k) ?_
  refine Rest.via (fun t k => XS.imul X0.here hx rfl (hb hby d23_36) rfl k) ?_
  refine Rest.via (fun t k => XS.iloadN X0.here hx rfl (hb hby d23_37) rfl k) ?_
  refine Rest.via (fun t k => XS.isub X0.here hx rfl (hb hby d23_38) rfl k) ?_
  show Rest p.tables e below s _ _ _ (s₁.setTop (mkF m 39 #[.val (.int (-p0)), .val (.int (cn + (4 : Int32))), .val (.ref a2), .val (.int qa1), .unset, .val (.int (cn + (4 : Int32))), .val (.int (0 : Int32))] [(.int ((qa1 * (100 : Int32)) - (-p0)))]))
  refine Rest.via (fun t k => XS.istore X0.here hx rfl (hb hby d23_39) rfl (l' := #[.val (.int (-p0)), .val (.int (cn + (4 : Int32))), .val (.ref a2), .val (.int qa1), .val (.int ((qa1 * (100 : Int32)) - (-p0))), .val (.int (cn + (4 : Int32))), .val (.int (0 : Int32))]) rfl k) ?_
  show Rest p.tables e below s _ _ _ (s₁.setTop (mkF m 41 #[.val (.int (-p0)), .val (.int (cn + (4 : Int32))), .val (.ref a2), .val (.int qa1), .val (.int ((qa1 * (100 : Int32)) - (-p0))), .val (.int (cn + (4 : Int32))), .val (.int (0 : Int32))] []))
  obtain ⟨ra1, hv_ra1⟩ : ∃ z : Int32, z = ((qa1 * (100 : Int32)) - (-p0)) := ⟨_, rfl⟩
  rw [← hv_ra1]
  show Rest p.tables e below s _ _ _ (s₁.setTop (mkF m 41 #[.val (.int (-p0)), .val (.int (cn + (4 : Int32))), .val (.ref a2), .val (.int qa1), .val (.int ra1), .val (.int (cn + (4 : Int32))), .val (.int (0 : Int32))] []))
  have it1 := own_it hp.neg (by omega) (by omega) hv_qa1 hv_ra1
  refine Rest.via (fun t k => XS.iloadN X0.here hx rfl (hb hby d23_41) rfl k) ?_
  refine Rest.via (fun t k => XS.istoreN X0.here hx rfl (hb hby d23_42) rfl (l' := #[.val (.int qa1), .val (.int (cn + (4 : Int32))), .val (.ref a2), .val (.int qa1), .val (.int ra1), .val (.int (cn + (4 : Int32))), .val (.int (0 : Int32))]) rfl k) ?_
  refine Rest.via (fun t k => XS.aloadN X0.here hx rfl (hb hby d23_43) rfl rfl k) ?_
  refine Rest.via (fun t k => XS.iinc X0.here hx rfl (hb hby d23_44) rfl (l' := #[.val (.int qa1), .val (.int (cn + (4 : Int32))), .val (.ref a2), .val (.int qa1), .val (.int ra1), .val (.int ((cn + (4 : Int32)) + (-1 : Int32))), .val (.int (0 : Int32))]) rfl k) ?_
  show Rest p.tables e below s _ _ _ (s₁.setTop (mkF m 47 #[.val (.int qa1), .val (.int (cn + (4 : Int32))), .val (.ref a2), .val (.int qa1), .val (.int ra1), .val (.int ((cn + (4 : Int32)) + (-1 : Int32))), .val (.int (0 : Int32))] [(.ref a2)]))
  rw [(own_assoc cn (4 : Int32) (-1 : Int32) : ((cn + (4 : Int32)) + (-1 : Int32)) = (cn + (3 : Int32)))]
  show Rest p.tables e below s _ _ _ (s₁.setTop (mkF m 47 #[.val (.int qa1), .val (.int (cn + (4 : Int32))), .val (.ref a2), .val (.int qa1), .val (.int ra1), .val (.int (cn + (3 : Int32))), .val (.int (0 : Int32))] [(.ref a2)]))
  refine Rest.via (fun t k => XS.iload X0.here hx rfl (hb hby d23_47) rfl k) ?_
  obtain ⟨T1, X1, e1, st1⟩ := getS2 X0 hx hZ hown (host := "") (Or.inl (own_W hw 159 rfl)) Via.refl eh0 (DG.1.ext (O.keep (Keep.refl h0 [a2]) (allS g_a2 all0)).2) (g := (mkF m 49 #[.val (.int qa1), .val (.int (cn + (4 : Int32))), .val (.ref a2), .val (.int qa1), .val (.int ra1), .val (.int (cn + (3 : Int32))), .val (.int (0 : Int32))] [(.int (cn + (3 : Int32))), (.ref a2)])) rfl (hb hby d23_49)
  refine Rest.via (fun t k => st1 t k) ?_
  show Rest p.tables e below s _ _ _ (T1.setTop (mkF m 52 #[.val (.int qa1), .val (.int (cn + (4 : Int32))), .val (.ref a2), .val (.int qa1), .val (.int ra1), .val (.int (cn + (3 : Int32))), .val (.int (0 : Int32))] [(.ref wo), (.int (cn + (3 : Int32))), (.ref a2)]))
  refine Rest.via (fun t k => XS.iload X1.here hx rfl (hb hby d23_52) rfl k) ?_
  show Rest p.tables e below s _ _ _ (T1.setTop (mkF m 54 #[.val (.int qa1), .val (.int (cn + (4 : Int32))), .val (.ref a2), .val (.int qa1), .val (.int ra1), .val (.int (cn + (3 : Int32))), .val (.int (0 : Int32))] [(.int ra1), (.ref wo), (.int (cn + (3 : Int32))), (.ref a2)]))
  obtain ⟨cl2, Ar2, Sz2, El2⟩ := own_DA_ext DG.2.2.1 (O.keep (Keep.refl h0 [a2]) (allS g_a2 all0)).2
  have lo2 : ¬ ra1 < (0 : Int32) := own_nlt it1.2 (by decide : (0 : Int32).toInt = 0) (by omega)
  have hi2 : ra1 < (100 : Int32) := own_lt it1.2 (by decide : (100 : Int32).toInt = 100) (by omega)
  refine Rest.via (fun t k => X1.baloadBytes hx (j := ra1) (v := (.int ((48 : Int32) + (ra1 % (10 : Int32))))) (by rw [e1]; exact Ar2.1) (State.isArrayOf_alike hZ.alike Ar2.2.1) Ar2.2.2 (own_inb100 Sz2 lo2 hi2) (El2 ra1 lo2 hi2) (g := (mkF m 54 #[.val (.int qa1), .val (.int (cn + (4 : Int32))), .val (.ref a2), .val (.int qa1), .val (.int ra1), .val (.int (cn + (3 : Int32))), .val (.int (0 : Int32))] [(.int ra1), (.ref wo), (.int (cn + (3 : Int32))), (.ref a2)])) rfl rfl (hb hby d23_54) t k) ?_
  show Rest p.tables e below s _ _ _ (T1.setTop (mkF m 55 #[.val (.int qa1), .val (.int (cn + (4 : Int32))), .val (.ref a2), .val (.int qa1), .val (.int ra1), .val (.int (cn + (3 : Int32))), .val (.int (0 : Int32))] [(.int ((48 : Int32) + (ra1 % (10 : Int32)))), (.int (cn + (3 : Int32))), (.ref a2)]))
  have dg3 : (own_dg p0 (4 : Int32) (3 : Int32)).toInt = 48 + (p0.toInt / 1) % 10 := own_dgI hp (by decide) (by decide)
  have eq3 : nar .byte ((48 : Int32) + (ra1 % (10 : Int32))) = (own_dg p0 (4 : Int32) (3 : Int32)) := own_eO it1.2 (by omega) (by omega) (by omega)
  obtain ⟨cl3, Ar3, qa_3, Sa3, Pa3, Ha3, Ga3⟩ := id Vp
  have ix3 := own_ix (k := (3 : Int32)) (K := 3) hc (by decide) (by omega)
  have hin3 := inb_of (j := (cn + (3 : Int32))) Sa3 ix3.1
  obtain ⟨T3, h3, X3, e3, W3, st3⟩ := stB X1 hx hZ e1 Ar3 (j := (cn + (3 : Int32))) hin3 (g := (mkF m 55 #[.val (.int qa1), .val (.int (cn + (4 : Int32))), .val (.ref a2), .val (.int qa1), .val (.int ra1), .val (.int (cn + (3 : Int32))), .val (.int (0 : Int32))] [(.int ((48 : Int32) + (ra1 % (10 : Int32)))), (.int (cn + (3 : Int32))), (.ref a2)])) rfl rfl (hb hby d23_55)
  refine Rest.via (fun t k => st3 t k) ?_
  have N3 := Fr.snoc X3 N0 g_a2
  have K3 : Keep h0 h3 [a2] := (Keep.refl h0 [a2]).wr W3 (Or.inl (List.mem_of_getElem? (i := 0) rfl))
  have V3 : Arv Z h3 a2 kb .byte (16 : Int32) (xs.map Value.int ++ [(.int (0 : Int32)), (.int (0 : Int32)), (.int (0 : Int32)), (.int (own_dg p0 (4 : Int32) (3 : Int32)))]) (.int (0 : Int32)) := by have q := Arv.set Ar3 qa_3 Sa3 Pa3 Ha3 Ga3 (fits_nar_byte _) W3 (xs.length + 3) ix3.2 (by simp); rw [own_setm] at q; have q2 : (((48 : Int32) + (ra1 % (10 : Int32)))).toInt8.toInt32 = (own_dg p0 (4 : Int32) (3 : Int32)) := eq3; rw [q2] at q; exact q
  show Rest p.tables e below s _ _ _ (T3.setTop (mkF m 56 #[.val (.int qa1), .val (.int (cn + (4 : Int32))), .val (.ref a2), .val (.int qa1), .val (.int ra1), .val (.int (cn + (3 : Int32))), .val (.int (0 : Int32))] []))
  refine Rest.via (fun t k => XS.aloadN X3.here hx rfl (hb hby d23_56) rfl rfl k) ?_
  refine Rest.via (fun t k => XS.iinc X3.here hx rfl (hb hby d23_57) rfl (l' := #[.val (.int qa1), .val (.int (cn + (4 : Int32))), .val (.ref a2), .val (.int qa1), .val (.int ra1), .val (.int ((cn + (3 : Int32)) + (-1 : Int32))), .val (.int (0 : Int32))]) rfl k) ?_
  show Rest p.tables e below s _ _ _ (T3.setTop (mkF m 60 #[.val (.int qa1), .val (.int (cn + (4 : Int32))), .val (.ref a2), .val (.int qa1), .val (.int ra1), .val (.int ((cn + (3 : Int32)) + (-1 : Int32))), .val (.int (0 : Int32))] [(.ref a2)]))
  rw [(own_assoc cn (3 : Int32) (-1 : Int32) : ((cn + (3 : Int32)) + (-1 : Int32)) = (cn + (2 : Int32)))]
  show Rest p.tables e below s _ _ _ (T3.setTop (mkF m 60 #[.val (.int qa1), .val (.int (cn + (4 : Int32))), .val (.ref a2), .val (.int qa1), .val (.int ra1), .val (.int (cn + (2 : Int32))), .val (.int (0 : Int32))] [(.ref a2)]))
  refine Rest.via (fun t k => XS.iload X3.here hx rfl (hb hby d23_60) rfl k) ?_
  obtain ⟨T4, X4, e4, st4⟩ := getS2 X3 hx hZ hown (host := "") (Or.inl (own_W hw 237 rfl)) Via.refl e3 (DG.2.1.ext (O.keep K3 (allS g_a2 all0)).2) (g := (mkF m 62 #[.val (.int qa1), .val (.int (cn + (4 : Int32))), .val (.ref a2), .val (.int qa1), .val (.int ra1), .val (.int (cn + (2 : Int32))), .val (.int (0 : Int32))] [(.int (cn + (2 : Int32))), (.ref a2)])) rfl (hb hby d23_62)
  refine Rest.via (fun t k => st4 t k) ?_
  show Rest p.tables e below s _ _ _ (T4.setTop (mkF m 65 #[.val (.int qa1), .val (.int (cn + (4 : Int32))), .val (.ref a2), .val (.int qa1), .val (.int ra1), .val (.int (cn + (2 : Int32))), .val (.int (0 : Int32))] [(.ref wt), (.int (cn + (2 : Int32))), (.ref a2)]))
  refine Rest.via (fun t k => XS.iload X4.here hx rfl (hb hby d23_65) rfl k) ?_
  show Rest p.tables e below s _ _ _ (T4.setTop (mkF m 67 #[.val (.int qa1), .val (.int (cn + (4 : Int32))), .val (.ref a2), .val (.int qa1), .val (.int ra1), .val (.int (cn + (2 : Int32))), .val (.int (0 : Int32))] [(.int ra1), (.ref wt), (.int (cn + (2 : Int32))), (.ref a2)]))
  obtain ⟨cl5, Ar5, Sz5, El5⟩ := own_DA_ext DG.2.2.2 (O.keep K3 (allS g_a2 all0)).2
  have lo5 : ¬ ra1 < (0 : Int32) := own_nlt it1.2 (by decide : (0 : Int32).toInt = 0) (by omega)
  have hi5 : ra1 < (100 : Int32) := own_lt it1.2 (by decide : (100 : Int32).toInt = 100) (by omega)
  refine Rest.via (fun t k => X4.baloadBytes hx (j := ra1) (v := (.int ((48 : Int32) + (ra1 / (10 : Int32))))) (by rw [e4]; exact Ar5.1) (State.isArrayOf_alike hZ.alike Ar5.2.1) Ar5.2.2 (own_inb100 Sz5 lo5 hi5) (El5 ra1 lo5 hi5) (g := (mkF m 67 #[.val (.int qa1), .val (.int (cn + (4 : Int32))), .val (.ref a2), .val (.int qa1), .val (.int ra1), .val (.int (cn + (2 : Int32))), .val (.int (0 : Int32))] [(.int ra1), (.ref wt), (.int (cn + (2 : Int32))), (.ref a2)])) rfl rfl (hb hby d23_67) t k) ?_
  show Rest p.tables e below s _ _ _ (T4.setTop (mkF m 68 #[.val (.int qa1), .val (.int (cn + (4 : Int32))), .val (.ref a2), .val (.int qa1), .val (.int ra1), .val (.int (cn + (2 : Int32))), .val (.int (0 : Int32))] [(.int ((48 : Int32) + (ra1 / (10 : Int32)))), (.int (cn + (2 : Int32))), (.ref a2)]))
  have dg6 : (own_dg p0 (4 : Int32) (2 : Int32)).toInt = 48 + (p0.toInt / 10) % 10 := own_dgI hp (by decide) (by decide)
  have eq6 : nar .byte ((48 : Int32) + (ra1 / (10 : Int32))) = (own_dg p0 (4 : Int32) (2 : Int32)) := own_eT it1.2 (by omega) (by omega) (by omega)
  obtain ⟨cl6, Ar6, qa_6, Sa6, Pa6, Ha6, Ga6⟩ := id V3
  have ix6 := own_ix (k := (2 : Int32)) (K := 2) hc (by decide) (by omega)
  have hin6 := inb_of (j := (cn + (2 : Int32))) Sa6 ix6.1
  obtain ⟨T6, h6, X6, e6, W6, st6⟩ := stB X4 hx hZ e4 Ar6 (j := (cn + (2 : Int32))) hin6 (g := (mkF m 68 #[.val (.int qa1), .val (.int (cn + (4 : Int32))), .val (.ref a2), .val (.int qa1), .val (.int ra1), .val (.int (cn + (2 : Int32))), .val (.int (0 : Int32))] [(.int ((48 : Int32) + (ra1 / (10 : Int32)))), (.int (cn + (2 : Int32))), (.ref a2)])) rfl rfl (hb hby d23_68)
  refine Rest.via (fun t k => st6 t k) ?_
  have N6 := Fr.snoc X6 N3 g_a2
  have K6 : Keep h0 h6 [a2] := K3.wr W6 (Or.inl (List.mem_of_getElem? (i := 0) rfl))
  have V6 : Arv Z h6 a2 kb .byte (16 : Int32) (xs.map Value.int ++ [(.int (0 : Int32)), (.int (0 : Int32)), (.int (own_dg p0 (4 : Int32) (2 : Int32))), (.int (own_dg p0 (4 : Int32) (3 : Int32)))]) (.int (0 : Int32)) := by have q := Arv.set Ar6 qa_6 Sa6 Pa6 Ha6 Ga6 (fits_nar_byte _) W6 (xs.length + 2) ix6.2 (by simp); rw [own_setm] at q; have q2 : (((48 : Int32) + (ra1 / (10 : Int32)))).toInt8.toInt32 = (own_dg p0 (4 : Int32) (2 : Int32)) := eq6; rw [q2] at q; exact q
  show Rest p.tables e below s _ _ _ (T6.setTop (mkF m 69 #[.val (.int qa1), .val (.int (cn + (4 : Int32))), .val (.ref a2), .val (.int qa1), .val (.int ra1), .val (.int (cn + (2 : Int32))), .val (.int (0 : Int32))] []))
  refine Rest.via (fun t k => XS.goto X6.here hx rfl (pc0 := 69) (pc' := 22) rfl (hb hby d23_69) (by decide) (by decide) k) ?_
  refine Rest.via (fun t k => XS.iloadN X6.here hx rfl (hb hby d23_22) rfl k) ?_
  refine Rest.via (fun t k => XS.bipush X6.here hx rfl (hb hby d23_23) k) ?_
  refine Rest.via (fun t k => XS.icmpYes X6.here hx rfl (pc0 := 25) (pc' := 72) rfl (hb hby d23_25) rfl (tlt (own_lt (by decide : (-100 : Int32).toInt = -100) it1.1 (by omega) : (-100 : Int32) < qa1)).2.2.1 (by decide) (by decide) k) ?_
  show Rest p.tables e below s _ _ _ (T6.setTop (mkF m 72 #[.val (.int qa1), .val (.int (cn + (4 : Int32))), .val (.ref a2), .val (.int qa1), .val (.int ra1), .val (.int (cn + (2 : Int32))), .val (.int (0 : Int32))] []))
  refine Rest.via (fun t k => XS.aloadN X6.here hx rfl (hb hby d23_72) rfl rfl k) ?_
  refine Rest.via (fun t k => XS.iinc X6.here hx rfl (hb hby d23_73) rfl (l' := #[.val (.int qa1), .val (.int (cn + (4 : Int32))), .val (.ref a2), .val (.int qa1), .val (.int ra1), .val (.int ((cn + (2 : Int32)) + (-1 : Int32))), .val (.int (0 : Int32))]) rfl k) ?_
  show Rest p.tables e below s _ _ _ (T6.setTop (mkF m 76 #[.val (.int qa1), .val (.int (cn + (4 : Int32))), .val (.ref a2), .val (.int qa1), .val (.int ra1), .val (.int ((cn + (2 : Int32)) + (-1 : Int32))), .val (.int (0 : Int32))] [(.ref a2)]))
  rw [(own_assoc cn (2 : Int32) (-1 : Int32) : ((cn + (2 : Int32)) + (-1 : Int32)) = (cn + (1 : Int32)))]
  show Rest p.tables e below s _ _ _ (T6.setTop (mkF m 76 #[.val (.int qa1), .val (.int (cn + (4 : Int32))), .val (.ref a2), .val (.int qa1), .val (.int ra1), .val (.int (cn + (1 : Int32))), .val (.int (0 : Int32))] [(.ref a2)]))
  refine Rest.via (fun t k => XS.iload X6.here hx rfl (hb hby d23_76) rfl k) ?_
  obtain ⟨T7, X7, e7, st7⟩ := getS2 X6 hx hZ hown (host := "") (Or.inl (own_W hw 159 rfl)) Via.refl e6 (DG.1.ext (O.keep K6 (allS g_a2 all0)).2) (g := (mkF m 78 #[.val (.int qa1), .val (.int (cn + (4 : Int32))), .val (.ref a2), .val (.int qa1), .val (.int ra1), .val (.int (cn + (1 : Int32))), .val (.int (0 : Int32))] [(.int (cn + (1 : Int32))), (.ref a2)])) rfl (hb hby d23_78)
  refine Rest.via (fun t k => st7 t k) ?_
  show Rest p.tables e below s _ _ _ (T7.setTop (mkF m 81 #[.val (.int qa1), .val (.int (cn + (4 : Int32))), .val (.ref a2), .val (.int qa1), .val (.int ra1), .val (.int (cn + (1 : Int32))), .val (.int (0 : Int32))] [(.ref wo), (.int (cn + (1 : Int32))), (.ref a2)]))
  refine Rest.via (fun t k => XS.iloadN X7.here hx rfl (hb hby d23_81) rfl k) ?_
  refine Rest.via (fun t k => XS.ineg X7.here hx rfl (hb hby d23_82) rfl k) ?_
  show Rest p.tables e below s _ _ _ (T7.setTop (mkF m 83 #[.val (.int qa1), .val (.int (cn + (4 : Int32))), .val (.ref a2), .val (.int qa1), .val (.int ra1), .val (.int (cn + (1 : Int32))), .val (.int (0 : Int32))] [(.int (-qa1)), (.ref wo), (.int (cn + (1 : Int32))), (.ref a2)]))
  have own_rr8 : ((-qa1)).toInt = (p0.toInt / 100) := own_ng it1.1 (by omega) (by omega)
  obtain ⟨cl8, Ar8, Sz8, El8⟩ := own_DA_ext DG.2.2.1 (O.keep K6 (allS g_a2 all0)).2
  have lo8 : ¬ (-qa1) < (0 : Int32) := own_nlt own_rr8 (by decide : (0 : Int32).toInt = 0) (by omega)
  have hi8 : (-qa1) < (100 : Int32) := own_lt own_rr8 (by decide : (100 : Int32).toInt = 100) (by omega)
  refine Rest.via (fun t k => X7.baloadBytes hx (j := (-qa1)) (v := (.int ((48 : Int32) + ((-qa1) % (10 : Int32))))) (by rw [e7]; exact Ar8.1) (State.isArrayOf_alike hZ.alike Ar8.2.1) Ar8.2.2 (own_inb100 Sz8 lo8 hi8) (El8 (-qa1) lo8 hi8) (g := (mkF m 83 #[.val (.int qa1), .val (.int (cn + (4 : Int32))), .val (.ref a2), .val (.int qa1), .val (.int ra1), .val (.int (cn + (1 : Int32))), .val (.int (0 : Int32))] [(.int (-qa1)), (.ref wo), (.int (cn + (1 : Int32))), (.ref a2)])) rfl rfl (hb hby d23_83) t k) ?_
  show Rest p.tables e below s _ _ _ (T7.setTop (mkF m 84 #[.val (.int qa1), .val (.int (cn + (4 : Int32))), .val (.ref a2), .val (.int qa1), .val (.int ra1), .val (.int (cn + (1 : Int32))), .val (.int (0 : Int32))] [(.int ((48 : Int32) + ((-qa1) % (10 : Int32)))), (.int (cn + (1 : Int32))), (.ref a2)]))
  have dg9 : (own_dg p0 (4 : Int32) (1 : Int32)).toInt = 48 + (p0.toInt / 100) % 10 := own_dgI hp (by decide) (by decide)
  have eq9 : nar .byte ((48 : Int32) + ((-qa1) % (10 : Int32))) = (own_dg p0 (4 : Int32) (1 : Int32)) := own_eO own_rr8 (by omega) (by omega) (by omega)
  obtain ⟨cl9, Ar9, qa_9, Sa9, Pa9, Ha9, Ga9⟩ := id V6
  have ix9 := own_ix (k := (1 : Int32)) (K := 1) hc (by decide) (by omega)
  have hin9 := inb_of (j := (cn + (1 : Int32))) Sa9 ix9.1
  obtain ⟨T9, h9, X9, e9, W9, st9⟩ := stB X7 hx hZ e7 Ar9 (j := (cn + (1 : Int32))) hin9 (g := (mkF m 84 #[.val (.int qa1), .val (.int (cn + (4 : Int32))), .val (.ref a2), .val (.int qa1), .val (.int ra1), .val (.int (cn + (1 : Int32))), .val (.int (0 : Int32))] [(.int ((48 : Int32) + ((-qa1) % (10 : Int32)))), (.int (cn + (1 : Int32))), (.ref a2)])) rfl rfl (hb hby d23_84)
  refine Rest.via (fun t k => st9 t k) ?_
  have N9 := Fr.snoc X9 N6 g_a2
  have K9 : Keep h0 h9 [a2] := K6.wr W9 (Or.inl (List.mem_of_getElem? (i := 0) rfl))
  have V9 : Arv Z h9 a2 kb .byte (16 : Int32) (xs.map Value.int ++ [(.int (0 : Int32)), (.int (own_dg p0 (4 : Int32) (1 : Int32))), (.int (own_dg p0 (4 : Int32) (2 : Int32))), (.int (own_dg p0 (4 : Int32) (3 : Int32)))]) (.int (0 : Int32)) := by have q := Arv.set Ar9 qa_9 Sa9 Pa9 Ha9 Ga9 (fits_nar_byte _) W9 (xs.length + 1) ix9.2 (by simp); rw [own_setm] at q; have q2 : (((48 : Int32) + ((-qa1) % (10 : Int32)))).toInt8.toInt32 = (own_dg p0 (4 : Int32) (1 : Int32)) := eq9; rw [q2] at q; exact q
  show Rest p.tables e below s _ _ _ (T9.setTop (mkF m 85 #[.val (.int qa1), .val (.int (cn + (4 : Int32))), .val (.ref a2), .val (.int qa1), .val (.int ra1), .val (.int (cn + (1 : Int32))), .val (.int (0 : Int32))] []))
  refine Rest.via (fun t k => XS.iloadN X9.here hx rfl (hb hby d23_85) rfl k) ?_
  refine Rest.via (fun t k => XS.bipush X9.here hx rfl (hb hby d23_86) k) ?_
  refine Rest.via (fun t k => XS.icmpNo X9.here hx rfl (hb hby d23_88) rfl (tlt (own_lt it1.1 (by decide : (-9 : Int32).toInt = -9) (by omega) : qa1 < (-9 : Int32))).2.1 k) ?_
  show Rest p.tables e below s _ _ _ (T9.setTop (mkF m 91 #[.val (.int qa1), .val (.int (cn + (4 : Int32))), .val (.ref a2), .val (.int qa1), .val (.int ra1), .val (.int (cn + (1 : Int32))), .val (.int (0 : Int32))] []))
  refine Rest.via (fun t k => XS.aloadN X9.here hx rfl (hb hby d23_91) rfl rfl k) ?_
  refine Rest.via (fun t k => XS.iinc X9.here hx rfl (hb hby d23_92) rfl (l' := #[.val (.int qa1), .val (.int (cn + (4 : Int32))), .val (.ref a2), .val (.int qa1), .val (.int ra1), .val (.int ((cn + (1 : Int32)) + (-1 : Int32))), .val (.int (0 : Int32))]) rfl k) ?_
  show Rest p.tables e below s _ _ _ (T9.setTop (mkF m 95 #[.val (.int qa1), .val (.int (cn + (4 : Int32))), .val (.ref a2), .val (.int qa1), .val (.int ra1), .val (.int ((cn + (1 : Int32)) + (-1 : Int32))), .val (.int (0 : Int32))] [(.ref a2)]))
  rw [(own_assoc cn (1 : Int32) (-1 : Int32) : ((cn + (1 : Int32)) + (-1 : Int32)) = (cn + (0 : Int32)))]
  show Rest p.tables e below s _ _ _ (T9.setTop (mkF m 95 #[.val (.int qa1), .val (.int (cn + (4 : Int32))), .val (.ref a2), .val (.int qa1), .val (.int ra1), .val (.int (cn + (0 : Int32))), .val (.int (0 : Int32))] [(.ref a2)]))
  refine Rest.via (fun t k => XS.iload X9.here hx rfl (hb hby d23_95) rfl k) ?_
  obtain ⟨T10, X10, e10, st10⟩ := getS2 X9 hx hZ hown (host := "") (Or.inl (own_W hw 237 rfl)) Via.refl e9 (DG.2.1.ext (O.keep K9 (allS g_a2 all0)).2) (g := (mkF m 97 #[.val (.int qa1), .val (.int (cn + (4 : Int32))), .val (.ref a2), .val (.int qa1), .val (.int ra1), .val (.int (cn + (0 : Int32))), .val (.int (0 : Int32))] [(.int (cn + (0 : Int32))), (.ref a2)])) rfl (hb hby d23_97)
  refine Rest.via (fun t k => st10 t k) ?_
  show Rest p.tables e below s _ _ _ (T10.setTop (mkF m 100 #[.val (.int qa1), .val (.int (cn + (4 : Int32))), .val (.ref a2), .val (.int qa1), .val (.int ra1), .val (.int (cn + (0 : Int32))), .val (.int (0 : Int32))] [(.ref wt), (.int (cn + (0 : Int32))), (.ref a2)]))
  refine Rest.via (fun t k => XS.iloadN X10.here hx rfl (hb hby d23_100) rfl k) ?_
  refine Rest.via (fun t k => XS.ineg X10.here hx rfl (hb hby d23_101) rfl k) ?_
  show Rest p.tables e below s _ _ _ (T10.setTop (mkF m 102 #[.val (.int qa1), .val (.int (cn + (4 : Int32))), .val (.ref a2), .val (.int qa1), .val (.int ra1), .val (.int (cn + (0 : Int32))), .val (.int (0 : Int32))] [(.int (-qa1)), (.ref wt), (.int (cn + (0 : Int32))), (.ref a2)]))
  have own_rr11 : ((-qa1)).toInt = (p0.toInt / 100) := own_ng it1.1 (by omega) (by omega)
  obtain ⟨cl11, Ar11, Sz11, El11⟩ := own_DA_ext DG.2.2.2 (O.keep K9 (allS g_a2 all0)).2
  have lo11 : ¬ (-qa1) < (0 : Int32) := own_nlt own_rr11 (by decide : (0 : Int32).toInt = 0) (by omega)
  have hi11 : (-qa1) < (100 : Int32) := own_lt own_rr11 (by decide : (100 : Int32).toInt = 100) (by omega)
  refine Rest.via (fun t k => X10.baloadBytes hx (j := (-qa1)) (v := (.int ((48 : Int32) + ((-qa1) / (10 : Int32))))) (by rw [e10]; exact Ar11.1) (State.isArrayOf_alike hZ.alike Ar11.2.1) Ar11.2.2 (own_inb100 Sz11 lo11 hi11) (El11 (-qa1) lo11 hi11) (g := (mkF m 102 #[.val (.int qa1), .val (.int (cn + (4 : Int32))), .val (.ref a2), .val (.int qa1), .val (.int ra1), .val (.int (cn + (0 : Int32))), .val (.int (0 : Int32))] [(.int (-qa1)), (.ref wt), (.int (cn + (0 : Int32))), (.ref a2)])) rfl rfl (hb hby d23_102) t k) ?_
  show Rest p.tables e below s _ _ _ (T10.setTop (mkF m 103 #[.val (.int qa1), .val (.int (cn + (4 : Int32))), .val (.ref a2), .val (.int qa1), .val (.int ra1), .val (.int (cn + (0 : Int32))), .val (.int (0 : Int32))] [(.int ((48 : Int32) + ((-qa1) / (10 : Int32)))), (.int (cn + (0 : Int32))), (.ref a2)]))
  have dg12 : (own_dg p0 (4 : Int32) (0 : Int32)).toInt = 48 + (p0.toInt / 1000) % 10 := own_dgI hp (by decide) (by decide)
  have eq12 : nar .byte ((48 : Int32) + ((-qa1) / (10 : Int32))) = (own_dg p0 (4 : Int32) (0 : Int32)) := own_eT own_rr11 (by omega) (by omega) (by omega)
  obtain ⟨cl12, Ar12, qa_12, Sa12, Pa12, Ha12, Ga12⟩ := id V9
  have ix12 := own_ix (k := (0 : Int32)) (K := 0) hc (by decide) (by omega)
  have hin12 := inb_of (j := (cn + (0 : Int32))) Sa12 ix12.1
  obtain ⟨T12, h12, X12, e12, W12, st12⟩ := stB X10 hx hZ e10 Ar12 (j := (cn + (0 : Int32))) hin12 (g := (mkF m 103 #[.val (.int qa1), .val (.int (cn + (4 : Int32))), .val (.ref a2), .val (.int qa1), .val (.int ra1), .val (.int (cn + (0 : Int32))), .val (.int (0 : Int32))] [(.int ((48 : Int32) + ((-qa1) / (10 : Int32)))), (.int (cn + (0 : Int32))), (.ref a2)])) rfl rfl (hb hby d23_103)
  refine Rest.via (fun t k => st12 t k) ?_
  have N12 := Fr.snoc X12 N9 g_a2
  have K12 : Keep h0 h12 [a2] := K9.wr W12 (Or.inl (List.mem_of_getElem? (i := 0) rfl))
  have V12 : Arv Z h12 a2 kb .byte (16 : Int32) (xs.map Value.int ++ [(.int (own_dg p0 (4 : Int32) (0 : Int32))), (.int (own_dg p0 (4 : Int32) (1 : Int32))), (.int (own_dg p0 (4 : Int32) (2 : Int32))), (.int (own_dg p0 (4 : Int32) (3 : Int32)))]) (.int (0 : Int32)) := by have q := Arv.set Ar12 qa_12 Sa12 Pa12 Ha12 Ga12 (fits_nar_byte _) W12 (xs.length + 0) ix12.2 (by simp); rw [own_setm] at q; have q2 : (((48 : Int32) + ((-qa1) / (10 : Int32)))).toInt8.toInt32 = (own_dg p0 (4 : Int32) (0 : Int32)) := eq12; rw [q2] at q; exact q
  show Rest p.tables e below s _ _ _ (T12.setTop (mkF m 104 #[.val (.int qa1), .val (.int (cn + (4 : Int32))), .val (.ref a2), .val (.int qa1), .val (.int ra1), .val (.int (cn + (0 : Int32))), .val (.int (0 : Int32))] []))
  refine Rest.via (fun t k => XS.iload X12.here hx rfl (hb hby d23_104) rfl k) ?_
  refine Rest.via (fun t k => XS.ifYes X12.here hx rfl (pc0 := 106) (pc' := 118) rfl (hb hby d23_106) rfl ((if0 _ _).trans (teq (by decide : (0 : Int32) = (0 : Int32))).1) (by decide) (by decide) k) ?_
  show Rest p.tables e below s _ _ _ (T12.setTop (mkF m 118 #[.val (.int qa1), .val (.int (cn + (4 : Int32))), .val (.ref a2), .val (.int qa1), .val (.int ra1), .val (.int (cn + (0 : Int32))), .val (.int (0 : Int32))] []))
  refine Rest.via (fun t k => XS.iload X12.here hx rfl (hb hby d23_118) rfl k) ?_
  refine Rest.ret X12 (v := some (.int (cn + (0 : Int32)))) (fun h => by rw [Bd.returns] at h; cases h) hlk (fun fs hr => retOut X12 hx Bd.returns rfl (Or.inl ⟨rfl, Or.inl rfl, _, rfl⟩) (hb hby d23_120) hr) ?_ (by decide) (by decide)
  rw [e12]
  exact ⟨rfl, N12, K12, by rw [own_dgs_4, List.map_append]; exact V12⟩
theorem ef_GC5 (m : MethodId) (p0 : Int32) (cn : Int32) (a2 : Addr) : entryFrame m #[(.int p0), (.int (cn + (5 : Int32))), (.ref a2)] 7 = mkF m 0 #[.val (.int p0), .val (.int (cn + (5 : Int32))), .val (.ref a2), .unset, .unset, .unset, .unset] [] := by first | (simp [entryFrame, mkF, argsToLocals, Value.category, maxLocals]; done) | rfl
def QGC5 (Z : State) (p0 : Int32) (cn : Int32) (a2 : Addr) (kb : ClassId) (xs : List Int32) (wo : Addr) (wt : Addr) (h0 : Heap) (n0 : Nat) (v : Option Value) (h : Heap) (L : List Loc) : Prop := v = some (.int (cn + (0 : Int32))) ∧ Fr n0 L ∧ Keep h0 h [a2] ∧ Arv Z h a2 kb .byte (16 : Int32) ((xs ++ own_dgs (5 : Int32) p0).map Value.int) (.int (0 : Int32))
set_option maxRecDepth 65536 in
set_option maxHeartbeats 40000000 in
theorem rmGC5 (l : Launch) (Z : State) (aw : Array Value) (hw : ∀ d ∈ tables_1, d.before aw Z = true) (ws : List Jvm.Cond) (p0 : Int32) (cn : Int32) (a2 : Addr) (kb : ClassId) (xs : List Int32) (wo : Addr) (wt : Addr) (h0 : Heap) (n0 : Nat) (Z0 : n0 ≤ h0.size) (hp : own_pt p0) (rr : 10000 ≤ p0.toInt ∧ p0.toInt < 65536) (V2 : Arv Z h0 a2 kb .byte (16 : Int32) (xs.map Value.int) (.int (0 : Int32))) (hc : own_ln cn xs) (hs : xs.length + 5 ≤ 16) (g_a2 : n0 ≤ a2) (O : own_Old Z n0 h0) (DG : own_DG Z wo wt) :
    MetFree l (⟨"java/lang/Integer", "getChars", "(II[B)I"⟩ : MethodName) (head1 (Jvm.Cond.code (⟨"java/lang/Integer", "getChars", "(II[B)I"⟩ : MethodName) jdk_33_method_12_code 7 (some .int) :: ws) ({ frames := 0, cells := 0, slots := 0, locals := 0 } : Room)) (fun a U => a = #[(.int p0), (.int (cn + (5 : Int32))), (.ref a2)] ∧ Z.Warmed39 U.vm ∧ U.heap = h0) (fun _ _ _ _ _ => True) (fun _ U o U' => ∃ v L, o = .returned v ∧ QGC5 Z p0 cn a2 kb xs wo wt h0 n0 v U'.heap L ∧ FrameEnd U o U' L ({ frames := 0, cells := 0, slots := 0, locals := 0 } : Room).cells ({ frames := 0, cells := 0, slots := 0, locals := 0 } : Room).slots) := by
  refine MetFree.of_bodySF (plainFor_of_name pn_5) hisR ?_
  intro p e s m args below meth c s₁ Bd hml0 hP hK
  obtain ⟨rfl, hZ, hh⟩ := hP
  have hx := Bd.exec
  have hby := Bd.bytes
  have hml : c.maxLocals = 7 := hml0
  have hown : s.vm.findClass "java/lang/Integer" = some m.cls := findClass_of_methodNamed Bd.named
  have hnm := (name_of_methodNamed Bd.named Bd.method).1
  have hlk : meth.locks = false := BodyLoose.notSynchronized Bd
  have X0 : Stand p l e ({ frames := 0, cells := 0, slots := 0, locals := 0 } : Room) s m #[(.int p0), (.int (cn + (5 : Int32))), (.ref a2)] below meth c s₁ [] 0 0 := Stand.of_body Bd
  have _u := trivial
  have eh0 : s₁.heap = h0 := by rw [← hh, Bd.state]; rfl
  have N0 := Fr.nil n0
  show Rest p.tables e below s (QGC5 Z p0 cn a2 kb xs wo wt h0 n0) _ _ (s₁.setTop (entryFrame m #[(.int p0), (.int (cn + (5 : Int32))), (.ref a2)] 7))
  refine Rest.via (fun t k => castTop (ef_GC5 m p0 cn a2) k) ?_
  have Vp : Arv Z h0 a2 kb .byte (16 : Int32) (xs.map Value.int ++ [(.int (0 : Int32)), (.int (0 : Int32)), (.int (0 : Int32)), (.int (0 : Int32)), (.int (0 : Int32))]) (.int (0 : Int32)) := V2.pad (own_pad xs 5)
  have hP := hp.int
  show Rest p.tables e below s _ _ _ (s₁.setTop (mkF m 0 #[.val (.int p0), .val (.int (cn + (5 : Int32))), .val (.ref a2), .unset, .unset, .unset, .unset] []))
  refine Rest.via (fun t k => XS.iloadN X0.here hx rfl (hb hby d23_0) rfl k) ?_
  refine Rest.via (fun t k => XS.istore X0.here hx rfl (hb hby d23_1) rfl (l' := #[.val (.int p0), .val (.int (cn + (5 : Int32))), .val (.ref a2), .unset, .unset, .val (.int (cn + (5 : Int32))), .unset]) rfl k) ?_
  refine Rest.via (fun t k => XS.iloadN X0.here hx rfl (hb hby d23_3) rfl k) ?_
  refine Rest.via (fun t k => XS.ifYes X0.here hx rfl (pc0 := 4) (pc' := 11) rfl (hb hby d23_4) rfl ((if0 _ _).trans (flt (own_nlt (A := p0.toInt) (B := 0) rfl (by decide) (by omega) : ¬ (p0 < (0 : Int32)))).2.1) (by decide) (by decide) k) ?_
  show Rest p.tables e below s _ _ _ (s₁.setTop (mkF m 11 #[.val (.int p0), .val (.int (cn + (5 : Int32))), .val (.ref a2), .unset, .unset, .val (.int (cn + (5 : Int32))), .unset] []))
  refine Rest.via (fun t k => XS.iconst X0.here hx rfl (hb hby d23_11) k) ?_
  refine Rest.via (fun t k => XS.istore X0.here hx rfl (hb hby d23_12) rfl (l' := #[.val (.int p0), .val (.int (cn + (5 : Int32))), .val (.ref a2), .unset, .unset, .val (.int (cn + (5 : Int32))), .val (.int (0 : Int32))]) rfl k) ?_
  refine Rest.via (fun t k => XS.iload X0.here hx rfl (hb hby d23_14) rfl k) ?_
  refine Rest.via (fun t k => XS.ifNo X0.here hx rfl (hb hby d23_16) rfl ((if0 _ _).trans (teq (by decide : (0 : Int32) = (0 : Int32))).2) k) ?_
  show Rest p.tables e below s _ _ _ (s₁.setTop (mkF m 19 #[.val (.int p0), .val (.int (cn + (5 : Int32))), .val (.ref a2), .unset, .unset, .val (.int (cn + (5 : Int32))), .val (.int (0 : Int32))] []))
  refine Rest.via (fun t k => XS.iloadN X0.here hx rfl (hb hby d23_19) rfl k) ?_
  refine Rest.via (fun t k => XS.ineg X0.here hx rfl (hb hby d23_20) rfl k) ?_
  refine Rest.via (fun t k => XS.istoreN X0.here hx rfl (hb hby d23_21) rfl (l' := #[.val (.int (-p0)), .val (.int (cn + (5 : Int32))), .val (.ref a2), .unset, .unset, .val (.int (cn + (5 : Int32))), .val (.int (0 : Int32))]) rfl k) ?_
  refine Rest.via (fun t k => XS.iloadN X0.here hx rfl (hb hby d23_22) rfl k) ?_
  refine Rest.via (fun t k => XS.bipush X0.here hx rfl (hb hby d23_23) k) ?_
  refine Rest.via (fun t k => XS.icmpNo X0.here hx rfl (hb hby d23_25) rfl (flt (own_nlt (by decide : (-100 : Int32).toInt = -100) hp.neg (by omega) : ¬ ((-100 : Int32) < (-p0)))).2.2.1 k) ?_
  show Rest p.tables e below s _ _ _ (s₁.setTop (mkF m 28 #[.val (.int (-p0)), .val (.int (cn + (5 : Int32))), .val (.ref a2), .unset, .unset, .val (.int (cn + (5 : Int32))), .val (.int (0 : Int32))] []))
  refine Rest.via (fun t k => XS.iloadN X0.here hx rfl (hb hby d23_28) rfl k) ?_
  refine Rest.via (fun t k => XS.bipush X0.here hx rfl (hb hby d23_29) k) ?_
  refine Rest.via (fun t k => XS.idiv X0.here hx rfl (hb hby d23_31) rfl (by decide) k) ?_
  show Rest p.tables e below s _ _ _ (s₁.setTop (mkF m 32 #[.val (.int (-p0)), .val (.int (cn + (5 : Int32))), .val (.ref a2), .unset, .unset, .val (.int (cn + (5 : Int32))), .val (.int (0 : Int32))] [(.int ((-p0) / (100 : Int32)))]))
  refine Rest.via (fun t k => XS.istoreN X0.here hx rfl (hb hby d23_32) rfl (l' := #[.val (.int (-p0)), .val (.int (cn + (5 : Int32))), .val (.ref a2), .val (.int ((-p0) / (100 : Int32))), .unset, .val (.int (cn + (5 : Int32))), .val (.int (0 : Int32))]) rfl k) ?_
  show Rest p.tables e below s _ _ _ (s₁.setTop (mkF m 33 #[.val (.int (-p0)), .val (.int (cn + (5 : Int32))), .val (.ref a2), .val (.int ((-p0) / (100 : Int32))), .unset, .val (.int (cn + (5 : Int32))), .val (.int (0 : Int32))] []))
  obtain ⟨qa1, hv_qa1⟩ : ∃ z : Int32, z = ((-p0) / (100 : Int32)) := ⟨_, rfl⟩
  rw [← hv_qa1]
  refine Rest.via (fun t k => XS.iloadN X0.here hx rfl (hb hby d23_33) rfl k) ?_
  refine Rest.via (fun t k => XS.bipush X0.here hx rfl (hb hby d23_34) k) ?_
  refine Rest.via (fun t k => XS.imul X0.here hx rfl (hb hby d23_36) rfl k) ?_
  refine Rest.via (fun t k => XS.iloadN X0.here hx rfl (hb hby d23_37) rfl k) ?_
  refine Rest.via (fun t k => XS.isub X0.here hx rfl (hb hby d23_38) rfl k) ?_
  show Rest p.tables e below s _ _ _ (s₁.setTop (mkF m 39 #[.val (.int (-p0)), .val (.int (cn + (5 : Int32))), .val (.ref a2), .val (.int qa1), .unset, .val (.int (cn + (5 : Int32))), .val (.int (0 : Int32))] [(.int ((qa1 * (100 : Int32)) - (-p0)))]))
  refine Rest.via (fun t k => XS.istore X0.here hx rfl (hb hby d23_39) rfl (l' := #[.val (.int (-p0)), .val (.int (cn + (5 : Int32))), .val (.ref a2), .val (.int qa1), .val (.int ((qa1 * (100 : Int32)) - (-p0))), .val (.int (cn + (5 : Int32))), .val (.int (0 : Int32))]) rfl k) ?_
  show Rest p.tables e below s _ _ _ (s₁.setTop (mkF m 41 #[.val (.int (-p0)), .val (.int (cn + (5 : Int32))), .val (.ref a2), .val (.int qa1), .val (.int ((qa1 * (100 : Int32)) - (-p0))), .val (.int (cn + (5 : Int32))), .val (.int (0 : Int32))] []))
  obtain ⟨ra1, hv_ra1⟩ : ∃ z : Int32, z = ((qa1 * (100 : Int32)) - (-p0)) := ⟨_, rfl⟩
  rw [← hv_ra1]
  show Rest p.tables e below s _ _ _ (s₁.setTop (mkF m 41 #[.val (.int (-p0)), .val (.int (cn + (5 : Int32))), .val (.ref a2), .val (.int qa1), .val (.int ra1), .val (.int (cn + (5 : Int32))), .val (.int (0 : Int32))] []))
  have it1 := own_it hp.neg (by omega) (by omega) hv_qa1 hv_ra1
  refine Rest.via (fun t k => XS.iloadN X0.here hx rfl (hb hby d23_41) rfl k) ?_
  refine Rest.via (fun t k => XS.istoreN X0.here hx rfl (hb hby d23_42) rfl (l' := #[.val (.int qa1), .val (.int (cn + (5 : Int32))), .val (.ref a2), .val (.int qa1), .val (.int ra1), .val (.int (cn + (5 : Int32))), .val (.int (0 : Int32))]) rfl k) ?_
  refine Rest.via (fun t k => XS.aloadN X0.here hx rfl (hb hby d23_43) rfl rfl k) ?_
  refine Rest.via (fun t k => XS.iinc X0.here hx rfl (hb hby d23_44) rfl (l' := #[.val (.int qa1), .val (.int (cn + (5 : Int32))), .val (.ref a2), .val (.int qa1), .val (.int ra1), .val (.int ((cn + (5 : Int32)) + (-1 : Int32))), .val (.int (0 : Int32))]) rfl k) ?_
  show Rest p.tables e below s _ _ _ (s₁.setTop (mkF m 47 #[.val (.int qa1), .val (.int (cn + (5 : Int32))), .val (.ref a2), .val (.int qa1), .val (.int ra1), .val (.int ((cn + (5 : Int32)) + (-1 : Int32))), .val (.int (0 : Int32))] [(.ref a2)]))
  rw [(own_assoc cn (5 : Int32) (-1 : Int32) : ((cn + (5 : Int32)) + (-1 : Int32)) = (cn + (4 : Int32)))]
  show Rest p.tables e below s _ _ _ (s₁.setTop (mkF m 47 #[.val (.int qa1), .val (.int (cn + (5 : Int32))), .val (.ref a2), .val (.int qa1), .val (.int ra1), .val (.int (cn + (4 : Int32))), .val (.int (0 : Int32))] [(.ref a2)]))
  refine Rest.via (fun t k => XS.iload X0.here hx rfl (hb hby d23_47) rfl k) ?_
  obtain ⟨T1, X1, e1, st1⟩ := getS2 X0 hx hZ hown (host := "") (Or.inl (own_W hw 159 rfl)) Via.refl eh0 (DG.1.ext (O.keep (Keep.refl h0 [a2]) (allS g_a2 all0)).2) (g := (mkF m 49 #[.val (.int qa1), .val (.int (cn + (5 : Int32))), .val (.ref a2), .val (.int qa1), .val (.int ra1), .val (.int (cn + (4 : Int32))), .val (.int (0 : Int32))] [(.int (cn + (4 : Int32))), (.ref a2)])) rfl (hb hby d23_49)
  refine Rest.via (fun t k => st1 t k) ?_
  show Rest p.tables e below s _ _ _ (T1.setTop (mkF m 52 #[.val (.int qa1), .val (.int (cn + (5 : Int32))), .val (.ref a2), .val (.int qa1), .val (.int ra1), .val (.int (cn + (4 : Int32))), .val (.int (0 : Int32))] [(.ref wo), (.int (cn + (4 : Int32))), (.ref a2)]))
  refine Rest.via (fun t k => XS.iload X1.here hx rfl (hb hby d23_52) rfl k) ?_
  show Rest p.tables e below s _ _ _ (T1.setTop (mkF m 54 #[.val (.int qa1), .val (.int (cn + (5 : Int32))), .val (.ref a2), .val (.int qa1), .val (.int ra1), .val (.int (cn + (4 : Int32))), .val (.int (0 : Int32))] [(.int ra1), (.ref wo), (.int (cn + (4 : Int32))), (.ref a2)]))
  obtain ⟨cl2, Ar2, Sz2, El2⟩ := own_DA_ext DG.2.2.1 (O.keep (Keep.refl h0 [a2]) (allS g_a2 all0)).2
  have lo2 : ¬ ra1 < (0 : Int32) := own_nlt it1.2 (by decide : (0 : Int32).toInt = 0) (by omega)
  have hi2 : ra1 < (100 : Int32) := own_lt it1.2 (by decide : (100 : Int32).toInt = 100) (by omega)
  refine Rest.via (fun t k => X1.baloadBytes hx (j := ra1) (v := (.int ((48 : Int32) + (ra1 % (10 : Int32))))) (by rw [e1]; exact Ar2.1) (State.isArrayOf_alike hZ.alike Ar2.2.1) Ar2.2.2 (own_inb100 Sz2 lo2 hi2) (El2 ra1 lo2 hi2) (g := (mkF m 54 #[.val (.int qa1), .val (.int (cn + (5 : Int32))), .val (.ref a2), .val (.int qa1), .val (.int ra1), .val (.int (cn + (4 : Int32))), .val (.int (0 : Int32))] [(.int ra1), (.ref wo), (.int (cn + (4 : Int32))), (.ref a2)])) rfl rfl (hb hby d23_54) t k) ?_
  show Rest p.tables e below s _ _ _ (T1.setTop (mkF m 55 #[.val (.int qa1), .val (.int (cn + (5 : Int32))), .val (.ref a2), .val (.int qa1), .val (.int ra1), .val (.int (cn + (4 : Int32))), .val (.int (0 : Int32))] [(.int ((48 : Int32) + (ra1 % (10 : Int32)))), (.int (cn + (4 : Int32))), (.ref a2)]))
  have dg3 : (own_dg p0 (5 : Int32) (4 : Int32)).toInt = 48 + (p0.toInt / 1) % 10 := own_dgI hp (by decide) (by decide)
  have eq3 : nar .byte ((48 : Int32) + (ra1 % (10 : Int32))) = (own_dg p0 (5 : Int32) (4 : Int32)) := own_eO it1.2 (by omega) (by omega) (by omega)
  obtain ⟨cl3, Ar3, qa_3, Sa3, Pa3, Ha3, Ga3⟩ := id Vp
  have ix3 := own_ix (k := (4 : Int32)) (K := 4) hc (by decide) (by omega)
  have hin3 := inb_of (j := (cn + (4 : Int32))) Sa3 ix3.1
  obtain ⟨T3, h3, X3, e3, W3, st3⟩ := stB X1 hx hZ e1 Ar3 (j := (cn + (4 : Int32))) hin3 (g := (mkF m 55 #[.val (.int qa1), .val (.int (cn + (5 : Int32))), .val (.ref a2), .val (.int qa1), .val (.int ra1), .val (.int (cn + (4 : Int32))), .val (.int (0 : Int32))] [(.int ((48 : Int32) + (ra1 % (10 : Int32)))), (.int (cn + (4 : Int32))), (.ref a2)])) rfl rfl (hb hby d23_55)
  refine Rest.via (fun t k => st3 t k) ?_
  have N3 := Fr.snoc X3 N0 g_a2
  have K3 : Keep h0 h3 [a2] := (Keep.refl h0 [a2]).wr W3 (Or.inl (List.mem_of_getElem? (i := 0) rfl))
  have V3 : Arv Z h3 a2 kb .byte (16 : Int32) (xs.map Value.int ++ [(.int (0 : Int32)), (.int (0 : Int32)), (.int (0 : Int32)), (.int (0 : Int32)), (.int (own_dg p0 (5 : Int32) (4 : Int32)))]) (.int (0 : Int32)) := by have q := Arv.set Ar3 qa_3 Sa3 Pa3 Ha3 Ga3 (fits_nar_byte _) W3 (xs.length + 4) ix3.2 (by simp); rw [own_setm] at q; have q2 : (((48 : Int32) + (ra1 % (10 : Int32)))).toInt8.toInt32 = (own_dg p0 (5 : Int32) (4 : Int32)) := eq3; rw [q2] at q; exact q
  show Rest p.tables e below s _ _ _ (T3.setTop (mkF m 56 #[.val (.int qa1), .val (.int (cn + (5 : Int32))), .val (.ref a2), .val (.int qa1), .val (.int ra1), .val (.int (cn + (4 : Int32))), .val (.int (0 : Int32))] []))
  refine Rest.via (fun t k => XS.aloadN X3.here hx rfl (hb hby d23_56) rfl rfl k) ?_
  refine Rest.via (fun t k => XS.iinc X3.here hx rfl (hb hby d23_57) rfl (l' := #[.val (.int qa1), .val (.int (cn + (5 : Int32))), .val (.ref a2), .val (.int qa1), .val (.int ra1), .val (.int ((cn + (4 : Int32)) + (-1 : Int32))), .val (.int (0 : Int32))]) rfl k) ?_
  show Rest p.tables e below s _ _ _ (T3.setTop (mkF m 60 #[.val (.int qa1), .val (.int (cn + (5 : Int32))), .val (.ref a2), .val (.int qa1), .val (.int ra1), .val (.int ((cn + (4 : Int32)) + (-1 : Int32))), .val (.int (0 : Int32))] [(.ref a2)]))
  rw [(own_assoc cn (4 : Int32) (-1 : Int32) : ((cn + (4 : Int32)) + (-1 : Int32)) = (cn + (3 : Int32)))]
  show Rest p.tables e below s _ _ _ (T3.setTop (mkF m 60 #[.val (.int qa1), .val (.int (cn + (5 : Int32))), .val (.ref a2), .val (.int qa1), .val (.int ra1), .val (.int (cn + (3 : Int32))), .val (.int (0 : Int32))] [(.ref a2)]))
  refine Rest.via (fun t k => XS.iload X3.here hx rfl (hb hby d23_60) rfl k) ?_
  obtain ⟨T4, X4, e4, st4⟩ := getS2 X3 hx hZ hown (host := "") (Or.inl (own_W hw 237 rfl)) Via.refl e3 (DG.2.1.ext (O.keep K3 (allS g_a2 all0)).2) (g := (mkF m 62 #[.val (.int qa1), .val (.int (cn + (5 : Int32))), .val (.ref a2), .val (.int qa1), .val (.int ra1), .val (.int (cn + (3 : Int32))), .val (.int (0 : Int32))] [(.int (cn + (3 : Int32))), (.ref a2)])) rfl (hb hby d23_62)
  refine Rest.via (fun t k => st4 t k) ?_
  show Rest p.tables e below s _ _ _ (T4.setTop (mkF m 65 #[.val (.int qa1), .val (.int (cn + (5 : Int32))), .val (.ref a2), .val (.int qa1), .val (.int ra1), .val (.int (cn + (3 : Int32))), .val (.int (0 : Int32))] [(.ref wt), (.int (cn + (3 : Int32))), (.ref a2)]))
  refine Rest.via (fun t k => XS.iload X4.here hx rfl (hb hby d23_65) rfl k) ?_
  show Rest p.tables e below s _ _ _ (T4.setTop (mkF m 67 #[.val (.int qa1), .val (.int (cn + (5 : Int32))), .val (.ref a2), .val (.int qa1), .val (.int ra1), .val (.int (cn + (3 : Int32))), .val (.int (0 : Int32))] [(.int ra1), (.ref wt), (.int (cn + (3 : Int32))), (.ref a2)]))
  obtain ⟨cl5, Ar5, Sz5, El5⟩ := own_DA_ext DG.2.2.2 (O.keep K3 (allS g_a2 all0)).2
  have lo5 : ¬ ra1 < (0 : Int32) := own_nlt it1.2 (by decide : (0 : Int32).toInt = 0) (by omega)
  have hi5 : ra1 < (100 : Int32) := own_lt it1.2 (by decide : (100 : Int32).toInt = 100) (by omega)
  refine Rest.via (fun t k => X4.baloadBytes hx (j := ra1) (v := (.int ((48 : Int32) + (ra1 / (10 : Int32))))) (by rw [e4]; exact Ar5.1) (State.isArrayOf_alike hZ.alike Ar5.2.1) Ar5.2.2 (own_inb100 Sz5 lo5 hi5) (El5 ra1 lo5 hi5) (g := (mkF m 67 #[.val (.int qa1), .val (.int (cn + (5 : Int32))), .val (.ref a2), .val (.int qa1), .val (.int ra1), .val (.int (cn + (3 : Int32))), .val (.int (0 : Int32))] [(.int ra1), (.ref wt), (.int (cn + (3 : Int32))), (.ref a2)])) rfl rfl (hb hby d23_67) t k) ?_
  show Rest p.tables e below s _ _ _ (T4.setTop (mkF m 68 #[.val (.int qa1), .val (.int (cn + (5 : Int32))), .val (.ref a2), .val (.int qa1), .val (.int ra1), .val (.int (cn + (3 : Int32))), .val (.int (0 : Int32))] [(.int ((48 : Int32) + (ra1 / (10 : Int32)))), (.int (cn + (3 : Int32))), (.ref a2)]))
  have dg6 : (own_dg p0 (5 : Int32) (3 : Int32)).toInt = 48 + (p0.toInt / 10) % 10 := own_dgI hp (by decide) (by decide)
  have eq6 : nar .byte ((48 : Int32) + (ra1 / (10 : Int32))) = (own_dg p0 (5 : Int32) (3 : Int32)) := own_eT it1.2 (by omega) (by omega) (by omega)
  obtain ⟨cl6, Ar6, qa_6, Sa6, Pa6, Ha6, Ga6⟩ := id V3
  have ix6 := own_ix (k := (3 : Int32)) (K := 3) hc (by decide) (by omega)
  have hin6 := inb_of (j := (cn + (3 : Int32))) Sa6 ix6.1
  obtain ⟨T6, h6, X6, e6, W6, st6⟩ := stB X4 hx hZ e4 Ar6 (j := (cn + (3 : Int32))) hin6 (g := (mkF m 68 #[.val (.int qa1), .val (.int (cn + (5 : Int32))), .val (.ref a2), .val (.int qa1), .val (.int ra1), .val (.int (cn + (3 : Int32))), .val (.int (0 : Int32))] [(.int ((48 : Int32) + (ra1 / (10 : Int32)))), (.int (cn + (3 : Int32))), (.ref a2)])) rfl rfl (hb hby d23_68)
  refine Rest.via (fun t k => st6 t k) ?_
  have N6 := Fr.snoc X6 N3 g_a2
  have K6 : Keep h0 h6 [a2] := K3.wr W6 (Or.inl (List.mem_of_getElem? (i := 0) rfl))
  have V6 : Arv Z h6 a2 kb .byte (16 : Int32) (xs.map Value.int ++ [(.int (0 : Int32)), (.int (0 : Int32)), (.int (0 : Int32)), (.int (own_dg p0 (5 : Int32) (3 : Int32))), (.int (own_dg p0 (5 : Int32) (4 : Int32)))]) (.int (0 : Int32)) := by have q := Arv.set Ar6 qa_6 Sa6 Pa6 Ha6 Ga6 (fits_nar_byte _) W6 (xs.length + 3) ix6.2 (by simp); rw [own_setm] at q; have q2 : (((48 : Int32) + (ra1 / (10 : Int32)))).toInt8.toInt32 = (own_dg p0 (5 : Int32) (3 : Int32)) := eq6; rw [q2] at q; exact q
  show Rest p.tables e below s _ _ _ (T6.setTop (mkF m 69 #[.val (.int qa1), .val (.int (cn + (5 : Int32))), .val (.ref a2), .val (.int qa1), .val (.int ra1), .val (.int (cn + (3 : Int32))), .val (.int (0 : Int32))] []))
  refine Rest.via (fun t k => XS.goto X6.here hx rfl (pc0 := 69) (pc' := 22) rfl (hb hby d23_69) (by decide) (by decide) k) ?_
  refine Rest.via (fun t k => XS.iloadN X6.here hx rfl (hb hby d23_22) rfl k) ?_
  refine Rest.via (fun t k => XS.bipush X6.here hx rfl (hb hby d23_23) k) ?_
  refine Rest.via (fun t k => XS.icmpNo X6.here hx rfl (hb hby d23_25) rfl (flt (own_nlt (by decide : (-100 : Int32).toInt = -100) it1.1 (by omega) : ¬ ((-100 : Int32) < qa1))).2.2.1 k) ?_
  show Rest p.tables e below s _ _ _ (T6.setTop (mkF m 28 #[.val (.int qa1), .val (.int (cn + (5 : Int32))), .val (.ref a2), .val (.int qa1), .val (.int ra1), .val (.int (cn + (3 : Int32))), .val (.int (0 : Int32))] []))
  refine Rest.via (fun t k => XS.iloadN X6.here hx rfl (hb hby d23_28) rfl k) ?_
  refine Rest.via (fun t k => XS.bipush X6.here hx rfl (hb hby d23_29) k) ?_
  refine Rest.via (fun t k => XS.idiv X6.here hx rfl (hb hby d23_31) rfl (by decide) k) ?_
  show Rest p.tables e below s _ _ _ (T6.setTop (mkF m 32 #[.val (.int qa1), .val (.int (cn + (5 : Int32))), .val (.ref a2), .val (.int qa1), .val (.int ra1), .val (.int (cn + (3 : Int32))), .val (.int (0 : Int32))] [(.int (qa1 / (100 : Int32)))]))
  refine Rest.via (fun t k => XS.istoreN X6.here hx rfl (hb hby d23_32) rfl (l' := #[.val (.int qa1), .val (.int (cn + (5 : Int32))), .val (.ref a2), .val (.int (qa1 / (100 : Int32))), .val (.int ra1), .val (.int (cn + (3 : Int32))), .val (.int (0 : Int32))]) rfl k) ?_
  show Rest p.tables e below s _ _ _ (T6.setTop (mkF m 33 #[.val (.int qa1), .val (.int (cn + (5 : Int32))), .val (.ref a2), .val (.int (qa1 / (100 : Int32))), .val (.int ra1), .val (.int (cn + (3 : Int32))), .val (.int (0 : Int32))] []))
  obtain ⟨qa2, hv_qa2⟩ : ∃ z : Int32, z = (qa1 / (100 : Int32)) := ⟨_, rfl⟩
  rw [← hv_qa2]
  refine Rest.via (fun t k => XS.iloadN X6.here hx rfl (hb hby d23_33) rfl k) ?_
  refine Rest.via (fun t k => XS.bipush X6.here hx rfl (hb hby d23_34) k) ?_
  refine Rest.via (fun t k => XS.imul X6.here hx rfl (hb hby d23_36) rfl k) ?_
  refine Rest.via (fun t k => XS.iloadN X6.here hx rfl (hb hby d23_37) rfl k) ?_
  refine Rest.via (fun t k => XS.isub X6.here hx rfl (hb hby d23_38) rfl k) ?_
  show Rest p.tables e below s _ _ _ (T6.setTop (mkF m 39 #[.val (.int qa1), .val (.int (cn + (5 : Int32))), .val (.ref a2), .val (.int qa2), .val (.int ra1), .val (.int (cn + (3 : Int32))), .val (.int (0 : Int32))] [(.int ((qa2 * (100 : Int32)) - qa1))]))
  refine Rest.via (fun t k => XS.istore X6.here hx rfl (hb hby d23_39) rfl (l' := #[.val (.int qa1), .val (.int (cn + (5 : Int32))), .val (.ref a2), .val (.int qa2), .val (.int ((qa2 * (100 : Int32)) - qa1)), .val (.int (cn + (3 : Int32))), .val (.int (0 : Int32))]) rfl k) ?_
  show Rest p.tables e below s _ _ _ (T6.setTop (mkF m 41 #[.val (.int qa1), .val (.int (cn + (5 : Int32))), .val (.ref a2), .val (.int qa2), .val (.int ((qa2 * (100 : Int32)) - qa1)), .val (.int (cn + (3 : Int32))), .val (.int (0 : Int32))] []))
  obtain ⟨ra2, hv_ra2⟩ : ∃ z : Int32, z = ((qa2 * (100 : Int32)) - qa1) := ⟨_, rfl⟩
  rw [← hv_ra2]
  show Rest p.tables e below s _ _ _ (T6.setTop (mkF m 41 #[.val (.int qa1), .val (.int (cn + (5 : Int32))), .val (.ref a2), .val (.int qa2), .val (.int ra2), .val (.int (cn + (3 : Int32))), .val (.int (0 : Int32))] []))
  have it2 := own_it it1.1 (by omega) (by omega) hv_qa2 hv_ra2
  refine Rest.via (fun t k => XS.iloadN X6.here hx rfl (hb hby d23_41) rfl k) ?_
  refine Rest.via (fun t k => XS.istoreN X6.here hx rfl (hb hby d23_42) rfl (l' := #[.val (.int qa2), .val (.int (cn + (5 : Int32))), .val (.ref a2), .val (.int qa2), .val (.int ra2), .val (.int (cn + (3 : Int32))), .val (.int (0 : Int32))]) rfl k) ?_
  refine Rest.via (fun t k => XS.aloadN X6.here hx rfl (hb hby d23_43) rfl rfl k) ?_
  refine Rest.via (fun t k => XS.iinc X6.here hx rfl (hb hby d23_44) rfl (l' := #[.val (.int qa2), .val (.int (cn + (5 : Int32))), .val (.ref a2), .val (.int qa2), .val (.int ra2), .val (.int ((cn + (3 : Int32)) + (-1 : Int32))), .val (.int (0 : Int32))]) rfl k) ?_
  show Rest p.tables e below s _ _ _ (T6.setTop (mkF m 47 #[.val (.int qa2), .val (.int (cn + (5 : Int32))), .val (.ref a2), .val (.int qa2), .val (.int ra2), .val (.int ((cn + (3 : Int32)) + (-1 : Int32))), .val (.int (0 : Int32))] [(.ref a2)]))
  rw [(own_assoc cn (3 : Int32) (-1 : Int32) : ((cn + (3 : Int32)) + (-1 : Int32)) = (cn + (2 : Int32)))]
  show Rest p.tables e below s _ _ _ (T6.setTop (mkF m 47 #[.val (.int qa2), .val (.int (cn + (5 : Int32))), .val (.ref a2), .val (.int qa2), .val (.int ra2), .val (.int (cn + (2 : Int32))), .val (.int (0 : Int32))] [(.ref a2)]))
  refine Rest.via (fun t k => XS.iload X6.here hx rfl (hb hby d23_47) rfl k) ?_
  obtain ⟨T7, X7, e7, st7⟩ := getS2 X6 hx hZ hown (host := "") (Or.inl (own_W hw 159 rfl)) Via.refl e6 (DG.1.ext (O.keep K6 (allS g_a2 all0)).2) (g := (mkF m 49 #[.val (.int qa2), .val (.int (cn + (5 : Int32))), .val (.ref a2), .val (.int qa2), .val (.int ra2), .val (.int (cn + (2 : Int32))), .val (.int (0 : Int32))] [(.int (cn + (2 : Int32))), (.ref a2)])) rfl (hb hby d23_49)
  refine Rest.via (fun t k => st7 t k) ?_
  show Rest p.tables e below s _ _ _ (T7.setTop (mkF m 52 #[.val (.int qa2), .val (.int (cn + (5 : Int32))), .val (.ref a2), .val (.int qa2), .val (.int ra2), .val (.int (cn + (2 : Int32))), .val (.int (0 : Int32))] [(.ref wo), (.int (cn + (2 : Int32))), (.ref a2)]))
  refine Rest.via (fun t k => XS.iload X7.here hx rfl (hb hby d23_52) rfl k) ?_
  show Rest p.tables e below s _ _ _ (T7.setTop (mkF m 54 #[.val (.int qa2), .val (.int (cn + (5 : Int32))), .val (.ref a2), .val (.int qa2), .val (.int ra2), .val (.int (cn + (2 : Int32))), .val (.int (0 : Int32))] [(.int ra2), (.ref wo), (.int (cn + (2 : Int32))), (.ref a2)]))
  obtain ⟨cl8, Ar8, Sz8, El8⟩ := own_DA_ext DG.2.2.1 (O.keep K6 (allS g_a2 all0)).2
  have lo8 : ¬ ra2 < (0 : Int32) := own_nlt it2.2 (by decide : (0 : Int32).toInt = 0) (by omega)
  have hi8 : ra2 < (100 : Int32) := own_lt it2.2 (by decide : (100 : Int32).toInt = 100) (by omega)
  refine Rest.via (fun t k => X7.baloadBytes hx (j := ra2) (v := (.int ((48 : Int32) + (ra2 % (10 : Int32))))) (by rw [e7]; exact Ar8.1) (State.isArrayOf_alike hZ.alike Ar8.2.1) Ar8.2.2 (own_inb100 Sz8 lo8 hi8) (El8 ra2 lo8 hi8) (g := (mkF m 54 #[.val (.int qa2), .val (.int (cn + (5 : Int32))), .val (.ref a2), .val (.int qa2), .val (.int ra2), .val (.int (cn + (2 : Int32))), .val (.int (0 : Int32))] [(.int ra2), (.ref wo), (.int (cn + (2 : Int32))), (.ref a2)])) rfl rfl (hb hby d23_54) t k) ?_
  show Rest p.tables e below s _ _ _ (T7.setTop (mkF m 55 #[.val (.int qa2), .val (.int (cn + (5 : Int32))), .val (.ref a2), .val (.int qa2), .val (.int ra2), .val (.int (cn + (2 : Int32))), .val (.int (0 : Int32))] [(.int ((48 : Int32) + (ra2 % (10 : Int32)))), (.int (cn + (2 : Int32))), (.ref a2)]))
  have dg9 : (own_dg p0 (5 : Int32) (2 : Int32)).toInt = 48 + (p0.toInt / 100) % 10 := own_dgI hp (by decide) (by decide)
  have eq9 : nar .byte ((48 : Int32) + (ra2 % (10 : Int32))) = (own_dg p0 (5 : Int32) (2 : Int32)) := own_eO it2.2 (by omega) (by omega) (by omega)
  obtain ⟨cl9, Ar9, qa_9, Sa9, Pa9, Ha9, Ga9⟩ := id V6
  have ix9 := own_ix (k := (2 : Int32)) (K := 2) hc (by decide) (by omega)
  have hin9 := inb_of (j := (cn + (2 : Int32))) Sa9 ix9.1
  obtain ⟨T9, h9, X9, e9, W9, st9⟩ := stB X7 hx hZ e7 Ar9 (j := (cn + (2 : Int32))) hin9 (g := (mkF m 55 #[.val (.int qa2), .val (.int (cn + (5 : Int32))), .val (.ref a2), .val (.int qa2), .val (.int ra2), .val (.int (cn + (2 : Int32))), .val (.int (0 : Int32))] [(.int ((48 : Int32) + (ra2 % (10 : Int32)))), (.int (cn + (2 : Int32))), (.ref a2)])) rfl rfl (hb hby d23_55)
  refine Rest.via (fun t k => st9 t k) ?_
  have N9 := Fr.snoc X9 N6 g_a2
  have K9 : Keep h0 h9 [a2] := K6.wr W9 (Or.inl (List.mem_of_getElem? (i := 0) rfl))
  have V9 : Arv Z h9 a2 kb .byte (16 : Int32) (xs.map Value.int ++ [(.int (0 : Int32)), (.int (0 : Int32)), (.int (own_dg p0 (5 : Int32) (2 : Int32))), (.int (own_dg p0 (5 : Int32) (3 : Int32))), (.int (own_dg p0 (5 : Int32) (4 : Int32)))]) (.int (0 : Int32)) := by have q := Arv.set Ar9 qa_9 Sa9 Pa9 Ha9 Ga9 (fits_nar_byte _) W9 (xs.length + 2) ix9.2 (by simp); rw [own_setm] at q; have q2 : (((48 : Int32) + (ra2 % (10 : Int32)))).toInt8.toInt32 = (own_dg p0 (5 : Int32) (2 : Int32)) := eq9; rw [q2] at q; exact q
  show Rest p.tables e below s _ _ _ (T9.setTop (mkF m 56 #[.val (.int qa2), .val (.int (cn + (5 : Int32))), .val (.ref a2), .val (.int qa2), .val (.int ra2), .val (.int (cn + (2 : Int32))), .val (.int (0 : Int32))] []))
  refine Rest.via (fun t k => XS.aloadN X9.here hx rfl (hb hby d23_56) rfl rfl k) ?_
  refine Rest.via (fun t k => XS.iinc X9.here hx rfl (hb hby d23_57) rfl (l' := #[.val (.int qa2), .val (.int (cn + (5 : Int32))), .val (.ref a2), .val (.int qa2), .val (.int ra2), .val (.int ((cn + (2 : Int32)) + (-1 : Int32))), .val (.int (0 : Int32))]) rfl k) ?_
  show Rest p.tables e below s _ _ _ (T9.setTop (mkF m 60 #[.val (.int qa2), .val (.int (cn + (5 : Int32))), .val (.ref a2), .val (.int qa2), .val (.int ra2), .val (.int ((cn + (2 : Int32)) + (-1 : Int32))), .val (.int (0 : Int32))] [(.ref a2)]))
  rw [(own_assoc cn (2 : Int32) (-1 : Int32) : ((cn + (2 : Int32)) + (-1 : Int32)) = (cn + (1 : Int32)))]
  show Rest p.tables e below s _ _ _ (T9.setTop (mkF m 60 #[.val (.int qa2), .val (.int (cn + (5 : Int32))), .val (.ref a2), .val (.int qa2), .val (.int ra2), .val (.int (cn + (1 : Int32))), .val (.int (0 : Int32))] [(.ref a2)]))
  refine Rest.via (fun t k => XS.iload X9.here hx rfl (hb hby d23_60) rfl k) ?_
  obtain ⟨T10, X10, e10, st10⟩ := getS2 X9 hx hZ hown (host := "") (Or.inl (own_W hw 237 rfl)) Via.refl e9 (DG.2.1.ext (O.keep K9 (allS g_a2 all0)).2) (g := (mkF m 62 #[.val (.int qa2), .val (.int (cn + (5 : Int32))), .val (.ref a2), .val (.int qa2), .val (.int ra2), .val (.int (cn + (1 : Int32))), .val (.int (0 : Int32))] [(.int (cn + (1 : Int32))), (.ref a2)])) rfl (hb hby d23_62)
  refine Rest.via (fun t k => st10 t k) ?_
  show Rest p.tables e below s _ _ _ (T10.setTop (mkF m 65 #[.val (.int qa2), .val (.int (cn + (5 : Int32))), .val (.ref a2), .val (.int qa2), .val (.int ra2), .val (.int (cn + (1 : Int32))), .val (.int (0 : Int32))] [(.ref wt), (.int (cn + (1 : Int32))), (.ref a2)]))
  refine Rest.via (fun t k => XS.iload X10.here hx rfl (hb hby d23_65) rfl k) ?_
  show Rest p.tables e below s _ _ _ (T10.setTop (mkF m 67 #[.val (.int qa2), .val (.int (cn + (5 : Int32))), .val (.ref a2), .val (.int qa2), .val (.int ra2), .val (.int (cn + (1 : Int32))), .val (.int (0 : Int32))] [(.int ra2), (.ref wt), (.int (cn + (1 : Int32))), (.ref a2)]))
  obtain ⟨cl11, Ar11, Sz11, El11⟩ := own_DA_ext DG.2.2.2 (O.keep K9 (allS g_a2 all0)).2
  have lo11 : ¬ ra2 < (0 : Int32) := own_nlt it2.2 (by decide : (0 : Int32).toInt = 0) (by omega)
  have hi11 : ra2 < (100 : Int32) := own_lt it2.2 (by decide : (100 : Int32).toInt = 100) (by omega)
  refine Rest.via (fun t k => X10.baloadBytes hx (j := ra2) (v := (.int ((48 : Int32) + (ra2 / (10 : Int32))))) (by rw [e10]; exact Ar11.1) (State.isArrayOf_alike hZ.alike Ar11.2.1) Ar11.2.2 (own_inb100 Sz11 lo11 hi11) (El11 ra2 lo11 hi11) (g := (mkF m 67 #[.val (.int qa2), .val (.int (cn + (5 : Int32))), .val (.ref a2), .val (.int qa2), .val (.int ra2), .val (.int (cn + (1 : Int32))), .val (.int (0 : Int32))] [(.int ra2), (.ref wt), (.int (cn + (1 : Int32))), (.ref a2)])) rfl rfl (hb hby d23_67) t k) ?_
  show Rest p.tables e below s _ _ _ (T10.setTop (mkF m 68 #[.val (.int qa2), .val (.int (cn + (5 : Int32))), .val (.ref a2), .val (.int qa2), .val (.int ra2), .val (.int (cn + (1 : Int32))), .val (.int (0 : Int32))] [(.int ((48 : Int32) + (ra2 / (10 : Int32)))), (.int (cn + (1 : Int32))), (.ref a2)]))
  have dg12 : (own_dg p0 (5 : Int32) (1 : Int32)).toInt = 48 + (p0.toInt / 1000) % 10 := own_dgI hp (by decide) (by decide)
  have eq12 : nar .byte ((48 : Int32) + (ra2 / (10 : Int32))) = (own_dg p0 (5 : Int32) (1 : Int32)) := own_eT it2.2 (by omega) (by omega) (by omega)
  obtain ⟨cl12, Ar12, qa_12, Sa12, Pa12, Ha12, Ga12⟩ := id V9
  have ix12 := own_ix (k := (1 : Int32)) (K := 1) hc (by decide) (by omega)
  have hin12 := inb_of (j := (cn + (1 : Int32))) Sa12 ix12.1
  obtain ⟨T12, h12, X12, e12, W12, st12⟩ := stB X10 hx hZ e10 Ar12 (j := (cn + (1 : Int32))) hin12 (g := (mkF m 68 #[.val (.int qa2), .val (.int (cn + (5 : Int32))), .val (.ref a2), .val (.int qa2), .val (.int ra2), .val (.int (cn + (1 : Int32))), .val (.int (0 : Int32))] [(.int ((48 : Int32) + (ra2 / (10 : Int32)))), (.int (cn + (1 : Int32))), (.ref a2)])) rfl rfl (hb hby d23_68)
  refine Rest.via (fun t k => st12 t k) ?_
  have N12 := Fr.snoc X12 N9 g_a2
  have K12 : Keep h0 h12 [a2] := K9.wr W12 (Or.inl (List.mem_of_getElem? (i := 0) rfl))
  have V12 : Arv Z h12 a2 kb .byte (16 : Int32) (xs.map Value.int ++ [(.int (0 : Int32)), (.int (own_dg p0 (5 : Int32) (1 : Int32))), (.int (own_dg p0 (5 : Int32) (2 : Int32))), (.int (own_dg p0 (5 : Int32) (3 : Int32))), (.int (own_dg p0 (5 : Int32) (4 : Int32)))]) (.int (0 : Int32)) := by have q := Arv.set Ar12 qa_12 Sa12 Pa12 Ha12 Ga12 (fits_nar_byte _) W12 (xs.length + 1) ix12.2 (by simp); rw [own_setm] at q; have q2 : (((48 : Int32) + (ra2 / (10 : Int32)))).toInt8.toInt32 = (own_dg p0 (5 : Int32) (1 : Int32)) := eq12; rw [q2] at q; exact q
  show Rest p.tables e below s _ _ _ (T12.setTop (mkF m 69 #[.val (.int qa2), .val (.int (cn + (5 : Int32))), .val (.ref a2), .val (.int qa2), .val (.int ra2), .val (.int (cn + (1 : Int32))), .val (.int (0 : Int32))] []))
  refine Rest.via (fun t k => XS.goto X12.here hx rfl (pc0 := 69) (pc' := 22) rfl (hb hby d23_69) (by decide) (by decide) k) ?_
  refine Rest.via (fun t k => XS.iloadN X12.here hx rfl (hb hby d23_22) rfl k) ?_
  refine Rest.via (fun t k => XS.bipush X12.here hx rfl (hb hby d23_23) k) ?_
  refine Rest.via (fun t k => XS.icmpYes X12.here hx rfl (pc0 := 25) (pc' := 72) rfl (hb hby d23_25) rfl (tlt (own_lt (by decide : (-100 : Int32).toInt = -100) it2.1 (by omega) : (-100 : Int32) < qa2)).2.2.1 (by decide) (by decide) k) ?_
  show Rest p.tables e below s _ _ _ (T12.setTop (mkF m 72 #[.val (.int qa2), .val (.int (cn + (5 : Int32))), .val (.ref a2), .val (.int qa2), .val (.int ra2), .val (.int (cn + (1 : Int32))), .val (.int (0 : Int32))] []))
  refine Rest.via (fun t k => XS.aloadN X12.here hx rfl (hb hby d23_72) rfl rfl k) ?_
  refine Rest.via (fun t k => XS.iinc X12.here hx rfl (hb hby d23_73) rfl (l' := #[.val (.int qa2), .val (.int (cn + (5 : Int32))), .val (.ref a2), .val (.int qa2), .val (.int ra2), .val (.int ((cn + (1 : Int32)) + (-1 : Int32))), .val (.int (0 : Int32))]) rfl k) ?_
  show Rest p.tables e below s _ _ _ (T12.setTop (mkF m 76 #[.val (.int qa2), .val (.int (cn + (5 : Int32))), .val (.ref a2), .val (.int qa2), .val (.int ra2), .val (.int ((cn + (1 : Int32)) + (-1 : Int32))), .val (.int (0 : Int32))] [(.ref a2)]))
  rw [(own_assoc cn (1 : Int32) (-1 : Int32) : ((cn + (1 : Int32)) + (-1 : Int32)) = (cn + (0 : Int32)))]
  show Rest p.tables e below s _ _ _ (T12.setTop (mkF m 76 #[.val (.int qa2), .val (.int (cn + (5 : Int32))), .val (.ref a2), .val (.int qa2), .val (.int ra2), .val (.int (cn + (0 : Int32))), .val (.int (0 : Int32))] [(.ref a2)]))
  refine Rest.via (fun t k => XS.iload X12.here hx rfl (hb hby d23_76) rfl k) ?_
  obtain ⟨T13, X13, e13, st13⟩ := getS2 X12 hx hZ hown (host := "") (Or.inl (own_W hw 159 rfl)) Via.refl e12 (DG.1.ext (O.keep K12 (allS g_a2 all0)).2) (g := (mkF m 78 #[.val (.int qa2), .val (.int (cn + (5 : Int32))), .val (.ref a2), .val (.int qa2), .val (.int ra2), .val (.int (cn + (0 : Int32))), .val (.int (0 : Int32))] [(.int (cn + (0 : Int32))), (.ref a2)])) rfl (hb hby d23_78)
  refine Rest.via (fun t k => st13 t k) ?_
  show Rest p.tables e below s _ _ _ (T13.setTop (mkF m 81 #[.val (.int qa2), .val (.int (cn + (5 : Int32))), .val (.ref a2), .val (.int qa2), .val (.int ra2), .val (.int (cn + (0 : Int32))), .val (.int (0 : Int32))] [(.ref wo), (.int (cn + (0 : Int32))), (.ref a2)]))
  refine Rest.via (fun t k => XS.iloadN X13.here hx rfl (hb hby d23_81) rfl k) ?_
  refine Rest.via (fun t k => XS.ineg X13.here hx rfl (hb hby d23_82) rfl k) ?_
  show Rest p.tables e below s _ _ _ (T13.setTop (mkF m 83 #[.val (.int qa2), .val (.int (cn + (5 : Int32))), .val (.ref a2), .val (.int qa2), .val (.int ra2), .val (.int (cn + (0 : Int32))), .val (.int (0 : Int32))] [(.int (-qa2)), (.ref wo), (.int (cn + (0 : Int32))), (.ref a2)]))
  have own_rr14 : ((-qa2)).toInt = ((p0.toInt / 100) / 100) := own_ng it2.1 (by omega) (by omega)
  obtain ⟨cl14, Ar14, Sz14, El14⟩ := own_DA_ext DG.2.2.1 (O.keep K12 (allS g_a2 all0)).2
  have lo14 : ¬ (-qa2) < (0 : Int32) := own_nlt own_rr14 (by decide : (0 : Int32).toInt = 0) (by omega)
  have hi14 : (-qa2) < (100 : Int32) := own_lt own_rr14 (by decide : (100 : Int32).toInt = 100) (by omega)
  refine Rest.via (fun t k => X13.baloadBytes hx (j := (-qa2)) (v := (.int ((48 : Int32) + ((-qa2) % (10 : Int32))))) (by rw [e13]; exact Ar14.1) (State.isArrayOf_alike hZ.alike Ar14.2.1) Ar14.2.2 (own_inb100 Sz14 lo14 hi14) (El14 (-qa2) lo14 hi14) (g := (mkF m 83 #[.val (.int qa2), .val (.int (cn + (5 : Int32))), .val (.ref a2), .val (.int qa2), .val (.int ra2), .val (.int (cn + (0 : Int32))), .val (.int (0 : Int32))] [(.int (-qa2)), (.ref wo), (.int (cn + (0 : Int32))), (.ref a2)])) rfl rfl (hb hby d23_83) t k) ?_
  show Rest p.tables e below s _ _ _ (T13.setTop (mkF m 84 #[.val (.int qa2), .val (.int (cn + (5 : Int32))), .val (.ref a2), .val (.int qa2), .val (.int ra2), .val (.int (cn + (0 : Int32))), .val (.int (0 : Int32))] [(.int ((48 : Int32) + ((-qa2) % (10 : Int32)))), (.int (cn + (0 : Int32))), (.ref a2)]))
  have dg15 : (own_dg p0 (5 : Int32) (0 : Int32)).toInt = 48 + (p0.toInt / 10000) % 10 := own_dgI hp (by decide) (by decide)
  have eq15 : nar .byte ((48 : Int32) + ((-qa2) % (10 : Int32))) = (own_dg p0 (5 : Int32) (0 : Int32)) := own_eO own_rr14 (by omega) (by omega) (by omega)
  obtain ⟨cl15, Ar15, qa_15, Sa15, Pa15, Ha15, Ga15⟩ := id V12
  have ix15 := own_ix (k := (0 : Int32)) (K := 0) hc (by decide) (by omega)
  have hin15 := inb_of (j := (cn + (0 : Int32))) Sa15 ix15.1
  obtain ⟨T15, h15, X15, e15, W15, st15⟩ := stB X13 hx hZ e13 Ar15 (j := (cn + (0 : Int32))) hin15 (g := (mkF m 84 #[.val (.int qa2), .val (.int (cn + (5 : Int32))), .val (.ref a2), .val (.int qa2), .val (.int ra2), .val (.int (cn + (0 : Int32))), .val (.int (0 : Int32))] [(.int ((48 : Int32) + ((-qa2) % (10 : Int32)))), (.int (cn + (0 : Int32))), (.ref a2)])) rfl rfl (hb hby d23_84)
  refine Rest.via (fun t k => st15 t k) ?_
  have N15 := Fr.snoc X15 N12 g_a2
  have K15 : Keep h0 h15 [a2] := K12.wr W15 (Or.inl (List.mem_of_getElem? (i := 0) rfl))
  have V15 : Arv Z h15 a2 kb .byte (16 : Int32) (xs.map Value.int ++ [(.int (own_dg p0 (5 : Int32) (0 : Int32))), (.int (own_dg p0 (5 : Int32) (1 : Int32))), (.int (own_dg p0 (5 : Int32) (2 : Int32))), (.int (own_dg p0 (5 : Int32) (3 : Int32))), (.int (own_dg p0 (5 : Int32) (4 : Int32)))]) (.int (0 : Int32)) := by have q := Arv.set Ar15 qa_15 Sa15 Pa15 Ha15 Ga15 (fits_nar_byte _) W15 (xs.length + 0) ix15.2 (by simp); rw [own_setm] at q; have q2 : (((48 : Int32) + ((-qa2) % (10 : Int32)))).toInt8.toInt32 = (own_dg p0 (5 : Int32) (0 : Int32)) := eq15; rw [q2] at q; exact q
  show Rest p.tables e below s _ _ _ (T15.setTop (mkF m 85 #[.val (.int qa2), .val (.int (cn + (5 : Int32))), .val (.ref a2), .val (.int qa2), .val (.int ra2), .val (.int (cn + (0 : Int32))), .val (.int (0 : Int32))] []))
  refine Rest.via (fun t k => XS.iloadN X15.here hx rfl (hb hby d23_85) rfl k) ?_
  refine Rest.via (fun t k => XS.bipush X15.here hx rfl (hb hby d23_86) k) ?_
  refine Rest.via (fun t k => XS.icmpYes X15.here hx rfl (pc0 := 88) (pc' := 104) rfl (hb hby d23_88) rfl (flt (own_nlt it2.1 (by decide : (-9 : Int32).toInt = -9) (by omega) : ¬ (qa2 < (-9 : Int32)))).2.1 (by decide) (by decide) k) ?_
  show Rest p.tables e below s _ _ _ (T15.setTop (mkF m 104 #[.val (.int qa2), .val (.int (cn + (5 : Int32))), .val (.ref a2), .val (.int qa2), .val (.int ra2), .val (.int (cn + (0 : Int32))), .val (.int (0 : Int32))] []))
  refine Rest.via (fun t k => XS.iload X15.here hx rfl (hb hby d23_104) rfl k) ?_
  refine Rest.via (fun t k => XS.ifYes X15.here hx rfl (pc0 := 106) (pc' := 118) rfl (hb hby d23_106) rfl ((if0 _ _).trans (teq (by decide : (0 : Int32) = (0 : Int32))).1) (by decide) (by decide) k) ?_
  show Rest p.tables e below s _ _ _ (T15.setTop (mkF m 118 #[.val (.int qa2), .val (.int (cn + (5 : Int32))), .val (.ref a2), .val (.int qa2), .val (.int ra2), .val (.int (cn + (0 : Int32))), .val (.int (0 : Int32))] []))
  refine Rest.via (fun t k => XS.iload X15.here hx rfl (hb hby d23_118) rfl k) ?_
  refine Rest.ret X15 (v := some (.int (cn + (0 : Int32)))) (fun h => by rw [Bd.returns] at h; cases h) hlk (fun fs hr => retOut X15 hx Bd.returns rfl (Or.inl ⟨rfl, Or.inl rfl, _, rfl⟩) (hb hby d23_120) hr) ?_ (by decide) (by decide)
  rw [e15]
  exact ⟨rfl, N15, K15, by rw [own_dgs_5, List.map_append]; exact V15⟩
def QGC (Z : State) (p0 : Int32) (cn : Int32) (dd : Int32) (a2 : Addr) (kb : ClassId) (xs : List Int32) (wo wt : Addr) (h0 : Heap) (n0 : Nat) (v : Option Value) (h : Heap) (L : List Loc) : Prop := v = some (.int (cn + (0 : Int32))) ∧ Fr n0 L ∧ Keep h0 h [a2] ∧ Arv Z h a2 kb .byte (16 : Int32) ((xs ++ own_dgs dd p0).map Value.int) (.int (0 : Int32))
theorem rmGC (l : Launch) (Z : State) (aw : Array Value) (hw : ∀ d ∈ tables_1, d.before aw Z = true) (ws : List Jvm.Cond) (p0 : Int32) (cn : Int32) (dd : Int32) (a2 : Addr) (kb : ClassId) (xs : List Int32) (wo wt : Addr) (h0 : Heap) (n0 : Nat) (Z0 : n0 ≤ h0.size) (hp : own_pt p0) (hd : dd = own_dd p0) (V2 : Arv Z h0 a2 kb .byte (16 : Int32) (xs.map Value.int) (.int (0 : Int32))) (hc : own_ln cn xs) (hs : xs.length + 5 ≤ 16) (g_a2 : n0 ≤ a2) (O : own_Old Z n0 h0) (DG : own_DG Z wo wt) :
    MetFree l (⟨"java/lang/Integer", "getChars", "(II[B)I"⟩ : MethodName) (head1 (Jvm.Cond.code (⟨"java/lang/Integer", "getChars", "(II[B)I"⟩ : MethodName) jdk_33_method_12_code 7 (some .int) :: ws) ({ frames := 0, cells := 0, slots := 0, locals := 0 } : Room)) (fun a U => a = #[(.int p0), (.int (cn + dd)), (.ref a2)] ∧ Z.Warmed39 U.vm ∧ U.heap = h0) (fun _ _ _ _ _ => True) (fun _ U o U' => ∃ v L, o = .returned v ∧ QGC Z p0 cn dd a2 kb xs wo wt h0 n0 v U'.heap L ∧ FrameEnd U o U' L ({ frames := 0, cells := 0, slots := 0, locals := 0 } : Room).cells ({ frames := 0, cells := 0, slots := 0, locals := 0 } : Room).slots) := by
  rcases own_dcase hp with ⟨e, r⟩ | ⟨e, r⟩ | ⟨e, r⟩ | ⟨e, r⟩ | ⟨e, r⟩ <;> rw [e] at hd <;> subst hd
  · exact rmGC1 l Z aw hw ws p0 cn a2 kb xs wo wt h0 n0 Z0 hp r V2 hc hs g_a2 O DG
  · exact rmGC2 l Z aw hw ws p0 cn a2 kb xs wo wt h0 n0 Z0 hp r V2 hc hs g_a2 O DG
  · exact rmGC3 l Z aw hw ws p0 cn a2 kb xs wo wt h0 n0 Z0 hp r V2 hc hs g_a2 O DG
  · exact rmGC4 l Z aw hw ws p0 cn a2 kb xs wo wt h0 n0 Z0 hp r V2 hc hs g_a2 O DG
  · exact rmGC5 l Z aw hw ws p0 cn a2 kb xs wo wt h0 n0 Z0 hp r V2 hc hs g_a2 O DG
theorem pd_12 : parseMethodDescriptor "(I)I" = some ⟨[.int], some .int⟩ := by decide +kernel
theorem pd_13 : parseMethodDescriptor "()Z" = some ⟨[], some .boolean⟩ := by decide +kernel
theorem pd_14 : parseMethodDescriptor "(II[B)I" = some ⟨[.int, .int, (.array .byte)], some .int⟩ := by decide +kernel
theorem d20_0 : decode jdk_68_method_32_code 0 = .ok (.aload_n 0, 1) := by decide +kernel
theorem d20_1 : decode jdk_68_method_32_code 1 = .ok (.getfield 79, 3) := by decide +kernel
theorem d20_4 : decode jdk_68_method_32_code 4 = .ok (.istore_n 2, 1) := by decide +kernel
theorem d20_5 : decode jdk_68_method_32_code 5 = .ok (.iload_n 2, 1) := by decide +kernel
theorem d20_6 : decode jdk_68_method_32_code 6 = .ok (.iload_n 1, 1) := by decide +kernel
theorem d20_7 : decode jdk_68_method_32_code 7 = .ok (.invokestatic 245, 3) := by decide +kernel
theorem d20_10 : decode jdk_68_method_32_code 10 = .ok (.iadd, 1) := by decide +kernel
theorem d20_11 : decode jdk_68_method_32_code 11 = .ok (.istore_n 3, 1) := by decide +kernel
theorem d20_12 : decode jdk_68_method_32_code 12 = .ok (.aload_n 0, 1) := by decide +kernel
theorem d20_13 : decode jdk_68_method_32_code 13 = .ok (.iload_n 3, 1) := by decide +kernel
theorem d20_14 : decode jdk_68_method_32_code 14 = .ok (.invokevirtual 100, 3) := by decide +kernel
theorem d20_17 : decode jdk_68_method_32_code 17 = .ok (.aload_n 0, 1) := by decide +kernel
theorem d20_18 : decode jdk_68_method_32_code 18 = .ok (.invokevirtual 83, 3) := by decide +kernel
theorem d20_21 : decode jdk_68_method_32_code 21 = .ok (.ifCond .eq 16, 3) := by decide +kernel
theorem d20_24 : decode jdk_68_method_32_code 24 = .ok (.iload_n 1, 1) := by decide +kernel
theorem d20_25 : decode jdk_68_method_32_code 25 = .ok (.iload_n 3, 1) := by decide +kernel
theorem d20_26 : decode jdk_68_method_32_code 26 = .ok (.aload_n 0, 1) := by decide +kernel
theorem d20_27 : decode jdk_68_method_32_code 27 = .ok (.getfield 15, 3) := by decide +kernel
theorem d20_30 : decode jdk_68_method_32_code 30 = .ok (.invokestatic 248, 3) := by decide +kernel
theorem d20_33 : decode jdk_68_method_32_code 33 = .ok (.pop, 1) := by decide +kernel
theorem d20_34 : decode jdk_68_method_32_code 34 = .ok (.goto 14, 3) := by decide +kernel
theorem d20_48 : decode jdk_68_method_32_code 48 = .ok (.aload_n 0, 1) := by decide +kernel
theorem d20_49 : decode jdk_68_method_32_code 49 = .ok (.iload_n 3, 1) := by decide +kernel
theorem d20_50 : decode jdk_68_method_32_code 50 = .ok (.putfield 79, 3) := by decide +kernel
theorem d20_53 : decode jdk_68_method_32_code 53 = .ok (.aload_n 0, 1) := by decide +kernel
theorem d20_54 : decode jdk_68_method_32_code 54 = .ok (.areturn, 1) := by decide +kernel
theorem ef_AAI (m : MethodId) (a0 : Addr) (p1 : Int32) : entryFrame m #[(.ref a0), (.int p1)] 4 = mkF m 0 #[.val (.ref a0), .val (.int p1), .unset, .unset] [] := by first | (simp [entryFrame, mkF, argsToLocals, Value.category, maxLocals]; done) | rfl
def QAAI (Z : State) (a0 : Addr) (p1 : Int32) (bv : Addr) (kb : ClassId) (cn : Int32) (xs : List Int32) (ic : Int32) (wo : Addr) (wt : Addr) (h0 : Heap) (n0 : Nat) (v : Option Value) (h : Heap) (L : List Loc) : Prop := v = some (.ref a0) ∧ Fr n0 L ∧ Keep h0 h [a0, bv] ∧ own_SB Z h a0 bv kb (cn + own_dd p1) ((xs ++ own_dgs (own_dd p1) p1).map Value.int)
set_option maxRecDepth 65536 in
set_option maxHeartbeats 40000000 in
theorem rmAAI (l : Launch) (Z : State) (aw : Array Value) (hw : ∀ d ∈ tables_1, d.before aw Z = true) (ws : List Jvm.Cond) (a0 : Addr) (p1 : Int32) (bv : Addr) (kb : ClassId) (cn : Int32) (xs : List Int32) (ic : Int32) (wo : Addr) (wt : Addr) (h0 : Heap) (n0 : Nat) (Z0 : n0 ≤ h0.size) (B : own_SB Z h0 a0 bv kb cn (xs.map Value.int)) (lx : own_ln cn xs) (hs : xs.length + 5 ≤ 16) (hp : own_pt p1) (g_a0 : n0 ≤ a0) (g_bv : n0 ≤ bv) (O : own_Old Z n0 h0) (CS : own_CS Z ic) (DG : own_DG Z wo wt) :
    MetFree l (⟨"java/lang/AbstractStringBuilder", "append", "(I)Ljava/lang/AbstractStringBuilder;"⟩ : MethodName) (head1 (Jvm.Cond.code (⟨"java/lang/AbstractStringBuilder", "append", "(I)Ljava/lang/AbstractStringBuilder;"⟩ : MethodName) jdk_68_method_32_code 4 (some (.object "java/lang/AbstractStringBuilder")) :: ws) ({ frames := 1, cells := 0, slots := 0, locals := 18 } : Room)) (fun a U => a = #[(.ref a0), (.int p1)] ∧ Z.Warmed39 U.vm ∧ U.heap = h0) (fun _ _ _ _ _ => True) (fun _ U o U' => ∃ v L, o = .returned v ∧ QAAI Z a0 p1 bv kb cn xs ic wo wt h0 n0 v U'.heap L ∧ FrameEnd U o U' L ({ frames := 1, cells := 0, slots := 0, locals := 18 } : Room).cells ({ frames := 1, cells := 0, slots := 0, locals := 18 } : Room).slots) := by
  refine MetFree.of_bodySF (plainFor_of_name pn_3) hisR ?_
  intro p e s m args below meth c s₁ Bd hml0 hP hK
  obtain ⟨rfl, hZ, hh⟩ := hP
  have hx := Bd.exec
  have hby := Bd.bytes
  have hml : c.maxLocals = 4 := hml0
  have hown : s.vm.findClass "java/lang/AbstractStringBuilder" = some m.cls := findClass_of_methodNamed Bd.named
  have hnm := (name_of_methodNamed Bd.named Bd.method).1
  have hlk : meth.locks = false := BodyLoose.notSynchronized Bd
  have X0 : Stand p l e ({ frames := 1, cells := 0, slots := 0, locals := 18 } : Room) s m #[(.ref a0), (.int p1)] below meth c s₁ [] 0 0 := Stand.of_body Bd
  have _u := trivial
  have eh0 : s₁.heap = h0 := by rw [← hh, Bd.state]; rfl
  have N0 := Fr.nil n0
  show Rest p.tables e below s (QAAI Z a0 p1 bv kb cn xs ic wo wt h0 n0) _ _ (s₁.setTop (entryFrame m #[(.ref a0), (.int p1)] 4))
  refine Rest.via (fun t k => castTop (ef_AAI m a0 p1) k) ?_
  obtain ⟨E_a0, Fv_a0, Fc_a0, Fn_a0, V_a0⟩ := id B
  have ne_a0_bv : a0 ≠ bv := Exa.neArv E_a0 V_a0 (own_W hw 71 rfl)
  show Rest p.tables e below s _ _ _ (s₁.setTop (mkF m 0 #[.val (.ref a0), .val (.int p1), .unset, .unset] []))
  refine Rest.via (fun t k => XS.aloadN X0.here hx rfl (hb hby d20_0) rfl rfl k) ?_
  obtain ⟨T1, X1, e1, st1⟩ := getF X0 hx hZ hown (host := "") (Or.inl (own_W hw 109 rfl)) Via.refl eh0 Fn_a0 (g := (mkF m 1 #[.val (.ref a0), .val (.int p1), .unset, .unset] [(.ref a0)])) rfl rfl (hb hby d20_1)
  refine Rest.via (fun t k => st1 t k) ?_
  show Rest p.tables e below s _ _ _ (T1.setTop (mkF m 4 #[.val (.ref a0), .val (.int p1), .unset, .unset] [(.int cn)]))
  refine Rest.via (fun t k => XS.istoreN X1.here hx rfl (hb hby d20_4) rfl (l' := #[.val (.ref a0), .val (.int p1), .val (.int cn), .unset]) rfl k) ?_
  refine Rest.via (fun t k => XS.iloadN X1.here hx rfl (hb hby d20_5) rfl k) ?_
  refine Rest.via (fun t k => XS.iloadN X1.here hx rfl (hb hby d20_6) rfl k) ?_
  show Rest p.tables e below s _ _ _ (T1.setTop (mkF m 7 #[.val (.ref a0), .val (.int p1), .val (.int cn), .unset] [(.int p1), (.int cn)]))
  obtain ⟨_, _, ⟨T2, L2, k2, n2⟩, -, X2, ⟨Lc2, hQ2, l2, y2, z2⟩, st2⟩ := Jvm.LawKit.callS X1 hx (y := (⟨"java/lang/Integer", "stringSize", "(I)I"⟩ : MethodName)) hown (mvT hZ (own_W hw 147 rfl)) (mvT hZ (own_W hw 148 rfl)) (mvT hZ (own_W hw 149 rfl)) (mvT hZ (own_W hw 150 rfl)) (by decide) (backOf (W := 1) (rmSZ l Z aw hw [] p1  h0 n0 (Nat.le_trans Z0 (Keep.refl h0 [a0, bv]).1) hp) hZ (own_W hw 150 rfl) (own_W hw 149 rfl) (by decide) (by decide)) (g := (mkF m 7 #[.val (.ref a0), .val (.int p1), .val (.int cn), .unset] [(.int p1), (.int cn)])) rfl (by rw [hml]; rfl) (argsL := [(.int p1)]) (rest := [(.int cn)]) (lenOf pd_12 rfl) rfl (by show 2 * 0 + _ ≤ _; exact Nat.le_of_eq rfl) (hb hby d20_7) (fun _ _ => ⟨rfl, e1, (by decide : 0 + 0 ≤ _), (by decide : 0 + 0 ≤ _)⟩)
  dsimp only [Pt.U, Pt.locs, Pt.cells, Pt.slots] at X2 l2 y2 z2 st2 hQ2
  subst l2 y2 z2
  obtain ⟨rfl, Nq2, e2⟩ := hQ2
  have N2 := Fr.app N0 Nq2
  refine Rest.via (fun t k => st2 t k) ?_
  show Rest p.tables e below s _ _ _ (T2.setTop (mkF m 10 #[.val (.ref a0), .val (.int p1), .val (.int cn), .unset] [(.int (own_dd p1)), (.int cn)]))
  refine Rest.via (fun t k => XS.iadd X2.here hx rfl (hb hby d20_10) rfl k) ?_
  refine Rest.via (fun t k => XS.istoreN X2.here hx rfl (hb hby d20_11) rfl (l' := #[.val (.ref a0), .val (.int p1), .val (.int cn), .val (.int (cn + (own_dd p1)))]) rfl k) ?_
  refine Rest.via (fun t k => XS.aloadN X2.here hx rfl (hb hby d20_12) rfl rfl k) ?_
  refine Rest.via (fun t k => XS.iloadN X2.here hx rfl (hb hby d20_13) rfl k) ?_
  show Rest p.tables e below s _ _ _ (T2.setTop (mkF m 14 #[.val (.ref a0), .val (.int p1), .val (.int cn), .val (.int (cn + (own_dd p1)))] [(.int (cn + (own_dd p1))), (.ref a0)]))
  obtain ⟨cq3, qz3, qz3'⟩ := (E_a0).cell
  obtain ⟨_, _, ⟨T3, L3, k3, n3⟩, -, X3, ⟨Lc3, hQ3, l3, y3, z3⟩, st3⟩ := X2.privateBack hx (y := (⟨"java/lang/AbstractStringBuilder", "ensureCapacityInternal", "(I)V"⟩ : MethodName)) hown (mvT hZ (own_W hw 111 rfl)) (mvT hZ (own_W hw 112 rfl)) (own_selup (mvT hZ (own_W hw 114 rfl) (args := #[])) (mvP hZ (own_W hw 113 rfl) (args := #[])) (mvT hZ (own_W hw 112 rfl) (args := #[])) (by decide)) (Cond.privateMethod_at (mvP hZ (own_W hw 113 rfl) (args := #[]))) (mvT hZ (own_W hw 115 rfl)) (by decide) (backOf (W := 0) (rmECI l Z aw hw [] a0 (cn + (own_dd p1)) bv kb cn xs h0 n0 (Nat.le_trans Z0 (Keep.refl h0 [a0, bv]).1) B (own_room (lx.app (own_dln hp).1 (by have := (own_dln hp).2; omega)))) hZ (own_W hw 115 rfl) (own_W hw 80 rfl) (by decide) (by decide)) (g := (mkF m 14 #[.val (.ref a0), .val (.int p1), .val (.int cn), .val (.int (cn + (own_dd p1)))] [(.int (cn + (own_dd p1))), (.ref a0)])) rfl (by rw [hml]; rfl) (Steps.refl _) (a := a0) (by rw [e2]; exact qz3) qz3' (argsL := [(.int (cn + (own_dd p1)))]) (rest := []) (lenOf pd_6 rfl) rfl (by show 2 * 0 + _ ≤ _; exact Nat.le_of_eq rfl) (hb hby d20_14) (fun _ _ => ⟨rfl, e2, (by decide : 0 + 0 ≤ _), (by decide : 0 + 0 ≤ _)⟩)
  dsimp only [Pt.U, Pt.locs, Pt.cells, Pt.slots] at X3 l3 y3 z3 st3 hQ3
  subst l3 y3 z3
  obtain ⟨rfl, Nq3, e3⟩ := hQ3
  have N3 := Fr.app N2 Nq3
  refine Rest.via (fun t k => st3.trans k) ?_
  show Rest p.tables e below s _ _ _ (T3.setTop (mkF m 17 #[.val (.ref a0), .val (.int p1), .val (.int cn), .val (.int (cn + (own_dd p1)))] []))
  refine Rest.via (fun t k => XS.aloadN X3.here hx rfl (hb hby d20_17) rfl rfl k) ?_
  show Rest p.tables e below s _ _ _ (T3.setTop (mkF m 18 #[.val (.ref a0), .val (.int p1), .val (.int cn), .val (.int (cn + (own_dd p1)))] [(.ref a0)]))
  obtain ⟨cq4, kq4, q4a, q4b, q4c⟩ := isOf hZ e3 E_a0
  obtain ⟨_, _, ⟨T4, L4, k4, n4⟩, -, X4, ⟨Lc4, hQ4, l4, y4, z4⟩, st4⟩ := X3.virtualBack hx (y := (⟨"java/lang/AbstractStringBuilder", "isLatin1", "()Z"⟩ : MethodName)) (z := (⟨"java/lang/AbstractStringBuilder", "isLatin1", "()Z"⟩ : MethodName)) hown (mvT hZ (own_W hw 151 rfl)) (mvT hZ (own_W hw 152 rfl)) (notFace_of_selects (args := #[]) (mvT hZ (own_W hw 154 rfl))) (mvT hZ (own_W hw 154 rfl)) (mvT hZ (own_W hw 153 rfl)) (by decide) (backOf (W := 0) (rmAIL l Z aw hw [] a0 bv kb cn xs ic h0 n0 (Nat.le_trans Z0 (Keep.refl h0 [a0, bv]).1) B (O.keep (Keep.refl h0 [a0, bv]) (allS g_a0 (allS g_bv all0))) CS) hZ (own_W hw 155 rfl) (own_W hw 80 rfl) (by decide) (by decide)) q4a q4c (g := (mkF m 18 #[.val (.ref a0), .val (.int p1), .val (.int cn), .val (.int (cn + (own_dd p1)))] [(.ref a0)])) rfl (by rw [hml]; rfl) (Steps.refl _) (argsL := []) (rest := []) (lenOf pd_13 rfl) rfl (by show 2 * 0 + _ ≤ _; exact Nat.le_of_eq rfl) (hb hby d20_18) (fun _ _ => ⟨rfl, e3, (by decide : 0 + 0 ≤ _), (by decide : 0 + 0 ≤ _)⟩)
  dsimp only [Pt.U, Pt.locs, Pt.cells, Pt.slots] at X4 l4 y4 z4 st4 hQ4
  subst l4 y4 z4
  obtain ⟨rfl, Nq4, e4⟩ := hQ4
  have N4 := Fr.app N3 Nq4
  refine Rest.via (fun t k => st4.trans k) ?_
  show Rest p.tables e below s _ _ _ (T4.setTop (mkF m 21 #[.val (.ref a0), .val (.int p1), .val (.int cn), .val (.int (cn + (own_dd p1)))] [(.int (1 : Int32))]))
  refine Rest.via (fun t k => XS.ifNo X4.here hx rfl (hb hby d20_21) rfl ((if0 _ _).trans (feq (by decide : ¬ ((1 : Int32) = (0 : Int32)))).1) k) ?_
  show Rest p.tables e below s _ _ _ (T4.setTop (mkF m 24 #[.val (.ref a0), .val (.int p1), .val (.int cn), .val (.int (cn + (own_dd p1)))] []))
  refine Rest.via (fun t k => XS.iloadN X4.here hx rfl (hb hby d20_24) rfl k) ?_
  refine Rest.via (fun t k => XS.iloadN X4.here hx rfl (hb hby d20_25) rfl k) ?_
  refine Rest.via (fun t k => XS.aloadN X4.here hx rfl (hb hby d20_26) rfl rfl k) ?_
  obtain ⟨T5, X5, e5, st5⟩ := getF X4 hx hZ hown (host := "") (Or.inl (own_W hw 84 rfl)) Via.refl e4 Fv_a0 (g := (mkF m 27 #[.val (.ref a0), .val (.int p1), .val (.int cn), .val (.int (cn + (own_dd p1)))] [(.ref a0), (.int (cn + (own_dd p1))), (.int p1)])) rfl rfl (hb hby d20_27)
  refine Rest.via (fun t k => st5 t k) ?_
  show Rest p.tables e below s _ _ _ (T5.setTop (mkF m 30 #[.val (.ref a0), .val (.int p1), .val (.int cn), .val (.int (cn + (own_dd p1)))] [(.ref bv), (.int (cn + (own_dd p1))), (.int p1)]))
  obtain ⟨_, _, ⟨T6, L6, k6, n6⟩, -, X6, ⟨Lc6, hQ6, l6, y6, z6⟩, st6⟩ := Jvm.LawKit.callS X5 hx (y := (⟨"java/lang/Integer", "getChars", "(II[B)I"⟩ : MethodName)) hown (mvT hZ (own_W hw 156 rfl)) (mvT hZ (own_W hw 157 rfl)) (mvT hZ (own_W hw 149 rfl)) (mvT hZ (own_W hw 158 rfl)) (by decide) (backOf (W := 0) (rmGC l Z aw hw [] p1 cn (own_dd p1) bv kb xs wo wt h0 n0 (Nat.le_trans Z0 (Keep.refl h0 [a0, bv]).1) hp rfl V_a0 lx hs g_bv (O.keep (Keep.refl h0 [a0, bv]) (allS g_a0 (allS g_bv all0))) DG) hZ (own_W hw 158 rfl) (own_W hw 149 rfl) (by decide) (by decide)) (g := (mkF m 30 #[.val (.ref a0), .val (.int p1), .val (.int cn), .val (.int (cn + (own_dd p1)))] [(.ref bv), (.int (cn + (own_dd p1))), (.int p1)])) rfl (by rw [hml]; rfl) (argsL := [(.int p1), (.int (cn + (own_dd p1))), (.ref bv)]) (rest := []) (lenOf pd_14 rfl) rfl (by show 2 * 0 + _ ≤ _; exact Nat.le_of_eq rfl) (hb hby d20_30) (fun _ _ => ⟨rfl, e5, (by decide : 0 + 0 ≤ _), (by decide : 0 + 0 ≤ _)⟩)
  dsimp only [Pt.U, Pt.locs, Pt.cells, Pt.slots] at X6 l6 y6 z6 st6 hQ6
  subst l6 y6 z6
  obtain ⟨h6, e6⟩ : ∃ z, T6.heap = z := ⟨_, rfl⟩
  rw [e6] at hQ6
  obtain ⟨rfl, Nq6, Kq6, Vq6⟩ := hQ6
  have N6 := Fr.app N4 Nq6
  have K6 : Keep h0 h6 [a0, bv] := (Keep.refl h0 [a0, bv]).trans Kq6 (allS (Or.inl (List.mem_of_getElem? (i := 1) rfl)) all0)
  refine Rest.via (fun t k => st6 t k) ?_
  show Rest p.tables e below s _ _ _ (T6.setTop (mkF m 33 #[.val (.ref a0), .val (.int p1), .val (.int cn), .val (.int (cn + (own_dd p1)))] [(.int (cn + (0 : Int32)))]))
  refine Rest.via (fun t k => XS.pop X6.here hx rfl (hb hby d20_33) rfl rfl k) ?_
  refine Rest.via (fun t k => XS.goto X6.here hx rfl (pc0 := 34) (pc' := 48) rfl (hb hby d20_34) (by decide) (by decide) k) ?_
  refine Rest.via (fun t k => XS.aloadN X6.here hx rfl (hb hby d20_48) rfl rfl k) ?_
  refine Rest.via (fun t k => XS.iloadN X6.here hx rfl (hb hby d20_49) rfl k) ?_
  have Fo7 := (Fn_a0.keep Kq6 (ninS ne_a0_bv nin0))
  obtain ⟨T7, h7, X7, e7, W7, st7⟩ := putF X6 hx hZ hown (host := "") (Or.inl (own_W hw 109 rfl)) Via.refl e6 Fo7 (E_a0.keep Kq6) (Or.inl (own_W hw 110 rfl)) (own_W hw 71 rfl) (ty := .int) (by decide) rfl rfl (g := (mkF m 50 #[.val (.ref a0), .val (.int p1), .val (.int cn), .val (.int (cn + (own_dd p1)))] [(.int (cn + (own_dd p1))), (.ref a0)])) rfl rfl (hb hby d20_50)
  refine Rest.via (fun t k => st7 t k) ?_
  have N7 := Fr.snoc X7 N6 g_a0
  have K7 : Keep h0 h7 [a0, bv] := K6.wr W7 (Or.inl (List.mem_of_getElem? (i := 0) rfl))
  have Fw7 := Fo7.same W7
  show Rest p.tables e below s _ _ _ (T7.setTop (mkF m 53 #[.val (.ref a0), .val (.int p1), .val (.int cn), .val (.int (cn + (own_dd p1)))] []))
  refine Rest.via (fun t k => XS.aloadN X7.here hx rfl (hb hby d20_53) rfl rfl k) ?_
  refine Rest.ret X7 (v := some (.ref a0)) (fun h => by rw [Bd.returns] at h; cases h) hlk (fun fs hr => retOut X7 hx Bd.returns rfl (Or.inr (Or.inr (Or.inr (Or.inr ⟨rfl, rfl, rfl⟩)))) (hb hby d20_54) hr) ?_ (by decide) (by decide)
  rw [e7]
  exact ⟨rfl, N7, K7, ((E_a0.keep Kq6).wr W7), ((Fv_a0.keep Kq6 (ninS ne_a0_bv nin0)).other W7 (Or.inr (slot_ne (Or.inl (own_W hw 85 rfl)) (Or.inl (own_W hw 110 rfl)) (by decide) (t := (.array .byte)) (t' := .int) (by decide) (by decide)))), ((Fc_a0.keep Kq6 (ninS ne_a0_bv nin0)).other W7 (Or.inr (slot_ne (Or.inl (own_W hw 87 rfl)) (Or.inl (own_W hw 110 rfl)) (by decide) (t := .byte) (t' := .int) (by decide) (by decide)))), Fw7, (Vq6.other W7 (Ne.symm ne_a0_bv))⟩
theorem pd_15 : parseMethodDescriptor "(I)Ljava/lang/AbstractStringBuilder;" = some ⟨[.int], some (.object "java/lang/AbstractStringBuilder")⟩ := by decide +kernel
theorem d19_0 : decode jdk_67_method_15_code 0 = .ok (.aload_n 0, 1) := by decide +kernel
theorem d19_1 : decode jdk_67_method_15_code 1 = .ok (.iload_n 1, 1) := by decide +kernel
theorem d19_2 : decode jdk_67_method_15_code 2 = .ok (.invokespecial 53, 3) := by decide +kernel
theorem d19_5 : decode jdk_67_method_15_code 5 = .ok (.pop, 1) := by decide +kernel
theorem d19_6 : decode jdk_67_method_15_code 6 = .ok (.aload_n 0, 1) := by decide +kernel
theorem d19_7 : decode jdk_67_method_15_code 7 = .ok (.areturn, 1) := by decide +kernel
theorem ef_AI (m : MethodId) (a0 : Addr) (p1 : Int32) : entryFrame m #[(.ref a0), (.int p1)] 2 = mkF m 0 #[.val (.ref a0), .val (.int p1)] [] := by first | (simp [entryFrame, mkF, argsToLocals, Value.category, maxLocals]; done) | rfl
def QAI (Z : State) (a0 : Addr) (p1 : Int32) (bv : Addr) (kb : ClassId) (cn : Int32) (xs : List Int32) (ic : Int32) (wo : Addr) (wt : Addr) (h0 : Heap) (n0 : Nat) (v : Option Value) (h : Heap) (L : List Loc) : Prop := v = some (.ref a0) ∧ Fr n0 L ∧ Keep h0 h [a0, bv] ∧ own_SB Z h a0 bv kb (cn + own_dd p1) ((xs ++ own_dgs (own_dd p1) p1).map Value.int)
set_option maxRecDepth 65536 in
set_option maxHeartbeats 40000000 in
theorem rmAI (l : Launch) (Z : State) (aw : Array Value) (hw : ∀ d ∈ tables_1, d.before aw Z = true) (ws : List Jvm.Cond) (a0 : Addr) (p1 : Int32) (bv : Addr) (kb : ClassId) (cn : Int32) (xs : List Int32) (ic : Int32) (wo : Addr) (wt : Addr) (h0 : Heap) (n0 : Nat) (Z0 : n0 ≤ h0.size) (B : own_SB Z h0 a0 bv kb cn (xs.map Value.int)) (lx : own_ln cn xs) (hs : xs.length + 5 ≤ 16) (hp : own_pt p1) (g_a0 : n0 ≤ a0) (g_bv : n0 ≤ bv) (O : own_Old Z n0 h0) (CS : own_CS Z ic) (DG : own_DG Z wo wt) :
    MetFree l (⟨"java/lang/StringBuilder", "append", "(I)Ljava/lang/StringBuilder;"⟩ : MethodName) (head1 (Jvm.Cond.code (⟨"java/lang/StringBuilder", "append", "(I)Ljava/lang/StringBuilder;"⟩ : MethodName) jdk_67_method_15_code 2 (some (.object "java/lang/StringBuilder")) :: ws) ({ frames := 2, cells := 0, slots := 0, locals := 33 } : Room)) (fun a U => a = #[(.ref a0), (.int p1)] ∧ Z.Warmed39 U.vm ∧ U.heap = h0) (fun _ _ _ _ _ => True) (fun _ U o U' => ∃ v L, o = .returned v ∧ QAI Z a0 p1 bv kb cn xs ic wo wt h0 n0 v U'.heap L ∧ FrameEnd U o U' L ({ frames := 2, cells := 0, slots := 0, locals := 33 } : Room).cells ({ frames := 2, cells := 0, slots := 0, locals := 33 } : Room).slots) := by
  refine MetFree.of_bodySF (plainFor_of_name pn_4) hisR ?_
  intro p e s m args below meth c s₁ Bd hml0 hP hK
  obtain ⟨rfl, hZ, hh⟩ := hP
  have hx := Bd.exec
  have hby := Bd.bytes
  have hml : c.maxLocals = 2 := hml0
  have hown : s.vm.findClass "java/lang/StringBuilder" = some m.cls := findClass_of_methodNamed Bd.named
  have hnm := (name_of_methodNamed Bd.named Bd.method).1
  have hlk : meth.locks = false := BodyLoose.notSynchronized Bd
  have X0 : Stand p l e ({ frames := 2, cells := 0, slots := 0, locals := 33 } : Room) s m #[(.ref a0), (.int p1)] below meth c s₁ [] 0 0 := Stand.of_body Bd
  have _u := trivial
  have eh0 : s₁.heap = h0 := by rw [← hh, Bd.state]; rfl
  have N0 := Fr.nil n0
  show Rest p.tables e below s (QAI Z a0 p1 bv kb cn xs ic wo wt h0 n0) _ _ (s₁.setTop (entryFrame m #[(.ref a0), (.int p1)] 2))
  refine Rest.via (fun t k => castTop (ef_AI m a0 p1) k) ?_
  obtain ⟨E_a0, Fv_a0, Fc_a0, Fn_a0, V_a0⟩ := id B
  have ne_a0_bv : a0 ≠ bv := Exa.neArv E_a0 V_a0 (own_W hw 71 rfl)
  show Rest p.tables e below s _ _ _ (s₁.setTop (mkF m 0 #[.val (.ref a0), .val (.int p1)] []))
  refine Rest.via (fun t k => XS.aloadN X0.here hx rfl (hb hby d19_0) rfl rfl k) ?_
  refine Rest.via (fun t k => XS.iloadN X0.here hx rfl (hb hby d19_1) rfl k) ?_
  show Rest p.tables e below s _ _ _ (s₁.setTop (mkF m 2 #[.val (.ref a0), .val (.int p1)] [(.int p1), (.ref a0)]))
  obtain ⟨_, _, ⟨T1, L1, k1, n1⟩, -, X1, ⟨Lc1, hQ1, l1, y1, z1⟩, st1⟩ := superBack X0 hx hZ (y := (⟨"java/lang/AbstractStringBuilder", "append", "(I)Ljava/lang/AbstractStringBuilder;"⟩ : MethodName)) hown (own_W hw 143 rfl) (own_sameM (own_W hw 154 rfl) rfl (own_W hw 144 rfl) (by decide)) (own_W hw 144 rfl) (own_W hw 95 rfl) (by decide) (backOf (W := 0) (rmAAI l Z aw hw [] a0 p1 bv kb cn xs ic wo wt h0 n0 (Nat.le_trans Z0 (Keep.refl h0 [a0, bv]).1) B lx hs hp g_a0 g_bv (O.keep (Keep.refl h0 [a0, bv]) (allS g_a0 (allS g_bv all0))) CS DG) hZ (own_W hw 146 rfl) (own_W hw 80 rfl) (by decide) (by decide)) eh0 (Ins.self E_a0) (g := (mkF m 2 #[.val (.ref a0), .val (.int p1)] [(.int p1), (.ref a0)])) rfl (by rw [hml]; rfl) (own_W hw 146 rfl) (argsL := [(.int p1)]) (rest := []) (lenOf pd_15 rfl) rfl (by show 2 * 0 + _ ≤ _; exact Nat.le_of_eq rfl) (hb hby d19_2) (fun _ _ => ⟨rfl, eh0, (by decide : 0 + 0 ≤ _), (by decide : 0 + 0 ≤ _)⟩)
  dsimp only [Pt.U, Pt.locs, Pt.cells, Pt.slots] at X1 l1 y1 z1 st1 hQ1
  subst l1 y1 z1
  obtain ⟨h1, e1⟩ : ∃ z, T1.heap = z := ⟨_, rfl⟩
  rw [e1] at hQ1
  obtain ⟨rfl, Nq1, Kq1, rq1⟩ := hQ1
  have N1 := Fr.app N0 Nq1
  have K1 : Keep h0 h1 [a0, bv] := (Keep.refl h0 [a0, bv]).trans Kq1 (allS (Or.inl (List.mem_of_getElem? (i := 0) rfl)) (allS (Or.inl (List.mem_of_getElem? (i := 1) rfl)) all0))
  refine Rest.via (fun t k => st1.trans k) ?_
  show Rest p.tables e below s _ _ _ (T1.setTop (mkF m 5 #[.val (.ref a0), .val (.int p1)] [(.ref a0)]))
  refine Rest.via (fun t k => XS.pop X1.here hx rfl (hb hby d19_5) rfl rfl k) ?_
  refine Rest.via (fun t k => XS.aloadN X1.here hx rfl (hb hby d19_6) rfl rfl k) ?_
  refine Rest.ret X1 (v := some (.ref a0)) (fun h => by rw [Bd.returns] at h; cases h) hlk (fun fs hr => retOut X1 hx Bd.returns rfl (Or.inr (Or.inr (Or.inr (Or.inr ⟨rfl, rfl, rfl⟩)))) (hb hby d19_7) hr) ?_ (by decide) (by decide)
  rw [e1]
  exact ⟨rfl, N1, K1, rq1⟩
theorem d32_0 : decode jdk_65_method_131_code 0 = .ok (.iload_n 1, 1) := by decide +kernel
theorem d32_1 : decode jdk_65_method_131_code 1 = .ok (.iload_n 0, 1) := by decide +kernel
theorem d32_2 : decode jdk_65_method_131_code 2 = .ok (.if_icmp .ge 35, 3) := by decide +kernel
theorem d32_37 : decode jdk_65_method_131_code 37 = .ok (.return_, 1) := by decide +kernel
theorem pn_6 : plainName "java/util/Arrays" = true := by first | (simp [plainName, overriddenIn]; done) | decide +kernel
theorem ef_CKL (m : MethodId) (p1 : Int32) : entryFrame m #[(.int (0 : Int32)), (.int p1)] 2 = mkF m 0 #[.val (.int (0 : Int32)), .val (.int p1)] [] := by first | (simp [entryFrame, mkF, argsToLocals, Value.category, maxLocals]; done) | rfl
def QCKL (Z : State) (p1 : Int32) (h0 : Heap) (n0 : Nat) (v : Option Value) (h : Heap) (L : List Loc) : Prop := v = none ∧ Fr n0 L ∧ h = h0
set_option maxRecDepth 65536 in
set_option maxHeartbeats 40000000 in
theorem rmCKL (l : Launch) (Z : State) (aw : Array Value) (hw : ∀ d ∈ tables_1, d.before aw Z = true) (ws : List Jvm.Cond) (p1 : Int32) (h0 : Heap) (n0 : Nat) (Z0 : n0 ≤ h0.size) (h1 : ¬ p1 < (0 : Int32)) :
    MetFree l (⟨"java/util/Arrays", "checkLength", "(II)V"⟩ : MethodName) (head1 (Jvm.Cond.code (⟨"java/util/Arrays", "checkLength", "(II)V"⟩ : MethodName) jdk_65_method_131_code 2 none :: ws) ({ frames := 0, cells := 0, slots := 0, locals := 0 } : Room)) (fun a U => a = #[(.int (0 : Int32)), (.int p1)] ∧ Z.Warmed39 U.vm ∧ U.heap = h0) (fun _ _ _ _ _ => True) (fun _ U o U' => ∃ v L, o = .returned v ∧ QCKL Z p1 h0 n0 v U'.heap L ∧ FrameEnd U o U' L ({ frames := 0, cells := 0, slots := 0, locals := 0 } : Room).cells ({ frames := 0, cells := 0, slots := 0, locals := 0 } : Room).slots) := by
  refine MetFree.of_bodySF (plainFor_of_name pn_6) hisR ?_
  intro p e s m args below meth c s₁ Bd hml0 hP hK
  obtain ⟨rfl, hZ, hh⟩ := hP
  have hx := Bd.exec
  have hby := Bd.bytes
  have hml : c.maxLocals = 2 := hml0
  have hown : s.vm.findClass "java/util/Arrays" = some m.cls := findClass_of_methodNamed Bd.named
  have hnm := (name_of_methodNamed Bd.named Bd.method).1
  have hlk : meth.locks = false := BodyLoose.notSynchronized Bd
  have X0 : Stand p l e ({ frames := 0, cells := 0, slots := 0, locals := 0 } : Room) s m #[(.int (0 : Int32)), (.int p1)] below meth c s₁ [] 0 0 := Stand.of_body Bd
  have _u := trivial
  have eh0 : s₁.heap = h0 := by rw [← hh, Bd.state]; rfl
  have N0 := Fr.nil n0
  show Rest p.tables e below s (QCKL Z p1 h0 n0) _ _ (s₁.setTop (entryFrame m #[(.int (0 : Int32)), (.int p1)] 2))
  refine Rest.via (fun t k => castTop (ef_CKL m p1) k) ?_
  show Rest p.tables e below s _ _ _ (s₁.setTop (mkF m 0 #[.val (.int (0 : Int32)), .val (.int p1)] []))
  refine Rest.via (fun t k => XS.iloadN X0.here hx rfl (hb hby d32_0) rfl k) ?_
  refine Rest.via (fun t k => XS.iloadN X0.here hx rfl (hb hby d32_1) rfl k) ?_
  refine Rest.via (fun t k => XS.icmpYes X0.here hx rfl (pc0 := 2) (pc' := 37) rfl (hb hby d32_2) rfl (flt (h1 : ¬ (p1 < (0 : Int32)))).2.1 (by decide) (by decide) k) ?_
  show Rest p.tables e below s _ _ _ (s₁.setTop (mkF m 37 #[.val (.int (0 : Int32)), .val (.int p1)] []))
  refine Rest.ret X0 (v := none) (fun _ => rfl) hlk (fun fs hr => X0.returnOut hx Bd.returns (hb hby d32_37) hr) ?_ (by decide) (by decide)
  rw [eh0]
  exact ⟨rfl, N0, rfl⟩
theorem d33_0 : decode jdk_29_method_69_code 0 = .ok (.iload_n 0, 1) := by decide +kernel
theorem d33_1 : decode jdk_29_method_69_code 1 = .ok (.iload_n 1, 1) := by decide +kernel
theorem d33_2 : decode jdk_29_method_69_code 2 = .ok (.if_icmp .gt 7, 3) := by decide +kernel
theorem d33_9 : decode jdk_29_method_69_code 9 = .ok (.iload_n 1, 1) := by decide +kernel
theorem d33_10 : decode jdk_29_method_69_code 10 = .ok (.ireturn, 1) := by decide +kernel
theorem ef_MIN (m : MethodId) (p1 : Int32) : entryFrame m #[(.int (16 : Int32)), (.int p1)] 2 = mkF m 0 #[.val (.int (16 : Int32)), .val (.int p1)] [] := by first | (simp [entryFrame, mkF, argsToLocals, Value.category, maxLocals]; done) | rfl
def QMIN (Z : State) (p1 : Int32) (h0 : Heap) (n0 : Nat) (v : Option Value) (h : Heap) (L : List Loc) : Prop := v = some (.int p1) ∧ Fr n0 L ∧ h = h0
set_option maxRecDepth 65536 in
set_option maxHeartbeats 40000000 in
theorem rmMIN (l : Launch) (Z : State) (aw : Array Value) (hw : ∀ d ∈ tables_1, d.before aw Z = true) (ws : List Jvm.Cond) (p1 : Int32) (h0 : Heap) (n0 : Nat) (Z0 : n0 ≤ h0.size) (h1 : p1 < (16 : Int32)) :
    MetFree l (⟨"java/lang/Math", "min", "(II)I"⟩ : MethodName) (head1 (Jvm.Cond.code (⟨"java/lang/Math", "min", "(II)I"⟩ : MethodName) jdk_29_method_69_code 2 (some .int) :: ws) ({ frames := 0, cells := 0, slots := 0, locals := 0 } : Room)) (fun a U => a = #[(.int (16 : Int32)), (.int p1)] ∧ Z.Warmed39 U.vm ∧ U.heap = h0) (fun _ _ _ _ _ => True) (fun _ U o U' => ∃ v L, o = .returned v ∧ QMIN Z p1 h0 n0 v U'.heap L ∧ FrameEnd U o U' L ({ frames := 0, cells := 0, slots := 0, locals := 0 } : Room).cells ({ frames := 0, cells := 0, slots := 0, locals := 0 } : Room).slots) := by
  refine MetFree.of_bodySF (by decide +kernel) hisR ?_
  intro p e s m args below meth c s₁ Bd hml0 hP hK
  obtain ⟨rfl, hZ, hh⟩ := hP
  have hx := Bd.exec
  have hby := Bd.bytes
  have hml : c.maxLocals = 2 := hml0
  have hown : s.vm.findClass "java/lang/Math" = some m.cls := findClass_of_methodNamed Bd.named
  have hnm := (name_of_methodNamed Bd.named Bd.method).1
  have hlk : meth.locks = false := BodyLoose.notSynchronized Bd
  have X0 : Stand p l e ({ frames := 0, cells := 0, slots := 0, locals := 0 } : Room) s m #[(.int (16 : Int32)), (.int p1)] below meth c s₁ [] 0 0 := Stand.of_body Bd
  have _u := trivial
  have eh0 : s₁.heap = h0 := by rw [← hh, Bd.state]; rfl
  have N0 := Fr.nil n0
  show Rest p.tables e below s (QMIN Z p1 h0 n0) _ _ (s₁.setTop (entryFrame m #[(.int (16 : Int32)), (.int p1)] 2))
  refine Rest.via (fun t k => castTop (ef_MIN m p1) k) ?_
  show Rest p.tables e below s _ _ _ (s₁.setTop (mkF m 0 #[.val (.int (16 : Int32)), .val (.int p1)] []))
  refine Rest.via (fun t k => XS.iloadN X0.here hx rfl (hb hby d33_0) rfl k) ?_
  refine Rest.via (fun t k => XS.iloadN X0.here hx rfl (hb hby d33_1) rfl k) ?_
  refine Rest.via (fun t k => XS.icmpYes X0.here hx rfl (pc0 := 2) (pc' := 9) rfl (hb hby d33_2) rfl (tlt (h1 : p1 < (16 : Int32))).2.2.1 (by decide) (by decide) k) ?_
  show Rest p.tables e below s _ _ _ (s₁.setTop (mkF m 9 #[.val (.int (16 : Int32)), .val (.int p1)] []))
  refine Rest.via (fun t k => XS.iloadN X0.here hx rfl (hb hby d33_9) rfl k) ?_
  refine Rest.ret X0 (v := some (.int p1)) (fun h => by rw [Bd.returns] at h; cases h) hlk (fun fs hr => retOut X0 hx Bd.returns rfl (Or.inl ⟨rfl, Or.inl rfl, _, rfl⟩) (hb hby d33_10) hr) ?_ (by decide) (by decide)
  rw [eh0]
  exact ⟨rfl, N0, rfl⟩
theorem own_lt16 {n : Int32} {xs : List Int32} (h : own_ln n xs) (q : xs.length < 16) : n < (16 : Int32) ∧ ¬ n = (16 : Int32) := by
  have h1 := h.1
  have e16 : (16 : Int32).toInt = 16 := by decide
  exact ⟨own_lt h1 e16 (by omega), fun e => by rw [e, e16] at h1; omega⟩
theorem pd_16 : parseMethodDescriptor "(II)V" = some ⟨[.int, .int], none⟩ := by decide +kernel
theorem pd_17 : parseMethodDescriptor "(II)I" = some ⟨[.int, .int], some .int⟩ := by decide +kernel
theorem d31_0 : decode jdk_65_method_133_code 0 = .ok (.iload_n 1, 1) := by decide +kernel
theorem d31_1 : decode jdk_65_method_133_code 1 = .ok (.iload_n 2, 1) := by decide +kernel
theorem d31_2 : decode jdk_65_method_133_code 2 = .ok (.invokestatic 343, 3) := by decide +kernel
theorem d31_5 : decode jdk_65_method_133_code 5 = .ok (.iload_n 2, 1) := by decide +kernel
theorem d31_6 : decode jdk_65_method_133_code 6 = .ok (.iload_n 1, 1) := by decide +kernel
theorem d31_7 : decode jdk_65_method_133_code 7 = .ok (.isub, 1) := by decide +kernel
theorem d31_8 : decode jdk_65_method_133_code 8 = .ok (.istore_n 3, 1) := by decide +kernel
theorem d31_9 : decode jdk_65_method_133_code 9 = .ok (.iload_n 3, 1) := by decide +kernel
theorem d31_10 : decode jdk_65_method_133_code 10 = .ok (.newarray .byte, 2) := by decide +kernel
theorem d31_12 : decode jdk_65_method_133_code 12 = .ok (.astore 4, 2) := by decide +kernel
theorem d31_14 : decode jdk_65_method_133_code 14 = .ok (.aload_n 0, 1) := by decide +kernel
theorem d31_15 : decode jdk_65_method_133_code 15 = .ok (.iload_n 1, 1) := by decide +kernel
theorem d31_16 : decode jdk_65_method_133_code 16 = .ok (.aload 4, 2) := by decide +kernel
theorem d31_18 : decode jdk_65_method_133_code 18 = .ok (.iconst 0, 1) := by decide +kernel
theorem d31_19 : decode jdk_65_method_133_code 19 = .ok (.aload_n 0, 1) := by decide +kernel
theorem d31_20 : decode jdk_65_method_133_code 20 = .ok (.arraylength, 1) := by decide +kernel
theorem d31_21 : decode jdk_65_method_133_code 21 = .ok (.iload_n 1, 1) := by decide +kernel
theorem d31_22 : decode jdk_65_method_133_code 22 = .ok (.isub, 1) := by decide +kernel
theorem d31_23 : decode jdk_65_method_133_code 23 = .ok (.iload_n 3, 1) := by decide +kernel
theorem d31_24 : decode jdk_65_method_133_code 24 = .ok (.invokestatic 304, 3) := by decide +kernel
theorem d31_27 : decode jdk_65_method_133_code 27 = .ok (.invokestatic 150, 3) := by decide +kernel
theorem d31_30 : decode jdk_65_method_133_code 30 = .ok (.aload 4, 2) := by decide +kernel
theorem d31_32 : decode jdk_65_method_133_code 32 = .ok (.areturn, 1) := by decide +kernel
theorem ef_COB (m : MethodId) (a0 : Addr) (p2 : Int32) : entryFrame m #[(.ref a0), (.int (0 : Int32)), (.int p2)] 5 = mkF m 0 #[.val (.ref a0), .val (.int (0 : Int32)), .val (.int p2), .unset, .unset] [] := by first | (simp [entryFrame, mkF, argsToLocals, Value.category, maxLocals]; done) | rfl
def QCOB (Z : State) (a0 : Addr) (p2 : Int32) (kb : ClassId) (xs : List Int32) (h0 : Heap) (n0 : Nat) (v : Option Value) (h : Heap) (L : List Loc) : Prop := ∃ b kc, v = some (.ref b) ∧ Fr n0 L ∧ Keep h0 h [] ∧ h0.size ≤ b ∧ Arv Z h b kc .byte p2 (xs.map Value.int) (.int (0 : Int32))
set_option maxRecDepth 65536 in
set_option maxHeartbeats 40000000 in
theorem rmCOB (l : Launch) (Z : State) (aw : Array Value) (hw : ∀ d ∈ tables_1, d.before aw Z = true) (ws : List Jvm.Cond) (a0 : Addr) (p2 : Int32) (kb : ClassId) (xs : List Int32) (h0 : Heap) (n0 : Nat) (Z0 : n0 ≤ h0.size) (V0 : Arv Z h0 a0 kb .byte (16 : Int32) (xs.map Value.int) (.int (0 : Int32))) (lx : own_ln p2 xs) (hs : xs.length < 16) :
    MetFree l (⟨"java/util/Arrays", "copyOfRangeByte", "([BII)[B"⟩ : MethodName) (head1 (Jvm.Cond.code (⟨"java/util/Arrays", "copyOfRangeByte", "([BII)[B"⟩ : MethodName) jdk_65_method_133_code 5 (some (.array .byte)) :: ws) ({ frames := 1, cells := 1, slots := 16, locals := 40 } : Room)) (fun a U => a = #[(.ref a0), (.int (0 : Int32)), (.int p2)] ∧ Z.Warmed39 U.vm ∧ U.heap = h0) (fun _ _ _ _ _ => True) (fun _ U o U' => ∃ v L, o = .returned v ∧ QCOB Z a0 p2 kb xs h0 n0 v U'.heap L ∧ FrameEnd U o U' L ({ frames := 1, cells := 1, slots := 16, locals := 40 } : Room).cells ({ frames := 1, cells := 1, slots := 16, locals := 40 } : Room).slots) := by
  refine MetFree.of_bodySF (plainFor_of_name pn_6) hisR ?_
  intro p e s m args below meth c s₁ Bd hml0 hP hK
  obtain ⟨rfl, hZ, hh⟩ := hP
  have hx := Bd.exec
  have hby := Bd.bytes
  have hml : c.maxLocals = 5 := hml0
  have hown : s.vm.findClass "java/util/Arrays" = some m.cls := findClass_of_methodNamed Bd.named
  have hnm := (name_of_methodNamed Bd.named Bd.method).1
  have hlk : meth.locks = false := BodyLoose.notSynchronized Bd
  have X0 : Stand p l e ({ frames := 1, cells := 1, slots := 16, locals := 40 } : Room) s m #[(.ref a0), (.int (0 : Int32)), (.int p2)] below meth c s₁ [] 0 0 := Stand.of_body Bd
  have _u := trivial
  have eh0 : s₁.heap = h0 := by rw [← hh, Bd.state]; rfl
  have N0 := Fr.nil n0
  show Rest p.tables e below s (QCOB Z a0 p2 kb xs h0 n0) _ _ (s₁.setTop (entryFrame m #[(.ref a0), (.int (0 : Int32)), (.int p2)] 5))
  refine Rest.via (fun t k => castTop (ef_COB m a0 p2) k) ?_
  show Rest p.tables e below s _ _ _ (s₁.setTop (mkF m 0 #[.val (.ref a0), .val (.int (0 : Int32)), .val (.int p2), .unset, .unset] []))
  refine Rest.via (fun t k => XS.iloadN X0.here hx rfl (hb hby d31_0) rfl k) ?_
  refine Rest.via (fun t k => XS.iloadN X0.here hx rfl (hb hby d31_1) rfl k) ?_
  show Rest p.tables e below s _ _ _ (s₁.setTop (mkF m 2 #[.val (.ref a0), .val (.int (0 : Int32)), .val (.int p2), .unset, .unset] [(.int p2), (.int (0 : Int32))]))
  obtain ⟨_, _, ⟨T1, L1, k1, n1⟩, -, X1, ⟨Lc1, hQ1, l1, y1, z1⟩, st1⟩ := Jvm.LawKit.callS X0 hx (y := (⟨"java/util/Arrays", "checkLength", "(II)V"⟩ : MethodName)) hown (mvT hZ (own_W hw 194 rfl)) (mvT hZ (own_W hw 195 rfl)) (mvT hZ (own_W hw 189 rfl)) (mvT hZ (own_W hw 196 rfl)) (by decide) (backOf (W := 0) (rmCKL l Z aw hw [] p2  h0 n0 (Nat.le_trans Z0 (Keep.refl h0 []).1) lx.nn) hZ (own_W hw 196 rfl) (own_W hw 189 rfl) (by decide) (by decide)) (g := (mkF m 2 #[.val (.ref a0), .val (.int (0 : Int32)), .val (.int p2), .unset, .unset] [(.int p2), (.int (0 : Int32))])) rfl (by rw [hml]; rfl) (argsL := [(.int (0 : Int32)), (.int p2)]) (rest := []) (lenOf pd_16 rfl) rfl (by show 2 * 0 + _ ≤ _; exact Nat.le_of_eq rfl) (hb hby d31_2) (fun _ _ => ⟨rfl, eh0, (by decide : 0 + 0 ≤ _), (by decide : 0 + 0 ≤ _)⟩)
  dsimp only [Pt.U, Pt.locs, Pt.cells, Pt.slots] at X1 l1 y1 z1 st1 hQ1
  subst l1 y1 z1
  obtain ⟨rfl, Nq1, e1⟩ := hQ1
  have N1 := Fr.app N0 Nq1
  refine Rest.via (fun t k => st1 t k) ?_
  show Rest p.tables e below s _ _ _ (T1.setTop (mkF m 5 #[.val (.ref a0), .val (.int (0 : Int32)), .val (.int p2), .unset, .unset] []))
  refine Rest.via (fun t k => XS.iloadN X1.here hx rfl (hb hby d31_5) rfl k) ?_
  refine Rest.via (fun t k => XS.iloadN X1.here hx rfl (hb hby d31_6) rfl k) ?_
  show Rest p.tables e below s _ _ _ (T1.setTop (mkF m 7 #[.val (.ref a0), .val (.int (0 : Int32)), .val (.int p2), .unset, .unset] [(.int (0 : Int32)), (.int p2)]))
  refine Rest.via (fun t k => XS.isub X1.here hx rfl (hb hby d31_7) rfl k) ?_
  show Rest p.tables e below s _ _ _ (T1.setTop (mkF m 8 #[.val (.ref a0), .val (.int (0 : Int32)), .val (.int p2), .unset, .unset] [(.int (p2 - (0 : Int32)))]))
  rw [own_sub0]
  refine Rest.via (fun t k => XS.istoreN X1.here hx rfl (hb hby d31_8) rfl (l' := #[.val (.ref a0), .val (.int (0 : Int32)), .val (.int p2), .val (.int p2), .unset]) rfl k) ?_
  refine Rest.via (fun t k => XS.iloadN X1.here hx rfl (hb hby d31_9) rfl k) ?_
  show Rest p.tables e below s _ _ _ (T1.setTop (mkF m 10 #[.val (.ref a0), .val (.int (0 : Int32)), .val (.int p2), .val (.int p2), .unset] [(.int p2)]))
  obtain ⟨T2, h2, k2, X2, e2, E2, A2, st2⟩ := newP X1 hx hZ (own_W hw 19 rfl) e1 (g := (mkF m 10 #[.val (.ref a0), .val (.int (0 : Int32)), .val (.int p2), .val (.int p2), .unset] [(.int p2)])) rfl (hb hby d31_10) rfl lx.nn (cap := 16) (by rw [lx.cl]; exact lx.2) (by decide) (by decide) (by decide)
  obtain ⟨b2, gq2⟩ : ∃ z, z = h0.size := ⟨_, rfl⟩
  rw [← gq2] at A2 st2
  have sz_b2 : h0.size ≤ b2 := Nat.le_trans (Keep.refl h0 []).1 (Nat.le_of_eq gq2.symm)
  have g_b2 : n0 ≤ b2 := Nat.le_trans Z0 sz_b2
  have ne_a0_b2 : a0 ≠ b2 := Nat.ne_of_lt (Nat.lt_of_lt_of_le V0.lt (Nat.le_of_eq gq2.symm))
  have K2 : Keep h0 h2 [] := (Keep.refl h0 []).ext E2
  have V_b2 := Arv.new A2 lx.nn
  refine Rest.via (fun t k => st2 t k) ?_
  show Rest p.tables e below s _ _ _ (T2.setTop (mkF m 12 #[.val (.ref a0), .val (.int (0 : Int32)), .val (.int p2), .val (.int p2), .unset] [(.ref b2)]))
  refine Rest.via (fun t k => XS.astore X2.here hx rfl (hb hby d31_12) rfl rfl (l' := #[.val (.ref a0), .val (.int (0 : Int32)), .val (.int p2), .val (.int p2), .val (.ref b2)]) rfl k) ?_
  refine Rest.via (fun t k => XS.aloadN X2.here hx rfl (hb hby d31_14) rfl rfl k) ?_
  refine Rest.via (fun t k => XS.iloadN X2.here hx rfl (hb hby d31_15) rfl k) ?_
  refine Rest.via (fun t k => XS.aload X2.here hx rfl (hb hby d31_16) rfl rfl k) ?_
  refine Rest.via (fun t k => XS.iconst X2.here hx rfl (hb hby d31_18) k) ?_
  refine Rest.via (fun t k => XS.aloadN X2.here hx rfl (hb hby d31_19) rfl rfl k) ?_
  obtain ⟨cl3, Ar3, -, S3, P3, -, -⟩ := id (V0.ext E2)
  refine Rest.via (fun t k => X2.arraylength hx (by rw [e2]; exact Ar3.1) (State.isArrayOf_alike hZ.alike Ar3.2.1) (g := (mkF m 20 #[.val (.ref a0), .val (.int (0 : Int32)), .val (.int p2), .val (.int p2), .val (.ref b2)] [(.ref a0), (.int (0 : Int32)), (.ref b2), (.int (0 : Int32)), (.ref a0)])) rfl rfl (hb hby d31_20) t k) ?_
  rw [len_of S3 P3]
  show Rest p.tables e below s _ _ _ (T2.setTop (mkF m 21 #[.val (.ref a0), .val (.int (0 : Int32)), .val (.int p2), .val (.int p2), .val (.ref b2)] [(.int (16 : Int32)), (.int (0 : Int32)), (.ref b2), (.int (0 : Int32)), (.ref a0)]))
  refine Rest.via (fun t k => XS.iloadN X2.here hx rfl (hb hby d31_21) rfl k) ?_
  refine Rest.via (fun t k => XS.isub X2.here hx rfl (hb hby d31_22) rfl k) ?_
  show Rest p.tables e below s _ _ _ (T2.setTop (mkF m 23 #[.val (.ref a0), .val (.int (0 : Int32)), .val (.int p2), .val (.int p2), .val (.ref b2)] [(.int ((16 : Int32) - (0 : Int32))), (.int (0 : Int32)), (.ref b2), (.int (0 : Int32)), (.ref a0)]))
  rw [(by decide : ((16 : Int32) - (0 : Int32)) = (16 : Int32))]
  refine Rest.via (fun t k => XS.iloadN X2.here hx rfl (hb hby d31_23) rfl k) ?_
  show Rest p.tables e below s _ _ _ (T2.setTop (mkF m 24 #[.val (.ref a0), .val (.int (0 : Int32)), .val (.int p2), .val (.int p2), .val (.ref b2)] [(.int p2), (.int (16 : Int32)), (.int (0 : Int32)), (.ref b2), (.int (0 : Int32)), (.ref a0)]))
  obtain ⟨_, _, ⟨T4, L4, k4, n4⟩, -, X4, ⟨Lc4, hQ4, l4, y4, z4⟩, st4⟩ := Jvm.LawKit.callS X2 hx (y := (⟨"java/lang/Math", "min", "(II)I"⟩ : MethodName)) hown (mvT hZ (own_W hw 197 rfl)) (mvT hZ (own_W hw 198 rfl)) (mvT hZ (own_W hw 199 rfl)) (mvT hZ (own_W hw 200 rfl)) (by decide) (backOf (W := 4) (rmMIN l Z aw hw [] p2  h2 n0 (Nat.le_trans Z0 K2.1) (own_lt16 lx hs).1) hZ (own_W hw 200 rfl) (own_W hw 199 rfl) (by decide) (by decide)) (g := (mkF m 24 #[.val (.ref a0), .val (.int (0 : Int32)), .val (.int p2), .val (.int p2), .val (.ref b2)] [(.int p2), (.int (16 : Int32)), (.int (0 : Int32)), (.ref b2), (.int (0 : Int32)), (.ref a0)])) rfl (by rw [hml]; rfl) (argsL := [(.int (16 : Int32)), (.int p2)]) (rest := [(.int (0 : Int32)), (.ref b2), (.int (0 : Int32)), (.ref a0)]) (lenOf pd_17 rfl) rfl (by show 2 * 0 + _ ≤ _; exact Nat.le_of_eq rfl) (hb hby d31_24) (fun _ _ => ⟨rfl, e2, (by decide : 1 + 0 ≤ _), (by decide : 16 + 0 ≤ _)⟩)
  dsimp only [Pt.U, Pt.locs, Pt.cells, Pt.slots] at X4 l4 y4 z4 st4 hQ4
  subst l4 y4 z4
  obtain ⟨rfl, Nq4, e4⟩ := hQ4
  have N4 := Fr.app N1 Nq4
  refine Rest.via (fun t k => st4 t k) ?_
  show Rest p.tables e below s _ _ _ (T4.setTop (mkF m 27 #[.val (.ref a0), .val (.int (0 : Int32)), .val (.int p2), .val (.int p2), .val (.ref b2)] [(.int p2), (.int (0 : Int32)), (.ref b2), (.int (0 : Int32)), (.ref a0)]))
  obtain ⟨T5, h5, L5, X5, e5, Kq5, Nq5, V5, st5⟩ := own_copy X4 hx hZ hown (own_W hw 201 rfl) (own_W hw 135 rfl) (own_W hw 133 rfl) (own_W hw 134 rfl) e4 (V0.ext E2) V_b2 rfl (by rw [List.length_map]; exact lx.of) (by rw [List.length_map]; exact lx.2) (by rw [List.length_map, lx.cl]; simp) (g := (mkF m 27 #[.val (.ref a0), .val (.int (0 : Int32)), .val (.int p2), .val (.int p2), .val (.ref b2)] [(.int p2), (.int (0 : Int32)), (.ref b2), (.int (0 : Int32)), (.ref a0)])) rfl (by rw [hml]; rfl) rfl (hb hby d31_27) (W := 0) (by show 2 * 0 + _ ≤ _; exact Nat.le_of_eq rfl) (by decide) (by decide)
  refine Rest.via (fun t k => st5 t k) ?_
  have N5 := Fr.app N4 (Nq5 _ g_b2)
  have K5 : Keep h0 h5 [] := K2.trans Kq5 (allS (Or.inr sz_b2) all0)
  have Vc5 : Arv Z h5 b2 k2 .byte p2 (xs.map Value.int) (.int (0 : Int32)) := by have q := V5; exact q
  show Rest p.tables e below s _ _ _ (T5.setTop (mkF m 30 #[.val (.ref a0), .val (.int (0 : Int32)), .val (.int p2), .val (.int p2), .val (.ref b2)] []))
  refine Rest.via (fun t k => XS.aload X5.here hx rfl (hb hby d31_30) rfl rfl k) ?_
  refine Rest.ret X5 (v := some (.ref b2)) (fun h => by rw [Bd.returns] at h; cases h) hlk (fun fs hr => retOut X5 hx Bd.returns rfl (Or.inr (Or.inr (Or.inr (Or.inr ⟨rfl, rfl, rfl⟩)))) (hb hby d31_32) hr) ?_ (by decide) (by decide)
  rw [e5]
  exact ⟨b2, _, rfl, N5, K5, sz_b2, Vc5⟩
theorem pd_18 : parseMethodDescriptor "([BII)[B" = some ⟨[(.array .byte), .int, .int], some (.array .byte)⟩ := by decide +kernel
theorem d30_0 : decode jdk_65_method_132_code 0 = .ok (.iload_n 1, 1) := by decide +kernel
theorem d30_1 : decode jdk_65_method_132_code 1 = .ok (.ifCond .ne 9, 3) := by decide +kernel
theorem d30_4 : decode jdk_65_method_132_code 4 = .ok (.iload_n 2, 1) := by decide +kernel
theorem d30_5 : decode jdk_65_method_132_code 5 = .ok (.aload_n 0, 1) := by decide +kernel
theorem d30_6 : decode jdk_65_method_132_code 6 = .ok (.arraylength, 1) := by decide +kernel
theorem d30_7 : decode jdk_65_method_132_code 7 = .ok (.if_icmp .eq 10, 3) := by decide +kernel
theorem d30_10 : decode jdk_65_method_132_code 10 = .ok (.aload_n 0, 1) := by decide +kernel
theorem d30_11 : decode jdk_65_method_132_code 11 = .ok (.iload_n 1, 1) := by decide +kernel
theorem d30_12 : decode jdk_65_method_132_code 12 = .ok (.iload_n 2, 1) := by decide +kernel
theorem d30_13 : decode jdk_65_method_132_code 13 = .ok (.invokestatic 339, 3) := by decide +kernel
theorem d30_16 : decode jdk_65_method_132_code 16 = .ok (.areturn, 1) := by decide +kernel
theorem ef_COR (m : MethodId) (a0 : Addr) (p2 : Int32) : entryFrame m #[(.ref a0), (.int (0 : Int32)), (.int p2)] 3 = mkF m 0 #[.val (.ref a0), .val (.int (0 : Int32)), .val (.int p2)] [] := by first | (simp [entryFrame, mkF, argsToLocals, Value.category, maxLocals]; done) | rfl
def QCOR (Z : State) (a0 : Addr) (p2 : Int32) (kb : ClassId) (xs : List Int32) (h0 : Heap) (n0 : Nat) (v : Option Value) (h : Heap) (L : List Loc) : Prop := ∃ b kc, v = some (.ref b) ∧ Fr n0 L ∧ Keep h0 h [] ∧ h0.size ≤ b ∧ Arv Z h b kc .byte p2 (xs.map Value.int) (.int (0 : Int32))
set_option maxRecDepth 65536 in
set_option maxHeartbeats 40000000 in
theorem rmCOR (l : Launch) (Z : State) (aw : Array Value) (hw : ∀ d ∈ tables_1, d.before aw Z = true) (ws : List Jvm.Cond) (a0 : Addr) (p2 : Int32) (kb : ClassId) (xs : List Int32) (h0 : Heap) (n0 : Nat) (Z0 : n0 ≤ h0.size) (V0 : Arv Z h0 a0 kb .byte (16 : Int32) (xs.map Value.int) (.int (0 : Int32))) (lx : own_ln p2 xs) (hs : xs.length < 16) :
    MetFree l (⟨"java/util/Arrays", "copyOfRange", "([BII)[B"⟩ : MethodName) (head1 (Jvm.Cond.code (⟨"java/util/Arrays", "copyOfRange", "([BII)[B"⟩ : MethodName) jdk_65_method_132_code 3 (some (.array .byte)) :: ws) ({ frames := 2, cells := 1, slots := 16, locals := 56 } : Room)) (fun a U => a = #[(.ref a0), (.int (0 : Int32)), (.int p2)] ∧ Z.Warmed39 U.vm ∧ U.heap = h0) (fun _ _ _ _ _ => True) (fun _ U o U' => ∃ v L, o = .returned v ∧ QCOR Z a0 p2 kb xs h0 n0 v U'.heap L ∧ FrameEnd U o U' L ({ frames := 2, cells := 1, slots := 16, locals := 56 } : Room).cells ({ frames := 2, cells := 1, slots := 16, locals := 56 } : Room).slots) := by
  refine MetFree.of_bodySF (plainFor_of_name pn_6) hisR ?_
  intro p e s m args below meth c s₁ Bd hml0 hP hK
  obtain ⟨rfl, hZ, hh⟩ := hP
  have hx := Bd.exec
  have hby := Bd.bytes
  have hml : c.maxLocals = 3 := hml0
  have hown : s.vm.findClass "java/util/Arrays" = some m.cls := findClass_of_methodNamed Bd.named
  have hnm := (name_of_methodNamed Bd.named Bd.method).1
  have hlk : meth.locks = false := BodyLoose.notSynchronized Bd
  have X0 : Stand p l e ({ frames := 2, cells := 1, slots := 16, locals := 56 } : Room) s m #[(.ref a0), (.int (0 : Int32)), (.int p2)] below meth c s₁ [] 0 0 := Stand.of_body Bd
  have _u := trivial
  have eh0 : s₁.heap = h0 := by rw [← hh, Bd.state]; rfl
  have N0 := Fr.nil n0
  show Rest p.tables e below s (QCOR Z a0 p2 kb xs h0 n0) _ _ (s₁.setTop (entryFrame m #[(.ref a0), (.int (0 : Int32)), (.int p2)] 3))
  refine Rest.via (fun t k => castTop (ef_COR m a0 p2) k) ?_
  show Rest p.tables e below s _ _ _ (s₁.setTop (mkF m 0 #[.val (.ref a0), .val (.int (0 : Int32)), .val (.int p2)] []))
  refine Rest.via (fun t k => XS.iloadN X0.here hx rfl (hb hby d30_0) rfl k) ?_
  refine Rest.via (fun t k => XS.ifNo X0.here hx rfl (hb hby d30_1) rfl ((if0 _ _).trans (teq (by decide : (0 : Int32) = (0 : Int32))).2) k) ?_
  show Rest p.tables e below s _ _ _ (s₁.setTop (mkF m 4 #[.val (.ref a0), .val (.int (0 : Int32)), .val (.int p2)] []))
  refine Rest.via (fun t k => XS.iloadN X0.here hx rfl (hb hby d30_4) rfl k) ?_
  refine Rest.via (fun t k => XS.aloadN X0.here hx rfl (hb hby d30_5) rfl rfl k) ?_
  obtain ⟨cl1, Ar1, -, S1, P1, -, -⟩ := id V0
  refine Rest.via (fun t k => X0.arraylength hx (by rw [eh0]; exact Ar1.1) (State.isArrayOf_alike hZ.alike Ar1.2.1) (g := (mkF m 6 #[.val (.ref a0), .val (.int (0 : Int32)), .val (.int p2)] [(.ref a0), (.int p2)])) rfl rfl (hb hby d30_6) t k) ?_
  rw [len_of S1 P1]
  show Rest p.tables e below s _ _ _ (s₁.setTop (mkF m 7 #[.val (.ref a0), .val (.int (0 : Int32)), .val (.int p2)] [(.int (16 : Int32)), (.int p2)]))
  refine Rest.via (fun t k => XS.icmpNo X0.here hx rfl (hb hby d30_7) rfl (feq ((own_lt16 lx hs).2 : ¬ (p2 = (16 : Int32)))).1 k) ?_
  show Rest p.tables e below s _ _ _ (s₁.setTop (mkF m 10 #[.val (.ref a0), .val (.int (0 : Int32)), .val (.int p2)] []))
  refine Rest.via (fun t k => XS.aloadN X0.here hx rfl (hb hby d30_10) rfl rfl k) ?_
  refine Rest.via (fun t k => XS.iloadN X0.here hx rfl (hb hby d30_11) rfl k) ?_
  refine Rest.via (fun t k => XS.iloadN X0.here hx rfl (hb hby d30_12) rfl k) ?_
  show Rest p.tables e below s _ _ _ (s₁.setTop (mkF m 13 #[.val (.ref a0), .val (.int (0 : Int32)), .val (.int p2)] [(.int p2), (.int (0 : Int32)), (.ref a0)]))
  obtain ⟨_, _, ⟨T2, L2, k2, n2⟩, -, X2, ⟨Lc2, hQ2, l2, y2, z2⟩, st2⟩ := Jvm.LawKit.callS X0 hx (y := (⟨"java/util/Arrays", "copyOfRangeByte", "([BII)[B"⟩ : MethodName)) hown (mvT hZ (own_W hw 191 rfl)) (mvT hZ (own_W hw 192 rfl)) (mvT hZ (own_W hw 189 rfl)) (mvT hZ (own_W hw 193 rfl)) (by decide) (backOf (W := 0) (rmCOB l Z aw hw [] a0 p2 kb xs h0 n0 (Nat.le_trans Z0 (Keep.refl h0 []).1) V0 lx hs) hZ (own_W hw 193 rfl) (own_W hw 189 rfl) (by decide) (by decide)) (g := (mkF m 13 #[.val (.ref a0), .val (.int (0 : Int32)), .val (.int p2)] [(.int p2), (.int (0 : Int32)), (.ref a0)])) rfl (by rw [hml]; rfl) (argsL := [(.ref a0), (.int (0 : Int32)), (.int p2)]) (rest := []) (lenOf pd_18 rfl) rfl (by show 2 * 0 + _ ≤ _; exact Nat.le_of_eq rfl) (hb hby d30_13) (fun _ _ => ⟨rfl, eh0, (by decide : 0 + 1 ≤ _), (by decide : 0 + 16 ≤ _)⟩)
  dsimp only [Pt.U, Pt.locs, Pt.cells, Pt.slots] at X2 l2 y2 z2 st2 hQ2
  subst l2 y2 z2
  obtain ⟨h2, e2⟩ : ∃ z, T2.heap = z := ⟨_, rfl⟩
  rw [e2] at hQ2
  obtain ⟨cb2, kc2, rfl, Nq2, Kq2, gc2, Vq2⟩ := hQ2
  have N2 := Fr.app N0 Nq2
  have sz_cb2 : h0.size ≤ cb2 := Nat.le_trans (Keep.refl h0 []).1 gc2
  have g_cb2 : n0 ≤ cb2 := Nat.le_trans Z0 sz_cb2
  have ne_a0_cb2 : a0 ≠ cb2 := Nat.ne_of_lt (Nat.lt_of_lt_of_le V0.lt gc2)
  have K2 : Keep h0 h2 [] := (Keep.refl h0 []).trans Kq2 all0
  refine Rest.via (fun t k => st2 t k) ?_
  show Rest p.tables e below s _ _ _ (T2.setTop (mkF m 16 #[.val (.ref a0), .val (.int (0 : Int32)), .val (.int p2)] [(.ref cb2)]))
  refine Rest.ret X2 (v := some (.ref cb2)) (fun h => by rw [Bd.returns] at h; cases h) hlk (fun fs hr => retOut X2 hx Bd.returns rfl (Or.inr (Or.inr (Or.inr (Or.inr ⟨rfl, rfl, rfl⟩)))) (hb hby d30_16) hr) ?_ (by decide) (by decide)
  rw [e2]
  exact ⟨cb2, _, rfl, N2, K2, sz_cb2, Vq2⟩
theorem pd_19 : parseMethodDescriptor "()[B" = some ⟨[], some (.array .byte)⟩ := by decide +kernel
theorem d26_0 : decode jdk_42_method_150_code 0 = .ok (.aload_n 0, 1) := by decide +kernel
theorem d26_1 : decode jdk_42_method_150_code 1 = .ok (.invokespecial 1, 3) := by decide +kernel
theorem d26_4 : decode jdk_42_method_150_code 4 = .ok (.aload_n 1, 1) := by decide +kernel
theorem d26_5 : decode jdk_42_method_150_code 5 = .ok (.invokevirtual 552, 3) := by decide +kernel
theorem d26_8 : decode jdk_42_method_150_code 8 = .ok (.astore_n 3, 1) := by decide +kernel
theorem d26_9 : decode jdk_42_method_150_code 9 = .ok (.aload_n 1, 1) := by decide +kernel
theorem d26_10 : decode jdk_42_method_150_code 10 = .ok (.invokevirtual 549, 3) := by decide +kernel
theorem d26_13 : decode jdk_42_method_150_code 13 = .ok (.istore 4, 2) := by decide +kernel
theorem d26_15 : decode jdk_42_method_150_code 15 = .ok (.aload_n 1, 1) := by decide +kernel
theorem d26_16 : decode jdk_42_method_150_code 16 = .ok (.invokevirtual 1047, 3) := by decide +kernel
theorem d26_19 : decode jdk_42_method_150_code 19 = .ok (.ifCond .eq 22, 3) := by decide +kernel
theorem d26_22 : decode jdk_42_method_150_code 22 = .ok (.aload_n 0, 1) := by decide +kernel
theorem d26_23 : decode jdk_42_method_150_code 23 = .ok (.iconst 0, 1) := by decide +kernel
theorem d26_24 : decode jdk_42_method_150_code 24 = .ok (.putfield 15, 3) := by decide +kernel
theorem d26_27 : decode jdk_42_method_150_code 27 = .ok (.aload_n 0, 1) := by decide +kernel
theorem d26_28 : decode jdk_42_method_150_code 28 = .ok (.aload_n 3, 1) := by decide +kernel
theorem d26_29 : decode jdk_42_method_150_code 29 = .ok (.iconst 0, 1) := by decide +kernel
theorem d26_30 : decode jdk_42_method_150_code 30 = .ok (.iload 4, 2) := by decide +kernel
theorem d26_32 : decode jdk_42_method_150_code 32 = .ok (.invokestatic 54, 3) := by decide +kernel
theorem d26_35 : decode jdk_42_method_150_code 35 = .ok (.putfield 9, 3) := by decide +kernel
theorem d26_38 : decode jdk_42_method_150_code 38 = .ok (.goto 59, 3) := by decide +kernel
theorem d26_97 : decode jdk_42_method_150_code 97 = .ok (.return_, 1) := by decide +kernel
theorem ef_SIV (m : MethodId) (a0 : Addr) (a1 : Addr) : entryFrame m #[(.ref a0), (.ref a1), .null] 5 = mkF m 0 #[.val (.ref a0), .val (.ref a1), .val .null, .unset, .unset] [] := by first | (simp [entryFrame, mkF, argsToLocals, Value.category, maxLocals]; done) | rfl
def QSIV (Z : State) (a0 : Addr) (a1 : Addr) (bv : Addr) (kb : ClassId) (cn : Int32) (xs : List Int32) (ic : Int32) (h0 : Heap) (n0 : Nat) (v : Option Value) (h : Heap) (L : List Loc) : Prop := v = none ∧ Fr n0 L ∧ Keep h0 h [a0] ∧ ∃ b kc, own_St Z h a0 b kc cn (xs.map Value.int)
set_option maxRecDepth 65536 in
set_option maxHeartbeats 40000000 in
theorem rmSIV (l : Launch) (Z : State) (aw : Array Value) (hw : ∀ d ∈ tables_1, d.before aw Z = true) (ws : List Jvm.Cond) (a0 : Addr) (a1 : Addr) (bv : Addr) (kb : ClassId) (cn : Int32) (xs : List Int32) (ic : Int32) (h0 : Heap) (n0 : Nat) (Z0 : n0 ≤ h0.size) (E_a0 : Exa Z h0 a0 "java/lang/String") (F_v : Fld Z h0 a0 "java/lang/String" "value" "[B" .null) (F_c : Fld Z h0 a0 "java/lang/String" "coder" "B" (.int (0 : Int32))) (g_a0 : n0 ≤ a0) (B : own_SB Z h0 a1 bv kb cn (xs.map Value.int)) (lx : own_ln cn xs) (hs : xs.length < 16) (O : own_Old Z n0 h0) (CS : own_CS Z ic) :
    MetFree l (⟨"java/lang/String", "<init>", "(Ljava/lang/AbstractStringBuilder;Ljava/lang/Void;)V"⟩ : MethodName) (head1 (Jvm.Cond.code (⟨"java/lang/String", "<init>", "(Ljava/lang/AbstractStringBuilder;Ljava/lang/Void;)V"⟩ : MethodName) jdk_42_method_150_code 5 none :: ws) ({ frames := 3, cells := 1, slots := 16, locals := 71 } : Room)) (fun a U => a = #[(.ref a0), (.ref a1), .null] ∧ Z.Warmed39 U.vm ∧ U.heap = h0) (fun _ _ _ _ _ => True) (fun _ U o U' => ∃ v L, o = .returned v ∧ QSIV Z a0 a1 bv kb cn xs ic h0 n0 v U'.heap L ∧ FrameEnd U o U' L ({ frames := 3, cells := 1, slots := 16, locals := 71 } : Room).cells ({ frames := 3, cells := 1, slots := 16, locals := 71 } : Room).slots) := by
  refine MetFree.of_bodySF (plainFor_of_name pn_1) hisR ?_
  intro p e s m args below meth c s₁ Bd hml0 hP hK
  obtain ⟨rfl, hZ, hh⟩ := hP
  have hx := Bd.exec
  have hby := Bd.bytes
  have hml : c.maxLocals = 5 := hml0
  have hown : s.vm.findClass "java/lang/String" = some m.cls := findClass_of_methodNamed Bd.named
  have hnm := (name_of_methodNamed Bd.named Bd.method).1
  have hlk : meth.locks = false := BodyLoose.notSynchronized Bd
  have X0 : Stand p l e ({ frames := 3, cells := 1, slots := 16, locals := 71 } : Room) s m #[(.ref a0), (.ref a1), .null] below meth c s₁ [] 0 0 := Stand.of_body Bd
  have _u := trivial
  have eh0 : s₁.heap = h0 := by rw [← hh, Bd.state]; rfl
  have N0 := Fr.nil n0
  show Rest p.tables e below s (QSIV Z a0 a1 bv kb cn xs ic h0 n0) _ _ (s₁.setTop (entryFrame m #[(.ref a0), (.ref a1), .null] 5))
  refine Rest.via (fun t k => castTop (ef_SIV m a0 a1) k) ?_
  obtain ⟨E_a1, Fv_a1, Fc_a1, Fn_a1, V_a1⟩ := id B
  have ne_a1_bv : a1 ≠ bv := Exa.neArv E_a1 V_a1 (own_W hw 71 rfl)
  have ne_01 : a0 ≠ a1 := Exa.ne E_a0 E_a1 (by decide)
  have ne_0v : a0 ≠ bv := Exa.neArv E_a0 V_a1 (own_W hw 5 rfl)
  show Rest p.tables e below s _ _ _ (s₁.setTop (mkF m 0 #[.val (.ref a0), .val (.ref a1), .val .null, .unset, .unset] []))
  refine Rest.via (fun t k => XS.aloadN X0.here hx rfl (hb hby d26_0) rfl rfl k) ?_
  show Rest p.tables e below s _ _ _ (s₁.setTop (mkF m 1 #[.val (.ref a0), .val (.ref a1), .val .null, .unset, .unset] [(.ref a0)]))
  obtain ⟨T1, X1, e1, st1⟩ := initO X0 hx hZ hown (own_W hw 15 rfl) (own_W hw 16 rfl) (own_W hw 17 rfl) eh0 (g := (mkF m 1 #[.val (.ref a0), .val (.ref a1), .val .null, .unset, .unset] [(.ref a0)])) rfl (by rw [hml]; rfl) rfl (hb hby d26_1) (by decide) (W := 0) (by show 2 * 0 + _ ≤ _; exact Nat.le_of_eq rfl) (by decide)
  refine Rest.via (fun t k => st1 t k) ?_
  show Rest p.tables e below s _ _ _ (T1.setTop (mkF m 4 #[.val (.ref a0), .val (.ref a1), .val .null, .unset, .unset] []))
  refine Rest.via (fun t k => XS.aloadN X1.here hx rfl (hb hby d26_4) rfl rfl k) ?_
  show Rest p.tables e below s _ _ _ (T1.setTop (mkF m 5 #[.val (.ref a0), .val (.ref a1), .val .null, .unset, .unset] [(.ref a1)]))
  obtain ⟨cq2, kq2, q2a, q2b, q2c⟩ := isOf hZ e1 E_a1
  obtain ⟨_, _, ⟨T2, L2, k2, n2⟩, -, X2, ⟨Lc2, hQ2, l2, y2, z2⟩, st2⟩ := X1.virtualBack hx (y := (⟨"java/lang/AbstractStringBuilder", "getValue", "()[B"⟩ : MethodName)) (z := (⟨"java/lang/AbstractStringBuilder", "getValue", "()[B"⟩ : MethodName)) hown (mvT hZ (own_W hw 173 rfl)) (mvT hZ (own_W hw 174 rfl)) (notFace_of_selects (args := #[]) (mvT hZ (own_W hw 176 rfl))) (mvT hZ (own_W hw 176 rfl)) (mvT hZ (own_W hw 175 rfl)) (by decide) (backOf (W := 0) (rmAGV l Z aw hw [] a1 bv kb cn xs h0 n0 (Nat.le_trans Z0 (Keep.refl h0 [a0]).1) B) hZ (own_W hw 177 rfl) (own_W hw 80 rfl) (by decide) (by decide)) q2a q2c (g := (mkF m 5 #[.val (.ref a0), .val (.ref a1), .val .null, .unset, .unset] [(.ref a1)])) rfl (by rw [hml]; rfl) (Steps.refl _) (argsL := []) (rest := []) (lenOf pd_19 rfl) rfl (by show 2 * 0 + _ ≤ _; exact Nat.le_of_eq rfl) (hb hby d26_5) (fun _ _ => ⟨rfl, e1, (by decide : 0 + 0 ≤ _), (by decide : 0 + 0 ≤ _)⟩)
  dsimp only [Pt.U, Pt.locs, Pt.cells, Pt.slots] at X2 l2 y2 z2 st2 hQ2
  subst l2 y2 z2
  obtain ⟨rfl, Nq2, e2⟩ := hQ2
  have N2 := Fr.app N0 Nq2
  refine Rest.via (fun t k => st2.trans k) ?_
  show Rest p.tables e below s _ _ _ (T2.setTop (mkF m 8 #[.val (.ref a0), .val (.ref a1), .val .null, .unset, .unset] [(.ref bv)]))
  refine Rest.via (fun t k => XS.astoreN X2.here hx rfl (hb hby d26_8) rfl rfl (l' := #[.val (.ref a0), .val (.ref a1), .val .null, .val (.ref bv), .unset]) rfl k) ?_
  refine Rest.via (fun t k => XS.aloadN X2.here hx rfl (hb hby d26_9) rfl rfl k) ?_
  show Rest p.tables e below s _ _ _ (T2.setTop (mkF m 10 #[.val (.ref a0), .val (.ref a1), .val .null, .val (.ref bv), .unset] [(.ref a1)]))
  obtain ⟨cq3, kq3, q3a, q3b, q3c⟩ := isOf hZ e2 E_a1
  obtain ⟨_, _, ⟨T3, L3, k3, n3⟩, -, X3, ⟨Lc3, hQ3, l3, y3, z3⟩, st3⟩ := X2.virtualBack hx (y := (⟨"java/lang/AbstractStringBuilder", "length", "()I"⟩ : MethodName)) (z := (⟨"java/lang/StringBuilder", "length", "()I"⟩ : MethodName)) hown (mvT hZ (own_W hw 178 rfl)) (mvT hZ (own_W hw 179 rfl)) (own_notFace (args := #[]) (mvT hZ (own_W hw 154 rfl)) rfl) (mvT hZ (own_W hw 181 rfl)) (mvT hZ (own_W hw 182 rfl)) (by decide) (backOf (W := 0) (rmSBL l Z aw hw [] a1 bv kb cn xs h0 n0 (Nat.le_trans Z0 (Keep.refl h0 [a0]).1) B) hZ (own_W hw 183 rfl) (own_W hw 72 rfl) (by decide) (by decide)) q3a q3c (g := (mkF m 10 #[.val (.ref a0), .val (.ref a1), .val .null, .val (.ref bv), .unset] [(.ref a1)])) rfl (by rw [hml]; rfl) (Steps.refl _) (argsL := []) (rest := []) (lenOf pd_7 rfl) rfl (by show 2 * 0 + _ ≤ _; exact Nat.le_of_eq rfl) (hb hby d26_10) (fun _ _ => ⟨rfl, e2, (by decide : 0 + 0 ≤ _), (by decide : 0 + 0 ≤ _)⟩)
  dsimp only [Pt.U, Pt.locs, Pt.cells, Pt.slots] at X3 l3 y3 z3 st3 hQ3
  subst l3 y3 z3
  obtain ⟨rfl, Nq3, e3⟩ := hQ3
  have N3 := Fr.app N2 Nq3
  refine Rest.via (fun t k => st3.trans k) ?_
  show Rest p.tables e below s _ _ _ (T3.setTop (mkF m 13 #[.val (.ref a0), .val (.ref a1), .val .null, .val (.ref bv), .unset] [(.int cn)]))
  refine Rest.via (fun t k => XS.istore X3.here hx rfl (hb hby d26_13) rfl (l' := #[.val (.ref a0), .val (.ref a1), .val .null, .val (.ref bv), .val (.int cn)]) rfl k) ?_
  refine Rest.via (fun t k => XS.aloadN X3.here hx rfl (hb hby d26_15) rfl rfl k) ?_
  show Rest p.tables e below s _ _ _ (T3.setTop (mkF m 16 #[.val (.ref a0), .val (.ref a1), .val .null, .val (.ref bv), .val (.int cn)] [(.ref a1)]))
  obtain ⟨cq4, kq4, q4a, q4b, q4c⟩ := isOf hZ e3 E_a1
  obtain ⟨_, _, ⟨T4, L4, k4, n4⟩, -, X4, ⟨Lc4, hQ4, l4, y4, z4⟩, st4⟩ := X3.virtualBack hx (y := (⟨"java/lang/AbstractStringBuilder", "isLatin1", "()Z"⟩ : MethodName)) (z := (⟨"java/lang/AbstractStringBuilder", "isLatin1", "()Z"⟩ : MethodName)) hown (mvT hZ (own_W hw 186 rfl)) (mvT hZ (own_W hw 152 rfl)) (notFace_of_selects (args := #[]) (mvT hZ (own_W hw 154 rfl))) (mvT hZ (own_W hw 154 rfl)) (mvT hZ (own_W hw 153 rfl)) (by decide) (backOf (W := 0) (rmAIL l Z aw hw [] a1 bv kb cn xs ic h0 n0 (Nat.le_trans Z0 (Keep.refl h0 [a0]).1) B (O.keep (Keep.refl h0 [a0]) (allS g_a0 all0)) CS) hZ (own_W hw 155 rfl) (own_W hw 80 rfl) (by decide) (by decide)) q4a q4c (g := (mkF m 16 #[.val (.ref a0), .val (.ref a1), .val .null, .val (.ref bv), .val (.int cn)] [(.ref a1)])) rfl (by rw [hml]; rfl) (Steps.refl _) (argsL := []) (rest := []) (lenOf pd_13 rfl) rfl (by show 2 * 0 + _ ≤ _; exact Nat.le_of_eq rfl) (hb hby d26_16) (fun _ _ => ⟨rfl, e3, (by decide : 0 + 0 ≤ _), (by decide : 0 + 0 ≤ _)⟩)
  dsimp only [Pt.U, Pt.locs, Pt.cells, Pt.slots] at X4 l4 y4 z4 st4 hQ4
  subst l4 y4 z4
  obtain ⟨rfl, Nq4, e4⟩ := hQ4
  have N4 := Fr.app N3 Nq4
  refine Rest.via (fun t k => st4.trans k) ?_
  show Rest p.tables e below s _ _ _ (T4.setTop (mkF m 19 #[.val (.ref a0), .val (.ref a1), .val .null, .val (.ref bv), .val (.int cn)] [(.int (1 : Int32))]))
  refine Rest.via (fun t k => XS.ifNo X4.here hx rfl (hb hby d26_19) rfl ((if0 _ _).trans (feq (by decide : ¬ ((1 : Int32) = (0 : Int32)))).1) k) ?_
  show Rest p.tables e below s _ _ _ (T4.setTop (mkF m 22 #[.val (.ref a0), .val (.ref a1), .val .null, .val (.ref bv), .val (.int cn)] []))
  refine Rest.via (fun t k => XS.aloadN X4.here hx rfl (hb hby d26_22) rfl rfl k) ?_
  refine Rest.via (fun t k => XS.iconst X4.here hx rfl (hb hby d26_23) k) ?_
  have Fo5 := F_c
  obtain ⟨T5, h5, X5, e5, W5, st5⟩ := putFN X4 hx hZ hown (own_W hw 25 rfl) Via.refl e4 Fo5 E_a0 (Or.inr ⟨(own_W hw 21 rfl), rfl, hnm⟩) (own_W hw 5 rfl) (ty := .byte) (v' := (.int (0 : Int32))) (by decide) rfl (by decide) (g := (mkF m 24 #[.val (.ref a0), .val (.ref a1), .val .null, .val (.ref bv), .val (.int cn)] [(.int (0 : Int32)), (.ref a0)])) rfl rfl (hb hby d26_24)
  refine Rest.via (fun t k => st5 t k) ?_
  have N5 := Fr.snoc X5 N4 g_a0
  have K5 : Keep h0 h5 [a0] := (Keep.refl h0 [a0]).wr W5 (Or.inl (List.mem_of_getElem? (i := 0) rfl))
  have Fw5 := Fo5.same W5
  show Rest p.tables e below s _ _ _ (T5.setTop (mkF m 27 #[.val (.ref a0), .val (.ref a1), .val .null, .val (.ref bv), .val (.int cn)] []))
  refine Rest.via (fun t k => XS.aloadN X5.here hx rfl (hb hby d26_27) rfl rfl k) ?_
  refine Rest.via (fun t k => XS.aloadN X5.here hx rfl (hb hby d26_28) rfl rfl k) ?_
  refine Rest.via (fun t k => XS.iconst X5.here hx rfl (hb hby d26_29) k) ?_
  refine Rest.via (fun t k => XS.iload X5.here hx rfl (hb hby d26_30) rfl k) ?_
  show Rest p.tables e below s _ _ _ (T5.setTop (mkF m 32 #[.val (.ref a0), .val (.ref a1), .val .null, .val (.ref bv), .val (.int cn)] [(.int cn), (.int (0 : Int32)), (.ref bv), (.ref a0)]))
  obtain ⟨_, _, ⟨T6, L6, k6, n6⟩, -, X6, ⟨Lc6, hQ6, l6, y6, z6⟩, st6⟩ := Jvm.LawKit.callS X5 hx (y := (⟨"java/util/Arrays", "copyOfRange", "([BII)[B"⟩ : MethodName)) hown (mvT hZ (own_W hw 187 rfl)) (mvT hZ (own_W hw 188 rfl)) (mvT hZ (own_W hw 189 rfl)) (mvT hZ (own_W hw 190 rfl)) (by decide) (backOf (W := 1) (rmCOR l Z aw hw [] bv cn kb xs h5 n0 (Nat.le_trans Z0 K5.1) (V_a1.other W5 (Ne.symm ne_0v)) lx hs) hZ (own_W hw 190 rfl) (own_W hw 189 rfl) (by decide) (by decide)) (g := (mkF m 32 #[.val (.ref a0), .val (.ref a1), .val .null, .val (.ref bv), .val (.int cn)] [(.int cn), (.int (0 : Int32)), (.ref bv), (.ref a0)])) rfl (by rw [hml]; rfl) (argsL := [(.ref bv), (.int (0 : Int32)), (.int cn)]) (rest := [(.ref a0)]) (lenOf pd_18 rfl) rfl (by show 2 * 0 + _ ≤ _; exact Nat.le_of_eq rfl) (hb hby d26_32) (fun _ _ => ⟨rfl, e5, (by decide : 0 + 1 ≤ _), (by decide : 0 + 16 ≤ _)⟩)
  dsimp only [Pt.U, Pt.locs, Pt.cells, Pt.slots] at X6 l6 y6 z6 st6 hQ6
  subst l6 y6 z6
  obtain ⟨h6, e6⟩ : ∃ z, T6.heap = z := ⟨_, rfl⟩
  rw [e6] at hQ6
  obtain ⟨cb6, kc6, rfl, Nq6, Kq6, gc6, Vq6⟩ := hQ6
  have N6 := Fr.app N5 Nq6
  have sz_cb6 : h0.size ≤ cb6 := Nat.le_trans K5.1 gc6
  have g_cb6 : n0 ≤ cb6 := Nat.le_trans Z0 sz_cb6
  have ne_a1_cb6 : a1 ≠ cb6 := Nat.ne_of_lt (Nat.lt_of_lt_of_le (E_a1.wr W5).lt gc6)
  have ne_bv_cb6 : bv ≠ cb6 := Nat.ne_of_lt (Nat.lt_of_lt_of_le (V_a1.other W5 (Ne.symm ne_0v)).lt gc6)
  have ne_a0_cb6 : a0 ≠ cb6 := Nat.ne_of_lt (Nat.lt_of_lt_of_le (E_a0.wr W5).lt gc6)
  have K6 : Keep h0 h6 [a0] := K5.trans Kq6 all0
  refine Rest.via (fun t k => st6 t k) ?_
  show Rest p.tables e below s _ _ _ (T6.setTop (mkF m 35 #[.val (.ref a0), .val (.ref a1), .val .null, .val (.ref bv), .val (.int cn)] [(.ref cb6), (.ref a0)]))
  have Fo7 := ((F_v.other W5 (Or.inr (slot_ne (Or.inr (own_W hw 20 rfl)) (Or.inr (own_W hw 21 rfl)) (by decide) (t := (.array .byte)) (t' := .byte) (by decide) (by decide)))).keep Kq6 nin0)
  obtain ⟨T7, h7, X7, e7, W7, st7⟩ := putF X6 hx hZ hown (host := "") (Or.inl (own_W hw 24 rfl)) Via.refl e6 Fo7 ((E_a0.wr W5).keep Kq6) (Or.inr ⟨(own_W hw 20 rfl), rfl, hnm⟩) (own_W hw 5 rfl) (ty := (.array .byte)) (by decide) rfl rfl (g := (mkF m 35 #[.val (.ref a0), .val (.ref a1), .val .null, .val (.ref bv), .val (.int cn)] [(.ref cb6), (.ref a0)])) rfl rfl (hb hby d26_35)
  refine Rest.via (fun t k => st7 t k) ?_
  have N7 := Fr.snoc X7 N6 g_a0
  have K7 : Keep h0 h7 [a0] := K6.wr W7 (Or.inl (List.mem_of_getElem? (i := 0) rfl))
  have Fw7 := Fo7.same W7
  show Rest p.tables e below s _ _ _ (T7.setTop (mkF m 38 #[.val (.ref a0), .val (.ref a1), .val .null, .val (.ref bv), .val (.int cn)] []))
  refine Rest.via (fun t k => XS.goto X7.here hx rfl (pc0 := 38) (pc' := 97) rfl (hb hby d26_38) (by decide) (by decide) k) ?_
  refine Rest.ret X7 (v := none) (fun _ => rfl) hlk (fun fs hr => X7.returnOut hx Bd.returns (hb hby d26_97) hr) ?_ (by decide) (by decide)
  rw [e7]
  exact ⟨rfl, N7, K7, cb6, kc6, (((E_a0.wr W5).keep Kq6).wr W7), Fw7, ((Fw5.keep Kq6 nin0).other W7 (Or.inr (slot_ne (Or.inr (own_W hw 21 rfl)) (Or.inr (own_W hw 20 rfl)) (by decide) (t := .byte) (t' := (.array .byte)) (by decide) (by decide)))), (Vq6.other W7 (Ne.symm ne_a0_cb6))⟩
theorem pd_20 : parseMethodDescriptor "(Ljava/lang/AbstractStringBuilder;Ljava/lang/Void;)V" = some ⟨[(.object "java/lang/AbstractStringBuilder"), (.object "java/lang/Void")], none⟩ := by decide +kernel
theorem d25_0 : decode jdk_42_method_53_code 0 = .ok (.aload_n 0, 1) := by decide +kernel
theorem d25_1 : decode jdk_42_method_53_code 1 = .ok (.aload_n 1, 1) := by decide +kernel
theorem d25_2 : decode jdk_42_method_53_code 2 = .ok (.aconst_null, 1) := by decide +kernel
theorem d25_3 : decode jdk_42_method_53_code 3 = .ok (.invokespecial 489, 3) := by decide +kernel
theorem d25_6 : decode jdk_42_method_53_code 6 = .ok (.return_, 1) := by decide +kernel
theorem ef_SIB (m : MethodId) (a0 : Addr) (a1 : Addr) : entryFrame m #[(.ref a0), (.ref a1)] 2 = mkF m 0 #[.val (.ref a0), .val (.ref a1)] [] := by first | (simp [entryFrame, mkF, argsToLocals, Value.category, maxLocals]; done) | rfl
def QSIB (Z : State) (a0 : Addr) (a1 : Addr) (bv : Addr) (kb : ClassId) (cn : Int32) (xs : List Int32) (ic : Int32) (h0 : Heap) (n0 : Nat) (v : Option Value) (h : Heap) (L : List Loc) : Prop := v = none ∧ Fr n0 L ∧ Keep h0 h [a0] ∧ ∃ b kc, own_St Z h a0 b kc cn (xs.map Value.int)
set_option maxRecDepth 65536 in
set_option maxHeartbeats 40000000 in
theorem rmSIB (l : Launch) (Z : State) (aw : Array Value) (hw : ∀ d ∈ tables_1, d.before aw Z = true) (ws : List Jvm.Cond) (a0 : Addr) (a1 : Addr) (bv : Addr) (kb : ClassId) (cn : Int32) (xs : List Int32) (ic : Int32) (h0 : Heap) (n0 : Nat) (Z0 : n0 ≤ h0.size) (E_a0 : Exa Z h0 a0 "java/lang/String") (F_v : Fld Z h0 a0 "java/lang/String" "value" "[B" .null) (F_c : Fld Z h0 a0 "java/lang/String" "coder" "B" (.int (0 : Int32))) (g_a0 : n0 ≤ a0) (B : own_SB Z h0 a1 bv kb cn (xs.map Value.int)) (lx : own_ln cn xs) (hs : xs.length < 16) (O : own_Old Z n0 h0) (CS : own_CS Z ic) :
    MetFree l (⟨"java/lang/String", "<init>", "(Ljava/lang/StringBuilder;)V"⟩ : MethodName) (head1 (Jvm.Cond.code (⟨"java/lang/String", "<init>", "(Ljava/lang/StringBuilder;)V"⟩ : MethodName) jdk_42_method_53_code 2 none :: ws) ({ frames := 4, cells := 1, slots := 16, locals := 87 } : Room)) (fun a U => a = #[(.ref a0), (.ref a1)] ∧ Z.Warmed39 U.vm ∧ U.heap = h0) (fun _ _ _ _ _ => True) (fun _ U o U' => ∃ v L, o = .returned v ∧ QSIB Z a0 a1 bv kb cn xs ic h0 n0 v U'.heap L ∧ FrameEnd U o U' L ({ frames := 4, cells := 1, slots := 16, locals := 87 } : Room).cells ({ frames := 4, cells := 1, slots := 16, locals := 87 } : Room).slots) := by
  refine MetFree.of_bodySF (plainFor_of_name pn_1) hisR ?_
  intro p e s m args below meth c s₁ Bd hml0 hP hK
  obtain ⟨rfl, hZ, hh⟩ := hP
  have hx := Bd.exec
  have hby := Bd.bytes
  have hml : c.maxLocals = 2 := hml0
  have hown : s.vm.findClass "java/lang/String" = some m.cls := findClass_of_methodNamed Bd.named
  have hnm := (name_of_methodNamed Bd.named Bd.method).1
  have hlk : meth.locks = false := BodyLoose.notSynchronized Bd
  have X0 : Stand p l e ({ frames := 4, cells := 1, slots := 16, locals := 87 } : Room) s m #[(.ref a0), (.ref a1)] below meth c s₁ [] 0 0 := Stand.of_body Bd
  have _u := trivial
  have eh0 : s₁.heap = h0 := by rw [← hh, Bd.state]; rfl
  have N0 := Fr.nil n0
  show Rest p.tables e below s (QSIB Z a0 a1 bv kb cn xs ic h0 n0) _ _ (s₁.setTop (entryFrame m #[(.ref a0), (.ref a1)] 2))
  refine Rest.via (fun t k => castTop (ef_SIB m a0 a1) k) ?_
  obtain ⟨E_a1, Fv_a1, Fc_a1, Fn_a1, V_a1⟩ := id B
  have ne_a1_bv : a1 ≠ bv := Exa.neArv E_a1 V_a1 (own_W hw 71 rfl)
  have ne_01 : a0 ≠ a1 := Exa.ne E_a0 E_a1 (by decide)
  have ne_0v : a0 ≠ bv := Exa.neArv E_a0 V_a1 (own_W hw 5 rfl)
  show Rest p.tables e below s _ _ _ (s₁.setTop (mkF m 0 #[.val (.ref a0), .val (.ref a1)] []))
  refine Rest.via (fun t k => XS.aloadN X0.here hx rfl (hb hby d25_0) rfl rfl k) ?_
  refine Rest.via (fun t k => XS.aloadN X0.here hx rfl (hb hby d25_1) rfl rfl k) ?_
  refine Rest.via (fun t k => XS.aconstNull X0.here hx rfl (hb hby d25_2) k) ?_
  show Rest p.tables e below s _ _ _ (s₁.setTop (mkF m 3 #[.val (.ref a0), .val (.ref a1)] [.null, (.ref a1), (.ref a0)]))
  obtain ⟨_, _, ⟨T1, L1, k1, n1⟩, -, X1, ⟨Lc1, hQ1, l1, y1, z1⟩, st1⟩ := X0.specialBack hx (y := (⟨"java/lang/String", "<init>", "(Ljava/lang/AbstractStringBuilder;Ljava/lang/Void;)V"⟩ : MethodName)) rfl hown (mvT hZ (own_W hw 170 rfl)) (mvT hZ (own_W hw 171 rfl)) (mvT hZ (own_W hw 172 rfl)) (by decide) (backOf (W := 0) (rmSIV l Z aw hw [] a0 a1 bv kb cn xs ic h0 n0 (Nat.le_trans Z0 (Keep.refl h0 [a0]).1) E_a0 F_v F_c g_a0 B lx hs (O.keep (Keep.refl h0 [a0]) (allS g_a0 all0)) CS) hZ (own_W hw 172 rfl) (own_W hw 6 rfl) (by decide) (by decide)) (g := (mkF m 3 #[.val (.ref a0), .val (.ref a1)] [.null, (.ref a1), (.ref a0)])) rfl (by rw [hml]; rfl) (Steps.refl _) (a := a0) (argsL := [(.ref a1), .null]) (rest := []) (lenOf pd_20 rfl) rfl (by show 2 * 0 + _ ≤ _; exact Nat.le_of_eq rfl) (hb hby d25_3) (fun _ _ => ⟨rfl, eh0, (by decide : 0 + 1 ≤ _), (by decide : 0 + 16 ≤ _)⟩)
  dsimp only [Pt.U, Pt.locs, Pt.cells, Pt.slots] at X1 l1 y1 z1 st1 hQ1
  subst l1 y1 z1
  obtain ⟨h1, e1⟩ : ∃ z, T1.heap = z := ⟨_, rfl⟩
  rw [e1] at hQ1
  obtain ⟨rfl, Nq1, Kq1, rq1⟩ := hQ1
  have N1 := Fr.app N0 Nq1
  have K1 : Keep h0 h1 [a0] := (Keep.refl h0 [a0]).trans Kq1 (allS (Or.inl (List.mem_of_getElem? (i := 0) rfl)) all0)
  refine Rest.via (fun t k => st1.trans k) ?_
  show Rest p.tables e below s _ _ _ (T1.setTop (mkF m 6 #[.val (.ref a0), .val (.ref a1)] []))
  refine Rest.ret X1 (v := none) (fun _ => rfl) hlk (fun fs hr => X1.returnOut hx Bd.returns (hb hby d25_6) hr) ?_ (by decide) (by decide)
  rw [e1]
  exact ⟨rfl, N1, K1, rq1⟩
theorem pd_21 : parseMethodDescriptor "(Ljava/lang/StringBuilder;)V" = some ⟨[(.object "java/lang/StringBuilder")], none⟩ := by decide +kernel
theorem d24_0 : decode jdk_67_method_42_code 0 = .ok (.new 18, 3) := by decide +kernel
theorem d24_3 : decode jdk_67_method_42_code 3 = .ok (.dup, 1) := by decide +kernel
theorem d24_4 : decode jdk_67_method_42_code 4 = .ok (.aload_n 0, 1) := by decide +kernel
theorem d24_5 : decode jdk_67_method_42_code 5 = .ok (.invokespecial 137, 3) := by decide +kernel
theorem d24_8 : decode jdk_67_method_42_code 8 = .ok (.areturn, 1) := by decide +kernel
theorem ef_SBT (m : MethodId) (a0 : Addr) : entryFrame m #[(.ref a0)] 1 = mkF m 0 #[.val (.ref a0)] [] := by first | (simp [entryFrame, mkF, argsToLocals, Value.category, maxLocals]; done) | rfl
def QSBT (Z : State) (a0 : Addr) (bv : Addr) (kb : ClassId) (cn : Int32) (xs : List Int32) (ic : Int32) (h0 : Heap) (n0 : Nat) (v : Option Value) (h : Heap) (L : List Loc) : Prop := ∃ t b kc, v = some (.ref t) ∧ Fr n0 L ∧ Keep h0 h [] ∧ h0.size ≤ t ∧ own_St Z h t b kc cn (xs.map Value.int)
set_option maxRecDepth 65536 in
set_option maxHeartbeats 40000000 in
theorem rmSBT (l : Launch) (Z : State) (aw : Array Value) (hw : ∀ d ∈ tables_1, d.before aw Z = true) (ws : List Jvm.Cond) (a0 : Addr) (bv : Addr) (kb : ClassId) (cn : Int32) (xs : List Int32) (ic : Int32) (h0 : Heap) (n0 : Nat) (Z0 : n0 ≤ h0.size) (B : own_SB Z h0 a0 bv kb cn (xs.map Value.int)) (lx : own_ln cn xs) (hs : xs.length < 16) (O : own_Old Z n0 h0) (CS : own_CS Z ic) :
    MetFree l (⟨"java/lang/StringBuilder", "toString", "()Ljava/lang/String;"⟩ : MethodName) (head1 (Jvm.Cond.code (⟨"java/lang/StringBuilder", "toString", "()Ljava/lang/String;"⟩ : MethodName) jdk_67_method_42_code 1 (some (.object "java/lang/String")) :: ws) ({ frames := 5, cells := 2, slots := 20, locals := 101 } : Room)) (fun a U => a = #[(.ref a0)] ∧ Z.Warmed39 U.vm ∧ U.heap = h0) (fun _ _ _ _ _ => True) (fun _ U o U' => ∃ v L, o = .returned v ∧ QSBT Z a0 bv kb cn xs ic h0 n0 v U'.heap L ∧ FrameEnd U o U' L ({ frames := 5, cells := 2, slots := 20, locals := 101 } : Room).cells ({ frames := 5, cells := 2, slots := 20, locals := 101 } : Room).slots) := by
  refine MetFree.of_bodySF (plainFor_of_name pn_4) hisR ?_
  intro p e s m args below meth c s₁ Bd hml0 hP hK
  obtain ⟨rfl, hZ, hh⟩ := hP
  have hx := Bd.exec
  have hby := Bd.bytes
  have hml : c.maxLocals = 1 := hml0
  have hown : s.vm.findClass "java/lang/StringBuilder" = some m.cls := findClass_of_methodNamed Bd.named
  have hnm := (name_of_methodNamed Bd.named Bd.method).1
  have hlk : meth.locks = false := BodyLoose.notSynchronized Bd
  have X0 : Stand p l e ({ frames := 5, cells := 2, slots := 20, locals := 101 } : Room) s m #[(.ref a0)] below meth c s₁ [] 0 0 := Stand.of_body Bd
  have _u := trivial
  have eh0 : s₁.heap = h0 := by rw [← hh, Bd.state]; rfl
  have N0 := Fr.nil n0
  show Rest p.tables e below s (QSBT Z a0 bv kb cn xs ic h0 n0) _ _ (s₁.setTop (entryFrame m #[(.ref a0)] 1))
  refine Rest.via (fun t k => castTop (ef_SBT m a0) k) ?_
  obtain ⟨E_a0, Fv_a0, Fc_a0, Fn_a0, V_a0⟩ := id B
  have ne_a0_bv : a0 ≠ bv := Exa.neArv E_a0 V_a0 (own_W hw 71 rfl)
  show Rest p.tables e below s _ _ _ (s₁.setTop (mkF m 0 #[.val (.ref a0)] []))
  obtain ⟨T1, h1, X1, e1, E1, A1, D1, -, st1⟩ := newO X0 hx hZ hown (own_W hw 166 rfl) (own_W hw 5 rfl) (own_W hw 6 rfl) eh0 (g := (mkF m 0 #[.val (.ref a0)] [])) rfl (hb hby d24_0) (by decide) (by decide)
  obtain ⟨b1, gq1⟩ : ∃ z, z = h0.size := ⟨_, rfl⟩
  rw [← gq1] at A1 D1 st1
  have sz_b1 : h0.size ≤ b1 := Nat.le_trans (Keep.refl h0 []).1 (Nat.le_of_eq gq1.symm)
  have g_b1 : n0 ≤ b1 := Nat.le_trans Z0 sz_b1
  have ne_a0_b1 : a0 ≠ b1 := Nat.ne_of_lt (Nat.lt_of_lt_of_le E_a0.lt (Nat.le_of_eq gq1.symm))
  have ne_bv_b1 : bv ≠ b1 := Nat.ne_of_lt (Nat.lt_of_lt_of_le V_a0.lt (Nat.le_of_eq gq1.symm))
  have K1 : Keep h0 h1 [] := (Keep.refl h0 []).ext E1
  have E_b1 := A1
  have F_value_b1 : Fld Z h1 b1 "java/lang/String" "value" "[B" .null := D1 (Or.inr (own_W hw 20 rfl)) (ty := (.array .byte)) (by decide)
  have F_coder_b1 : Fld Z h1 b1 "java/lang/String" "coder" "B" (.int (0 : Int32)) := D1 (Or.inr (own_W hw 21 rfl)) (ty := .byte) (by decide)
  refine Rest.via (fun t k => st1 t k) ?_
  show Rest p.tables e below s _ _ _ (T1.setTop (mkF m 3 #[.val (.ref a0)] [(.ref b1)]))
  refine Rest.via (fun t k => XS.dup X1.here hx rfl (hb hby d24_3) rfl rfl k) ?_
  refine Rest.via (fun t k => XS.aloadN X1.here hx rfl (hb hby d24_4) rfl rfl k) ?_
  show Rest p.tables e below s _ _ _ (T1.setTop (mkF m 5 #[.val (.ref a0)] [(.ref a0), (.ref b1), (.ref b1)]))
  obtain ⟨_, _, ⟨T2, L2, k2, n2⟩, -, X2, ⟨Lc2, hQ2, l2, y2, z2⟩, st2⟩ := X1.specialBack hx (y := (⟨"java/lang/String", "<init>", "(Ljava/lang/StringBuilder;)V"⟩ : MethodName)) rfl hown (mvT hZ (own_W hw 167 rfl)) (mvT hZ (own_W hw 168 rfl)) (mvT hZ (own_W hw 169 rfl)) (by decide) (backOf (W := 1) (rmSIB l Z aw hw [] b1 a0 bv kb cn xs ic h1 n0 (Nat.le_trans Z0 K1.1) E_b1 F_value_b1 F_coder_b1 g_b1 (own_SB_keep B ((Keep.refl _ []).ext E1) nin0 nin0) lx hs (O.keep K1 all0) CS) hZ (own_W hw 169 rfl) (own_W hw 6 rfl) (by decide) (by decide)) (g := (mkF m 5 #[.val (.ref a0)] [(.ref a0), (.ref b1), (.ref b1)])) rfl (by rw [hml]; rfl) (Steps.refl _) (a := b1) (argsL := [(.ref a0)]) (rest := [(.ref b1)]) (lenOf pd_21 rfl) rfl (by show 2 * 0 + _ ≤ _; exact Nat.le_of_eq rfl) (hb hby d24_5) (fun _ _ => ⟨rfl, e1, (by decide : 1 + 1 ≤ _), (by decide : 4 + 16 ≤ _)⟩)
  dsimp only [Pt.U, Pt.locs, Pt.cells, Pt.slots] at X2 l2 y2 z2 st2 hQ2
  subst l2 y2 z2
  obtain ⟨h2, e2⟩ : ∃ z, T2.heap = z := ⟨_, rfl⟩
  rw [e2] at hQ2
  obtain ⟨rfl, Nq2, Kq2, rq2⟩ := hQ2
  have N2 := Fr.app N0 Nq2
  have K2 : Keep h0 h2 [] := K1.trans Kq2 (allS (Or.inr sz_b1) all0)
  refine Rest.via (fun t k => st2.trans k) ?_
  show Rest p.tables e below s _ _ _ (T2.setTop (mkF m 8 #[.val (.ref a0)] [(.ref b1)]))
  refine Rest.ret X2 (v := some (.ref b1)) (fun h => by rw [Bd.returns] at h; cases h) hlk (fun fs hr => retOut X2 hx Bd.returns rfl (Or.inr (Or.inr (Or.inr (Or.inr ⟨rfl, rfl, rfl⟩)))) (hb hby d24_8) hr) ?_ (by decide) (by decide)
  rw [e2]
  obtain ⟨b, kc, S⟩ := rq2; exact ⟨b1, b, kc, rfl, N2, K2, sz_b1, S⟩
theorem d6_0 : decode jdk_30_method_1_code 0 = .ok (.aload_n 0, 1) := by decide +kernel
theorem d6_1 : decode jdk_30_method_1_code 1 = .ok (.invokespecial 1, 3) := by decide +kernel
theorem d6_4 : decode jdk_30_method_1_code 4 = .ok (.return_, 1) := by decide +kernel
theorem pn_7 : plainName "java/lang/Record" = true := by first | (simp [plainName, overriddenIn]; done) | decide +kernel
theorem ef_RI (m : MethodId) (a0 : Addr) : entryFrame m #[(.ref a0)] 1 = mkF m 0 #[.val (.ref a0)] [] := by first | (simp [entryFrame, mkF, argsToLocals, Value.category, maxLocals]; done) | rfl
def QRI (Z : State) (a0 : Addr) (h0 : Heap) (n0 : Nat) (v : Option Value) (h : Heap) (L : List Loc) : Prop := v = none ∧ Fr n0 L ∧ h = h0 ∧ L = []
set_option maxRecDepth 65536 in
set_option maxHeartbeats 40000000 in
theorem rmRI (l : Launch) (Z : State) (aw : Array Value) (hw : ∀ d ∈ tables_1, d.before aw Z = true) (ws : List Jvm.Cond) (a0 : Addr) (h0 : Heap) (n0 : Nat) (Z0 : n0 ≤ h0.size)  :
    MetFree l (⟨"java/lang/Record", "<init>", "()V"⟩ : MethodName) (head1 (Jvm.Cond.code (⟨"java/lang/Record", "<init>", "()V"⟩ : MethodName) jdk_30_method_1_code 1 none :: ws) ({ frames := 1, cells := 0, slots := 0, locals := 12 } : Room)) (fun a U => a = #[(.ref a0)] ∧ Z.Warmed39 U.vm ∧ U.heap = h0) (fun _ _ _ _ _ => True) (fun _ U o U' => ∃ v L, o = .returned v ∧ QRI Z a0 h0 n0 v U'.heap L ∧ FrameEnd U o U' L ({ frames := 1, cells := 0, slots := 0, locals := 12 } : Room).cells ({ frames := 1, cells := 0, slots := 0, locals := 12 } : Room).slots) := by
  refine MetFree.of_bodySF (plainFor_of_name pn_7) hisR ?_
  intro p e s m args below meth c s₁ Bd hml0 hP hK
  obtain ⟨rfl, hZ, hh⟩ := hP
  have hx := Bd.exec
  have hby := Bd.bytes
  have hml : c.maxLocals = 1 := hml0
  have hown : s.vm.findClass "java/lang/Record" = some m.cls := findClass_of_methodNamed Bd.named
  have hnm := (name_of_methodNamed Bd.named Bd.method).1
  have hlk : meth.locks = false := BodyLoose.notSynchronized Bd
  have X0 : Stand p l e ({ frames := 1, cells := 0, slots := 0, locals := 12 } : Room) s m #[(.ref a0)] below meth c s₁ [] 0 0 := Stand.of_body Bd
  have _u := trivial
  have eh0 : s₁.heap = h0 := by rw [← hh, Bd.state]; rfl
  have N0 := Fr.nil n0
  show Rest p.tables e below s (QRI Z a0 h0 n0) _ _ (s₁.setTop (entryFrame m #[(.ref a0)] 1))
  refine Rest.via (fun t k => castTop (ef_RI m a0) k) ?_
  show Rest p.tables e below s _ _ _ (s₁.setTop (mkF m 0 #[.val (.ref a0)] []))
  refine Rest.via (fun t k => XS.aloadN X0.here hx rfl (hb hby d6_0) rfl rfl k) ?_
  show Rest p.tables e below s _ _ _ (s₁.setTop (mkF m 1 #[.val (.ref a0)] [(.ref a0)]))
  obtain ⟨T1, X1, e1, st1⟩ := initO X0 hx hZ hown (own_W hw 42 rfl) (own_W hw 16 rfl) (own_W hw 17 rfl) eh0 (g := (mkF m 1 #[.val (.ref a0)] [(.ref a0)])) rfl (by rw [hml]; rfl) rfl (hb hby d6_1) (by decide) (W := 0) (by show 2 * 0 + _ ≤ _; exact Nat.le_of_eq rfl) (by decide)
  refine Rest.via (fun t k => st1 t k) ?_
  show Rest p.tables e below s _ _ _ (T1.setTop (mkF m 4 #[.val (.ref a0)] []))
  refine Rest.ret X1 (v := none) (fun _ => rfl) hlk (fun fs hr => X1.returnOut hx Bd.returns (hb hby d6_4) hr) ?_ (by decide) (by decide)
  rw [e1]
  exact ⟨rfl, N0, rfl, rfl⟩
theorem d7_0 : decode jdk_31_method_11_code 0 = .ok (.aload_n 0, 1) := by decide +kernel
theorem d7_1 : decode jdk_31_method_11_code 1 = .ok (.ifnonnull 12, 3) := by decide +kernel
theorem d7_13 : decode jdk_31_method_11_code 13 = .ok (.aload_n 0, 1) := by decide +kernel
theorem d7_14 : decode jdk_31_method_11_code 14 = .ok (.areturn, 1) := by decide +kernel
theorem pn_8 : plainName "java/util/Objects" = true := by first | (simp [plainName, overriddenIn]; done) | decide +kernel
theorem ef_RN (m : MethodId) (a0 : Addr) (a1 : Addr) : entryFrame m #[(.ref a0), (.ref a1)] 2 = mkF m 0 #[.val (.ref a0), .val (.ref a1)] [] := by first | (simp [entryFrame, mkF, argsToLocals, Value.category, maxLocals]; done) | rfl
def QRN (Z : State) (a0 : Addr) (a1 : Addr) (h0 : Heap) (n0 : Nat) (v : Option Value) (h : Heap) (L : List Loc) : Prop := v = some (.ref a0) ∧ Fr n0 L ∧ h = h0 ∧ L = []
set_option maxRecDepth 65536 in
set_option maxHeartbeats 40000000 in
theorem rmRN (l : Launch) (Z : State) (aw : Array Value) (hw : ∀ d ∈ tables_1, d.before aw Z = true) (ws : List Jvm.Cond) (a0 : Addr) (a1 : Addr) (h0 : Heap) (n0 : Nat) (Z0 : n0 ≤ h0.size)  :
    MetFree l (⟨"java/util/Objects", "requireNonNull", "(Ljava/lang/Object;Ljava/lang/String;)Ljava/lang/Object;"⟩ : MethodName) (head1 (Jvm.Cond.code (⟨"java/util/Objects", "requireNonNull", "(Ljava/lang/Object;Ljava/lang/String;)Ljava/lang/Object;"⟩ : MethodName) jdk_31_method_11_code 2 (some (.object "java/lang/Object")) :: ws) ({ frames := 0, cells := 0, slots := 0, locals := 0 } : Room)) (fun a U => a = #[(.ref a0), (.ref a1)] ∧ Z.Warmed39 U.vm ∧ U.heap = h0) (fun _ _ _ _ _ => True) (fun _ U o U' => ∃ v L, o = .returned v ∧ QRN Z a0 a1 h0 n0 v U'.heap L ∧ FrameEnd U o U' L ({ frames := 0, cells := 0, slots := 0, locals := 0 } : Room).cells ({ frames := 0, cells := 0, slots := 0, locals := 0 } : Room).slots) := by
  refine MetFree.of_bodySF (plainFor_of_name pn_8) hisR ?_
  intro p e s m args below meth c s₁ Bd hml0 hP hK
  obtain ⟨rfl, hZ, hh⟩ := hP
  have hx := Bd.exec
  have hby := Bd.bytes
  have hml : c.maxLocals = 2 := hml0
  have hown : s.vm.findClass "java/util/Objects" = some m.cls := findClass_of_methodNamed Bd.named
  have hnm := (name_of_methodNamed Bd.named Bd.method).1
  have hlk : meth.locks = false := BodyLoose.notSynchronized Bd
  have X0 : Stand p l e ({ frames := 0, cells := 0, slots := 0, locals := 0 } : Room) s m #[(.ref a0), (.ref a1)] below meth c s₁ [] 0 0 := Stand.of_body Bd
  have _u := trivial
  have eh0 : s₁.heap = h0 := by rw [← hh, Bd.state]; rfl
  have N0 := Fr.nil n0
  show Rest p.tables e below s (QRN Z a0 a1 h0 n0) _ _ (s₁.setTop (entryFrame m #[(.ref a0), (.ref a1)] 2))
  refine Rest.via (fun t k => castTop (ef_RN m a0 a1) k) ?_
  show Rest p.tables e below s _ _ _ (s₁.setTop (mkF m 0 #[.val (.ref a0), .val (.ref a1)] []))
  refine Rest.via (fun t k => XS.aloadN X0.here hx rfl (hb hby d7_0) rfl rfl k) ?_
  refine Rest.via (fun t k => XS.ifnonnullYes X0.here hx rfl (pc0 := 1) (pc' := 13) rfl (hb hby d7_1) rfl (by decide) (by decide) k) ?_
  show Rest p.tables e below s _ _ _ (s₁.setTop (mkF m 13 #[.val (.ref a0), .val (.ref a1)] []))
  refine Rest.via (fun t k => XS.aloadN X0.here hx rfl (hb hby d7_13) rfl rfl k) ?_
  refine Rest.ret X0 (v := some (.ref a0)) (fun h => by rw [Bd.returns] at h; cases h) hlk (fun fs hr => retOut X0 hx Bd.returns rfl (Or.inr (Or.inr (Or.inr (Or.inr ⟨rfl, rfl, rfl⟩)))) (hb hby d7_14) hr) ?_ (by decide) (by decide)
  rw [eh0]
  exact ⟨rfl, N0, rfl, rfl⟩
theorem pd_22 : parseMethodDescriptor "()V" = some ⟨[], none⟩ := by decide +kernel
theorem pd_23 : parseMethodDescriptor "(Ljava/lang/Object;Ljava/lang/String;)Ljava/lang/Object;" = some ⟨[(.object "java/lang/Object"), (.object "java/lang/String")], some (.object "java/lang/Object")⟩ := by decide +kernel
theorem d5_0 : decode prog_4_method_1_code 0 = .ok (.aload_n 0, 1) := by decide +kernel
theorem d5_1 : decode prog_4_method_1_code 1 = .ok (.invokespecial 1, 3) := by decide +kernel
theorem d5_4 : decode prog_4_method_1_code 4 = .ok (.aload_n 1, 1) := by decide +kernel
theorem d5_5 : decode prog_4_method_1_code 5 = .ok (.ldc 7, 2) := by decide +kernel
theorem d5_7 : decode prog_4_method_1_code 7 = .ok (.invokestatic 9, 3) := by decide +kernel
theorem d5_10 : decode prog_4_method_1_code 10 = .ok (.pop, 1) := by decide +kernel
theorem d5_11 : decode prog_4_method_1_code 11 = .ok (.aload_n 2, 1) := by decide +kernel
theorem d5_12 : decode prog_4_method_1_code 12 = .ok (.ldc 15, 2) := by decide +kernel
theorem d5_14 : decode prog_4_method_1_code 14 = .ok (.invokestatic 9, 3) := by decide +kernel
theorem d5_17 : decode prog_4_method_1_code 17 = .ok (.pop, 1) := by decide +kernel
theorem d5_18 : decode prog_4_method_1_code 18 = .ok (.aload 4, 2) := by decide +kernel
theorem d5_20 : decode prog_4_method_1_code 20 = .ok (.ldc 17, 2) := by decide +kernel
theorem d5_22 : decode prog_4_method_1_code 22 = .ok (.invokestatic 9, 3) := by decide +kernel
theorem d5_25 : decode prog_4_method_1_code 25 = .ok (.pop, 1) := by decide +kernel
theorem d5_26 : decode prog_4_method_1_code 26 = .ok (.aload 5, 2) := by decide +kernel
theorem d5_28 : decode prog_4_method_1_code 28 = .ok (.ldc 19, 2) := by decide +kernel
theorem d5_30 : decode prog_4_method_1_code 30 = .ok (.invokestatic 9, 3) := by decide +kernel
theorem d5_33 : decode prog_4_method_1_code 33 = .ok (.pop, 1) := by decide +kernel
theorem d5_34 : decode prog_4_method_1_code 34 = .ok (.aload 6, 2) := by decide +kernel
theorem d5_36 : decode prog_4_method_1_code 36 = .ok (.ldc 21, 2) := by decide +kernel
theorem d5_38 : decode prog_4_method_1_code 38 = .ok (.invokestatic 9, 3) := by decide +kernel
theorem d5_41 : decode prog_4_method_1_code 41 = .ok (.pop, 1) := by decide +kernel
theorem d5_42 : decode prog_4_method_1_code 42 = .ok (.iload_n 3, 1) := by decide +kernel
theorem d5_43 : decode prog_4_method_1_code 43 = .ok (.iconst 1, 1) := by decide +kernel
theorem d5_44 : decode prog_4_method_1_code 44 = .ok (.if_icmp .lt 9, 3) := by decide +kernel
theorem d5_47 : decode prog_4_method_1_code 47 = .ok (.iload_n 3, 1) := by decide +kernel
theorem d5_48 : decode prog_4_method_1_code 48 = .ok (.ldc 23, 2) := by decide +kernel
theorem d5_50 : decode prog_4_method_1_code 50 = .ok (.if_icmp .le 30, 3) := by decide +kernel
theorem d5_80 : decode prog_4_method_1_code 80 = .ok (.aload_n 0, 1) := by decide +kernel
theorem d5_81 : decode prog_4_method_1_code 81 = .ok (.aload_n 1, 1) := by decide +kernel
theorem d5_82 : decode prog_4_method_1_code 82 = .ok (.putfield 45, 3) := by decide +kernel
theorem d5_85 : decode prog_4_method_1_code 85 = .ok (.aload_n 0, 1) := by decide +kernel
theorem d5_86 : decode prog_4_method_1_code 86 = .ok (.aload_n 2, 1) := by decide +kernel
theorem d5_87 : decode prog_4_method_1_code 87 = .ok (.putfield 50, 3) := by decide +kernel
theorem d5_90 : decode prog_4_method_1_code 90 = .ok (.aload_n 0, 1) := by decide +kernel
theorem d5_91 : decode prog_4_method_1_code 91 = .ok (.iload_n 3, 1) := by decide +kernel
theorem d5_92 : decode prog_4_method_1_code 92 = .ok (.putfield 53, 3) := by decide +kernel
theorem d5_95 : decode prog_4_method_1_code 95 = .ok (.aload_n 0, 1) := by decide +kernel
theorem d5_96 : decode prog_4_method_1_code 96 = .ok (.aload 4, 2) := by decide +kernel
theorem d5_98 : decode prog_4_method_1_code 98 = .ok (.putfield 57, 3) := by decide +kernel
theorem d5_101 : decode prog_4_method_1_code 101 = .ok (.aload_n 0, 1) := by decide +kernel
theorem d5_102 : decode prog_4_method_1_code 102 = .ok (.aload 5, 2) := by decide +kernel
theorem d5_104 : decode prog_4_method_1_code 104 = .ok (.putfield 59, 3) := by decide +kernel
theorem d5_107 : decode prog_4_method_1_code 107 = .ok (.aload_n 0, 1) := by decide +kernel
theorem d5_108 : decode prog_4_method_1_code 108 = .ok (.aload 6, 2) := by decide +kernel
theorem d5_110 : decode prog_4_method_1_code 110 = .ok (.putfield 61, 3) := by decide +kernel
theorem d5_113 : decode prog_4_method_1_code 113 = .ok (.return_, 1) := by decide +kernel
theorem pn_9 : plainName "com/example/zapros/zapros/io/sql/SqlDatabase" = true := by first | (simp [plainName, overriddenIn]; done) | decide +kernel
theorem ef_DI (m : MethodId) (a0 : Addr) (a1 : Addr) (a2 : Addr) (p3 : Int32) (a4 : Addr) (a5 : Addr) (a6 : Addr) : entryFrame m #[(.ref a0), (.ref a1), (.ref a2), (.int p3), (.ref a4), (.ref a5), (.ref a6)] 7 = mkF m 0 #[.val (.ref a0), .val (.ref a1), .val (.ref a2), .val (.int p3), .val (.ref a4), .val (.ref a5), .val (.ref a6)] [] := by first | (simp [entryFrame, mkF, argsToLocals, Value.category, maxLocals]; done) | rfl
def QDI (Z : State) (a0 : Addr) (a1 : Addr) (a2 : Addr) (p3 : Int32) (a4 : Addr) (a5 : Addr) (a6 : Addr) (h0 : Heap) (n0 : Nat) (v : Option Value) (h : Heap) (L : List Loc) (vm : Vm) : Prop := v = none ∧ Fr n0 L ∧ Keep h0 h [a0] ∧ Exa Z h a0 "com/example/zapros/zapros/io/sql/SqlDatabase" ∧ Fld Z h a0 "com/example/zapros/zapros/io/sql/SqlDatabase" "username" "Ljava/lang/String;" (.ref a5) ∧ Fld Z h a0 "com/example/zapros/zapros/io/sql/SqlDatabase" "host" "Ljava/lang/String;" (.ref a2) ∧ Fld Z h a0 "com/example/zapros/zapros/io/sql/SqlDatabase" "port" "I" (.int p3) ∧ Fld Z h a0 "com/example/zapros/zapros/io/sql/SqlDatabase" "name" "Ljava/lang/String;" (.ref a4) ∧ IB Z vm ["password", "username", "name", "host", "driver", ""]
set_option maxRecDepth 65536 in
set_option maxHeartbeats 40000000 in
theorem rmDI (l : Launch) (Z : State) (aw : Array Value) (hw : ∀ d ∈ tables_1, d.before aw Z = true) (ws : List Jvm.Cond) (a0 : Addr) (a1 : Addr) (a2 : Addr) (p3 : Int32) (a4 : Addr) (a5 : Addr) (a6 : Addr) (h0 : Heap) (n0 : Nat) (Z0 : n0 ≤ h0.size) (E_a0 : Exa Z h0 a0 "com/example/zapros/zapros/io/sql/SqlDatabase") (Fd : Fld Z h0 a0 "com/example/zapros/zapros/io/sql/SqlDatabase" "driver" "Lcom/example/zapros/zapros/io/sql/SqlDatabase$Driver;" .null) (Fh : Fld Z h0 a0 "com/example/zapros/zapros/io/sql/SqlDatabase" "host" "Ljava/lang/String;" .null) (Fp : Fld Z h0 a0 "com/example/zapros/zapros/io/sql/SqlDatabase" "port" "I" (.int (0 : Int32))) (Fn : Fld Z h0 a0 "com/example/zapros/zapros/io/sql/SqlDatabase" "name" "Ljava/lang/String;" .null) (Fu : Fld Z h0 a0 "com/example/zapros/zapros/io/sql/SqlDatabase" "username" "Ljava/lang/String;" .null) (Fw : Fld Z h0 a0 "com/example/zapros/zapros/io/sql/SqlDatabase" "password" "Ljava/lang/String;" .null) (g_a0 : n0 ≤ a0) (hp : own_pt p3) (O : own_Old Z n0 h0) (hcw : Jvm.Lit.compactW.before aw Z = true) (H7 : Jvm.Lit.constHeld Z "com/example/zapros/zapros/io/sql/SqlDatabase" 7) (H15 : Jvm.Lit.constHeld Z "com/example/zapros/zapros/io/sql/SqlDatabase" 15) (H17 : Jvm.Lit.constHeld Z "com/example/zapros/zapros/io/sql/SqlDatabase" 17) (H19 : Jvm.Lit.constHeld Z "com/example/zapros/zapros/io/sql/SqlDatabase" 19) (H21 : Jvm.Lit.constHeld Z "com/example/zapros/zapros/io/sql/SqlDatabase" 21) :
    MetFree l (⟨"com/example/zapros/zapros/io/sql/SqlDatabase", "<init>", "(Lcom/example/zapros/zapros/io/sql/SqlDatabase$Driver;Ljava/lang/String;ILjava/lang/String;Ljava/lang/String;Ljava/lang/String;)V"⟩ : MethodName) (head1 (Jvm.Cond.code (⟨"com/example/zapros/zapros/io/sql/SqlDatabase", "<init>", "(Lcom/example/zapros/zapros/io/sql/SqlDatabase$Driver;Ljava/lang/String;ILjava/lang/String;Ljava/lang/String;Ljava/lang/String;)V"⟩ : MethodName) prog_4_method_1_code 7 none :: ws) ({ frames := 2, cells := 10, slots := 140, locals := 24 } : Room)) (fun a U => a = #[(.ref a0), (.ref a1), (.ref a2), (.int p3), (.ref a4), (.ref a5), (.ref a6)] ∧ Z.Warmed39 U.vm ∧ U.heap = h0 ∧ (fun vm => IB Z vm [""]) U.vm) (fun _ _ _ _ _ => True) (fun _ U o U' => ∃ v L, o = .returned v ∧ QDI Z a0 a1 a2 p3 a4 a5 a6 h0 n0 v U'.heap L U'.vm ∧ ReturnedEndW U o U' L ({ frames := 2, cells := 10, slots := 140, locals := 24 } : Room).cells ({ frames := 2, cells := 10, slots := 140, locals := 24 } : Room).slots) := by
  refine MetFree.of_bodySF (plainFor_of_name pn_9) hisR ?_
  intro p e s m args below meth c s₁ Bd hml0 hP hK
  obtain ⟨rfl, hZ, hh, hVP⟩ := hP
  have hx := Bd.exec
  have hby := Bd.bytes
  have hml : c.maxLocals = 7 := hml0
  have hown : s.vm.findClass "com/example/zapros/zapros/io/sql/SqlDatabase" = some m.cls := findClass_of_methodNamed Bd.named
  have hnm := (name_of_methodNamed Bd.named Bd.method).1
  have hlk : meth.locks = false := BodyLoose.notSynchronized Bd
  have X0 : Stand p l e ({ frames := 2, cells := 10, slots := 140, locals := 24 } : Room) (s.setVm s.vm) m #[(.ref a0), (.ref a1), (.ref a2), (.int p3), (.ref a4), (.ref a5), (.ref a6)] below meth c s₁ [] 0 0 := Stand.of_body Bd
  have hS : s.Since s.vm h0.size := (State.WarmedH.refl s).since _
  have eh0 : s₁.heap = h0 := by rw [← hh, Bd.state]; rfl
  have N0 := Fr.nil n0
  show RestW p.tables e below s (QDI Z a0 a1 a2 p3 a4 a5 a6 h0 n0) _ _ (s₁.setTop (entryFrame m #[(.ref a0), (.ref a1), (.ref a2), (.int p3), (.ref a4), (.ref a5), (.ref a6)] 7))
  refine RestW.via (fun t k => castTop (ef_DI m a0 a1 a2 p3 a4 a5 a6) k) ?_
  have I := hVP
  show RestW p.tables e below s _ _ _ (s₁.setTop (mkF m 0 #[.val (.ref a0), .val (.ref a1), .val (.ref a2), .val (.int p3), .val (.ref a4), .val (.ref a5), .val (.ref a6)] []))
  refine RestW.via (fun t k => XS.aloadN X0.here hx rfl (hb hby d5_0) rfl rfl k) ?_
  show RestW p.tables e below s _ _ _ (s₁.setTop (mkF m 1 #[.val (.ref a0), .val (.ref a1), .val (.ref a2), .val (.int p3), .val (.ref a4), .val (.ref a5), .val (.ref a6)] [(.ref a0)]))
  obtain ⟨_, _, ⟨T1, L1, k1, n1⟩, -, X1, ⟨Lc1, hQ1, l1, y1, z1⟩, st1⟩ := X0.specialBack hx (y := (⟨"java/lang/Record", "<init>", "()V"⟩ : MethodName)) rfl hown (mvT hZ (own_W hw 37 rfl)) (mvT hZ (own_W hw 38 rfl)) (mvT hZ (own_W hw 41 rfl)) (by decide) (backOf (W := 0) (rmRI l Z aw hw [] a0  h0 n0 (Nat.le_trans Z0 (Keep.refl h0 [a0]).1) ) hZ (own_W hw 41 rfl) (own_W hw 40 rfl) (by decide) (by decide)) (g := (mkF m 1 #[.val (.ref a0), .val (.ref a1), .val (.ref a2), .val (.int p3), .val (.ref a4), .val (.ref a5), .val (.ref a6)] [(.ref a0)])) rfl (by rw [hml]; rfl) (Steps.refl _) (a := a0) (argsL := []) (rest := []) (lenOf pd_22 rfl) rfl (by show 2 * 0 + _ ≤ _; exact Nat.le_of_eq rfl) (hb hby d5_1) (fun _ _ => ⟨rfl, eh0, (by decide : 0 + 0 ≤ _), (by decide : 0 + 0 ≤ _)⟩)
  dsimp only [Pt.U, Pt.locs, Pt.cells, Pt.slots] at X1 l1 y1 z1 st1 hQ1
  subst l1 y1 z1
  obtain ⟨h1, e1⟩ : ∃ z, T1.heap = z := ⟨_, rfl⟩
  rw [e1] at hQ1
  obtain ⟨rfl, Nq1, hq1, hl1⟩ := hQ1
  subst hl1
  have N1 := Fr.app N0 Nq1
  have Kq1 : Keep h0 h1 [] := by rw [hq1]; exact Keep.refl _ _
  have K1 : Keep h0 h1 [a0] := (Keep.refl h0 [a0]).trans Kq1 all0
  refine RestW.via (fun t k => st1.trans k) ?_
  show RestW p.tables e below s _ _ _ (T1.setTop (mkF m 4 #[.val (.ref a0), .val (.ref a1), .val (.ref a2), .val (.int p3), .val (.ref a4), .val (.ref a5), .val (.ref a6)] []))
  refine RestW.via (fun t k => XS.aloadN X1.here hx rfl (hb hby d5_4) rfl rfl k) ?_
  show RestW p.tables e below s _ _ _ (T1.setTop (mkF m 5 #[.val (.ref a0), .val (.ref a1), .val (.ref a2), .val (.int p3), .val (.ref a4), .val (.ref a5), .val (.ref a6)] [(.ref a1)]))
  obtain ⟨sa2, T2, h2, kk2, sb2, kb2, X2, e2, E2, hS, hk2, hZ, hown, Ea2, Fc2, Fv2, Vb2, la2, lb2, I, Li2, st2⟩ := ldcSVL (s := s) (vm0 := s.vm) X1 hx hZ hown (own_W hw 43 rfl) (own_wS hw) e1 hS (Nat.le_trans (Nat.le_refl _) Kq1.1) (by rw [hh]; exact (Fr.nil _)) (fun b cl q => by rw [hh]; exact O.2.2 b cl q) I (by simp) H7 hcw (vs := [(.int (100 : Int32)), (.int (114 : Int32)), (.int (105 : Int32)), (.int (118 : Int32)), (.int (101 : Int32)), (.int (114 : Int32))]) (z := (6 : Int32)) (by decide) (by decide) rfl (g := (mkF m 5 #[.val (.ref a0), .val (.ref a1), .val (.ref a2), .val (.int p3), .val (.ref a4), .val (.ref a5), .val (.ref a6)] [(.ref a1)])) rfl (hb hby d5_5) (n := 24) (by decide) (by decide) (by decide) (by decide)
  refine RestW.via (fun t k => st2 t k) ?_
  have K2 : Keep h0 h2 [a0] := K1.ext E2
  show RestW p.tables e below s _ _ _ (T2.setTop (mkF m 7 #[.val (.ref a0), .val (.ref a1), .val (.ref a2), .val (.int p3), .val (.ref a4), .val (.ref a5), .val (.ref a6)] [(.ref sa2), (.ref a1)]))
  obtain ⟨_, _, ⟨T3, L3, k3, n3⟩, -, X3, ⟨Lc3, hQ3, l3, y3, z3⟩, st3⟩ := Jvm.LawKit.callS X2 hx (y := (⟨"java/util/Objects", "requireNonNull", "(Ljava/lang/Object;Ljava/lang/String;)Ljava/lang/Object;"⟩ : MethodName)) hown (mvT hZ (own_W hw 44 rfl)) (mvT hZ (own_W hw 45 rfl)) (mvT hZ (own_W hw 46 rfl)) (mvT hZ (own_W hw 47 rfl)) (by decide) (backOf (W := 0) (rmRN l Z aw hw [] a1 sa2  h2 n0 (Nat.le_trans Z0 K2.1) ) hZ (own_W hw 47 rfl) (own_W hw 46 rfl) (by decide) (by decide)) (g := (mkF m 7 #[.val (.ref a0), .val (.ref a1), .val (.ref a2), .val (.int p3), .val (.ref a4), .val (.ref a5), .val (.ref a6)] [(.ref sa2), (.ref a1)])) rfl (by rw [hml]; rfl) (argsL := [(.ref a1), (.ref sa2)]) (rest := []) (lenOf pd_23 rfl) rfl (by show 2 * 0 + _ ≤ _; exact Nat.le_of_eq rfl) (hb hby d5_7) (fun _ _ => ⟨rfl, e2, (by decide : 2 + 0 ≤ _), (by decide : 28 + 0 ≤ _)⟩)
  dsimp only [Pt.U, Pt.locs, Pt.cells, Pt.slots] at X3 l3 y3 z3 st3 hQ3
  subst l3 y3 z3
  obtain ⟨h3, e3⟩ : ∃ z, T3.heap = z := ⟨_, rfl⟩
  rw [e3] at hQ3
  obtain ⟨rfl, Nq3, hq3, hl3⟩ := hQ3
  subst hl3
  have N3 := Fr.app N1 Nq3
  have Kq3 : Keep h2 h3 [] := by rw [hq3]; exact Keep.refl _ _
  have K3 : Keep h0 h3 [a0] := K2.trans Kq3 all0
  refine RestW.via (fun t k => st3 t k) ?_
  show RestW p.tables e below s _ _ _ (T3.setTop (mkF m 10 #[.val (.ref a0), .val (.ref a1), .val (.ref a2), .val (.int p3), .val (.ref a4), .val (.ref a5), .val (.ref a6)] [(.ref a1)]))
  refine RestW.via (fun t k => XS.pop X3.here hx rfl (hb hby d5_10) rfl rfl k) ?_
  refine RestW.via (fun t k => XS.aloadN X3.here hx rfl (hb hby d5_11) rfl rfl k) ?_
  show RestW p.tables e below s _ _ _ (T3.setTop (mkF m 12 #[.val (.ref a0), .val (.ref a1), .val (.ref a2), .val (.int p3), .val (.ref a4), .val (.ref a5), .val (.ref a6)] [(.ref a2)]))
  obtain ⟨sa4, T4, h4, kk4, sb4, kb4, X4, e4, E4, hS, hk4, hZ, hown, Ea4, Fc4, Fv4, Vb4, la4, lb4, I, Li4, st4⟩ := ldcSVL (s := s) (vm0 := T2.vm) X3 hx hZ hown (own_W hw 48 rfl) (own_wS hw) e3 hS (Nat.le_trans hk2 Kq3.1) (by rw [hh]; exact (Fr.nil _)) (fun b cl q => by rw [hh]; exact O.2.2 b cl q) I (by simp) H15 hcw (vs := [(.int (104 : Int32)), (.int (111 : Int32)), (.int (115 : Int32)), (.int (116 : Int32))]) (z := (4 : Int32)) (by decide) (by decide) rfl (g := (mkF m 12 #[.val (.ref a0), .val (.ref a1), .val (.ref a2), .val (.int p3), .val (.ref a4), .val (.ref a5), .val (.ref a6)] [(.ref a2)])) rfl (hb hby d5_12) (n := 16) (by decide) (by decide) (by decide) (by decide)
  refine RestW.via (fun t k => st4 t k) ?_
  have K4 : Keep h0 h4 [a0] := K3.ext E4
  show RestW p.tables e below s _ _ _ (T4.setTop (mkF m 14 #[.val (.ref a0), .val (.ref a1), .val (.ref a2), .val (.int p3), .val (.ref a4), .val (.ref a5), .val (.ref a6)] [(.ref sa4), (.ref a2)]))
  obtain ⟨_, _, ⟨T5, L5, k5, n5⟩, -, X5, ⟨Lc5, hQ5, l5, y5, z5⟩, st5⟩ := Jvm.LawKit.callS X4 hx (y := (⟨"java/util/Objects", "requireNonNull", "(Ljava/lang/Object;Ljava/lang/String;)Ljava/lang/Object;"⟩ : MethodName)) hown (mvT hZ (own_W hw 44 rfl)) (mvT hZ (own_W hw 45 rfl)) (mvT hZ (own_W hw 46 rfl)) (mvT hZ (own_W hw 47 rfl)) (by decide) (backOf (W := 0) (rmRN l Z aw hw [] a2 sa4  h4 n0 (Nat.le_trans Z0 K4.1) ) hZ (own_W hw 47 rfl) (own_W hw 46 rfl) (by decide) (by decide)) (g := (mkF m 14 #[.val (.ref a0), .val (.ref a1), .val (.ref a2), .val (.int p3), .val (.ref a4), .val (.ref a5), .val (.ref a6)] [(.ref sa4), (.ref a2)])) rfl (by rw [hml]; rfl) (argsL := [(.ref a2), (.ref sa4)]) (rest := []) (lenOf pd_23 rfl) rfl (by show 2 * 0 + _ ≤ _; exact Nat.le_of_eq rfl) (hb hby d5_14) (fun _ _ => ⟨rfl, e4, (by decide : 4 + 0 ≤ _), (by decide : 48 + 0 ≤ _)⟩)
  dsimp only [Pt.U, Pt.locs, Pt.cells, Pt.slots] at X5 l5 y5 z5 st5 hQ5
  subst l5 y5 z5
  obtain ⟨h5, e5⟩ : ∃ z, T5.heap = z := ⟨_, rfl⟩
  rw [e5] at hQ5
  obtain ⟨rfl, Nq5, hq5, hl5⟩ := hQ5
  subst hl5
  have N5 := Fr.app N3 Nq5
  have Kq5 : Keep h4 h5 [] := by rw [hq5]; exact Keep.refl _ _
  have K5 : Keep h0 h5 [a0] := K4.trans Kq5 all0
  refine RestW.via (fun t k => st5 t k) ?_
  show RestW p.tables e below s _ _ _ (T5.setTop (mkF m 17 #[.val (.ref a0), .val (.ref a1), .val (.ref a2), .val (.int p3), .val (.ref a4), .val (.ref a5), .val (.ref a6)] [(.ref a2)]))
  refine RestW.via (fun t k => XS.pop X5.here hx rfl (hb hby d5_17) rfl rfl k) ?_
  refine RestW.via (fun t k => XS.aload X5.here hx rfl (hb hby d5_18) rfl rfl k) ?_
  show RestW p.tables e below s _ _ _ (T5.setTop (mkF m 20 #[.val (.ref a0), .val (.ref a1), .val (.ref a2), .val (.int p3), .val (.ref a4), .val (.ref a5), .val (.ref a6)] [(.ref a4)]))
  obtain ⟨sa6, T6, h6, kk6, sb6, kb6, X6, e6, E6, hS, hk6, hZ, hown, Ea6, Fc6, Fv6, Vb6, la6, lb6, I, Li6, st6⟩ := ldcSVL (s := s) (vm0 := T4.vm) X5 hx hZ hown (own_W hw 49 rfl) (own_wS hw) e5 hS (Nat.le_trans hk4 Kq5.1) (by rw [hh]; exact (Fr.nil _)) (fun b cl q => by rw [hh]; exact O.2.2 b cl q) I (by simp) H17 hcw (vs := [(.int (110 : Int32)), (.int (97 : Int32)), (.int (109 : Int32)), (.int (101 : Int32))]) (z := (4 : Int32)) (by decide) (by decide) rfl (g := (mkF m 20 #[.val (.ref a0), .val (.ref a1), .val (.ref a2), .val (.int p3), .val (.ref a4), .val (.ref a5), .val (.ref a6)] [(.ref a4)])) rfl (hb hby d5_20) (n := 16) (by decide) (by decide) (by decide) (by decide)
  refine RestW.via (fun t k => st6 t k) ?_
  have K6 : Keep h0 h6 [a0] := K5.ext E6
  show RestW p.tables e below s _ _ _ (T6.setTop (mkF m 22 #[.val (.ref a0), .val (.ref a1), .val (.ref a2), .val (.int p3), .val (.ref a4), .val (.ref a5), .val (.ref a6)] [(.ref sa6), (.ref a4)]))
  obtain ⟨_, _, ⟨T7, L7, k7, n7⟩, -, X7, ⟨Lc7, hQ7, l7, y7, z7⟩, st7⟩ := Jvm.LawKit.callS X6 hx (y := (⟨"java/util/Objects", "requireNonNull", "(Ljava/lang/Object;Ljava/lang/String;)Ljava/lang/Object;"⟩ : MethodName)) hown (mvT hZ (own_W hw 44 rfl)) (mvT hZ (own_W hw 45 rfl)) (mvT hZ (own_W hw 46 rfl)) (mvT hZ (own_W hw 47 rfl)) (by decide) (backOf (W := 0) (rmRN l Z aw hw [] a4 sa6  h6 n0 (Nat.le_trans Z0 K6.1) ) hZ (own_W hw 47 rfl) (own_W hw 46 rfl) (by decide) (by decide)) (g := (mkF m 22 #[.val (.ref a0), .val (.ref a1), .val (.ref a2), .val (.int p3), .val (.ref a4), .val (.ref a5), .val (.ref a6)] [(.ref sa6), (.ref a4)])) rfl (by rw [hml]; rfl) (argsL := [(.ref a4), (.ref sa6)]) (rest := []) (lenOf pd_23 rfl) rfl (by show 2 * 0 + _ ≤ _; exact Nat.le_of_eq rfl) (hb hby d5_22) (fun _ _ => ⟨rfl, e6, (by decide : 6 + 0 ≤ _), (by decide : 68 + 0 ≤ _)⟩)
  dsimp only [Pt.U, Pt.locs, Pt.cells, Pt.slots] at X7 l7 y7 z7 st7 hQ7
  subst l7 y7 z7
  obtain ⟨h7, e7⟩ : ∃ z, T7.heap = z := ⟨_, rfl⟩
  rw [e7] at hQ7
  obtain ⟨rfl, Nq7, hq7, hl7⟩ := hQ7
  subst hl7
  have N7 := Fr.app N5 Nq7
  have Kq7 : Keep h6 h7 [] := by rw [hq7]; exact Keep.refl _ _
  have K7 : Keep h0 h7 [a0] := K6.trans Kq7 all0
  refine RestW.via (fun t k => st7 t k) ?_
  show RestW p.tables e below s _ _ _ (T7.setTop (mkF m 25 #[.val (.ref a0), .val (.ref a1), .val (.ref a2), .val (.int p3), .val (.ref a4), .val (.ref a5), .val (.ref a6)] [(.ref a4)]))
  refine RestW.via (fun t k => XS.pop X7.here hx rfl (hb hby d5_25) rfl rfl k) ?_
  refine RestW.via (fun t k => XS.aload X7.here hx rfl (hb hby d5_26) rfl rfl k) ?_
  show RestW p.tables e below s _ _ _ (T7.setTop (mkF m 28 #[.val (.ref a0), .val (.ref a1), .val (.ref a2), .val (.int p3), .val (.ref a4), .val (.ref a5), .val (.ref a6)] [(.ref a5)]))
  obtain ⟨sa8, T8, h8, kk8, sb8, kb8, X8, e8, E8, hS, hk8, hZ, hown, Ea8, Fc8, Fv8, Vb8, la8, lb8, I, Li8, st8⟩ := ldcSVL (s := s) (vm0 := T6.vm) X7 hx hZ hown (own_W hw 50 rfl) (own_wS hw) e7 hS (Nat.le_trans hk6 Kq7.1) (by rw [hh]; exact (Fr.nil _)) (fun b cl q => by rw [hh]; exact O.2.2 b cl q) I (by simp) H19 hcw (vs := [(.int (117 : Int32)), (.int (115 : Int32)), (.int (101 : Int32)), (.int (114 : Int32)), (.int (110 : Int32)), (.int (97 : Int32)), (.int (109 : Int32)), (.int (101 : Int32))]) (z := (8 : Int32)) (by decide) (by decide) rfl (g := (mkF m 28 #[.val (.ref a0), .val (.ref a1), .val (.ref a2), .val (.int p3), .val (.ref a4), .val (.ref a5), .val (.ref a6)] [(.ref a5)])) rfl (hb hby d5_28) (n := 32) (by decide) (by decide) (by decide) (by decide)
  refine RestW.via (fun t k => st8 t k) ?_
  have K8 : Keep h0 h8 [a0] := K7.ext E8
  show RestW p.tables e below s _ _ _ (T8.setTop (mkF m 30 #[.val (.ref a0), .val (.ref a1), .val (.ref a2), .val (.int p3), .val (.ref a4), .val (.ref a5), .val (.ref a6)] [(.ref sa8), (.ref a5)]))
  obtain ⟨_, _, ⟨T9, L9, k9, n9⟩, -, X9, ⟨Lc9, hQ9, l9, y9, z9⟩, st9⟩ := Jvm.LawKit.callS X8 hx (y := (⟨"java/util/Objects", "requireNonNull", "(Ljava/lang/Object;Ljava/lang/String;)Ljava/lang/Object;"⟩ : MethodName)) hown (mvT hZ (own_W hw 44 rfl)) (mvT hZ (own_W hw 45 rfl)) (mvT hZ (own_W hw 46 rfl)) (mvT hZ (own_W hw 47 rfl)) (by decide) (backOf (W := 0) (rmRN l Z aw hw [] a5 sa8  h8 n0 (Nat.le_trans Z0 K8.1) ) hZ (own_W hw 47 rfl) (own_W hw 46 rfl) (by decide) (by decide)) (g := (mkF m 30 #[.val (.ref a0), .val (.ref a1), .val (.ref a2), .val (.int p3), .val (.ref a4), .val (.ref a5), .val (.ref a6)] [(.ref sa8), (.ref a5)])) rfl (by rw [hml]; rfl) (argsL := [(.ref a5), (.ref sa8)]) (rest := []) (lenOf pd_23 rfl) rfl (by show 2 * 0 + _ ≤ _; exact Nat.le_of_eq rfl) (hb hby d5_30) (fun _ _ => ⟨rfl, e8, (by decide : 8 + 0 ≤ _), (by decide : 104 + 0 ≤ _)⟩)
  dsimp only [Pt.U, Pt.locs, Pt.cells, Pt.slots] at X9 l9 y9 z9 st9 hQ9
  subst l9 y9 z9
  obtain ⟨h9, e9⟩ : ∃ z, T9.heap = z := ⟨_, rfl⟩
  rw [e9] at hQ9
  obtain ⟨rfl, Nq9, hq9, hl9⟩ := hQ9
  subst hl9
  have N9 := Fr.app N7 Nq9
  have Kq9 : Keep h8 h9 [] := by rw [hq9]; exact Keep.refl _ _
  have K9 : Keep h0 h9 [a0] := K8.trans Kq9 all0
  refine RestW.via (fun t k => st9 t k) ?_
  show RestW p.tables e below s _ _ _ (T9.setTop (mkF m 33 #[.val (.ref a0), .val (.ref a1), .val (.ref a2), .val (.int p3), .val (.ref a4), .val (.ref a5), .val (.ref a6)] [(.ref a5)]))
  refine RestW.via (fun t k => XS.pop X9.here hx rfl (hb hby d5_33) rfl rfl k) ?_
  refine RestW.via (fun t k => XS.aload X9.here hx rfl (hb hby d5_34) rfl rfl k) ?_
  show RestW p.tables e below s _ _ _ (T9.setTop (mkF m 36 #[.val (.ref a0), .val (.ref a1), .val (.ref a2), .val (.int p3), .val (.ref a4), .val (.ref a5), .val (.ref a6)] [(.ref a6)]))
  obtain ⟨sa10, T10, h10, kk10, sb10, kb10, X10, e10, E10, hS, hk10, hZ, hown, Ea10, Fc10, Fv10, Vb10, la10, lb10, I, Li10, st10⟩ := ldcSVL (s := s) (vm0 := T8.vm) X9 hx hZ hown (own_W hw 51 rfl) (own_wS hw) e9 hS (Nat.le_trans hk8 Kq9.1) (by rw [hh]; exact (Fr.nil _)) (fun b cl q => by rw [hh]; exact O.2.2 b cl q) I (by simp) H21 hcw (vs := [(.int (112 : Int32)), (.int (97 : Int32)), (.int (115 : Int32)), (.int (115 : Int32)), (.int (119 : Int32)), (.int (111 : Int32)), (.int (114 : Int32)), (.int (100 : Int32))]) (z := (8 : Int32)) (by decide) (by decide) rfl (g := (mkF m 36 #[.val (.ref a0), .val (.ref a1), .val (.ref a2), .val (.int p3), .val (.ref a4), .val (.ref a5), .val (.ref a6)] [(.ref a6)])) rfl (hb hby d5_36) (n := 32) (by decide) (by decide) (by decide) (by decide)
  refine RestW.via (fun t k => st10 t k) ?_
  have K10 : Keep h0 h10 [a0] := K9.ext E10
  show RestW p.tables e below s _ _ _ (T10.setTop (mkF m 38 #[.val (.ref a0), .val (.ref a1), .val (.ref a2), .val (.int p3), .val (.ref a4), .val (.ref a5), .val (.ref a6)] [(.ref sa10), (.ref a6)]))
  obtain ⟨_, _, ⟨T11, L11, k11, n11⟩, -, X11, ⟨Lc11, hQ11, l11, y11, z11⟩, st11⟩ := Jvm.LawKit.callS X10 hx (y := (⟨"java/util/Objects", "requireNonNull", "(Ljava/lang/Object;Ljava/lang/String;)Ljava/lang/Object;"⟩ : MethodName)) hown (mvT hZ (own_W hw 44 rfl)) (mvT hZ (own_W hw 45 rfl)) (mvT hZ (own_W hw 46 rfl)) (mvT hZ (own_W hw 47 rfl)) (by decide) (backOf (W := 0) (rmRN l Z aw hw [] a6 sa10  h10 n0 (Nat.le_trans Z0 K10.1) ) hZ (own_W hw 47 rfl) (own_W hw 46 rfl) (by decide) (by decide)) (g := (mkF m 38 #[.val (.ref a0), .val (.ref a1), .val (.ref a2), .val (.int p3), .val (.ref a4), .val (.ref a5), .val (.ref a6)] [(.ref sa10), (.ref a6)])) rfl (by rw [hml]; rfl) (argsL := [(.ref a6), (.ref sa10)]) (rest := []) (lenOf pd_23 rfl) rfl (by show 2 * 0 + _ ≤ _; exact Nat.le_of_eq rfl) (hb hby d5_38) (fun _ _ => ⟨rfl, e10, (by decide : 10 + 0 ≤ _), (by decide : 140 + 0 ≤ _)⟩)
  dsimp only [Pt.U, Pt.locs, Pt.cells, Pt.slots] at X11 l11 y11 z11 st11 hQ11
  subst l11 y11 z11
  obtain ⟨h11, e11⟩ : ∃ z, T11.heap = z := ⟨_, rfl⟩
  rw [e11] at hQ11
  obtain ⟨rfl, Nq11, hq11, hl11⟩ := hQ11
  subst hl11
  have N11 := Fr.app N9 Nq11
  have Kq11 : Keep h10 h11 [] := by rw [hq11]; exact Keep.refl _ _
  have K11 : Keep h0 h11 [a0] := K10.trans Kq11 all0
  refine RestW.via (fun t k => st11 t k) ?_
  show RestW p.tables e below s _ _ _ (T11.setTop (mkF m 41 #[.val (.ref a0), .val (.ref a1), .val (.ref a2), .val (.int p3), .val (.ref a4), .val (.ref a5), .val (.ref a6)] [(.ref a6)]))
  refine RestW.via (fun t k => XS.pop X11.here hx rfl (hb hby d5_41) rfl rfl k) ?_
  refine RestW.via (fun t k => XS.iloadN X11.here hx rfl (hb hby d5_42) rfl k) ?_
  refine RestW.via (fun t k => XS.iconst X11.here hx rfl (hb hby d5_43) k) ?_
  refine RestW.via (fun t k => XS.icmpNo X11.here hx rfl (hb hby d5_44) rfl (flt (hp.1 : ¬ (p3 < (1 : Int32)))).1 k) ?_
  show RestW p.tables e below s _ _ _ (T11.setTop (mkF m 47 #[.val (.ref a0), .val (.ref a1), .val (.ref a2), .val (.int p3), .val (.ref a4), .val (.ref a5), .val (.ref a6)] []))
  refine RestW.via (fun t k => XS.iloadN X11.here hx rfl (hb hby d5_47) rfl k) ?_
  refine RestW.via (fun t k => X11.ldcInt hx hown (mvT hZ (own_W hw 52 rfl)) (g := (mkF m 48 #[.val (.ref a0), .val (.ref a1), .val (.ref a2), .val (.int p3), .val (.ref a4), .val (.ref a5), .val (.ref a6)] [(.int p3)])) rfl (hb hby d5_48) t k) ?_
  show RestW p.tables e below s _ _ _ (T11.setTop (mkF m 50 #[.val (.ref a0), .val (.ref a1), .val (.ref a2), .val (.int p3), .val (.ref a4), .val (.ref a5), .val (.ref a6)] [(.int (65535 : Int32)), (.int p3)]))
  refine RestW.via (fun t k => XS.icmpYes X11.here hx rfl (pc0 := 50) (pc' := 80) rfl (hb hby d5_50) rfl (flt (hp.2 : ¬ ((65535 : Int32) < p3))).2.2.2 (by decide) (by decide) k) ?_
  show RestW p.tables e below s _ _ _ (T11.setTop (mkF m 80 #[.val (.ref a0), .val (.ref a1), .val (.ref a2), .val (.int p3), .val (.ref a4), .val (.ref a5), .val (.ref a6)] []))
  refine RestW.via (fun t k => XS.aloadN X11.here hx rfl (hb hby d5_80) rfl rfl k) ?_
  refine RestW.via (fun t k => XS.aloadN X11.here hx rfl (hb hby d5_81) rfl rfl k) ?_
  have Fo12 := (((((((((((Fd.keep Kq1 nin0).ext E2).keep Kq3 nin0).ext E4).keep Kq5 nin0).ext E6).keep Kq7 nin0).ext E8).keep Kq9 nin0).ext E10).keep Kq11 nin0)
  obtain ⟨T12, h12, X12, e12, W12, st12⟩ := putF X11 hx hZ hown (host := "") (Or.inl (own_W hw 53 rfl)) Via.refl e11 Fo12 (((((((((((E_a0.keep Kq1).ext E2).keep Kq3).ext E4).keep Kq5).ext E6).keep Kq7).ext E8).keep Kq9).ext E10).keep Kq11) (Or.inr ⟨(own_W hw 54 rfl), rfl, hnm⟩) (own_W hw 32 rfl) (ty := (.object "com/example/zapros/zapros/io/sql/SqlDatabase$Driver")) (by decide) rfl rfl (g := (mkF m 82 #[.val (.ref a0), .val (.ref a1), .val (.ref a2), .val (.int p3), .val (.ref a4), .val (.ref a5), .val (.ref a6)] [(.ref a1), (.ref a0)])) rfl rfl (hb hby d5_82)
  refine RestW.via (fun t k => st12 t k) ?_
  have N12 := Fr.snoc X12 N11 g_a0
  have K12 : Keep h0 h12 [a0] := K11.wr W12 (Or.inl (List.mem_of_getElem? (i := 0) rfl))
  have Fw12 := Fo12.same W12
  show RestW p.tables e below s _ _ _ (T12.setTop (mkF m 85 #[.val (.ref a0), .val (.ref a1), .val (.ref a2), .val (.int p3), .val (.ref a4), .val (.ref a5), .val (.ref a6)] []))
  refine RestW.via (fun t k => XS.aloadN X12.here hx rfl (hb hby d5_85) rfl rfl k) ?_
  refine RestW.via (fun t k => XS.aloadN X12.here hx rfl (hb hby d5_86) rfl rfl k) ?_
  have Fo13 := ((((((((((((Fh.keep Kq1 nin0).ext E2).keep Kq3 nin0).ext E4).keep Kq5 nin0).ext E6).keep Kq7 nin0).ext E8).keep Kq9 nin0).ext E10).keep Kq11 nin0).other W12 (Or.inr (slot_ne (Or.inr (own_W hw 56 rfl)) (Or.inr (own_W hw 54 rfl)) (by decide) (t := (.object "java/lang/String")) (t' := (.object "com/example/zapros/zapros/io/sql/SqlDatabase$Driver")) (by decide) (by decide))))
  obtain ⟨T13, h13, X13, e13, W13, st13⟩ := putF X12 hx hZ hown (host := "") (Or.inl (own_W hw 55 rfl)) Via.refl e12 Fo13 ((((((((((((E_a0.keep Kq1).ext E2).keep Kq3).ext E4).keep Kq5).ext E6).keep Kq7).ext E8).keep Kq9).ext E10).keep Kq11).wr W12) (Or.inr ⟨(own_W hw 56 rfl), rfl, hnm⟩) (own_W hw 32 rfl) (ty := (.object "java/lang/String")) (by decide) rfl rfl (g := (mkF m 87 #[.val (.ref a0), .val (.ref a1), .val (.ref a2), .val (.int p3), .val (.ref a4), .val (.ref a5), .val (.ref a6)] [(.ref a2), (.ref a0)])) rfl rfl (hb hby d5_87)
  refine RestW.via (fun t k => st13 t k) ?_
  have N13 := Fr.snoc X13 N12 g_a0
  have K13 : Keep h0 h13 [a0] := K12.wr W13 (Or.inl (List.mem_of_getElem? (i := 0) rfl))
  have Fw13 := Fo13.same W13
  show RestW p.tables e below s _ _ _ (T13.setTop (mkF m 90 #[.val (.ref a0), .val (.ref a1), .val (.ref a2), .val (.int p3), .val (.ref a4), .val (.ref a5), .val (.ref a6)] []))
  refine RestW.via (fun t k => XS.aloadN X13.here hx rfl (hb hby d5_90) rfl rfl k) ?_
  refine RestW.via (fun t k => XS.iloadN X13.here hx rfl (hb hby d5_91) rfl k) ?_
  have Fo14 := (((((((((((((Fp.keep Kq1 nin0).ext E2).keep Kq3 nin0).ext E4).keep Kq5 nin0).ext E6).keep Kq7 nin0).ext E8).keep Kq9 nin0).ext E10).keep Kq11 nin0).other W12 (Or.inr (slot_ne (Or.inr (own_W hw 58 rfl)) (Or.inr (own_W hw 54 rfl)) (by decide) (t := .int) (t' := (.object "com/example/zapros/zapros/io/sql/SqlDatabase$Driver")) (by decide) (by decide)))).other W13 (Or.inr (slot_ne (Or.inr (own_W hw 58 rfl)) (Or.inr (own_W hw 56 rfl)) (by decide) (t := .int) (t' := (.object "java/lang/String")) (by decide) (by decide))))
  obtain ⟨T14, h14, X14, e14, W14, st14⟩ := putF X13 hx hZ hown (host := "") (Or.inl (own_W hw 57 rfl)) Via.refl e13 Fo14 (((((((((((((E_a0.keep Kq1).ext E2).keep Kq3).ext E4).keep Kq5).ext E6).keep Kq7).ext E8).keep Kq9).ext E10).keep Kq11).wr W12).wr W13) (Or.inr ⟨(own_W hw 58 rfl), rfl, hnm⟩) (own_W hw 32 rfl) (ty := .int) (by decide) rfl rfl (g := (mkF m 92 #[.val (.ref a0), .val (.ref a1), .val (.ref a2), .val (.int p3), .val (.ref a4), .val (.ref a5), .val (.ref a6)] [(.int p3), (.ref a0)])) rfl rfl (hb hby d5_92)
  refine RestW.via (fun t k => st14 t k) ?_
  have N14 := Fr.snoc X14 N13 g_a0
  have K14 : Keep h0 h14 [a0] := K13.wr W14 (Or.inl (List.mem_of_getElem? (i := 0) rfl))
  have Fw14 := Fo14.same W14
  show RestW p.tables e below s _ _ _ (T14.setTop (mkF m 95 #[.val (.ref a0), .val (.ref a1), .val (.ref a2), .val (.int p3), .val (.ref a4), .val (.ref a5), .val (.ref a6)] []))
  refine RestW.via (fun t k => XS.aloadN X14.here hx rfl (hb hby d5_95) rfl rfl k) ?_
  refine RestW.via (fun t k => XS.aload X14.here hx rfl (hb hby d5_96) rfl rfl k) ?_
  have Fo15 := ((((((((((((((Fn.keep Kq1 nin0).ext E2).keep Kq3 nin0).ext E4).keep Kq5 nin0).ext E6).keep Kq7 nin0).ext E8).keep Kq9 nin0).ext E10).keep Kq11 nin0).other W12 (Or.inr (slot_ne (Or.inr (own_W hw 60 rfl)) (Or.inr (own_W hw 54 rfl)) (by decide) (t := (.object "java/lang/String")) (t' := (.object "com/example/zapros/zapros/io/sql/SqlDatabase$Driver")) (by decide) (by decide)))).other W13 (Or.inr (slot_ne (Or.inr (own_W hw 60 rfl)) (Or.inr (own_W hw 56 rfl)) (by decide) (t := (.object "java/lang/String")) (t' := (.object "java/lang/String")) (by decide) (by decide)))).other W14 (Or.inr (slot_ne (Or.inr (own_W hw 60 rfl)) (Or.inr (own_W hw 58 rfl)) (by decide) (t := (.object "java/lang/String")) (t' := .int) (by decide) (by decide))))
  obtain ⟨T15, h15, X15, e15, W15, st15⟩ := putF X14 hx hZ hown (host := "") (Or.inl (own_W hw 59 rfl)) Via.refl e14 Fo15 ((((((((((((((E_a0.keep Kq1).ext E2).keep Kq3).ext E4).keep Kq5).ext E6).keep Kq7).ext E8).keep Kq9).ext E10).keep Kq11).wr W12).wr W13).wr W14) (Or.inr ⟨(own_W hw 60 rfl), rfl, hnm⟩) (own_W hw 32 rfl) (ty := (.object "java/lang/String")) (by decide) rfl rfl (g := (mkF m 98 #[.val (.ref a0), .val (.ref a1), .val (.ref a2), .val (.int p3), .val (.ref a4), .val (.ref a5), .val (.ref a6)] [(.ref a4), (.ref a0)])) rfl rfl (hb hby d5_98)
  refine RestW.via (fun t k => st15 t k) ?_
  have N15 := Fr.snoc X15 N14 g_a0
  have K15 : Keep h0 h15 [a0] := K14.wr W15 (Or.inl (List.mem_of_getElem? (i := 0) rfl))
  have Fw15 := Fo15.same W15
  show RestW p.tables e below s _ _ _ (T15.setTop (mkF m 101 #[.val (.ref a0), .val (.ref a1), .val (.ref a2), .val (.int p3), .val (.ref a4), .val (.ref a5), .val (.ref a6)] []))
  refine RestW.via (fun t k => XS.aloadN X15.here hx rfl (hb hby d5_101) rfl rfl k) ?_
  refine RestW.via (fun t k => XS.aload X15.here hx rfl (hb hby d5_102) rfl rfl k) ?_
  have Fo16 := (((((((((((((((Fu.keep Kq1 nin0).ext E2).keep Kq3 nin0).ext E4).keep Kq5 nin0).ext E6).keep Kq7 nin0).ext E8).keep Kq9 nin0).ext E10).keep Kq11 nin0).other W12 (Or.inr (slot_ne (Or.inr (own_W hw 62 rfl)) (Or.inr (own_W hw 54 rfl)) (by decide) (t := (.object "java/lang/String")) (t' := (.object "com/example/zapros/zapros/io/sql/SqlDatabase$Driver")) (by decide) (by decide)))).other W13 (Or.inr (slot_ne (Or.inr (own_W hw 62 rfl)) (Or.inr (own_W hw 56 rfl)) (by decide) (t := (.object "java/lang/String")) (t' := (.object "java/lang/String")) (by decide) (by decide)))).other W14 (Or.inr (slot_ne (Or.inr (own_W hw 62 rfl)) (Or.inr (own_W hw 58 rfl)) (by decide) (t := (.object "java/lang/String")) (t' := .int) (by decide) (by decide)))).other W15 (Or.inr (slot_ne (Or.inr (own_W hw 62 rfl)) (Or.inr (own_W hw 60 rfl)) (by decide) (t := (.object "java/lang/String")) (t' := (.object "java/lang/String")) (by decide) (by decide))))
  obtain ⟨T16, h16, X16, e16, W16, st16⟩ := putF X15 hx hZ hown (host := "") (Or.inl (own_W hw 61 rfl)) Via.refl e15 Fo16 (((((((((((((((E_a0.keep Kq1).ext E2).keep Kq3).ext E4).keep Kq5).ext E6).keep Kq7).ext E8).keep Kq9).ext E10).keep Kq11).wr W12).wr W13).wr W14).wr W15) (Or.inr ⟨(own_W hw 62 rfl), rfl, hnm⟩) (own_W hw 32 rfl) (ty := (.object "java/lang/String")) (by decide) rfl rfl (g := (mkF m 104 #[.val (.ref a0), .val (.ref a1), .val (.ref a2), .val (.int p3), .val (.ref a4), .val (.ref a5), .val (.ref a6)] [(.ref a5), (.ref a0)])) rfl rfl (hb hby d5_104)
  refine RestW.via (fun t k => st16 t k) ?_
  have N16 := Fr.snoc X16 N15 g_a0
  have K16 : Keep h0 h16 [a0] := K15.wr W16 (Or.inl (List.mem_of_getElem? (i := 0) rfl))
  have Fw16 := Fo16.same W16
  show RestW p.tables e below s _ _ _ (T16.setTop (mkF m 107 #[.val (.ref a0), .val (.ref a1), .val (.ref a2), .val (.int p3), .val (.ref a4), .val (.ref a5), .val (.ref a6)] []))
  refine RestW.via (fun t k => XS.aloadN X16.here hx rfl (hb hby d5_107) rfl rfl k) ?_
  refine RestW.via (fun t k => XS.aload X16.here hx rfl (hb hby d5_108) rfl rfl k) ?_
  have Fo17 := ((((((((((((((((Fw.keep Kq1 nin0).ext E2).keep Kq3 nin0).ext E4).keep Kq5 nin0).ext E6).keep Kq7 nin0).ext E8).keep Kq9 nin0).ext E10).keep Kq11 nin0).other W12 (Or.inr (slot_ne (Or.inr (own_W hw 64 rfl)) (Or.inr (own_W hw 54 rfl)) (by decide) (t := (.object "java/lang/String")) (t' := (.object "com/example/zapros/zapros/io/sql/SqlDatabase$Driver")) (by decide) (by decide)))).other W13 (Or.inr (slot_ne (Or.inr (own_W hw 64 rfl)) (Or.inr (own_W hw 56 rfl)) (by decide) (t := (.object "java/lang/String")) (t' := (.object "java/lang/String")) (by decide) (by decide)))).other W14 (Or.inr (slot_ne (Or.inr (own_W hw 64 rfl)) (Or.inr (own_W hw 58 rfl)) (by decide) (t := (.object "java/lang/String")) (t' := .int) (by decide) (by decide)))).other W15 (Or.inr (slot_ne (Or.inr (own_W hw 64 rfl)) (Or.inr (own_W hw 60 rfl)) (by decide) (t := (.object "java/lang/String")) (t' := (.object "java/lang/String")) (by decide) (by decide)))).other W16 (Or.inr (slot_ne (Or.inr (own_W hw 64 rfl)) (Or.inr (own_W hw 62 rfl)) (by decide) (t := (.object "java/lang/String")) (t' := (.object "java/lang/String")) (by decide) (by decide))))
  obtain ⟨T17, h17, X17, e17, W17, st17⟩ := putF X16 hx hZ hown (host := "") (Or.inl (own_W hw 63 rfl)) Via.refl e16 Fo17 ((((((((((((((((E_a0.keep Kq1).ext E2).keep Kq3).ext E4).keep Kq5).ext E6).keep Kq7).ext E8).keep Kq9).ext E10).keep Kq11).wr W12).wr W13).wr W14).wr W15).wr W16) (Or.inr ⟨(own_W hw 64 rfl), rfl, hnm⟩) (own_W hw 32 rfl) (ty := (.object "java/lang/String")) (by decide) rfl rfl (g := (mkF m 110 #[.val (.ref a0), .val (.ref a1), .val (.ref a2), .val (.int p3), .val (.ref a4), .val (.ref a5), .val (.ref a6)] [(.ref a6), (.ref a0)])) rfl rfl (hb hby d5_110)
  refine RestW.via (fun t k => st17 t k) ?_
  have N17 := Fr.snoc X17 N16 g_a0
  have K17 : Keep h0 h17 [a0] := K16.wr W17 (Or.inl (List.mem_of_getElem? (i := 0) rfl))
  have Fw17 := Fo17.same W17
  show RestW p.tables e below s _ _ _ (T17.setTop (mkF m 113 #[.val (.ref a0), .val (.ref a1), .val (.ref a2), .val (.int p3), .val (.ref a4), .val (.ref a5), .val (.ref a6)] []))
  refine RestW.ret X17 hS (by rw [e17]; first | exact (Nat.le_trans (Nat.le_trans (Nat.le_trans (Nat.le_trans (Nat.le_trans (Nat.le_trans (Nat.le_trans hk10 Kq11.1) (Keep.of_wr W12).1) (Keep.of_wr W13).1) (Keep.of_wr W14).1) (Keep.of_wr W15).1) (Keep.of_wr W16).1) (Keep.of_wr W17).1) | exact Nat.le_refl _) (v := none) (fun _ => rfl) hlk (fun fs hr => X17.returnOut hx Bd.returns (hb hby d5_113) hr) ?_ (by decide) (by decide)
  rw [e17]
  exact ⟨rfl, N17, K17, (((((((((((((((((E_a0.keep Kq1).ext E2).keep Kq3).ext E4).keep Kq5).ext E6).keep Kq7).ext E8).keep Kq9).ext E10).keep Kq11).wr W12).wr W13).wr W14).wr W15).wr W16).wr W17), (Fw16.other W17 (Or.inr (slot_ne (Or.inr (own_W hw 62 rfl)) (Or.inr (own_W hw 64 rfl)) (by decide) (t := (.object "java/lang/String")) (t' := (.object "java/lang/String")) (by decide) (by decide)))), ((((Fw13.other W14 (Or.inr (slot_ne (Or.inr (own_W hw 56 rfl)) (Or.inr (own_W hw 58 rfl)) (by decide) (t := (.object "java/lang/String")) (t' := .int) (by decide) (by decide)))).other W15 (Or.inr (slot_ne (Or.inr (own_W hw 56 rfl)) (Or.inr (own_W hw 60 rfl)) (by decide) (t := (.object "java/lang/String")) (t' := (.object "java/lang/String")) (by decide) (by decide)))).other W16 (Or.inr (slot_ne (Or.inr (own_W hw 56 rfl)) (Or.inr (own_W hw 62 rfl)) (by decide) (t := (.object "java/lang/String")) (t' := (.object "java/lang/String")) (by decide) (by decide)))).other W17 (Or.inr (slot_ne (Or.inr (own_W hw 56 rfl)) (Or.inr (own_W hw 64 rfl)) (by decide) (t := (.object "java/lang/String")) (t' := (.object "java/lang/String")) (by decide) (by decide)))), (((Fw14.other W15 (Or.inr (slot_ne (Or.inr (own_W hw 58 rfl)) (Or.inr (own_W hw 60 rfl)) (by decide) (t := .int) (t' := (.object "java/lang/String")) (by decide) (by decide)))).other W16 (Or.inr (slot_ne (Or.inr (own_W hw 58 rfl)) (Or.inr (own_W hw 62 rfl)) (by decide) (t := .int) (t' := (.object "java/lang/String")) (by decide) (by decide)))).other W17 (Or.inr (slot_ne (Or.inr (own_W hw 58 rfl)) (Or.inr (own_W hw 64 rfl)) (by decide) (t := .int) (t' := (.object "java/lang/String")) (by decide) (by decide)))), ((Fw15.other W16 (Or.inr (slot_ne (Or.inr (own_W hw 60 rfl)) (Or.inr (own_W hw 62 rfl)) (by decide) (t := (.object "java/lang/String")) (t' := (.object "java/lang/String")) (by decide) (by decide)))).other W17 (Or.inr (slot_ne (Or.inr (own_W hw 60 rfl)) (Or.inr (own_W hw 64 rfl)) (by decide) (t := (.object "java/lang/String")) (t' := (.object "java/lang/String")) (by decide) (by decide)))), own_IB_warm I X17.warmed⟩
def own_txt (uL hL nL : List Int32) (p : Int32) : List Int32 := ((((((([] ++ uL) ++ [(64 : Int32)]) ++ hL) ++ [(58 : Int32)]) ++ own_dgs (own_dd p) p) ++ [(47 : Int32)]) ++ nL)
def own_tn (nu nh nm p : Int32) : Int32 := ((((((((0 : Int32) + nu) + (1 : Int32)) + nh) + (1 : Int32)) + (own_dd p)) + (1 : Int32)) + nm)
theorem own_ln1 (x : Int32) : own_ln (1 : Int32) [x] := ⟨by simp, by simp⟩
theorem own_ln0 : own_ln (0 : Int32) [] := ⟨by simp, by simp⟩
theorem pd_24 : parseMethodDescriptor "(Ljava/lang/String;)Ljava/lang/StringBuilder;" = some ⟨[(.object "java/lang/String")], some (.object "java/lang/StringBuilder")⟩ := by decide +kernel
theorem pd_25 : parseMethodDescriptor "(I)Ljava/lang/StringBuilder;" = some ⟨[.int], some (.object "java/lang/StringBuilder")⟩ := by decide +kernel
theorem pd_26 : parseMethodDescriptor "()Ljava/lang/String;" = some ⟨[], some (.object "java/lang/String")⟩ := by decide +kernel
theorem d8_0 : decode prog_4_method_2_code 0 = .ok (.new 26, 3) := by decide +kernel
theorem d8_3 : decode prog_4_method_2_code 3 = .ok (.dup, 1) := by decide +kernel
theorem d8_4 : decode prog_4_method_2_code 4 = .ok (.invokespecial 28, 3) := by decide +kernel
theorem d8_7 : decode prog_4_method_2_code 7 = .ok (.aload_n 0, 1) := by decide +kernel
theorem d8_8 : decode prog_4_method_2_code 8 = .ok (.getfield 59, 3) := by decide +kernel
theorem d8_11 : decode prog_4_method_2_code 11 = .ok (.invokevirtual 31, 3) := by decide +kernel
theorem d8_14 : decode prog_4_method_2_code 14 = .ok (.ldc 63, 2) := by decide +kernel
theorem d8_16 : decode prog_4_method_2_code 16 = .ok (.invokevirtual 31, 3) := by decide +kernel
theorem d8_19 : decode prog_4_method_2_code 19 = .ok (.aload_n 0, 1) := by decide +kernel
theorem d8_20 : decode prog_4_method_2_code 20 = .ok (.getfield 50, 3) := by decide +kernel
theorem d8_23 : decode prog_4_method_2_code 23 = .ok (.invokevirtual 31, 3) := by decide +kernel
theorem d8_26 : decode prog_4_method_2_code 26 = .ok (.ldc 65, 2) := by decide +kernel
theorem d8_28 : decode prog_4_method_2_code 28 = .ok (.invokevirtual 31, 3) := by decide +kernel
theorem d8_31 : decode prog_4_method_2_code 31 = .ok (.aload_n 0, 1) := by decide +kernel
theorem d8_32 : decode prog_4_method_2_code 32 = .ok (.getfield 53, 3) := by decide +kernel
theorem d8_35 : decode prog_4_method_2_code 35 = .ok (.invokevirtual 35, 3) := by decide +kernel
theorem d8_38 : decode prog_4_method_2_code 38 = .ok (.ldc 67, 2) := by decide +kernel
theorem d8_40 : decode prog_4_method_2_code 40 = .ok (.invokevirtual 31, 3) := by decide +kernel
theorem d8_43 : decode prog_4_method_2_code 43 = .ok (.aload_n 0, 1) := by decide +kernel
theorem d8_44 : decode prog_4_method_2_code 44 = .ok (.getfield 57, 3) := by decide +kernel
theorem d8_47 : decode prog_4_method_2_code 47 = .ok (.invokevirtual 31, 3) := by decide +kernel
theorem d8_50 : decode prog_4_method_2_code 50 = .ok (.invokevirtual 38, 3) := by decide +kernel
theorem d8_53 : decode prog_4_method_2_code 53 = .ok (.areturn, 1) := by decide +kernel
theorem ef_TS (m : MethodId) (a0 : Addr) : entryFrame m #[(.ref a0)] 1 = mkF m 0 #[.val (.ref a0)] [] := by first | (simp [entryFrame, mkF, argsToLocals, Value.category, maxLocals]; done) | rfl
def QTS (Z : State) (a0 : Addr) (tu : Addr) (vu : Addr) (qu : ClassId) (iu : Int32) (Lu : List Int32) (th : Addr) (vh : Addr) (qh : ClassId) (ih : Int32) (Lh : List Int32) (tn : Addr) (vn : Addr) (qn : ClassId) (in_ : Int32) (Ln : List Int32) (pp : Int32) (ic : Int32) (wo : Addr) (wt : Addr) (h0 : Heap) (n0 : Nat) (v : Option Value) (h : Heap) (L : List Loc) (vm : Vm) : Prop := ∃ t va k, v = some (.ref t) ∧ Fr n0 L ∧ Keep h0 h [] ∧ h0.size ≤ t ∧ own_St Z h t va k (own_tn iu ih in_ pp) ((own_txt Lu Lh Ln pp).map Value.int)
set_option maxRecDepth 65536 in
set_option maxHeartbeats 40000000 in
theorem rmTS (l : Launch) (Z : State) (aw : Array Value) (hw : ∀ d ∈ tables_1, d.before aw Z = true) (ws : List Jvm.Cond) (a0 : Addr) (tu : Addr) (vu : Addr) (qu : ClassId) (iu : Int32) (Lu : List Int32) (th : Addr) (vh : Addr) (qh : ClassId) (ih : Int32) (Lh : List Int32) (tn : Addr) (vn : Addr) (qn : ClassId) (in_ : Int32) (Ln : List Int32) (pp : Int32) (ic : Int32) (wo : Addr) (wt : Addr) (h0 : Heap) (n0 : Nat) (Z0 : n0 ≤ h0.size) (E_a0 : Exa Z h0 a0 "com/example/zapros/zapros/io/sql/SqlDatabase") (Fu : Fld Z h0 a0 "com/example/zapros/zapros/io/sql/SqlDatabase" "username" "Ljava/lang/String;" (.ref tu)) (Fh : Fld Z h0 a0 "com/example/zapros/zapros/io/sql/SqlDatabase" "host" "Ljava/lang/String;" (.ref th)) (Fn : Fld Z h0 a0 "com/example/zapros/zapros/io/sql/SqlDatabase" "name" "Ljava/lang/String;" (.ref tn)) (Fp : Fld Z h0 a0 "com/example/zapros/zapros/io/sql/SqlDatabase" "port" "I" (.int pp)) (Su : own_St Z h0 tu vu qu iu (Lu.map Value.int)) (Sh : own_St Z h0 th vh qh ih (Lh.map Value.int)) (Sn : own_St Z h0 tn vn qn in_ (Ln.map Value.int)) (lu : own_ln iu Lu ∧ Lu.length ≤ 2) (lh : own_ln ih Lh ∧ Lh.length ≤ 2) (ln : own_ln in_ Ln ∧ Ln.length ≤ 2) (hp : own_pt pp) (O : own_Old Z n0 h0) (CS : own_CS Z ic) (hcw : Jvm.Lit.compactW.before aw Z = true) (H63 : Jvm.Lit.constHeld Z "com/example/zapros/zapros/io/sql/SqlDatabase" 63) (H65 : Jvm.Lit.constHeld Z "com/example/zapros/zapros/io/sql/SqlDatabase" 65) (H67 : Jvm.Lit.constHeld Z "com/example/zapros/zapros/io/sql/SqlDatabase" 67) (DG : own_DG Z wo wt) :
    MetFree l (⟨"com/example/zapros/zapros/io/sql/SqlDatabase", "toString", "()Ljava/lang/String;"⟩ : MethodName) (head1 (Jvm.Cond.code (⟨"com/example/zapros/zapros/io/sql/SqlDatabase", "toString", "()Ljava/lang/String;"⟩ : MethodName) prog_4_method_2_code 1 (some (.object "java/lang/String")) :: ws) ({ frames := 6, cells := 10, slots := 64, locals := 113 } : Room)) (fun a U => a = #[(.ref a0)] ∧ Z.Warmed39 U.vm ∧ U.heap = h0 ∧ (fun vm => IB Z vm ["password", "username", "name", "host", "driver", ""]) U.vm) (fun _ _ _ _ _ => True) (fun _ U o U' => ∃ v L, o = .returned v ∧ QTS Z a0 tu vu qu iu Lu th vh qh ih Lh tn vn qn in_ Ln pp ic wo wt h0 n0 v U'.heap L U'.vm ∧ ReturnedEndW U o U' L ({ frames := 6, cells := 10, slots := 64, locals := 113 } : Room).cells ({ frames := 6, cells := 10, slots := 64, locals := 113 } : Room).slots) := by
  refine MetFree.of_bodySF (plainFor_of_name pn_9) hisR ?_
  intro p e s m args below meth c s₁ Bd hml0 hP hK
  obtain ⟨rfl, hZ, hh, hVP⟩ := hP
  have hx := Bd.exec
  have hby := Bd.bytes
  have hml : c.maxLocals = 1 := hml0
  have hown : s.vm.findClass "com/example/zapros/zapros/io/sql/SqlDatabase" = some m.cls := findClass_of_methodNamed Bd.named
  have hnm := (name_of_methodNamed Bd.named Bd.method).1
  have hlk : meth.locks = false := BodyLoose.notSynchronized Bd
  have X0 : Stand p l e ({ frames := 6, cells := 10, slots := 64, locals := 113 } : Room) (s.setVm s.vm) m #[(.ref a0)] below meth c s₁ [] 0 0 := Stand.of_body Bd
  have hS : s.Since s.vm h0.size := (State.WarmedH.refl s).since _
  have eh0 : s₁.heap = h0 := by rw [← hh, Bd.state]; rfl
  have N0 := Fr.nil h0.size
  show RestW p.tables e below s (QTS Z a0 tu vu qu iu Lu th vh qh ih Lh tn vn qn in_ Ln pp ic wo wt h0 n0) _ _ (s₁.setTop (entryFrame m #[(.ref a0)] 1))
  refine RestW.via (fun t k => castTop (ef_TS m a0) k) ?_
  have I := hVP
  have O := O.hi Z0
  have hdl := own_dln hp
  have hlu := lu.2
  have hlh := lh.2
  have hln := ln.2
  have hdl2 := hdl.2
  show RestW p.tables e below s _ _ _ (s₁.setTop (mkF m 0 #[.val (.ref a0)] []))
  obtain ⟨T1, h1, X1, e1, E1, A1, D1, -, st1⟩ := newO X0 hx hZ hown (own_W hw 70 rfl) (own_W hw 71 rfl) (own_W hw 72 rfl) eh0 (g := (mkF m 0 #[.val (.ref a0)] [])) rfl (hb hby d8_0) (by decide) (by decide)
  obtain ⟨b1, gq1⟩ : ∃ z, z = h0.size := ⟨_, rfl⟩
  rw [← gq1] at A1 D1 st1
  have sz_b1 : h0.size ≤ b1 := Nat.le_trans (Keep.refl h0 []).1 (Nat.le_of_eq gq1.symm)
  have g_b1 : h0.size ≤ b1 := sz_b1
  have ne_a0_b1 : a0 ≠ b1 := Nat.ne_of_lt (Nat.lt_of_lt_of_le E_a0.lt (Nat.le_of_eq gq1.symm))
  have ne_tu_b1 : tu ≠ b1 := Nat.ne_of_lt (Nat.lt_of_lt_of_le Su.1.lt (Nat.le_of_eq gq1.symm))
  have ne_vu_b1 : vu ≠ b1 := Nat.ne_of_lt (Nat.lt_of_lt_of_le Su.2.2.2.lt (Nat.le_of_eq gq1.symm))
  have ne_th_b1 : th ≠ b1 := Nat.ne_of_lt (Nat.lt_of_lt_of_le Sh.1.lt (Nat.le_of_eq gq1.symm))
  have ne_vh_b1 : vh ≠ b1 := Nat.ne_of_lt (Nat.lt_of_lt_of_le Sh.2.2.2.lt (Nat.le_of_eq gq1.symm))
  have ne_tn_b1 : tn ≠ b1 := Nat.ne_of_lt (Nat.lt_of_lt_of_le Sn.1.lt (Nat.le_of_eq gq1.symm))
  have ne_vn_b1 : vn ≠ b1 := Nat.ne_of_lt (Nat.lt_of_lt_of_le Sn.2.2.2.lt (Nat.le_of_eq gq1.symm))
  have K1 : Keep h0 h1 [] := (Keep.refl h0 []).ext E1
  have E_b1 := A1
  have F_value_b1 : Fld Z h1 b1 "java/lang/AbstractStringBuilder" "value" "[B" .null := D1 (Or.inl (own_W hw 85 rfl)) (ty := (.array .byte)) (by decide)
  have F_coder_b1 : Fld Z h1 b1 "java/lang/AbstractStringBuilder" "coder" "B" (.int (0 : Int32)) := D1 (Or.inl (own_W hw 87 rfl)) (ty := .byte) (by decide)
  have F_count_b1 : Fld Z h1 b1 "java/lang/AbstractStringBuilder" "count" "I" (.int (0 : Int32)) := D1 (Or.inl (own_W hw 110 rfl)) (ty := .int) (by decide)
  refine RestW.via (fun t k => st1 t k) ?_
  show RestW p.tables e below s _ _ _ (T1.setTop (mkF m 3 #[.val (.ref a0)] [(.ref b1)]))
  refine RestW.via (fun t k => XS.dup X1.here hx rfl (hb hby d8_3) rfl rfl k) ?_
  show RestW p.tables e below s _ _ _ (T1.setTop (mkF m 4 #[.val (.ref a0)] [(.ref b1), (.ref b1)]))
  obtain ⟨_, _, ⟨T2, L2, k2, n2⟩, -, X2, ⟨Lc2, hQ2, l2, y2, z2⟩, st2⟩ := X1.specialBack hx (y := (⟨"java/lang/StringBuilder", "<init>", "()V"⟩ : MethodName)) rfl hown (mvT hZ (own_W hw 73 rfl)) (mvT hZ (own_W hw 74 rfl)) (mvT hZ (own_W hw 75 rfl)) (by decide) (backOf (W := 1) (rmSBI l Z aw hw [] b1 ic h1 h0.size K1.1 E_b1 F_value_b1 F_coder_b1 F_count_b1 g_b1 (O.keep K1 all0) CS) hZ (own_W hw 75 rfl) (own_W hw 72 rfl) (by decide) (by decide)) (g := (mkF m 4 #[.val (.ref a0)] [(.ref b1), (.ref b1)])) rfl (by rw [hml]; rfl) (Steps.refl _) (a := b1) (argsL := []) (rest := [(.ref b1)]) (lenOf pd_22 rfl) rfl (by show 2 * 0 + _ ≤ _; exact Nat.le_of_eq rfl) (hb hby d8_4) (fun _ _ => ⟨rfl, e1, (by decide : 1 + 1 ≤ _), (by decide : 4 + 16 ≤ _)⟩)
  dsimp only [Pt.U, Pt.locs, Pt.cells, Pt.slots] at X2 l2 y2 z2 st2 hQ2
  subst l2 y2 z2
  obtain ⟨h2, e2⟩ : ∃ z, T2.heap = z := ⟨_, rfl⟩
  rw [e2] at hQ2
  obtain ⟨rfl, Nq2, Kq2, bv2, kb2, gb2, B2⟩ := hQ2
  have N2 := Fr.app N0 Nq2
  have ne_a0_bv2 : a0 ≠ bv2 := Nat.ne_of_lt (Nat.lt_of_lt_of_le (E_a0.ext E1).lt gb2)
  have ne_tu_bv2 : tu ≠ bv2 := Nat.ne_of_lt (Nat.lt_of_lt_of_le (Su.1.ext E1).lt gb2)
  have ne_vu_bv2 : vu ≠ bv2 := Nat.ne_of_lt (Nat.lt_of_lt_of_le (Su.2.2.2.ext E1).lt gb2)
  have ne_th_bv2 : th ≠ bv2 := Nat.ne_of_lt (Nat.lt_of_lt_of_le (Sh.1.ext E1).lt gb2)
  have ne_vh_bv2 : vh ≠ bv2 := Nat.ne_of_lt (Nat.lt_of_lt_of_le (Sh.2.2.2.ext E1).lt gb2)
  have ne_tn_bv2 : tn ≠ bv2 := Nat.ne_of_lt (Nat.lt_of_lt_of_le (Sn.1.ext E1).lt gb2)
  have ne_vn_bv2 : vn ≠ bv2 := Nat.ne_of_lt (Nat.lt_of_lt_of_le (Sn.2.2.2.ext E1).lt gb2)
  have sz_bv2 : h0.size ≤ bv2 := Nat.le_trans K1.1 gb2
  have g_bv2 := sz_bv2
  have K2 : Keep h0 h2 [] := K1.trans Kq2 (allS (Or.inr sz_b1) all0)
  have lq2 := own_ln0
  refine RestW.via (fun t k => st2.trans k) ?_
  show RestW p.tables e below s _ _ _ (T2.setTop (mkF m 7 #[.val (.ref a0)] [(.ref b1)]))
  refine RestW.via (fun t k => XS.aloadN X2.here hx rfl (hb hby d8_7) rfl rfl k) ?_
  obtain ⟨T3, X3, e3, st3⟩ := getF X2 hx hZ hown (host := "") (Or.inl (own_W hw 61 rfl)) Via.refl e2 ((Fu.ext E1).keep Kq2 (ninS ne_a0_b1 nin0)) (g := (mkF m 8 #[.val (.ref a0)] [(.ref a0), (.ref b1)])) rfl rfl (hb hby d8_8)
  refine RestW.via (fun t k => st3 t k) ?_
  show RestW p.tables e below s _ _ _ (T3.setTop (mkF m 11 #[.val (.ref a0)] [(.ref tu), (.ref b1)]))
  obtain ⟨cq4, kq4, q4a, q4b, q4c⟩ := isOf hZ e3 B2.1
  obtain ⟨_, _, ⟨T4, L4, k4, n4⟩, -, X4, ⟨Lc4, hQ4, l4, y4, z4⟩, st4⟩ := X3.virtualBack hx (y := (⟨"java/lang/StringBuilder", "append", "(Ljava/lang/String;)Ljava/lang/StringBuilder;"⟩ : MethodName)) (z := (⟨"java/lang/StringBuilder", "append", "(Ljava/lang/String;)Ljava/lang/StringBuilder;"⟩ : MethodName)) hown (mvT hZ (own_W hw 88 rfl)) (mvT hZ (own_W hw 89 rfl)) (notFace_of_selects (args := #[]) (mvT hZ (own_W hw 91 rfl))) (mvT hZ (own_W hw 91 rfl)) (mvT hZ (own_W hw 90 rfl)) (by decide) (backOf (W := 0) (rmAS l Z aw hw [] b1 tu bv2 kb2 (0 : Int32) [] vu qu iu Lu ic h2 h0.size K2.1 B2 (own_St_keep (own_St_keep Su ((Keep.refl _ []).ext E1) nin0 nin0) Kq2 (ninS ne_tu_b1 nin0) (ninS ne_vu_b1 nin0)) lq2 lu.1 (by simp only [List.length_append, List.length_cons, List.length_nil]; omega) g_b1 g_bv2 (O.keep K2 all0) CS) hZ (own_W hw 92 rfl) (own_W hw 72 rfl) (by decide) (by decide)) q4a q4c (g := (mkF m 11 #[.val (.ref a0)] [(.ref tu), (.ref b1)])) rfl (by rw [hml]; rfl) (Steps.refl _) (argsL := [(.ref tu)]) (rest := []) (lenOf pd_24 rfl) rfl (by show 2 * 0 + _ ≤ _; exact Nat.le_of_eq rfl) (hb hby d8_11) (fun _ _ => ⟨rfl, e3, (by decide : 2 + 0 ≤ _), (by decide : 20 + 0 ≤ _)⟩)
  dsimp only [Pt.U, Pt.locs, Pt.cells, Pt.slots] at X4 l4 y4 z4 st4 hQ4
  subst l4 y4 z4
  obtain ⟨h4, e4⟩ : ∃ z, T4.heap = z := ⟨_, rfl⟩
  rw [e4] at hQ4
  obtain ⟨rfl, Nq4, Kq4, B4⟩ := hQ4
  have N4 := Fr.app N2 Nq4
  have K4 : Keep h0 h4 [] := K2.trans Kq4 (allS (Or.inr sz_b1) (allS (Or.inr sz_bv2) all0))
  have lq4 := own_ln.app lq2 lu.1 (by simp only [List.length_append, List.length_cons, List.length_nil]; omega)
  refine RestW.via (fun t k => st4.trans k) ?_
  show RestW p.tables e below s _ _ _ (T4.setTop (mkF m 14 #[.val (.ref a0)] [(.ref b1)]))
  obtain ⟨sa5, T5, h5, kk5, sb5, kb5, X5, e5, E5, hS, hk5, hZ, hown, Ea5, Fc5, Fv5, Vb5, la5, lb5, I, Li5, st5⟩ := ldcSVL (s := s) (vm0 := s.vm) X4 hx hZ hown (own_W hw 136 rfl) (own_wS hw) e4 hS (Nat.le_trans (Nat.le_trans (Nat.le_trans (Nat.le_refl _) E1.1) Kq2.1) Kq4.1) (by rw [hh]; exact N4) (fun b cl q => by rw [hh]; exact O.2.2 b cl q) I (by simp) H63 hcw (vs := [(.int (64 : Int32))]) (z := (1 : Int32)) (by decide) (by decide) rfl (g := (mkF m 14 #[.val (.ref a0)] [(.ref b1)])) rfl (hb hby d8_14) (n := 4) (by decide) (by decide) (by decide) (by decide)
  refine RestW.via (fun t k => st5 t k) ?_
  have K5 : Keep h0 h5 [] := K4.ext E5
  have Sl5 : own_St Z h5 sa5 sb5 kb5 (1 : Int32) (([(64 : Int32)] : List Int32).map Value.int) := ⟨Ea5, Fv5, Fc5, Vb5⟩
  show RestW p.tables e below s _ _ _ (T5.setTop (mkF m 16 #[.val (.ref a0)] [(.ref sa5), (.ref b1)]))
  obtain ⟨cq6, kq6, q6a, q6b, q6c⟩ := isOf hZ e5 (B4.1.ext E5)
  obtain ⟨_, _, ⟨T6, L6, k6, n6⟩, -, X6, ⟨Lc6, hQ6, l6, y6, z6⟩, st6⟩ := X5.virtualBack hx (y := (⟨"java/lang/StringBuilder", "append", "(Ljava/lang/String;)Ljava/lang/StringBuilder;"⟩ : MethodName)) (z := (⟨"java/lang/StringBuilder", "append", "(Ljava/lang/String;)Ljava/lang/StringBuilder;"⟩ : MethodName)) hown (mvT hZ (own_W hw 88 rfl)) (mvT hZ (own_W hw 89 rfl)) (notFace_of_selects (args := #[]) (mvT hZ (own_W hw 91 rfl))) (mvT hZ (own_W hw 91 rfl)) (mvT hZ (own_W hw 90 rfl)) (by decide) (backOf (W := 0) (rmAS l Z aw hw [] b1 sa5 bv2 kb2 ((0 : Int32) + iu) ([] ++ Lu) sb5 kb5 (1 : Int32) [(64 : Int32)] ic h5 h0.size K5.1 (own_SB_keep B4 ((Keep.refl _ []).ext E5) nin0 nin0) Sl5 lq4 (own_ln1 (64 : Int32)) (by simp only [List.length_append, List.length_cons, List.length_nil]; omega) g_b1 g_bv2 (O.keep K5 all0) CS) hZ (own_W hw 92 rfl) (own_W hw 72 rfl) (by decide) (by decide)) q6a q6c (g := (mkF m 16 #[.val (.ref a0)] [(.ref sa5), (.ref b1)])) rfl (by rw [hml]; rfl) (Steps.refl _) (argsL := [(.ref sa5)]) (rest := []) (lenOf pd_24 rfl) rfl (by show 2 * 0 + _ ≤ _; exact Nat.le_of_eq rfl) (hb hby d8_16) (fun _ _ => ⟨rfl, e5, (by decide : 4 + 0 ≤ _), (by decide : 28 + 0 ≤ _)⟩)
  dsimp only [Pt.U, Pt.locs, Pt.cells, Pt.slots] at X6 l6 y6 z6 st6 hQ6
  subst l6 y6 z6
  obtain ⟨h6, e6⟩ : ∃ z, T6.heap = z := ⟨_, rfl⟩
  rw [e6] at hQ6
  obtain ⟨rfl, Nq6, Kq6, B6⟩ := hQ6
  have N6 := Fr.app N4 Nq6
  have K6 : Keep h0 h6 [] := K5.trans Kq6 (allS (Or.inr sz_b1) (allS (Or.inr sz_bv2) all0))
  have lq6 := own_ln.app lq4 (own_ln1 (64 : Int32)) (by simp only [List.length_append, List.length_cons, List.length_nil]; omega)
  refine RestW.via (fun t k => st6.trans k) ?_
  show RestW p.tables e below s _ _ _ (T6.setTop (mkF m 19 #[.val (.ref a0)] [(.ref b1)]))
  refine RestW.via (fun t k => XS.aloadN X6.here hx rfl (hb hby d8_19) rfl rfl k) ?_
  obtain ⟨T7, X7, e7, st7⟩ := getF X6 hx hZ hown (host := "") (Or.inl (own_W hw 55 rfl)) Via.refl e6 (((((Fh.ext E1).keep Kq2 (ninS ne_a0_b1 nin0)).keep Kq4 (ninS ne_a0_b1 (ninS ne_a0_bv2 nin0))).ext E5).keep Kq6 (ninS ne_a0_b1 (ninS ne_a0_bv2 nin0))) (g := (mkF m 20 #[.val (.ref a0)] [(.ref a0), (.ref b1)])) rfl rfl (hb hby d8_20)
  refine RestW.via (fun t k => st7 t k) ?_
  show RestW p.tables e below s _ _ _ (T7.setTop (mkF m 23 #[.val (.ref a0)] [(.ref th), (.ref b1)]))
  obtain ⟨cq8, kq8, q8a, q8b, q8c⟩ := isOf hZ e7 B6.1
  obtain ⟨_, _, ⟨T8, L8, k8, n8⟩, -, X8, ⟨Lc8, hQ8, l8, y8, z8⟩, st8⟩ := X7.virtualBack hx (y := (⟨"java/lang/StringBuilder", "append", "(Ljava/lang/String;)Ljava/lang/StringBuilder;"⟩ : MethodName)) (z := (⟨"java/lang/StringBuilder", "append", "(Ljava/lang/String;)Ljava/lang/StringBuilder;"⟩ : MethodName)) hown (mvT hZ (own_W hw 88 rfl)) (mvT hZ (own_W hw 89 rfl)) (notFace_of_selects (args := #[]) (mvT hZ (own_W hw 91 rfl))) (mvT hZ (own_W hw 91 rfl)) (mvT hZ (own_W hw 90 rfl)) (by decide) (backOf (W := 0) (rmAS l Z aw hw [] b1 th bv2 kb2 (((0 : Int32) + iu) + (1 : Int32)) (([] ++ Lu) ++ [(64 : Int32)]) vh qh ih Lh ic h6 h0.size K6.1 B6 (own_St_keep (own_St_keep (own_St_keep (own_St_keep (own_St_keep Sh ((Keep.refl _ []).ext E1) nin0 nin0) Kq2 (ninS ne_th_b1 nin0) (ninS ne_vh_b1 nin0)) Kq4 (ninS ne_th_b1 (ninS ne_th_bv2 nin0)) (ninS ne_vh_b1 (ninS ne_vh_bv2 nin0))) ((Keep.refl _ []).ext E5) nin0 nin0) Kq6 (ninS ne_th_b1 (ninS ne_th_bv2 nin0)) (ninS ne_vh_b1 (ninS ne_vh_bv2 nin0))) lq6 lh.1 (by simp only [List.length_append, List.length_cons, List.length_nil]; omega) g_b1 g_bv2 (O.keep K6 all0) CS) hZ (own_W hw 92 rfl) (own_W hw 72 rfl) (by decide) (by decide)) q8a q8c (g := (mkF m 23 #[.val (.ref a0)] [(.ref th), (.ref b1)])) rfl (by rw [hml]; rfl) (Steps.refl _) (argsL := [(.ref th)]) (rest := []) (lenOf pd_24 rfl) rfl (by show 2 * 0 + _ ≤ _; exact Nat.le_of_eq rfl) (hb hby d8_23) (fun _ _ => ⟨rfl, e7, (by decide : 4 + 0 ≤ _), (by decide : 28 + 0 ≤ _)⟩)
  dsimp only [Pt.U, Pt.locs, Pt.cells, Pt.slots] at X8 l8 y8 z8 st8 hQ8
  subst l8 y8 z8
  obtain ⟨h8, e8⟩ : ∃ z, T8.heap = z := ⟨_, rfl⟩
  rw [e8] at hQ8
  obtain ⟨rfl, Nq8, Kq8, B8⟩ := hQ8
  have N8 := Fr.app N6 Nq8
  have K8 : Keep h0 h8 [] := K6.trans Kq8 (allS (Or.inr sz_b1) (allS (Or.inr sz_bv2) all0))
  have lq8 := own_ln.app lq6 lh.1 (by simp only [List.length_append, List.length_cons, List.length_nil]; omega)
  refine RestW.via (fun t k => st8.trans k) ?_
  show RestW p.tables e below s _ _ _ (T8.setTop (mkF m 26 #[.val (.ref a0)] [(.ref b1)]))
  obtain ⟨sa9, T9, h9, kk9, sb9, kb9, X9, e9, E9, hS, hk9, hZ, hown, Ea9, Fc9, Fv9, Vb9, la9, lb9, I, Li9, st9⟩ := ldcSVL (s := s) (vm0 := T5.vm) X8 hx hZ hown (own_W hw 137 rfl) (own_wS hw) e8 hS (Nat.le_trans (Nat.le_trans hk5 Kq6.1) Kq8.1) (by rw [hh]; exact N8) (fun b cl q => by rw [hh]; exact O.2.2 b cl q) I (by simp) H65 hcw (vs := [(.int (58 : Int32))]) (z := (1 : Int32)) (by decide) (by decide) rfl (g := (mkF m 26 #[.val (.ref a0)] [(.ref b1)])) rfl (hb hby d8_26) (n := 4) (by decide) (by decide) (by decide) (by decide)
  refine RestW.via (fun t k => st9 t k) ?_
  have K9 : Keep h0 h9 [] := K8.ext E9
  have Sl9 : own_St Z h9 sa9 sb9 kb9 (1 : Int32) (([(58 : Int32)] : List Int32).map Value.int) := ⟨Ea9, Fv9, Fc9, Vb9⟩
  show RestW p.tables e below s _ _ _ (T9.setTop (mkF m 28 #[.val (.ref a0)] [(.ref sa9), (.ref b1)]))
  obtain ⟨cq10, kq10, q10a, q10b, q10c⟩ := isOf hZ e9 (B8.1.ext E9)
  obtain ⟨_, _, ⟨T10, L10, k10, n10⟩, -, X10, ⟨Lc10, hQ10, l10, y10, z10⟩, st10⟩ := X9.virtualBack hx (y := (⟨"java/lang/StringBuilder", "append", "(Ljava/lang/String;)Ljava/lang/StringBuilder;"⟩ : MethodName)) (z := (⟨"java/lang/StringBuilder", "append", "(Ljava/lang/String;)Ljava/lang/StringBuilder;"⟩ : MethodName)) hown (mvT hZ (own_W hw 88 rfl)) (mvT hZ (own_W hw 89 rfl)) (notFace_of_selects (args := #[]) (mvT hZ (own_W hw 91 rfl))) (mvT hZ (own_W hw 91 rfl)) (mvT hZ (own_W hw 90 rfl)) (by decide) (backOf (W := 0) (rmAS l Z aw hw [] b1 sa9 bv2 kb2 ((((0 : Int32) + iu) + (1 : Int32)) + ih) ((([] ++ Lu) ++ [(64 : Int32)]) ++ Lh) sb9 kb9 (1 : Int32) [(58 : Int32)] ic h9 h0.size K9.1 (own_SB_keep B8 ((Keep.refl _ []).ext E9) nin0 nin0) Sl9 lq8 (own_ln1 (58 : Int32)) (by simp only [List.length_append, List.length_cons, List.length_nil]; omega) g_b1 g_bv2 (O.keep K9 all0) CS) hZ (own_W hw 92 rfl) (own_W hw 72 rfl) (by decide) (by decide)) q10a q10c (g := (mkF m 28 #[.val (.ref a0)] [(.ref sa9), (.ref b1)])) rfl (by rw [hml]; rfl) (Steps.refl _) (argsL := [(.ref sa9)]) (rest := []) (lenOf pd_24 rfl) rfl (by show 2 * 0 + _ ≤ _; exact Nat.le_of_eq rfl) (hb hby d8_28) (fun _ _ => ⟨rfl, e9, (by decide : 6 + 0 ≤ _), (by decide : 36 + 0 ≤ _)⟩)
  dsimp only [Pt.U, Pt.locs, Pt.cells, Pt.slots] at X10 l10 y10 z10 st10 hQ10
  subst l10 y10 z10
  obtain ⟨h10, e10⟩ : ∃ z, T10.heap = z := ⟨_, rfl⟩
  rw [e10] at hQ10
  obtain ⟨rfl, Nq10, Kq10, B10⟩ := hQ10
  have N10 := Fr.app N8 Nq10
  have K10 : Keep h0 h10 [] := K9.trans Kq10 (allS (Or.inr sz_b1) (allS (Or.inr sz_bv2) all0))
  have lq10 := own_ln.app lq8 (own_ln1 (58 : Int32)) (by simp only [List.length_append, List.length_cons, List.length_nil]; omega)
  refine RestW.via (fun t k => st10.trans k) ?_
  show RestW p.tables e below s _ _ _ (T10.setTop (mkF m 31 #[.val (.ref a0)] [(.ref b1)]))
  refine RestW.via (fun t k => XS.aloadN X10.here hx rfl (hb hby d8_31) rfl rfl k) ?_
  obtain ⟨T11, X11, e11, st11⟩ := getF X10 hx hZ hown (host := "") (Or.inl (own_W hw 57 rfl)) Via.refl e10 ((((((((Fp.ext E1).keep Kq2 (ninS ne_a0_b1 nin0)).keep Kq4 (ninS ne_a0_b1 (ninS ne_a0_bv2 nin0))).ext E5).keep Kq6 (ninS ne_a0_b1 (ninS ne_a0_bv2 nin0))).keep Kq8 (ninS ne_a0_b1 (ninS ne_a0_bv2 nin0))).ext E9).keep Kq10 (ninS ne_a0_b1 (ninS ne_a0_bv2 nin0))) (g := (mkF m 32 #[.val (.ref a0)] [(.ref a0), (.ref b1)])) rfl rfl (hb hby d8_32)
  refine RestW.via (fun t k => st11 t k) ?_
  show RestW p.tables e below s _ _ _ (T11.setTop (mkF m 35 #[.val (.ref a0)] [(.int pp), (.ref b1)]))
  obtain ⟨cq12, kq12, q12a, q12b, q12c⟩ := isOf hZ e11 B10.1
  obtain ⟨_, _, ⟨T12, L12, k12, n12⟩, -, X12, ⟨Lc12, hQ12, l12, y12, z12⟩, st12⟩ := X11.virtualBack hx (y := (⟨"java/lang/StringBuilder", "append", "(I)Ljava/lang/StringBuilder;"⟩ : MethodName)) (z := (⟨"java/lang/StringBuilder", "append", "(I)Ljava/lang/StringBuilder;"⟩ : MethodName)) hown (mvT hZ (own_W hw 138 rfl)) (mvT hZ (own_W hw 139 rfl)) (notFace_of_selects (args := #[]) (mvT hZ (own_W hw 141 rfl))) (mvT hZ (own_W hw 141 rfl)) (mvT hZ (own_W hw 140 rfl)) (by decide) (backOf (W := 0) (rmAI l Z aw hw [] b1 pp bv2 kb2 (((((0 : Int32) + iu) + (1 : Int32)) + ih) + (1 : Int32)) (((([] ++ Lu) ++ [(64 : Int32)]) ++ Lh) ++ [(58 : Int32)]) ic wo wt h10 h0.size K10.1 B10 lq10 (by simp only [List.length_append, List.length_cons, List.length_nil]; omega) hp g_b1 g_bv2 (O.keep K10 all0) CS DG) hZ (own_W hw 142 rfl) (own_W hw 72 rfl) (by decide) (by decide)) q12a q12c (g := (mkF m 35 #[.val (.ref a0)] [(.int pp), (.ref b1)])) rfl (by rw [hml]; rfl) (Steps.refl _) (argsL := [(.int pp)]) (rest := []) (lenOf pd_25 rfl) rfl (by show 2 * 0 + _ ≤ _; exact Nat.le_of_eq rfl) (hb hby d8_35) (fun _ _ => ⟨rfl, e11, (by decide : 6 + 0 ≤ _), (by decide : 36 + 0 ≤ _)⟩)
  dsimp only [Pt.U, Pt.locs, Pt.cells, Pt.slots] at X12 l12 y12 z12 st12 hQ12
  subst l12 y12 z12
  obtain ⟨h12, e12⟩ : ∃ z, T12.heap = z := ⟨_, rfl⟩
  rw [e12] at hQ12
  obtain ⟨rfl, Nq12, Kq12, B12⟩ := hQ12
  have N12 := Fr.app N10 Nq12
  have K12 : Keep h0 h12 [] := K10.trans Kq12 (allS (Or.inr sz_b1) (allS (Or.inr sz_bv2) all0))
  have lq12 := own_ln.app lq10 hdl.1 (by simp only [List.length_append, List.length_cons, List.length_nil]; omega)
  refine RestW.via (fun t k => st12.trans k) ?_
  show RestW p.tables e below s _ _ _ (T12.setTop (mkF m 38 #[.val (.ref a0)] [(.ref b1)]))
  obtain ⟨sa13, T13, h13, kk13, sb13, kb13, X13, e13, E13, hS, hk13, hZ, hown, Ea13, Fc13, Fv13, Vb13, la13, lb13, I, Li13, st13⟩ := ldcSVL (s := s) (vm0 := T9.vm) X12 hx hZ hown (own_W hw 160 rfl) (own_wS hw) e12 hS (Nat.le_trans (Nat.le_trans hk9 Kq10.1) Kq12.1) (by rw [hh]; exact N12) (fun b cl q => by rw [hh]; exact O.2.2 b cl q) I (by simp) H67 hcw (vs := [(.int (47 : Int32))]) (z := (1 : Int32)) (by decide) (by decide) rfl (g := (mkF m 38 #[.val (.ref a0)] [(.ref b1)])) rfl (hb hby d8_38) (n := 4) (by decide) (by decide) (by decide) (by decide)
  refine RestW.via (fun t k => st13 t k) ?_
  have K13 : Keep h0 h13 [] := K12.ext E13
  have Sl13 : own_St Z h13 sa13 sb13 kb13 (1 : Int32) (([(47 : Int32)] : List Int32).map Value.int) := ⟨Ea13, Fv13, Fc13, Vb13⟩
  show RestW p.tables e below s _ _ _ (T13.setTop (mkF m 40 #[.val (.ref a0)] [(.ref sa13), (.ref b1)]))
  obtain ⟨cq14, kq14, q14a, q14b, q14c⟩ := isOf hZ e13 (B12.1.ext E13)
  obtain ⟨_, _, ⟨T14, L14, k14, n14⟩, -, X14, ⟨Lc14, hQ14, l14, y14, z14⟩, st14⟩ := X13.virtualBack hx (y := (⟨"java/lang/StringBuilder", "append", "(Ljava/lang/String;)Ljava/lang/StringBuilder;"⟩ : MethodName)) (z := (⟨"java/lang/StringBuilder", "append", "(Ljava/lang/String;)Ljava/lang/StringBuilder;"⟩ : MethodName)) hown (mvT hZ (own_W hw 88 rfl)) (mvT hZ (own_W hw 89 rfl)) (notFace_of_selects (args := #[]) (mvT hZ (own_W hw 91 rfl))) (mvT hZ (own_W hw 91 rfl)) (mvT hZ (own_W hw 90 rfl)) (by decide) (backOf (W := 0) (rmAS l Z aw hw [] b1 sa13 bv2 kb2 ((((((0 : Int32) + iu) + (1 : Int32)) + ih) + (1 : Int32)) + (own_dd pp)) ((((([] ++ Lu) ++ [(64 : Int32)]) ++ Lh) ++ [(58 : Int32)]) ++ (own_dgs (own_dd pp) pp)) sb13 kb13 (1 : Int32) [(47 : Int32)] ic h13 h0.size K13.1 (own_SB_keep B12 ((Keep.refl _ []).ext E13) nin0 nin0) Sl13 lq12 (own_ln1 (47 : Int32)) (by simp only [List.length_append, List.length_cons, List.length_nil]; omega) g_b1 g_bv2 (O.keep K13 all0) CS) hZ (own_W hw 92 rfl) (own_W hw 72 rfl) (by decide) (by decide)) q14a q14c (g := (mkF m 40 #[.val (.ref a0)] [(.ref sa13), (.ref b1)])) rfl (by rw [hml]; rfl) (Steps.refl _) (argsL := [(.ref sa13)]) (rest := []) (lenOf pd_24 rfl) rfl (by show 2 * 0 + _ ≤ _; exact Nat.le_of_eq rfl) (hb hby d8_40) (fun _ _ => ⟨rfl, e13, (by decide : 8 + 0 ≤ _), (by decide : 44 + 0 ≤ _)⟩)
  dsimp only [Pt.U, Pt.locs, Pt.cells, Pt.slots] at X14 l14 y14 z14 st14 hQ14
  subst l14 y14 z14
  obtain ⟨h14, e14⟩ : ∃ z, T14.heap = z := ⟨_, rfl⟩
  rw [e14] at hQ14
  obtain ⟨rfl, Nq14, Kq14, B14⟩ := hQ14
  have N14 := Fr.app N12 Nq14
  have K14 : Keep h0 h14 [] := K13.trans Kq14 (allS (Or.inr sz_b1) (allS (Or.inr sz_bv2) all0))
  have lq14 := own_ln.app lq12 (own_ln1 (47 : Int32)) (by simp only [List.length_append, List.length_cons, List.length_nil]; omega)
  refine RestW.via (fun t k => st14.trans k) ?_
  show RestW p.tables e below s _ _ _ (T14.setTop (mkF m 43 #[.val (.ref a0)] [(.ref b1)]))
  refine RestW.via (fun t k => XS.aloadN X14.here hx rfl (hb hby d8_43) rfl rfl k) ?_
  obtain ⟨T15, X15, e15, st15⟩ := getF X14 hx hZ hown (host := "") (Or.inl (own_W hw 59 rfl)) Via.refl e14 (((((((((((Fn.ext E1).keep Kq2 (ninS ne_a0_b1 nin0)).keep Kq4 (ninS ne_a0_b1 (ninS ne_a0_bv2 nin0))).ext E5).keep Kq6 (ninS ne_a0_b1 (ninS ne_a0_bv2 nin0))).keep Kq8 (ninS ne_a0_b1 (ninS ne_a0_bv2 nin0))).ext E9).keep Kq10 (ninS ne_a0_b1 (ninS ne_a0_bv2 nin0))).keep Kq12 (ninS ne_a0_b1 (ninS ne_a0_bv2 nin0))).ext E13).keep Kq14 (ninS ne_a0_b1 (ninS ne_a0_bv2 nin0))) (g := (mkF m 44 #[.val (.ref a0)] [(.ref a0), (.ref b1)])) rfl rfl (hb hby d8_44)
  refine RestW.via (fun t k => st15 t k) ?_
  show RestW p.tables e below s _ _ _ (T15.setTop (mkF m 47 #[.val (.ref a0)] [(.ref tn), (.ref b1)]))
  obtain ⟨cq16, kq16, q16a, q16b, q16c⟩ := isOf hZ e15 B14.1
  obtain ⟨_, _, ⟨T16, L16, k16, n16⟩, -, X16, ⟨Lc16, hQ16, l16, y16, z16⟩, st16⟩ := X15.virtualBack hx (y := (⟨"java/lang/StringBuilder", "append", "(Ljava/lang/String;)Ljava/lang/StringBuilder;"⟩ : MethodName)) (z := (⟨"java/lang/StringBuilder", "append", "(Ljava/lang/String;)Ljava/lang/StringBuilder;"⟩ : MethodName)) hown (mvT hZ (own_W hw 88 rfl)) (mvT hZ (own_W hw 89 rfl)) (notFace_of_selects (args := #[]) (mvT hZ (own_W hw 91 rfl))) (mvT hZ (own_W hw 91 rfl)) (mvT hZ (own_W hw 90 rfl)) (by decide) (backOf (W := 0) (rmAS l Z aw hw [] b1 tn bv2 kb2 (((((((0 : Int32) + iu) + (1 : Int32)) + ih) + (1 : Int32)) + (own_dd pp)) + (1 : Int32)) (((((([] ++ Lu) ++ [(64 : Int32)]) ++ Lh) ++ [(58 : Int32)]) ++ (own_dgs (own_dd pp) pp)) ++ [(47 : Int32)]) vn qn in_ Ln ic h14 h0.size K14.1 B14 (own_St_keep (own_St_keep (own_St_keep (own_St_keep (own_St_keep (own_St_keep (own_St_keep (own_St_keep (own_St_keep (own_St_keep (own_St_keep Sn ((Keep.refl _ []).ext E1) nin0 nin0) Kq2 (ninS ne_tn_b1 nin0) (ninS ne_vn_b1 nin0)) Kq4 (ninS ne_tn_b1 (ninS ne_tn_bv2 nin0)) (ninS ne_vn_b1 (ninS ne_vn_bv2 nin0))) ((Keep.refl _ []).ext E5) nin0 nin0) Kq6 (ninS ne_tn_b1 (ninS ne_tn_bv2 nin0)) (ninS ne_vn_b1 (ninS ne_vn_bv2 nin0))) Kq8 (ninS ne_tn_b1 (ninS ne_tn_bv2 nin0)) (ninS ne_vn_b1 (ninS ne_vn_bv2 nin0))) ((Keep.refl _ []).ext E9) nin0 nin0) Kq10 (ninS ne_tn_b1 (ninS ne_tn_bv2 nin0)) (ninS ne_vn_b1 (ninS ne_vn_bv2 nin0))) Kq12 (ninS ne_tn_b1 (ninS ne_tn_bv2 nin0)) (ninS ne_vn_b1 (ninS ne_vn_bv2 nin0))) ((Keep.refl _ []).ext E13) nin0 nin0) Kq14 (ninS ne_tn_b1 (ninS ne_tn_bv2 nin0)) (ninS ne_vn_b1 (ninS ne_vn_bv2 nin0))) lq14 ln.1 (by simp only [List.length_append, List.length_cons, List.length_nil]; omega) g_b1 g_bv2 (O.keep K14 all0) CS) hZ (own_W hw 92 rfl) (own_W hw 72 rfl) (by decide) (by decide)) q16a q16c (g := (mkF m 47 #[.val (.ref a0)] [(.ref tn), (.ref b1)])) rfl (by rw [hml]; rfl) (Steps.refl _) (argsL := [(.ref tn)]) (rest := []) (lenOf pd_24 rfl) rfl (by show 2 * 0 + _ ≤ _; exact Nat.le_of_eq rfl) (hb hby d8_47) (fun _ _ => ⟨rfl, e15, (by decide : 8 + 0 ≤ _), (by decide : 44 + 0 ≤ _)⟩)
  dsimp only [Pt.U, Pt.locs, Pt.cells, Pt.slots] at X16 l16 y16 z16 st16 hQ16
  subst l16 y16 z16
  obtain ⟨h16, e16⟩ : ∃ z, T16.heap = z := ⟨_, rfl⟩
  rw [e16] at hQ16
  obtain ⟨rfl, Nq16, Kq16, B16⟩ := hQ16
  have N16 := Fr.app N14 Nq16
  have K16 : Keep h0 h16 [] := K14.trans Kq16 (allS (Or.inr sz_b1) (allS (Or.inr sz_bv2) all0))
  have lq16 := own_ln.app lq14 ln.1 (by simp only [List.length_append, List.length_cons, List.length_nil]; omega)
  refine RestW.via (fun t k => st16.trans k) ?_
  show RestW p.tables e below s _ _ _ (T16.setTop (mkF m 50 #[.val (.ref a0)] [(.ref b1)]))
  obtain ⟨cq17, kq17, q17a, q17b, q17c⟩ := isOf hZ e16 B16.1
  obtain ⟨_, _, ⟨T17, L17, k17, n17⟩, -, X17, ⟨Lc17, hQ17, l17, y17, z17⟩, st17⟩ := X16.virtualBack hx (y := (⟨"java/lang/StringBuilder", "toString", "()Ljava/lang/String;"⟩ : MethodName)) (z := (⟨"java/lang/StringBuilder", "toString", "()Ljava/lang/String;"⟩ : MethodName)) hown (mvT hZ (own_W hw 161 rfl)) (mvT hZ (own_W hw 162 rfl)) (notFace_of_selects (args := #[]) (mvT hZ (own_W hw 164 rfl))) (mvT hZ (own_W hw 164 rfl)) (mvT hZ (own_W hw 163 rfl)) (by decide) (backOf (W := 0) (rmSBT l Z aw hw [] b1 bv2 kb2 ((((((((0 : Int32) + iu) + (1 : Int32)) + ih) + (1 : Int32)) + (own_dd pp)) + (1 : Int32)) + in_) ((((((([] ++ Lu) ++ [(64 : Int32)]) ++ Lh) ++ [(58 : Int32)]) ++ (own_dgs (own_dd pp) pp)) ++ [(47 : Int32)]) ++ Ln) ic h16 h0.size K16.1 B16 lq16 (by simp only [List.length_append, List.length_cons, List.length_nil]; omega) (O.keep K16 all0) CS) hZ (own_W hw 165 rfl) (own_W hw 72 rfl) (by decide) (by decide)) q17a q17c (g := (mkF m 50 #[.val (.ref a0)] [(.ref b1)])) rfl (by rw [hml]; rfl) (Steps.refl _) (argsL := []) (rest := []) (lenOf pd_26 rfl) rfl (by show 2 * 0 + _ ≤ _; exact Nat.le_of_eq rfl) (hb hby d8_50) (fun _ _ => ⟨rfl, e16, (by decide : 8 + 2 ≤ _), (by decide : 44 + 20 ≤ _)⟩)
  dsimp only [Pt.U, Pt.locs, Pt.cells, Pt.slots] at X17 l17 y17 z17 st17 hQ17
  subst l17 y17 z17
  obtain ⟨h17, e17⟩ : ∃ z, T17.heap = z := ⟨_, rfl⟩
  rw [e17] at hQ17
  obtain ⟨tr, vr, kr, rfl, Nq17, Kq17, gr_t, Sr⟩ := hQ17
  have N17 := Fr.app N16 Nq17
  have sz_tr : h0.size ≤ tr := Nat.le_trans K16.1 gr_t
  have K17 : Keep h0 h17 [] := K16.trans Kq17 all0
  refine RestW.via (fun t k => st17.trans k) ?_
  show RestW p.tables e below s _ _ _ (T17.setTop (mkF m 53 #[.val (.ref a0)] [(.ref tr)]))
  refine RestW.ret X17 hS (by rw [e17]; first | exact (Nat.le_trans (Nat.le_trans (Nat.le_trans hk13 Kq14.1) Kq16.1) Kq17.1) | exact Nat.le_refl _) (v := some (.ref tr)) (fun h => by rw [Bd.returns] at h; cases h) hlk (fun fs hr => retOut X17 hx Bd.returns rfl (Or.inr (Or.inr (Or.inr (Or.inr ⟨rfl, rfl, rfl⟩)))) (hb hby d8_53) hr) ?_ (by decide) (by decide)
  rw [e17]
  exact ⟨tr, vr, kr, rfl, own_Fr_lo Z0 N17, K17, sz_tr, Sr⟩
def own_ch (c : Int32) : Int32 := nar .char ((c &&& (255 : Int32)).toUInt32.toUInt16.toUInt32.toInt32)
def own_cc (c : Int32) : Int32 := nar .char (own_ch c)
theorem own_ccb {x : Int32} (h1 : 0 ≤ x.toInt) (h2 : x.toInt < 128) : own_cc x = x := by
  have a := c_mask x 255 8 (by decide) (by decide)
  have b := c_i2c (x &&& (255 : Int32))
  have e : (x &&& (255 : Int32)).toUInt32.toUInt16.toUInt32.toInt32 = x := Int32.toInt_inj.mp (by omega)
  have c := c_i2c x
  have e2 : nar .char x = x := by
    apply Int32.toInt_inj.mp
    show (x.toUInt32.toUInt16.toUInt32.toInt32).toInt = _
    omega
  unfold own_cc own_ch
  rw [e, e2, e2]
theorem own_p10q (e : Int32) : ∃ q : Int, (own_p10 e).toInt = q ∧ (q = 1 ∨ q = 10 ∨ q = 100 ∨ q = 1000 ∨ q = 10000) := by
  unfold own_p10
  by_cases h0 : e = 0
  · rw [if_pos h0]; exact ⟨1, by decide, by decide⟩
  rw [if_neg h0]
  by_cases h1 : e = 1
  · rw [if_pos h1]; exact ⟨10, by decide, by decide⟩
  rw [if_neg h1]
  by_cases h2 : e = 2
  · rw [if_pos h2]; exact ⟨100, by decide, by decide⟩
  rw [if_neg h2]
  by_cases h3 : e = 3
  · rw [if_pos h3]; exact ⟨1000, by decide, by decide⟩
  rw [if_neg h3]; exact ⟨10000, by decide, by decide⟩
theorem own_p10z (e : Int32) : own_p10 e ≠ (0 : Int32) := fun h => by
  obtain ⟨q, a, b⟩ := own_p10q e
  rw [h] at a
  have : (0 : Int32).toInt = 0 := by decide
  omega
theorem own_dgr {p : Int32} (h : own_pt p) (e : Int32) : 48 ≤ ((48 : Int32) + ((p / own_p10 e) % (10 : Int32))).toInt ∧ ((48 : Int32) + ((p / own_p10 e) % (10 : Int32))).toInt ≤ 57 := by
  obtain ⟨q, a, b⟩ := own_p10q e
  rw [own_dgt h a b]
  omega
theorem own_dgc {p : Int32} (h : own_pt p) (e : Int32) : (((48 : Int32) + ((p / own_p10 e) % (10 : Int32))).toUInt32.toUInt16.toUInt32.toInt32) = ((48 : Int32) + ((p / own_p10 e) % (10 : Int32))) := by
  have r := own_dgr h e
  have a := c_i2c ((48 : Int32) + ((p / own_p10 e) % (10 : Int32)))
  exact Int32.toInt_inj.mp (by omega)
theorem own_hatx {ts A B : List Int32} {nr j : Int32} {K : Nat} (ht : ∃ C, ts = A ++ B ++ C) (lr : own_ln nr ts) (hj : j.toInt = A.length + K) (hK : K < B.length) : (¬ j < (0 : Int32) ∧ j < nr) ∧ ts.getD j.toNatClampNeg 0 = B.getD K 0 := by
  obtain ⟨C, ht⟩ := ht
  have hl : ts.length = A.length + B.length + C.length := by rw [ht]; simp only [List.length_append]
  have h1 := lr.1
  refine ⟨⟨own_nlt hj (by decide : (0 : Int32).toInt = 0) (by omega), own_lt hj h1 (by omega)⟩, own_mid ht ?_ hK⟩
  show j.toInt.toNat = _
  omega
def own_kOK (p k : Int32) : Prop := ∃ K : Nat, k.toInt = K ∧ K < 5 ∧ (K < (own_dgs (own_dd p) p).length → (own_dgs (own_dd p) p).getD K 0 = own_dg p (own_dd p) k)
theorem own_k0 {p : Int32} (h : own_pt p) : own_kOK p (0 : Int32) := ⟨0, by decide, by decide, fun q => by rcases own_dcase h with ⟨e, -⟩ | ⟨e, -⟩ | ⟨e, -⟩ | ⟨e, -⟩ | ⟨e, -⟩ <;> rw [e] at q ⊢ <;> simp only [own_dgs_1, own_dgs_2, own_dgs_3, own_dgs_4, own_dgs_5] at q ⊢ <;> first | rfl | (simp at q)⟩
theorem own_k1 {p : Int32} (h : own_pt p) : own_kOK p (1 : Int32) := ⟨1, by decide, by decide, fun q => by rcases own_dcase h with ⟨e, -⟩ | ⟨e, -⟩ | ⟨e, -⟩ | ⟨e, -⟩ | ⟨e, -⟩ <;> rw [e] at q ⊢ <;> simp only [own_dgs_1, own_dgs_2, own_dgs_3, own_dgs_4, own_dgs_5] at q ⊢ <;> first | rfl | (simp at q)⟩
theorem own_k2 {p : Int32} (h : own_pt p) : own_kOK p (2 : Int32) := ⟨2, by decide, by decide, fun q => by rcases own_dcase h with ⟨e, -⟩ | ⟨e, -⟩ | ⟨e, -⟩ | ⟨e, -⟩ | ⟨e, -⟩ <;> rw [e] at q ⊢ <;> simp only [own_dgs_1, own_dgs_2, own_dgs_3, own_dgs_4, own_dgs_5] at q ⊢ <;> first | rfl | (simp at q)⟩
theorem own_k3 {p : Int32} (h : own_pt p) : own_kOK p (3 : Int32) := ⟨3, by decide, by decide, fun q => by rcases own_dcase h with ⟨e, -⟩ | ⟨e, -⟩ | ⟨e, -⟩ | ⟨e, -⟩ | ⟨e, -⟩ <;> rw [e] at q ⊢ <;> simp only [own_dgs_1, own_dgs_2, own_dgs_3, own_dgs_4, own_dgs_5] at q ⊢ <;> first | rfl | (simp at q)⟩
theorem own_k4 {p : Int32} (h : own_pt p) : own_kOK p (4 : Int32) := ⟨4, by decide, by decide, fun q => by rcases own_dcase h with ⟨e, -⟩ | ⟨e, -⟩ | ⟨e, -⟩ | ⟨e, -⟩ | ⟨e, -⟩ <;> rw [e] at q ⊢ <;> simp only [own_dgs_1, own_dgs_2, own_dgs_3, own_dgs_4, own_dgs_5] at q ⊢ <;> first | rfl | (simp at q)⟩
theorem own_dat {ts A : List Int32} {nr off p k d : Int32} (h : own_pt p) (hd : d = own_dd p) (ht : ∃ C, ts = A ++ own_dgs (own_dd p) p ++ C) (lr : own_ln nr ts) (lo : own_ln off A) (hk : own_kOK p k) (hkd : k < d) : (¬ (off + k) < (0 : Int32) ∧ (off + k) < nr) ∧ own_cc (ts.getD (off + k).toNatClampNeg 0) = ((48 : Int32) + ((p / own_p10 ((d - (1 : Int32)) - k)) % (10 : Int32))) := by
  obtain ⟨K, hK, h5, hv⟩ := hk
  have hl := (own_dln h).1
  have hl1 := hl.1
  subst hd
  rw [Int32.lt_iff_toInt_lt, hK, hl1] at hkd
  have hKl : K < (own_dgs (own_dd p) p).length := by omega
  have a := c_iadd off k
  have b := Int32.toInt_lt (off + k)
  have c := Int32.le_toInt (off + k)
  have l1 := lo.1
  have l2 := lo.2
  have e : (off + k).toInt = A.length + K := by omega
  obtain ⟨g1, g2⟩ := own_hatx ht lr e hKl
  refine ⟨g1, ?_⟩
  rw [g2, hv hKl]
  have r := own_dgr h ((own_dd p - (1 : Int32)) - k)
  exact own_ccb (by show 0 ≤ (own_dg p (own_dd p) k).toInt; unfold own_dg; omega) (by show (own_dg p (own_dd p) k).toInt < 128; unfold own_dg; omega)
theorem own_sat {ts A B : List Int32} {nr off j ns k : Int32} {K : Nat} (ht : ∃ C, ts = A ++ B ++ C) (lr : own_ln nr ts) (ls : own_ln ns B) (hj : j.toInt = A.length + K) (hk : k.toInt = K) (hkn : k < ns) : (¬ j < (0 : Int32) ∧ j < nr) ∧ own_cc (ts.getD j.toNatClampNeg 0) = own_cc (B.getD k.toNatClampNeg 0) := by
  have l1 := ls.1
  rw [Int32.lt_iff_toInt_lt, hk, l1] at hkn
  obtain ⟨g1, g2⟩ := own_hatx ht lr hj (K := K) (by omega)
  have e : k.toNatClampNeg = K := by show k.toInt.toNat = _; omega
  exact ⟨g1, by rw [g2, e]⟩
theorem own_add1 {off : Int32} {A : List Int32} (lo : own_ln off A) : (off + (1 : Int32)).toInt = A.length + (1 : Nat) := by
  have a := c_iadd off 1
  have b := Int32.toInt_lt (off + (1 : Int32))
  have c := Int32.le_toInt (off + (1 : Int32))
  have e1 : (1 : Int32).toInt = 1 := by decide
  have l1 := lo.1
  have l2 := lo.2
  omega
theorem d39_0 : decode jdk_41_method_11_code 0 = .ok (.iload_n 0, 1) := by decide +kernel
theorem d39_1 : decode jdk_41_method_11_code 1 = .ok (.ifCond .lt 8, 3) := by decide +kernel
theorem d39_4 : decode jdk_41_method_11_code 4 = .ok (.iload_n 0, 1) := by decide +kernel
theorem d39_5 : decode jdk_41_method_11_code 5 = .ok (.iload_n 1, 1) := by decide +kernel
theorem d39_6 : decode jdk_41_method_11_code 6 = .ok (.if_icmp .lt 10, 3) := by decide +kernel
theorem d39_16 : decode jdk_41_method_11_code 16 = .ok (.iload_n 0, 1) := by decide +kernel
theorem d39_17 : decode jdk_41_method_11_code 17 = .ok (.ireturn, 1) := by decide +kernel
theorem pn_10 : plainName "jdk/internal/util/Preconditions" = true := by first | (simp [plainName, overriddenIn]; done) | decide +kernel
theorem ef_PCn (m : MethodId) (p0 : Int32) (p1 : Int32) : entryFrame m #[(.int p0), (.int p1), .null] 3 = mkF m 0 #[.val (.int p0), .val (.int p1), .val .null] [] := by first | (simp [entryFrame, mkF, argsToLocals, Value.category, maxLocals]; done) | rfl
def QPCn (Z : State) (p0 : Int32) (p1 : Int32) (h0 : Heap) (n0 : Nat) (v : Option Value) (h : Heap) (L : List Loc) : Prop := v = some (.int p0) ∧ Fr n0 L ∧ h = h0
set_option maxRecDepth 65536 in
set_option maxHeartbeats 40000000 in
theorem rmPCn (l : Launch) (Z : State) (aw : Array Value) (hw : ∀ d ∈ tables_1, d.before aw Z = true) (ws : List Jvm.Cond) (p0 : Int32) (p1 : Int32) (h0 : Heap) (n0 : Nat) (Z0 : n0 ≤ h0.size) (h1 : ¬ (p0 < (0 : Int32))) (h2 : p0 < p1) :
    MetFree l (⟨"jdk/internal/util/Preconditions", "checkIndex", "(IILjava/util/function/BiFunction;)I"⟩ : MethodName) (head1 (Jvm.Cond.code (⟨"jdk/internal/util/Preconditions", "checkIndex", "(IILjava/util/function/BiFunction;)I"⟩ : MethodName) jdk_41_method_11_code 3 (some .int) :: ws) ({ frames := 0, cells := 0, slots := 0, locals := 0 } : Room)) (fun a U => a = #[(.int p0), (.int p1), .null] ∧ Z.Warmed39 U.vm ∧ U.heap = h0) (fun _ _ _ _ _ => True) (fun _ U o U' => ∃ v L, o = .returned v ∧ QPCn Z p0 p1 h0 n0 v U'.heap L ∧ FrameEnd U o U' L ({ frames := 0, cells := 0, slots := 0, locals := 0 } : Room).cells ({ frames := 0, cells := 0, slots := 0, locals := 0 } : Room).slots) := by
  refine MetFree.of_bodySF (plainFor_of_name pn_10) hisR ?_
  intro p e s m args below meth c s₁ Bd hml0 hP hK
  obtain ⟨rfl, hZ, hh⟩ := hP
  have hx := Bd.exec
  have hby := Bd.bytes
  have hml : c.maxLocals = 3 := hml0
  have hown : s.vm.findClass "jdk/internal/util/Preconditions" = some m.cls := findClass_of_methodNamed Bd.named
  have hnm := (name_of_methodNamed Bd.named Bd.method).1
  have hlk : meth.locks = false := BodyLoose.notSynchronized Bd
  have X0 : Stand p l e ({ frames := 0, cells := 0, slots := 0, locals := 0 } : Room) s m #[(.int p0), (.int p1), .null] below meth c s₁ [] 0 0 := Stand.of_body Bd
  have _u := trivial
  have eh0 : s₁.heap = h0 := by rw [← hh, Bd.state]; rfl
  have N0 := Fr.nil n0
  show Rest p.tables e below s (QPCn Z p0 p1 h0 n0) _ _ (s₁.setTop (entryFrame m #[(.int p0), (.int p1), .null] 3))
  refine Rest.via (fun t k => castTop (ef_PCn m p0 p1) k) ?_
  show Rest p.tables e below s _ _ _ (s₁.setTop (mkF m 0 #[.val (.int p0), .val (.int p1), .val .null] []))
  refine Rest.via (fun t k => XS.iloadN X0.here hx rfl (hb hby d39_0) rfl k) ?_
  refine Rest.via (fun t k => XS.ifNo X0.here hx rfl (hb hby d39_1) rfl ((if0 _ _).trans (flt (h1 : ¬ (p0 < (0 : Int32)))).1) k) ?_
  show Rest p.tables e below s _ _ _ (s₁.setTop (mkF m 4 #[.val (.int p0), .val (.int p1), .val .null] []))
  refine Rest.via (fun t k => XS.iloadN X0.here hx rfl (hb hby d39_4) rfl k) ?_
  refine Rest.via (fun t k => XS.iloadN X0.here hx rfl (hb hby d39_5) rfl k) ?_
  refine Rest.via (fun t k => XS.icmpYes X0.here hx rfl (pc0 := 6) (pc' := 16) rfl (hb hby d39_6) rfl (tlt (h2 : p0 < p1)).1 (by decide) (by decide) k) ?_
  show Rest p.tables e below s _ _ _ (s₁.setTop (mkF m 16 #[.val (.int p0), .val (.int p1), .val .null] []))
  refine Rest.via (fun t k => XS.iloadN X0.here hx rfl (hb hby d39_16) rfl k) ?_
  refine Rest.ret X0 (v := some (.int p0)) (fun h => by rw [Bd.returns] at h; cases h) hlk (fun fs hr => retOut X0 hx Bd.returns rfl (Or.inl ⟨rfl, Or.inl rfl, _, rfl⟩) (hb hby d39_17) hr) ?_ (by decide) (by decide)
  rw [eh0]
  exact ⟨rfl, N0, rfl⟩
theorem ef_PCr (m : MethodId) (p0 : Int32) (p1 : Int32) (a2 : Addr) : entryFrame m #[(.int p0), (.int p1), (.ref a2)] 3 = mkF m 0 #[.val (.int p0), .val (.int p1), .val (.ref a2)] [] := by first | (simp [entryFrame, mkF, argsToLocals, Value.category, maxLocals]; done) | rfl
def QPCr (Z : State) (p0 : Int32) (p1 : Int32) (a2 : Addr) (h0 : Heap) (n0 : Nat) (v : Option Value) (h : Heap) (L : List Loc) : Prop := v = some (.int p0) ∧ Fr n0 L ∧ h = h0
set_option maxRecDepth 65536 in
set_option maxHeartbeats 40000000 in
theorem rmPCr (l : Launch) (Z : State) (aw : Array Value) (hw : ∀ d ∈ tables_1, d.before aw Z = true) (ws : List Jvm.Cond) (p0 : Int32) (p1 : Int32) (a2 : Addr) (h0 : Heap) (n0 : Nat) (Z0 : n0 ≤ h0.size) (h1 : ¬ (p0 < (0 : Int32))) (h2 : p0 < p1) :
    MetFree l (⟨"jdk/internal/util/Preconditions", "checkIndex", "(IILjava/util/function/BiFunction;)I"⟩ : MethodName) (head1 (Jvm.Cond.code (⟨"jdk/internal/util/Preconditions", "checkIndex", "(IILjava/util/function/BiFunction;)I"⟩ : MethodName) jdk_41_method_11_code 3 (some .int) :: ws) ({ frames := 0, cells := 0, slots := 0, locals := 0 } : Room)) (fun a U => a = #[(.int p0), (.int p1), (.ref a2)] ∧ Z.Warmed39 U.vm ∧ U.heap = h0) (fun _ _ _ _ _ => True) (fun _ U o U' => ∃ v L, o = .returned v ∧ QPCr Z p0 p1 a2 h0 n0 v U'.heap L ∧ FrameEnd U o U' L ({ frames := 0, cells := 0, slots := 0, locals := 0 } : Room).cells ({ frames := 0, cells := 0, slots := 0, locals := 0 } : Room).slots) := by
  refine MetFree.of_bodySF (plainFor_of_name pn_10) hisR ?_
  intro p e s m args below meth c s₁ Bd hml0 hP hK
  obtain ⟨rfl, hZ, hh⟩ := hP
  have hx := Bd.exec
  have hby := Bd.bytes
  have hml : c.maxLocals = 3 := hml0
  have hown : s.vm.findClass "jdk/internal/util/Preconditions" = some m.cls := findClass_of_methodNamed Bd.named
  have hnm := (name_of_methodNamed Bd.named Bd.method).1
  have hlk : meth.locks = false := BodyLoose.notSynchronized Bd
  have X0 : Stand p l e ({ frames := 0, cells := 0, slots := 0, locals := 0 } : Room) s m #[(.int p0), (.int p1), (.ref a2)] below meth c s₁ [] 0 0 := Stand.of_body Bd
  have _u := trivial
  have eh0 : s₁.heap = h0 := by rw [← hh, Bd.state]; rfl
  have N0 := Fr.nil n0
  show Rest p.tables e below s (QPCr Z p0 p1 a2 h0 n0) _ _ (s₁.setTop (entryFrame m #[(.int p0), (.int p1), (.ref a2)] 3))
  refine Rest.via (fun t k => castTop (ef_PCr m p0 p1 a2) k) ?_
  show Rest p.tables e below s _ _ _ (s₁.setTop (mkF m 0 #[.val (.int p0), .val (.int p1), .val (.ref a2)] []))
  refine Rest.via (fun t k => XS.iloadN X0.here hx rfl (hb hby d39_0) rfl k) ?_
  refine Rest.via (fun t k => XS.ifNo X0.here hx rfl (hb hby d39_1) rfl ((if0 _ _).trans (flt (h1 : ¬ (p0 < (0 : Int32)))).1) k) ?_
  show Rest p.tables e below s _ _ _ (s₁.setTop (mkF m 4 #[.val (.int p0), .val (.int p1), .val (.ref a2)] []))
  refine Rest.via (fun t k => XS.iloadN X0.here hx rfl (hb hby d39_4) rfl k) ?_
  refine Rest.via (fun t k => XS.iloadN X0.here hx rfl (hb hby d39_5) rfl k) ?_
  refine Rest.via (fun t k => XS.icmpYes X0.here hx rfl (pc0 := 6) (pc' := 16) rfl (hb hby d39_6) rfl (tlt (h2 : p0 < p1)).1 (by decide) (by decide) k) ?_
  show Rest p.tables e below s _ _ _ (s₁.setTop (mkF m 16 #[.val (.int p0), .val (.int p1), .val (.ref a2)] []))
  refine Rest.via (fun t k => XS.iloadN X0.here hx rfl (hb hby d39_16) rfl k) ?_
  refine Rest.ret X0 (v := some (.int p0)) (fun h => by rw [Bd.returns] at h; cases h) hlk (fun fs hr => retOut X0 hx Bd.returns rfl (Or.inl ⟨rfl, Or.inl rfl, _, rfl⟩) (hb hby d39_17) hr) ?_ (by decide) (by decide)
  rw [eh0]
  exact ⟨rfl, N0, rfl⟩
theorem pd_27 : parseMethodDescriptor "(IILjava/util/function/BiFunction;)I" = some ⟨[.int, .int, (.object "java/util/function/BiFunction")], some .int⟩ := by decide +kernel
theorem d38_0 : decode jdk_42_method_155_code 0 = .ok (.iload_n 0, 1) := by decide +kernel
theorem d38_1 : decode jdk_42_method_155_code 1 = .ok (.iload_n 1, 1) := by decide +kernel
theorem d38_2 : decode jdk_42_method_155_code 2 = .ok (.getstatic 1053, 3) := by decide +kernel
theorem d38_5 : decode jdk_42_method_155_code 5 = .ok (.invokestatic 1059, 3) := by decide +kernel
theorem d38_8 : decode jdk_42_method_155_code 8 = .ok (.pop, 1) := by decide +kernel
theorem d38_9 : decode jdk_42_method_155_code 9 = .ok (.return_, 1) := by decide +kernel
theorem ef_SCn (m : MethodId) (p0 : Int32) (p1 : Int32) : entryFrame m #[(.int p0), (.int p1)] 2 = mkF m 0 #[.val (.int p0), .val (.int p1)] [] := by first | (simp [entryFrame, mkF, argsToLocals, Value.category, maxLocals]; done) | rfl
def QSCn (Z : State) (p0 : Int32) (p1 : Int32) (h0 : Heap) (n0 : Nat) (v : Option Value) (h : Heap) (L : List Loc) : Prop := v = none ∧ Fr n0 L ∧ h = h0
set_option maxRecDepth 65536 in
set_option maxHeartbeats 40000000 in
theorem rmSCn (l : Launch) (Z : State) (aw : Array Value) (hw : ∀ d ∈ tables_1, d.before aw Z = true) (ws : List Jvm.Cond) (p0 : Int32) (p1 : Int32) (h0 : Heap) (n0 : Nat) (Z0 : n0 ≤ h0.size) (h1 : ¬ (p0 < (0 : Int32))) (h2 : p0 < p1) (Sf : Sta Z h0 "jdk/internal/util/Preconditions" "SIOOBE_FORMATTER" "Ljava/util/function/BiFunction;" .null) :
    MetFree l (⟨"java/lang/String", "checkIndex", "(II)V"⟩ : MethodName) (head1 (Jvm.Cond.code (⟨"java/lang/String", "checkIndex", "(II)V"⟩ : MethodName) jdk_42_method_155_code 2 none :: ws) ({ frames := 1, cells := 0, slots := 0, locals := 14 } : Room)) (fun a U => a = #[(.int p0), (.int p1)] ∧ Z.Warmed39 U.vm ∧ U.heap = h0) (fun _ _ _ _ _ => True) (fun _ U o U' => ∃ v L, o = .returned v ∧ QSCn Z p0 p1 h0 n0 v U'.heap L ∧ FrameEnd U o U' L ({ frames := 1, cells := 0, slots := 0, locals := 14 } : Room).cells ({ frames := 1, cells := 0, slots := 0, locals := 14 } : Room).slots) := by
  refine MetFree.of_bodySF (plainFor_of_name pn_1) hisR ?_
  intro p e s m args below meth c s₁ Bd hml0 hP hK
  obtain ⟨rfl, hZ, hh⟩ := hP
  have hx := Bd.exec
  have hby := Bd.bytes
  have hml : c.maxLocals = 2 := hml0
  have hown : s.vm.findClass "java/lang/String" = some m.cls := findClass_of_methodNamed Bd.named
  have hnm := (name_of_methodNamed Bd.named Bd.method).1
  have hlk : meth.locks = false := BodyLoose.notSynchronized Bd
  have X0 : Stand p l e ({ frames := 1, cells := 0, slots := 0, locals := 14 } : Room) s m #[(.int p0), (.int p1)] below meth c s₁ [] 0 0 := Stand.of_body Bd
  have _u := trivial
  have eh0 : s₁.heap = h0 := by rw [← hh, Bd.state]; rfl
  have N0 := Fr.nil n0
  show Rest p.tables e below s (QSCn Z p0 p1 h0 n0) _ _ (s₁.setTop (entryFrame m #[(.int p0), (.int p1)] 2))
  refine Rest.via (fun t k => castTop (ef_SCn m p0 p1) k) ?_
  show Rest p.tables e below s _ _ _ (s₁.setTop (mkF m 0 #[.val (.int p0), .val (.int p1)] []))
  refine Rest.via (fun t k => XS.iloadN X0.here hx rfl (hb hby d38_0) rfl k) ?_
  refine Rest.via (fun t k => XS.iloadN X0.here hx rfl (hb hby d38_1) rfl k) ?_
  obtain ⟨T1, X1, e1, st1⟩ := getS2 X0 hx hZ hown (host := "") (Or.inl (own_W hw 223 rfl)) Via.refl eh0 Sf (g := (mkF m 2 #[.val (.int p0), .val (.int p1)] [(.int p1), (.int p0)])) rfl (hb hby d38_2)
  refine Rest.via (fun t k => st1 t k) ?_
  show Rest p.tables e below s _ _ _ (T1.setTop (mkF m 5 #[.val (.int p0), .val (.int p1)] [.null, (.int p1), (.int p0)]))
  obtain ⟨_, _, ⟨T2, L2, k2, n2⟩, -, X2, ⟨Lc2, hQ2, l2, y2, z2⟩, st2⟩ := Jvm.LawKit.callS X1 hx (y := (⟨"jdk/internal/util/Preconditions", "checkIndex", "(IILjava/util/function/BiFunction;)I"⟩ : MethodName)) hown (mvT hZ (own_W hw 225 rfl)) (mvT hZ (own_W hw 226 rfl)) (mvT hZ (own_W hw 224 rfl)) (mvT hZ (own_W hw 227 rfl)) (by decide) (backOf (W := 0) (rmPCn l Z aw hw [] p0 p1  h0 n0 (Nat.le_trans Z0 (Keep.refl h0 []).1) h1 h2) hZ (own_W hw 227 rfl) (own_W hw 224 rfl) (by decide) (by decide)) (g := (mkF m 5 #[.val (.int p0), .val (.int p1)] [.null, (.int p1), (.int p0)])) rfl (by rw [hml]; rfl) (argsL := [(.int p0), (.int p1), .null]) (rest := []) (lenOf pd_27 rfl) rfl (by show 2 * 0 + _ ≤ _; exact Nat.le_of_eq rfl) (hb hby d38_5) (fun _ _ => ⟨rfl, e1, (by decide : 0 + 0 ≤ _), (by decide : 0 + 0 ≤ _)⟩)
  dsimp only [Pt.U, Pt.locs, Pt.cells, Pt.slots] at X2 l2 y2 z2 st2 hQ2
  subst l2 y2 z2
  obtain ⟨rfl, Nq2, e2⟩ := hQ2
  have N2 := Fr.app N0 Nq2
  refine Rest.via (fun t k => st2 t k) ?_
  show Rest p.tables e below s _ _ _ (T2.setTop (mkF m 8 #[.val (.int p0), .val (.int p1)] [(.int p0)]))
  refine Rest.via (fun t k => XS.pop X2.here hx rfl (hb hby d38_8) rfl rfl k) ?_
  refine Rest.ret X2 (v := none) (fun _ => rfl) hlk (fun fs hr => X2.returnOut hx Bd.returns (hb hby d38_9) hr) ?_ (by decide) (by decide)
  rw [e2]
  exact ⟨rfl, N2, rfl⟩
theorem ef_SCr (m : MethodId) (p0 : Int32) (p1 : Int32) : entryFrame m #[(.int p0), (.int p1)] 2 = mkF m 0 #[.val (.int p0), .val (.int p1)] [] := by first | (simp [entryFrame, mkF, argsToLocals, Value.category, maxLocals]; done) | rfl
def QSCr (Z : State) (p0 : Int32) (p1 : Int32) (fa : Addr) (h0 : Heap) (n0 : Nat) (v : Option Value) (h : Heap) (L : List Loc) : Prop := v = none ∧ Fr n0 L ∧ h = h0
set_option maxRecDepth 65536 in
set_option maxHeartbeats 40000000 in
theorem rmSCr (l : Launch) (Z : State) (aw : Array Value) (hw : ∀ d ∈ tables_1, d.before aw Z = true) (ws : List Jvm.Cond) (p0 : Int32) (p1 : Int32) (fa : Addr) (h0 : Heap) (n0 : Nat) (Z0 : n0 ≤ h0.size) (h1 : ¬ (p0 < (0 : Int32))) (h2 : p0 < p1) (Sf : Sta Z h0 "jdk/internal/util/Preconditions" "SIOOBE_FORMATTER" "Ljava/util/function/BiFunction;" (.ref fa)) :
    MetFree l (⟨"java/lang/String", "checkIndex", "(II)V"⟩ : MethodName) (head1 (Jvm.Cond.code (⟨"java/lang/String", "checkIndex", "(II)V"⟩ : MethodName) jdk_42_method_155_code 2 none :: ws) ({ frames := 1, cells := 0, slots := 0, locals := 14 } : Room)) (fun a U => a = #[(.int p0), (.int p1)] ∧ Z.Warmed39 U.vm ∧ U.heap = h0) (fun _ _ _ _ _ => True) (fun _ U o U' => ∃ v L, o = .returned v ∧ QSCr Z p0 p1 fa h0 n0 v U'.heap L ∧ FrameEnd U o U' L ({ frames := 1, cells := 0, slots := 0, locals := 14 } : Room).cells ({ frames := 1, cells := 0, slots := 0, locals := 14 } : Room).slots) := by
  refine MetFree.of_bodySF (plainFor_of_name pn_1) hisR ?_
  intro p e s m args below meth c s₁ Bd hml0 hP hK
  obtain ⟨rfl, hZ, hh⟩ := hP
  have hx := Bd.exec
  have hby := Bd.bytes
  have hml : c.maxLocals = 2 := hml0
  have hown : s.vm.findClass "java/lang/String" = some m.cls := findClass_of_methodNamed Bd.named
  have hnm := (name_of_methodNamed Bd.named Bd.method).1
  have hlk : meth.locks = false := BodyLoose.notSynchronized Bd
  have X0 : Stand p l e ({ frames := 1, cells := 0, slots := 0, locals := 14 } : Room) s m #[(.int p0), (.int p1)] below meth c s₁ [] 0 0 := Stand.of_body Bd
  have _u := trivial
  have eh0 : s₁.heap = h0 := by rw [← hh, Bd.state]; rfl
  have N0 := Fr.nil n0
  show Rest p.tables e below s (QSCr Z p0 p1 fa h0 n0) _ _ (s₁.setTop (entryFrame m #[(.int p0), (.int p1)] 2))
  refine Rest.via (fun t k => castTop (ef_SCr m p0 p1) k) ?_
  show Rest p.tables e below s _ _ _ (s₁.setTop (mkF m 0 #[.val (.int p0), .val (.int p1)] []))
  refine Rest.via (fun t k => XS.iloadN X0.here hx rfl (hb hby d38_0) rfl k) ?_
  refine Rest.via (fun t k => XS.iloadN X0.here hx rfl (hb hby d38_1) rfl k) ?_
  obtain ⟨T1, X1, e1, st1⟩ := getS2 X0 hx hZ hown (host := "") (Or.inl (own_W hw 223 rfl)) Via.refl eh0 Sf (g := (mkF m 2 #[.val (.int p0), .val (.int p1)] [(.int p1), (.int p0)])) rfl (hb hby d38_2)
  refine Rest.via (fun t k => st1 t k) ?_
  show Rest p.tables e below s _ _ _ (T1.setTop (mkF m 5 #[.val (.int p0), .val (.int p1)] [(.ref fa), (.int p1), (.int p0)]))
  obtain ⟨_, _, ⟨T2, L2, k2, n2⟩, -, X2, ⟨Lc2, hQ2, l2, y2, z2⟩, st2⟩ := Jvm.LawKit.callS X1 hx (y := (⟨"jdk/internal/util/Preconditions", "checkIndex", "(IILjava/util/function/BiFunction;)I"⟩ : MethodName)) hown (mvT hZ (own_W hw 225 rfl)) (mvT hZ (own_W hw 226 rfl)) (mvT hZ (own_W hw 224 rfl)) (mvT hZ (own_W hw 227 rfl)) (by decide) (backOf (W := 0) (rmPCr l Z aw hw [] p0 p1 fa  h0 n0 (Nat.le_trans Z0 (Keep.refl h0 []).1) h1 h2) hZ (own_W hw 227 rfl) (own_W hw 224 rfl) (by decide) (by decide)) (g := (mkF m 5 #[.val (.int p0), .val (.int p1)] [(.ref fa), (.int p1), (.int p0)])) rfl (by rw [hml]; rfl) (argsL := [(.int p0), (.int p1), (.ref fa)]) (rest := []) (lenOf pd_27 rfl) rfl (by show 2 * 0 + _ ≤ _; exact Nat.le_of_eq rfl) (hb hby d38_5) (fun _ _ => ⟨rfl, e1, (by decide : 0 + 0 ≤ _), (by decide : 0 + 0 ≤ _)⟩)
  dsimp only [Pt.U, Pt.locs, Pt.cells, Pt.slots] at X2 l2 y2 z2 st2 hQ2
  subst l2 y2 z2
  obtain ⟨rfl, Nq2, e2⟩ := hQ2
  have N2 := Fr.app N0 Nq2
  refine Rest.via (fun t k => st2 t k) ?_
  show Rest p.tables e below s _ _ _ (T2.setTop (mkF m 8 #[.val (.int p0), .val (.int p1)] [(.int p0)]))
  refine Rest.via (fun t k => XS.pop X2.here hx rfl (hb hby d38_8) rfl rfl k) ?_
  refine Rest.ret X2 (v := none) (fun _ => rfl) hlk (fun fs hr => X2.returnOut hx Bd.returns (hb hby d38_9) hr) ?_ (by decide) (by decide)
  rw [e2]
  exact ⟨rfl, N2, rfl⟩
def QSC (Z : State) (p0 p1 : Int32) (fm : Value) (h0 : Heap) (n0 : Nat) (v : Option Value) (h : Heap) (L : List Loc) : Prop := v = none ∧ Fr n0 L ∧ h = h0
theorem rmSC (l : Launch) (Z : State) (aw : Array Value) (hw : ∀ d ∈ tables_1, d.before aw Z = true) (ws : List Jvm.Cond) (p0 p1 : Int32) (fm : Value) (h0 : Heap) (n0 : Nat) (Z0 : n0 ≤ h0.size) (h1 : ¬ (p0 < (0 : Int32))) (h2 : p0 < p1) (hf : fm.isRef = true) (Sf : Sta Z h0 "jdk/internal/util/Preconditions" "SIOOBE_FORMATTER" "Ljava/util/function/BiFunction;" fm) :
    MetFree l (⟨"java/lang/String", "checkIndex", "(II)V"⟩ : MethodName) (head1 (Jvm.Cond.code (⟨"java/lang/String", "checkIndex", "(II)V"⟩ : MethodName) jdk_42_method_155_code 2 none :: ws) ({ frames := 1, cells := 0, slots := 0, locals := 14 } : Room)) (fun a U => a = #[(.int p0), (.int p1)] ∧ Z.Warmed39 U.vm ∧ U.heap = h0) (fun _ _ _ _ _ => True) (fun _ U o U' => ∃ v L, o = .returned v ∧ QSC Z p0 p1 fm h0 n0 v U'.heap L ∧ FrameEnd U o U' L ({ frames := 1, cells := 0, slots := 0, locals := 14 } : Room).cells ({ frames := 1, cells := 0, slots := 0, locals := 14 } : Room).slots) := by
  rcases ref_cases hf with rfl | ⟨fa, rfl⟩
  · exact rmSCn l Z aw hw ws p0 p1 h0 n0 Z0 h1 h2 Sf
  · exact rmSCr l Z aw hw ws p0 p1 fa h0 n0 Z0 h1 h2 Sf
theorem d37_0 : decode jdk_43_method_2_code 0 = .ok (.iload_n 1, 1) := by decide +kernel
theorem d37_1 : decode jdk_43_method_2_code 1 = .ok (.aload_n 0, 1) := by decide +kernel
theorem d37_2 : decode jdk_43_method_2_code 2 = .ok (.arraylength, 1) := by decide +kernel
theorem d37_3 : decode jdk_43_method_2_code 3 = .ok (.invokestatic 9, 3) := by decide +kernel
theorem d37_6 : decode jdk_43_method_2_code 6 = .ok (.aload_n 0, 1) := by decide +kernel
theorem d37_7 : decode jdk_43_method_2_code 7 = .ok (.iload_n 1, 1) := by decide +kernel
theorem d37_8 : decode jdk_43_method_2_code 8 = .ok (.baload, 1) := by decide +kernel
theorem d37_9 : decode jdk_43_method_2_code 9 = .ok (.sipush 255, 3) := by decide +kernel
theorem d37_12 : decode jdk_43_method_2_code 12 = .ok (.iand, 1) := by decide +kernel
theorem d37_13 : decode jdk_43_method_2_code 13 = .ok (.i2c, 1) := by decide +kernel
theorem d37_14 : decode jdk_43_method_2_code 14 = .ok (.ireturn, 1) := by decide +kernel
theorem pn_11 : plainName "java/lang/StringLatin1" = true := by first | (simp [plainName, overriddenIn]; done) | decide +kernel
theorem ef_LC (m : MethodId) (a0 : Addr) (p1 : Int32) : entryFrame m #[(.ref a0), (.int p1)] 2 = mkF m 0 #[.val (.ref a0), .val (.int p1)] [] := by first | (simp [entryFrame, mkF, argsToLocals, Value.category, maxLocals]; done) | rfl
def QLC (Z : State) (a0 : Addr) (p1 : Int32) (k : ClassId) (m0 : Int32) (ys : List Int32) (fm : Value) (h0 : Heap) (n0 : Nat) (v : Option Value) (h : Heap) (L : List Loc) : Prop := v = some (.int (own_ch (ys.getD p1.toNatClampNeg 0))) ∧ Fr n0 L ∧ h = h0
set_option maxRecDepth 65536 in
set_option maxHeartbeats 40000000 in
theorem rmLC (l : Launch) (Z : State) (aw : Array Value) (hw : ∀ d ∈ tables_1, d.before aw Z = true) (ws : List Jvm.Cond) (a0 : Addr) (p1 : Int32) (k : ClassId) (m0 : Int32) (ys : List Int32) (fm : Value) (h0 : Heap) (n0 : Nat) (Z0 : n0 ≤ h0.size) (V0 : Arv Z h0 a0 k .byte m0 (ys.map Value.int) (.int (0 : Int32))) (h1 : ¬ p1 < (0 : Int32)) (h2 : p1 < m0) (O : own_Old Z n0 h0) (hf : fm.isRef = true) (Sf : Sta Z Z.heap "jdk/internal/util/Preconditions" "SIOOBE_FORMATTER" "Ljava/util/function/BiFunction;" fm) :
    MetFree l (⟨"java/lang/StringLatin1", "charAt", "([BI)C"⟩ : MethodName) (head1 (Jvm.Cond.code (⟨"java/lang/StringLatin1", "charAt", "([BI)C"⟩ : MethodName) jdk_43_method_2_code 2 (some .char) :: ws) ({ frames := 2, cells := 0, slots := 0, locals := 27 } : Room)) (fun a U => a = #[(.ref a0), (.int p1)] ∧ Z.Warmed39 U.vm ∧ U.heap = h0) (fun _ _ _ _ _ => True) (fun _ U o U' => ∃ v L, o = .returned v ∧ QLC Z a0 p1 k m0 ys fm h0 n0 v U'.heap L ∧ FrameEnd U o U' L ({ frames := 2, cells := 0, slots := 0, locals := 27 } : Room).cells ({ frames := 2, cells := 0, slots := 0, locals := 27 } : Room).slots) := by
  refine MetFree.of_bodySF (plainFor_of_name pn_11) hisR ?_
  intro p e s m args below meth c s₁ Bd hml0 hP hK
  obtain ⟨rfl, hZ, hh⟩ := hP
  have hx := Bd.exec
  have hby := Bd.bytes
  have hml : c.maxLocals = 2 := hml0
  have hown : s.vm.findClass "java/lang/StringLatin1" = some m.cls := findClass_of_methodNamed Bd.named
  have hnm := (name_of_methodNamed Bd.named Bd.method).1
  have hlk : meth.locks = false := BodyLoose.notSynchronized Bd
  have X0 : Stand p l e ({ frames := 2, cells := 0, slots := 0, locals := 27 } : Room) s m #[(.ref a0), (.int p1)] below meth c s₁ [] 0 0 := Stand.of_body Bd
  have _u := trivial
  have eh0 : s₁.heap = h0 := by rw [← hh, Bd.state]; rfl
  have N0 := Fr.nil n0
  show Rest p.tables e below s (QLC Z a0 p1 k m0 ys fm h0 n0) _ _ (s₁.setTop (entryFrame m #[(.ref a0), (.int p1)] 2))
  refine Rest.via (fun t k => castTop (ef_LC m a0 p1) k) ?_
  show Rest p.tables e below s _ _ _ (s₁.setTop (mkF m 0 #[.val (.ref a0), .val (.int p1)] []))
  refine Rest.via (fun t k => XS.iloadN X0.here hx rfl (hb hby d37_0) rfl k) ?_
  refine Rest.via (fun t k => XS.aloadN X0.here hx rfl (hb hby d37_1) rfl rfl k) ?_
  obtain ⟨cl1, Ar1, -, S1, P1, -, -⟩ := id V0
  refine Rest.via (fun t k => X0.arraylength hx (by rw [eh0]; exact Ar1.1) (State.isArrayOf_alike hZ.alike Ar1.2.1) (g := (mkF m 2 #[.val (.ref a0), .val (.int p1)] [(.ref a0), (.int p1)])) rfl rfl (hb hby d37_2) t k) ?_
  rw [len_of S1 P1]
  show Rest p.tables e below s _ _ _ (s₁.setTop (mkF m 3 #[.val (.ref a0), .val (.int p1)] [(.int m0), (.int p1)]))
  obtain ⟨_, _, ⟨T2, L2, k2, n2⟩, -, X2, ⟨Lc2, hQ2, l2, y2, z2⟩, st2⟩ := Jvm.LawKit.callS X0 hx (y := (⟨"java/lang/String", "checkIndex", "(II)V"⟩ : MethodName)) hown (mvT hZ (own_W hw 220 rfl)) (mvT hZ (own_W hw 221 rfl)) (mvT hZ (own_W hw 6 rfl)) (mvT hZ (own_W hw 222 rfl)) (by decide) (backOf (W := 0) (rmSC l Z aw hw [] p1 m0 fm h0 n0 (Nat.le_trans Z0 (Keep.refl h0 []).1) h1 h2 hf (Sf.ext O.2)) hZ (own_W hw 222 rfl) (own_W hw 6 rfl) (by decide) (by decide)) (g := (mkF m 3 #[.val (.ref a0), .val (.int p1)] [(.int m0), (.int p1)])) rfl (by rw [hml]; rfl) (argsL := [(.int p1), (.int m0)]) (rest := []) (lenOf pd_16 rfl) rfl (by show 2 * 0 + _ ≤ _; exact Nat.le_of_eq rfl) (hb hby d37_3) (fun _ _ => ⟨rfl, eh0, (by decide : 0 + 0 ≤ _), (by decide : 0 + 0 ≤ _)⟩)
  dsimp only [Pt.U, Pt.locs, Pt.cells, Pt.slots] at X2 l2 y2 z2 st2 hQ2
  subst l2 y2 z2
  obtain ⟨rfl, Nq2, e2⟩ := hQ2
  have N2 := Fr.app N0 Nq2
  refine Rest.via (fun t k => st2 t k) ?_
  show Rest p.tables e below s _ _ _ (T2.setTop (mkF m 6 #[.val (.ref a0), .val (.int p1)] []))
  refine Rest.via (fun t k => XS.aloadN X2.here hx rfl (hb hby d37_6) rfl rfl k) ?_
  refine Rest.via (fun t k => XS.iloadN X2.here hx rfl (hb hby d37_7) rfl k) ?_
  show Rest p.tables e below s _ _ _ (T2.setTop (mkF m 8 #[.val (.ref a0), .val (.int p1)] [(.int p1), (.ref a0)]))
  obtain ⟨cl3, Ar3, qa3, Sa3, Pa3, Ha3, Ga3⟩ := id V0
  have hin3 := inb_of (j := p1) Sa3 ⟨h1, h2⟩
  have hat3 : cl3.slots[(p1).toNatClampNeg]? = some (.int (ys.getD p1.toNatClampNeg 0)) := by rw [← own_getm]; exact Ha3 _ (Nat.lt_of_not_le (fun q => hin3 (Or.inr q)))
  refine Rest.via (fun t k => X2.baloadBytes hx (j := p1) (v := (.int (ys.getD p1.toNatClampNeg 0))) (by rw [e2]; exact Ar3.1) (State.isArrayOf_alike hZ.alike Ar3.2.1) Ar3.2.2 hin3 hat3 (g := (mkF m 8 #[.val (.ref a0), .val (.int p1)] [(.int p1), (.ref a0)])) rfl rfl (hb hby d37_8) t k) ?_
  show Rest p.tables e below s _ _ _ (T2.setTop (mkF m 9 #[.val (.ref a0), .val (.int p1)] [(.int (ys.getD p1.toNatClampNeg 0))]))
  refine Rest.via (fun t k => XS.sipush X2.here hx rfl (hb hby d37_9) k) ?_
  refine Rest.via (fun t k => XS.iand X2.here hx rfl (hb hby d37_12) rfl k) ?_
  refine Rest.via (fun t k => XS.i2c X2.here hx rfl (hb hby d37_13) rfl k) ?_
  refine Rest.ret X2 (v := some (.int (nar .char (((ys.getD p1.toNatClampNeg 0) &&& (255 : Int32)).toUInt32.toUInt16.toUInt32.toInt32)))) (fun h => by rw [Bd.returns] at h; cases h) hlk (fun fs hr => retN X2 hx (t := .char) Bd.returns (by simp) (hb hby d37_14) hr) ?_ (by decide) (by decide)
  rw [e2]
  exact ⟨rfl, N2, rfl⟩
theorem d36_0 : decode jdk_42_method_154_code 0 = .ok (.getstatic 38, 3) := by decide +kernel
theorem d36_3 : decode jdk_42_method_154_code 3 = .ok (.ifCond .eq 14, 3) := by decide +kernel
theorem d36_6 : decode jdk_42_method_154_code 6 = .ok (.aload_n 0, 1) := by decide +kernel
theorem d36_7 : decode jdk_42_method_154_code 7 = .ok (.getfield 15, 3) := by decide +kernel
theorem d36_10 : decode jdk_42_method_154_code 10 = .ok (.ifCond .ne 7, 3) := by decide +kernel
theorem d36_13 : decode jdk_42_method_154_code 13 = .ok (.iconst 1, 1) := by decide +kernel
theorem d36_14 : decode jdk_42_method_154_code 14 = .ok (.goto 4, 3) := by decide +kernel
theorem d36_18 : decode jdk_42_method_154_code 18 = .ok (.ireturn, 1) := by decide +kernel
theorem ef_IL (m : MethodId) (a0 : Addr) : entryFrame m #[(.ref a0)] 1 = mkF m 0 #[.val (.ref a0)] [] := by first | (simp [entryFrame, mkF, argsToLocals, Value.category, maxLocals]; done) | rfl
def QIL (Z : State) (a0 : Addr) (va : Addr) (k : ClassId) (m0 : Int32) (ys : List Int32) (ic : Int32) (h0 : Heap) (n0 : Nat) (v : Option Value) (h : Heap) (L : List Loc) : Prop := v = some (.int (1 : Int32)) ∧ Fr n0 L ∧ h = h0
set_option maxRecDepth 65536 in
set_option maxHeartbeats 40000000 in
theorem rmIL (l : Launch) (Z : State) (aw : Array Value) (hw : ∀ d ∈ tables_1, d.before aw Z = true) (ws : List Jvm.Cond) (a0 : Addr) (va : Addr) (k : ClassId) (m0 : Int32) (ys : List Int32) (ic : Int32) (h0 : Heap) (n0 : Nat) (Z0 : n0 ≤ h0.size) (S1 : own_St Z h0 a0 va k m0 (ys.map Value.int)) (O : own_Old Z n0 h0) (CS : own_CS Z ic) :
    MetFree l (⟨"java/lang/String", "isLatin1", "()Z"⟩ : MethodName) (head1 (Jvm.Cond.code (⟨"java/lang/String", "isLatin1", "()Z"⟩ : MethodName) jdk_42_method_154_code 1 (some .boolean) :: ws) ({ frames := 0, cells := 0, slots := 0, locals := 0 } : Room)) (fun a U => a = #[(.ref a0)] ∧ Z.Warmed39 U.vm ∧ U.heap = h0) (fun _ _ _ _ _ => True) (fun _ U o U' => ∃ v L, o = .returned v ∧ QIL Z a0 va k m0 ys ic h0 n0 v U'.heap L ∧ FrameEnd U o U' L ({ frames := 0, cells := 0, slots := 0, locals := 0 } : Room).cells ({ frames := 0, cells := 0, slots := 0, locals := 0 } : Room).slots) := by
  refine MetFree.of_bodySF (plainFor_of_name pn_1) hisR ?_
  intro p e s m args below meth c s₁ Bd hml0 hP hK
  obtain ⟨rfl, hZ, hh⟩ := hP
  have hx := Bd.exec
  have hby := Bd.bytes
  have hml : c.maxLocals = 1 := hml0
  have hown : s.vm.findClass "java/lang/String" = some m.cls := findClass_of_methodNamed Bd.named
  have hnm := (name_of_methodNamed Bd.named Bd.method).1
  have hlk : meth.locks = false := BodyLoose.notSynchronized Bd
  have X0 : Stand p l e ({ frames := 0, cells := 0, slots := 0, locals := 0 } : Room) s m #[(.ref a0)] below meth c s₁ [] 0 0 := Stand.of_body Bd
  have _u := trivial
  have eh0 : s₁.heap = h0 := by rw [← hh, Bd.state]; rfl
  have N0 := Fr.nil n0
  show Rest p.tables e below s (QIL Z a0 va k m0 ys ic h0 n0) _ _ (s₁.setTop (entryFrame m #[(.ref a0)] 1))
  refine Rest.via (fun t k => castTop (ef_IL m a0) k) ?_
  obtain ⟨E_a0, Fv_a0, Fc_a0, V_a0⟩ := id S1
  show Rest p.tables e below s _ _ _ (s₁.setTop (mkF m 0 #[.val (.ref a0)] []))
  obtain ⟨T1, X1, e1, st1⟩ := getS2 X0 hx hZ hown (host := "") (Or.inl (own_W hw 108 rfl)) Via.refl eh0 (CS.1.ext (O.keep (Keep.refl h0 []) all0).2) (g := (mkF m 0 #[.val (.ref a0)] [])) rfl (hb hby d36_0)
  refine Rest.via (fun t k => st1 t k) ?_
  show Rest p.tables e below s _ _ _ (T1.setTop (mkF m 3 #[.val (.ref a0)] [(.int ic)]))
  refine Rest.via (fun t k => XS.ifNo X1.here hx rfl (hb hby d36_3) rfl ((if0 _ _).trans (feq (CS.2 : ¬ (ic = (0 : Int32)))).1) k) ?_
  show Rest p.tables e below s _ _ _ (T1.setTop (mkF m 6 #[.val (.ref a0)] []))
  refine Rest.via (fun t k => XS.aloadN X1.here hx rfl (hb hby d36_6) rfl rfl k) ?_
  obtain ⟨T2, X2, e2, st2⟩ := getF X1 hx hZ hown (host := "") (Or.inl (own_W hw 25 rfl)) Via.refl e1 Fc_a0 (g := (mkF m 7 #[.val (.ref a0)] [(.ref a0)])) rfl rfl (hb hby d36_7)
  refine Rest.via (fun t k => st2 t k) ?_
  show Rest p.tables e below s _ _ _ (T2.setTop (mkF m 10 #[.val (.ref a0)] [(.int (0 : Int32))]))
  refine Rest.via (fun t k => XS.ifNo X2.here hx rfl (hb hby d36_10) rfl ((if0 _ _).trans (teq (by decide : (0 : Int32) = (0 : Int32))).2) k) ?_
  show Rest p.tables e below s _ _ _ (T2.setTop (mkF m 13 #[.val (.ref a0)] []))
  refine Rest.via (fun t k => XS.iconst X2.here hx rfl (hb hby d36_13) k) ?_
  refine Rest.via (fun t k => XS.goto X2.here hx rfl (pc0 := 14) (pc' := 18) rfl (hb hby d36_14) (by decide) (by decide) k) ?_
  refine Rest.ret X2 (v := some (.int (nar .boolean (1 : Int32)))) (fun h => by rw [Bd.returns] at h; cases h) hlk (fun fs hr => retN X2 hx (t := .boolean) Bd.returns (by simp) (hb hby d36_18) hr) ?_ (by decide) (by decide)
  rw [e2]
  exact ⟨rfl, N0, rfl⟩
theorem pd_28 : parseMethodDescriptor "([BI)C" = some ⟨[(.array .byte), .int], some .char⟩ := by decide +kernel
theorem d35_0 : decode jdk_42_method_56_code 0 = .ok (.aload_n 0, 1) := by decide +kernel
theorem d35_1 : decode jdk_42_method_56_code 1 = .ok (.invokevirtual 492, 3) := by decide +kernel
theorem d35_4 : decode jdk_42_method_56_code 4 = .ok (.ifCond .eq 12, 3) := by decide +kernel
theorem d35_7 : decode jdk_42_method_56_code 7 = .ok (.aload_n 0, 1) := by decide +kernel
theorem d35_8 : decode jdk_42_method_56_code 8 = .ok (.getfield 9, 3) := by decide +kernel
theorem d35_11 : decode jdk_42_method_56_code 11 = .ok (.iload_n 1, 1) := by decide +kernel
theorem d35_12 : decode jdk_42_method_56_code 12 = .ok (.invokestatic 495, 3) := by decide +kernel
theorem d35_15 : decode jdk_42_method_56_code 15 = .ok (.ireturn, 1) := by decide +kernel
theorem ef_CA (m : MethodId) (a0 : Addr) (p1 : Int32) : entryFrame m #[(.ref a0), (.int p1)] 2 = mkF m 0 #[.val (.ref a0), .val (.int p1)] [] := by first | (simp [entryFrame, mkF, argsToLocals, Value.category, maxLocals]; done) | rfl
def QCA (Z : State) (a0 : Addr) (p1 : Int32) (va : Addr) (k : ClassId) (m0 : Int32) (ys : List Int32) (ic : Int32) (fm : Value) (h0 : Heap) (n0 : Nat) (v : Option Value) (h : Heap) (L : List Loc) : Prop := v = some (.int (own_cc (ys.getD p1.toNatClampNeg 0))) ∧ Fr n0 L ∧ h = h0
set_option maxRecDepth 65536 in
set_option maxHeartbeats 40000000 in
theorem rmCA (l : Launch) (Z : State) (aw : Array Value) (hw : ∀ d ∈ tables_1, d.before aw Z = true) (ws : List Jvm.Cond) (a0 : Addr) (p1 : Int32) (va : Addr) (k : ClassId) (m0 : Int32) (ys : List Int32) (ic : Int32) (fm : Value) (h0 : Heap) (n0 : Nat) (Z0 : n0 ≤ h0.size) (S1 : own_St Z h0 a0 va k m0 (ys.map Value.int)) (h1 : ¬ p1 < (0 : Int32)) (h2 : p1 < m0) (O : own_Old Z n0 h0) (CS : own_CS Z ic) (hf : fm.isRef = true) (Sf : Sta Z Z.heap "jdk/internal/util/Preconditions" "SIOOBE_FORMATTER" "Ljava/util/function/BiFunction;" fm) :
    MetFree l (⟨"java/lang/String", "charAt", "(I)C"⟩ : MethodName) (head1 (Jvm.Cond.code (⟨"java/lang/String", "charAt", "(I)C"⟩ : MethodName) jdk_42_method_56_code 2 (some .char) :: ws) ({ frames := 3, cells := 0, slots := 0, locals := 40 } : Room)) (fun a U => a = #[(.ref a0), (.int p1)] ∧ Z.Warmed39 U.vm ∧ U.heap = h0) (fun _ _ _ _ _ => True) (fun _ U o U' => ∃ v L, o = .returned v ∧ QCA Z a0 p1 va k m0 ys ic fm h0 n0 v U'.heap L ∧ FrameEnd U o U' L ({ frames := 3, cells := 0, slots := 0, locals := 40 } : Room).cells ({ frames := 3, cells := 0, slots := 0, locals := 40 } : Room).slots) := by
  refine MetFree.of_bodySF (plainFor_of_name pn_1) hisR ?_
  intro p e s m args below meth c s₁ Bd hml0 hP hK
  obtain ⟨rfl, hZ, hh⟩ := hP
  have hx := Bd.exec
  have hby := Bd.bytes
  have hml : c.maxLocals = 2 := hml0
  have hown : s.vm.findClass "java/lang/String" = some m.cls := findClass_of_methodNamed Bd.named
  have hnm := (name_of_methodNamed Bd.named Bd.method).1
  have hlk : meth.locks = false := BodyLoose.notSynchronized Bd
  have X0 : Stand p l e ({ frames := 3, cells := 0, slots := 0, locals := 40 } : Room) s m #[(.ref a0), (.int p1)] below meth c s₁ [] 0 0 := Stand.of_body Bd
  have _u := trivial
  have eh0 : s₁.heap = h0 := by rw [← hh, Bd.state]; rfl
  have N0 := Fr.nil n0
  show Rest p.tables e below s (QCA Z a0 p1 va k m0 ys ic fm h0 n0) _ _ (s₁.setTop (entryFrame m #[(.ref a0), (.int p1)] 2))
  refine Rest.via (fun t k => castTop (ef_CA m a0 p1) k) ?_
  obtain ⟨E_a0, Fv_a0, Fc_a0, V_a0⟩ := id S1
  show Rest p.tables e below s _ _ _ (s₁.setTop (mkF m 0 #[.val (.ref a0), .val (.int p1)] []))
  refine Rest.via (fun t k => XS.aloadN X0.here hx rfl (hb hby d35_0) rfl rfl k) ?_
  show Rest p.tables e below s _ _ _ (s₁.setTop (mkF m 1 #[.val (.ref a0), .val (.int p1)] [(.ref a0)]))
  obtain ⟨cq1, kq1, q1a, q1b, q1c⟩ := isOf hZ eh0 E_a0
  obtain ⟨_, _, ⟨T1, L1, k1, n1⟩, -, X1, ⟨Lc1, hQ1, l1, y1, z1⟩, st1⟩ := X0.virtualBack hx (y := (⟨"java/lang/String", "isLatin1", "()Z"⟩ : MethodName)) (z := (⟨"java/lang/String", "isLatin1", "()Z"⟩ : MethodName)) hown (mvT hZ (own_W hw 211 rfl)) (mvT hZ (own_W hw 212 rfl)) (notFace_of_selects (args := #[]) (mvT hZ (own_W hw 214 rfl))) (mvT hZ (own_W hw 214 rfl)) (mvT hZ (own_W hw 213 rfl)) (by decide) (backOf (W := 0) (rmIL l Z aw hw [] a0 va k m0 ys ic h0 n0 (Nat.le_trans Z0 (Keep.refl h0 []).1) S1 (O.keep (Keep.refl h0 []) all0) CS) hZ (own_W hw 215 rfl) (own_W hw 6 rfl) (by decide) (by decide)) q1a q1c (g := (mkF m 1 #[.val (.ref a0), .val (.int p1)] [(.ref a0)])) rfl (by rw [hml]; rfl) (Steps.refl _) (argsL := []) (rest := []) (lenOf pd_13 rfl) rfl (by show 2 * 0 + _ ≤ _; exact Nat.le_of_eq rfl) (hb hby d35_1) (fun _ _ => ⟨rfl, eh0, (by decide : 0 + 0 ≤ _), (by decide : 0 + 0 ≤ _)⟩)
  dsimp only [Pt.U, Pt.locs, Pt.cells, Pt.slots] at X1 l1 y1 z1 st1 hQ1
  subst l1 y1 z1
  obtain ⟨rfl, Nq1, e1⟩ := hQ1
  have N1 := Fr.app N0 Nq1
  refine Rest.via (fun t k => st1.trans k) ?_
  show Rest p.tables e below s _ _ _ (T1.setTop (mkF m 4 #[.val (.ref a0), .val (.int p1)] [(.int (1 : Int32))]))
  refine Rest.via (fun t k => XS.ifNo X1.here hx rfl (hb hby d35_4) rfl ((if0 _ _).trans (feq (by decide : ¬ ((1 : Int32) = (0 : Int32)))).1) k) ?_
  show Rest p.tables e below s _ _ _ (T1.setTop (mkF m 7 #[.val (.ref a0), .val (.int p1)] []))
  refine Rest.via (fun t k => XS.aloadN X1.here hx rfl (hb hby d35_7) rfl rfl k) ?_
  obtain ⟨T2, X2, e2, st2⟩ := getF X1 hx hZ hown (host := "") (Or.inl (own_W hw 24 rfl)) Via.refl e1 Fv_a0 (g := (mkF m 8 #[.val (.ref a0), .val (.int p1)] [(.ref a0)])) rfl rfl (hb hby d35_8)
  refine Rest.via (fun t k => st2 t k) ?_
  show Rest p.tables e below s _ _ _ (T2.setTop (mkF m 11 #[.val (.ref a0), .val (.int p1)] [(.ref va)]))
  refine Rest.via (fun t k => XS.iloadN X2.here hx rfl (hb hby d35_11) rfl k) ?_
  show Rest p.tables e below s _ _ _ (T2.setTop (mkF m 12 #[.val (.ref a0), .val (.int p1)] [(.int p1), (.ref va)]))
  obtain ⟨_, _, ⟨T3, L3, k3, n3⟩, -, X3, ⟨Lc3, hQ3, l3, y3, z3⟩, st3⟩ := Jvm.LawKit.callS X2 hx (y := (⟨"java/lang/StringLatin1", "charAt", "([BI)C"⟩ : MethodName)) hown (mvT hZ (own_W hw 216 rfl)) (mvT hZ (own_W hw 217 rfl)) (mvT hZ (own_W hw 218 rfl)) (mvT hZ (own_W hw 219 rfl)) (by decide) (backOf (W := 0) (rmLC l Z aw hw [] va p1 k m0 ys fm h0 n0 (Nat.le_trans Z0 (Keep.refl h0 []).1) V_a0 h1 h2 (O.keep (Keep.refl h0 []) all0) hf Sf) hZ (own_W hw 219 rfl) (own_W hw 218 rfl) (by decide) (by decide)) (g := (mkF m 12 #[.val (.ref a0), .val (.int p1)] [(.int p1), (.ref va)])) rfl (by rw [hml]; rfl) (argsL := [(.ref va), (.int p1)]) (rest := []) (lenOf pd_28 rfl) rfl (by show 2 * 0 + _ ≤ _; exact Nat.le_of_eq rfl) (hb hby d35_12) (fun _ _ => ⟨rfl, e2, (by decide : 0 + 0 ≤ _), (by decide : 0 + 0 ≤ _)⟩)
  dsimp only [Pt.U, Pt.locs, Pt.cells, Pt.slots] at X3 l3 y3 z3 st3 hQ3
  subst l3 y3 z3
  obtain ⟨rfl, Nq3, e3⟩ := hQ3
  have N3 := Fr.app N1 Nq3
  refine Rest.via (fun t k => st3 t k) ?_
  show Rest p.tables e below s _ _ _ (T3.setTop (mkF m 15 #[.val (.ref a0), .val (.int p1)] [(.int (own_ch (ys.getD p1.toNatClampNeg 0)))]))
  refine Rest.ret X3 (v := some (.int (nar .char (own_ch (ys.getD p1.toNatClampNeg 0))))) (fun h => by rw [Bd.returns] at h; cases h) hlk (fun fs hr => retN X3 hx (t := .char) Bd.returns (by simp) (hb hby d35_15) hr) ?_ (by decide) (by decide)
  rw [e3]
  exact ⟨rfl, N3, rfl⟩
theorem pd_29 : parseMethodDescriptor "(I)C" = some ⟨[.int], some .char⟩ := by decide +kernel
theorem d34_0 : decode method_4_code 0 = .ok (.aload_n 2, 1) := by decide +kernel
theorem d34_1 : decode method_4_code 1 = .ok (.invokevirtual 33, 3) := by decide +kernel
theorem d34_4 : decode method_4_code 4 = .ok (.ifCond .le 18, 3) := by decide +kernel
theorem d34_7 : decode method_4_code 7 = .ok (.aload_n 0, 1) := by decide +kernel
theorem d34_8 : decode method_4_code 8 = .ok (.iload_n 1, 1) := by decide +kernel
theorem d34_9 : decode method_4_code 9 = .ok (.invokevirtual 43, 3) := by decide +kernel
theorem d34_12 : decode method_4_code 12 = .ok (.aload_n 2, 1) := by decide +kernel
theorem d34_13 : decode method_4_code 13 = .ok (.iconst 0, 1) := by decide +kernel
theorem d34_14 : decode method_4_code 14 = .ok (.invokevirtual 43, 3) := by decide +kernel
theorem d34_17 : decode method_4_code 17 = .ok (.if_icmp .eq 5, 3) := by decide +kernel
theorem d34_22 : decode method_4_code 22 = .ok (.aload_n 2, 1) := by decide +kernel
theorem d34_23 : decode method_4_code 23 = .ok (.invokevirtual 33, 3) := by decide +kernel
theorem d34_26 : decode method_4_code 26 = .ok (.iconst 1, 1) := by decide +kernel
theorem d34_27 : decode method_4_code 27 = .ok (.if_icmp .le 20, 3) := by decide +kernel
theorem d34_30 : decode method_4_code 30 = .ok (.aload_n 0, 1) := by decide +kernel
theorem d34_31 : decode method_4_code 31 = .ok (.iload_n 1, 1) := by decide +kernel
theorem d34_32 : decode method_4_code 32 = .ok (.iconst 1, 1) := by decide +kernel
theorem d34_33 : decode method_4_code 33 = .ok (.iadd, 1) := by decide +kernel
theorem d34_34 : decode method_4_code 34 = .ok (.invokevirtual 43, 3) := by decide +kernel
theorem d34_37 : decode method_4_code 37 = .ok (.aload_n 2, 1) := by decide +kernel
theorem d34_38 : decode method_4_code 38 = .ok (.iconst 1, 1) := by decide +kernel
theorem d34_39 : decode method_4_code 39 = .ok (.invokevirtual 43, 3) := by decide +kernel
theorem d34_42 : decode method_4_code 42 = .ok (.if_icmp .eq 5, 3) := by decide +kernel
theorem d34_47 : decode method_4_code 47 = .ok (.iconst 1, 1) := by decide +kernel
theorem d34_48 : decode method_4_code 48 = .ok (.ireturn, 1) := by decide +kernel
theorem ef_HAS (m : MethodId) (a0 : Addr) (p1 : Int32) (a2 : Addr) : entryFrame m #[(.ref a0), (.int p1), (.ref a2)] 3 = mkF m 0 #[.val (.ref a0), .val (.int p1), .val (.ref a2)] [] := by first | (simp [entryFrame, mkF, argsToLocals, Value.category, maxLocals]; done) | rfl
def QHAS (Z : State) (a0 : Addr) (p1 : Int32) (a2 : Addr) (vr : Addr) (kr : ClassId) (nr : Int32) (ts : List Int32) (va : Addr) (k : ClassId) (m0 : Int32) (ys : List Int32) (A : List Int32) (ic : Int32) (fm : Value) (h0 : Heap) (n0 : Nat) (v : Option Value) (h : Heap) (L : List Loc) : Prop := v = some (.int (1 : Int32)) ∧ Fr n0 L ∧ h = h0
set_option maxRecDepth 65536 in
set_option maxHeartbeats 40000000 in
theorem rmHAS (l : Launch) (Z : State) (aw : Array Value) (hw : ∀ d ∈ tables_1, d.before aw Z = true) (ws : List Jvm.Cond) (a0 : Addr) (p1 : Int32) (a2 : Addr) (vr : Addr) (kr : ClassId) (nr : Int32) (ts : List Int32) (va : Addr) (k : ClassId) (m0 : Int32) (ys : List Int32) (A : List Int32) (ic : Int32) (fm : Value) (h0 : Heap) (n0 : Nat) (Z0 : n0 ≤ h0.size) (Sr : own_St Z h0 a0 vr kr nr (ts.map Value.int)) (lr : own_ln nr ts) (S1 : own_St Z h0 a2 va k m0 (ys.map Value.int)) (ly : own_ln m0 ys) (lo : own_ln p1 A) (ht : ∃ C, ts = A ++ ys ++ C) (O : own_Old Z n0 h0) (CS : own_CS Z ic) (hf : fm.isRef = true) (Sf : Sta Z Z.heap "jdk/internal/util/Preconditions" "SIOOBE_FORMATTER" "Ljava/util/function/BiFunction;" fm) :
    MetFree l (⟨"com/example/zapros/zapros/io/sql/SqlDatabaseToStringPinLaw", "has", "(Ljava/lang/String;ILjava/lang/String;)Z"⟩ : MethodName) (head1 (Jvm.Cond.code (⟨"com/example/zapros/zapros/io/sql/SqlDatabaseToStringPinLaw", "has", "(Ljava/lang/String;ILjava/lang/String;)Z"⟩ : MethodName) method_4_code 3 (some .boolean) :: ws) ({ frames := 4, cells := 0, slots := 0, locals := 54 } : Room)) (fun a U => a = #[(.ref a0), (.int p1), (.ref a2)] ∧ Z.Warmed39 U.vm ∧ U.heap = h0) (fun _ _ _ _ _ => True) (fun _ U o U' => ∃ v L, o = .returned v ∧ QHAS Z a0 p1 a2 vr kr nr ts va k m0 ys A ic fm h0 n0 v U'.heap L ∧ FrameEnd U o U' L ({ frames := 4, cells := 0, slots := 0, locals := 54 } : Room).cells ({ frames := 4, cells := 0, slots := 0, locals := 54 } : Room).slots) := by
  refine MetFree.of_bodySF (plainFor_of_name pn_2) hisR ?_
  intro p e s m args below meth c s₁ Bd hml0 hP hK
  obtain ⟨rfl, hZ, hh⟩ := hP
  have hx := Bd.exec
  have hby := Bd.bytes
  have hml : c.maxLocals = 3 := hml0
  have hown : s.vm.findClass "com/example/zapros/zapros/io/sql/SqlDatabaseToStringPinLaw" = some m.cls := findClass_of_methodNamed Bd.named
  have hnm := (name_of_methodNamed Bd.named Bd.method).1
  have hlk : meth.locks = false := BodyLoose.notSynchronized Bd
  have X0 : Stand p l e ({ frames := 4, cells := 0, slots := 0, locals := 54 } : Room) s m #[(.ref a0), (.int p1), (.ref a2)] below meth c s₁ [] 0 0 := Stand.of_body Bd
  have _u := trivial
  have eh0 : s₁.heap = h0 := by rw [← hh, Bd.state]; rfl
  have N0 := Fr.nil n0
  show Rest p.tables e below s (QHAS Z a0 p1 a2 vr kr nr ts va k m0 ys A ic fm h0 n0) _ _ (s₁.setTop (entryFrame m #[(.ref a0), (.int p1), (.ref a2)] 3))
  refine Rest.via (fun t k => castTop (ef_HAS m a0 p1 a2) k) ?_
  show Rest p.tables e below s _ _ _ (s₁.setTop (mkF m 0 #[.val (.ref a0), .val (.int p1), .val (.ref a2)] []))
  refine Rest.via (fun t k => XS.aloadN X0.here hx rfl (hb hby d34_0) rfl rfl k) ?_
  show Rest p.tables e below s _ _ _ (s₁.setTop (mkF m 1 #[.val (.ref a0), .val (.int p1), .val (.ref a2)] [(.ref a2)]))
  obtain ⟨cq1, kq1, q1a, q1b, q1c⟩ := isOf hZ eh0 S1.1
  obtain ⟨_, _, ⟨T1, L1, k1, n1⟩, -, X1, ⟨Lc1, hQ1, l1, y1, z1⟩, st1⟩ := X0.virtualBack hx (y := (⟨"java/lang/String", "length", "()I"⟩ : MethodName)) (z := (⟨"java/lang/String", "length", "()I"⟩ : MethodName)) hown (mvT hZ (own_W hw 202 rfl)) (mvT hZ (own_W hw 99 rfl)) (notFace_of_selects (args := #[]) (mvT hZ (own_W hw 101 rfl))) (mvT hZ (own_W hw 101 rfl)) (mvT hZ (own_W hw 100 rfl)) (by decide) (backOf (W := 0) (rmSLn l Z aw hw [] a2 va k m0 ys ic h0 n0 (Nat.le_trans Z0 (Keep.refl h0 []).1) S1 (O.keep (Keep.refl h0 []) all0) CS) hZ (own_W hw 102 rfl) (own_W hw 6 rfl) (by decide) (by decide)) q1a q1c (g := (mkF m 1 #[.val (.ref a0), .val (.int p1), .val (.ref a2)] [(.ref a2)])) rfl (by rw [hml]; rfl) (Steps.refl _) (argsL := []) (rest := []) (lenOf pd_7 rfl) rfl (by show 2 * 0 + _ ≤ _; exact Nat.le_of_eq rfl) (hb hby d34_1) (fun _ _ => ⟨rfl, eh0, (by decide : 0 + 0 ≤ _), (by decide : 0 + 0 ≤ _)⟩)
  dsimp only [Pt.U, Pt.locs, Pt.cells, Pt.slots] at X1 l1 y1 z1 st1 hQ1
  subst l1 y1 z1
  obtain ⟨rfl, Nq1, e1⟩ := hQ1
  have N1 := Fr.app N0 Nq1
  refine Rest.via (fun t k => st1.trans k) ?_
  show Rest p.tables e below s _ _ _ (T1.setTop (mkF m 4 #[.val (.ref a0), .val (.int p1), .val (.ref a2)] [(.int m0)]))
  by_cases hg0 : (0 : Int32) < m0
  · refine Rest.via (fun t k => XS.ifNo X1.here hx rfl (hb hby d34_4) rfl ((if0 _ _).trans (tlt hg0).2.2.2) k) ?_
    show Rest p.tables e below s _ _ _ (T1.setTop (mkF m 7 #[.val (.ref a0), .val (.int p1), .val (.ref a2)] []))
    refine Rest.via (fun t k => XS.aloadN X1.here hx rfl (hb hby d34_7) rfl rfl k) ?_
    refine Rest.via (fun t k => XS.iloadN X1.here hx rfl (hb hby d34_8) rfl k) ?_
    show Rest p.tables e below s _ _ _ (T1.setTop (mkF m 9 #[.val (.ref a0), .val (.int p1), .val (.ref a2)] [(.int p1), (.ref a0)]))
    obtain ⟨cq2, kq2, q2a, q2b, q2c⟩ := isOf hZ e1 Sr.1
    obtain ⟨_, _, ⟨T2, L2, k2, n2⟩, -, X2, ⟨Lc2, hQ2, l2, y2, z2⟩, st2⟩ := X1.virtualBack hx (y := (⟨"java/lang/String", "charAt", "(I)C"⟩ : MethodName)) (z := (⟨"java/lang/String", "charAt", "(I)C"⟩ : MethodName)) hown (mvT hZ (own_W hw 206 rfl)) (mvT hZ (own_W hw 207 rfl)) (notFace_of_selects (args := #[]) (mvT hZ (own_W hw 209 rfl))) (mvT hZ (own_W hw 209 rfl)) (mvT hZ (own_W hw 208 rfl)) (by decide) (backOf (W := 0) (rmCA l Z aw hw [] a0 p1 vr kr nr ts ic fm h0 n0 (Nat.le_trans Z0 (Keep.refl h0 []).1) Sr (own_sat (off := p1) ht lr ly (lo.1.trans (by simp)) (by decide : (0 : Int32).toInt = ((0 : Nat) : Int)) hg0).1.1 (own_sat (off := p1) ht lr ly (lo.1.trans (by simp)) (by decide : (0 : Int32).toInt = ((0 : Nat) : Int)) hg0).1.2 (O.keep (Keep.refl h0 []) all0) CS hf Sf) hZ (own_W hw 210 rfl) (own_W hw 6 rfl) (by decide) (by decide)) q2a q2c (g := (mkF m 9 #[.val (.ref a0), .val (.int p1), .val (.ref a2)] [(.int p1), (.ref a0)])) rfl (by rw [hml]; rfl) (Steps.refl _) (argsL := [(.int p1)]) (rest := []) (lenOf pd_29 rfl) rfl (by show 2 * 0 + _ ≤ _; exact Nat.le_of_eq rfl) (hb hby d34_9) (fun _ _ => ⟨rfl, e1, (by decide : 0 + 0 ≤ _), (by decide : 0 + 0 ≤ _)⟩)
    dsimp only [Pt.U, Pt.locs, Pt.cells, Pt.slots] at X2 l2 y2 z2 st2 hQ2
    subst l2 y2 z2
    obtain ⟨rfl, Nq2, e2⟩ := hQ2
    have N2 := Fr.app N1 Nq2
    refine Rest.via (fun t k => st2.trans k) ?_
    show Rest p.tables e below s _ _ _ (T2.setTop (mkF m 12 #[.val (.ref a0), .val (.int p1), .val (.ref a2)] [(.int (own_cc (ts.getD p1.toNatClampNeg 0)))]))
    refine Rest.via (fun t k => XS.aloadN X2.here hx rfl (hb hby d34_12) rfl rfl k) ?_
    refine Rest.via (fun t k => XS.iconst X2.here hx rfl (hb hby d34_13) k) ?_
    show Rest p.tables e below s _ _ _ (T2.setTop (mkF m 14 #[.val (.ref a0), .val (.int p1), .val (.ref a2)] [(.int (0 : Int32)), (.ref a2), (.int (own_cc (ts.getD p1.toNatClampNeg 0)))]))
    obtain ⟨cq3, kq3, q3a, q3b, q3c⟩ := isOf hZ e2 S1.1
    obtain ⟨_, _, ⟨T3, L3, k3, n3⟩, -, X3, ⟨Lc3, hQ3, l3, y3, z3⟩, st3⟩ := X2.virtualBack hx (y := (⟨"java/lang/String", "charAt", "(I)C"⟩ : MethodName)) (z := (⟨"java/lang/String", "charAt", "(I)C"⟩ : MethodName)) hown (mvT hZ (own_W hw 206 rfl)) (mvT hZ (own_W hw 207 rfl)) (notFace_of_selects (args := #[]) (mvT hZ (own_W hw 209 rfl))) (mvT hZ (own_W hw 209 rfl)) (mvT hZ (own_W hw 208 rfl)) (by decide) (backOf (W := 1) (rmCA l Z aw hw [] a2 (0 : Int32) va k m0 ys ic fm h0 n0 (Nat.le_trans Z0 (Keep.refl h0 []).1) S1 (by decide) hg0 (O.keep (Keep.refl h0 []) all0) CS hf Sf) hZ (own_W hw 210 rfl) (own_W hw 6 rfl) (by decide) (by decide)) q3a q3c (g := (mkF m 14 #[.val (.ref a0), .val (.int p1), .val (.ref a2)] [(.int (0 : Int32)), (.ref a2), (.int (own_cc (ts.getD p1.toNatClampNeg 0)))])) rfl (by rw [hml]; rfl) (Steps.refl _) (argsL := [(.int (0 : Int32))]) (rest := [(.int (own_cc (ts.getD p1.toNatClampNeg 0)))]) (lenOf pd_29 rfl) rfl (by show 2 * 0 + _ ≤ _; exact Nat.le_of_eq rfl) (hb hby d34_14) (fun _ _ => ⟨rfl, e2, (by decide : 0 + 0 ≤ _), (by decide : 0 + 0 ≤ _)⟩)
    dsimp only [Pt.U, Pt.locs, Pt.cells, Pt.slots] at X3 l3 y3 z3 st3 hQ3
    subst l3 y3 z3
    obtain ⟨rfl, Nq3, e3⟩ := hQ3
    have N3 := Fr.app N2 Nq3
    refine Rest.via (fun t k => st3.trans k) ?_
    show Rest p.tables e below s _ _ _ (T3.setTop (mkF m 17 #[.val (.ref a0), .val (.int p1), .val (.ref a2)] [(.int (own_cc (ys.getD (0 : Int32).toNatClampNeg 0))), (.int (own_cc (ts.getD p1.toNatClampNeg 0)))]))
    refine Rest.via (fun t k => XS.icmpYes X3.here hx rfl (pc0 := 17) (pc' := 22) rfl (hb hby d34_17) rfl (teq ((own_sat (off := p1) ht lr ly (lo.1.trans (by simp)) (by decide : (0 : Int32).toInt = ((0 : Nat) : Int)) hg0).2 : (own_cc (ts.getD p1.toNatClampNeg 0)) = (own_cc (ys.getD (0 : Int32).toNatClampNeg 0)))).1 (by decide) (by decide) k) ?_
    show Rest p.tables e below s _ _ _ (T3.setTop (mkF m 22 #[.val (.ref a0), .val (.int p1), .val (.ref a2)] []))
    refine Rest.via (fun t k => XS.aloadN X3.here hx rfl (hb hby d34_22) rfl rfl k) ?_
    show Rest p.tables e below s _ _ _ (T3.setTop (mkF m 23 #[.val (.ref a0), .val (.int p1), .val (.ref a2)] [(.ref a2)]))
    obtain ⟨cq4, kq4, q4a, q4b, q4c⟩ := isOf hZ e3 S1.1
    obtain ⟨_, _, ⟨T4, L4, k4, n4⟩, -, X4, ⟨Lc4, hQ4, l4, y4, z4⟩, st4⟩ := X3.virtualBack hx (y := (⟨"java/lang/String", "length", "()I"⟩ : MethodName)) (z := (⟨"java/lang/String", "length", "()I"⟩ : MethodName)) hown (mvT hZ (own_W hw 202 rfl)) (mvT hZ (own_W hw 99 rfl)) (notFace_of_selects (args := #[]) (mvT hZ (own_W hw 101 rfl))) (mvT hZ (own_W hw 101 rfl)) (mvT hZ (own_W hw 100 rfl)) (by decide) (backOf (W := 0) (rmSLn l Z aw hw [] a2 va k m0 ys ic h0 n0 (Nat.le_trans Z0 (Keep.refl h0 []).1) S1 (O.keep (Keep.refl h0 []) all0) CS) hZ (own_W hw 102 rfl) (own_W hw 6 rfl) (by decide) (by decide)) q4a q4c (g := (mkF m 23 #[.val (.ref a0), .val (.int p1), .val (.ref a2)] [(.ref a2)])) rfl (by rw [hml]; rfl) (Steps.refl _) (argsL := []) (rest := []) (lenOf pd_7 rfl) rfl (by show 2 * 0 + _ ≤ _; exact Nat.le_of_eq rfl) (hb hby d34_23) (fun _ _ => ⟨rfl, e3, (by decide : 0 + 0 ≤ _), (by decide : 0 + 0 ≤ _)⟩)
    dsimp only [Pt.U, Pt.locs, Pt.cells, Pt.slots] at X4 l4 y4 z4 st4 hQ4
    subst l4 y4 z4
    obtain ⟨rfl, Nq4, e4⟩ := hQ4
    have N4 := Fr.app N3 Nq4
    refine Rest.via (fun t k => st4.trans k) ?_
    show Rest p.tables e below s _ _ _ (T4.setTop (mkF m 26 #[.val (.ref a0), .val (.int p1), .val (.ref a2)] [(.int m0)]))
    refine Rest.via (fun t k => XS.iconst X4.here hx rfl (hb hby d34_26) k) ?_
    by_cases hg1 : (1 : Int32) < m0
    · refine Rest.via (fun t k => XS.icmpNo X4.here hx rfl (hb hby d34_27) rfl (tlt hg1).2.2.2 k) ?_
      show Rest p.tables e below s _ _ _ (T4.setTop (mkF m 30 #[.val (.ref a0), .val (.int p1), .val (.ref a2)] []))
      refine Rest.via (fun t k => XS.aloadN X4.here hx rfl (hb hby d34_30) rfl rfl k) ?_
      refine Rest.via (fun t k => XS.iloadN X4.here hx rfl (hb hby d34_31) rfl k) ?_
      refine Rest.via (fun t k => XS.iconst X4.here hx rfl (hb hby d34_32) k) ?_
      refine Rest.via (fun t k => XS.iadd X4.here hx rfl (hb hby d34_33) rfl k) ?_
      show Rest p.tables e below s _ _ _ (T4.setTop (mkF m 34 #[.val (.ref a0), .val (.int p1), .val (.ref a2)] [(.int (p1 + (1 : Int32))), (.ref a0)]))
      obtain ⟨cq5, kq5, q5a, q5b, q5c⟩ := isOf hZ e4 Sr.1
      obtain ⟨_, _, ⟨T5, L5, k5, n5⟩, -, X5, ⟨Lc5, hQ5, l5, y5, z5⟩, st5⟩ := X4.virtualBack hx (y := (⟨"java/lang/String", "charAt", "(I)C"⟩ : MethodName)) (z := (⟨"java/lang/String", "charAt", "(I)C"⟩ : MethodName)) hown (mvT hZ (own_W hw 206 rfl)) (mvT hZ (own_W hw 207 rfl)) (notFace_of_selects (args := #[]) (mvT hZ (own_W hw 209 rfl))) (mvT hZ (own_W hw 209 rfl)) (mvT hZ (own_W hw 208 rfl)) (by decide) (backOf (W := 0) (rmCA l Z aw hw [] a0 (p1 + (1 : Int32)) vr kr nr ts ic fm h0 n0 (Nat.le_trans Z0 (Keep.refl h0 []).1) Sr (own_sat (off := p1) ht lr ly (own_add1 lo) (by decide : (1 : Int32).toInt = ((1 : Nat) : Int)) hg1).1.1 (own_sat (off := p1) ht lr ly (own_add1 lo) (by decide : (1 : Int32).toInt = ((1 : Nat) : Int)) hg1).1.2 (O.keep (Keep.refl h0 []) all0) CS hf Sf) hZ (own_W hw 210 rfl) (own_W hw 6 rfl) (by decide) (by decide)) q5a q5c (g := (mkF m 34 #[.val (.ref a0), .val (.int p1), .val (.ref a2)] [(.int (p1 + (1 : Int32))), (.ref a0)])) rfl (by rw [hml]; rfl) (Steps.refl _) (argsL := [(.int (p1 + (1 : Int32)))]) (rest := []) (lenOf pd_29 rfl) rfl (by show 2 * 0 + _ ≤ _; exact Nat.le_of_eq rfl) (hb hby d34_34) (fun _ _ => ⟨rfl, e4, (by decide : 0 + 0 ≤ _), (by decide : 0 + 0 ≤ _)⟩)
      dsimp only [Pt.U, Pt.locs, Pt.cells, Pt.slots] at X5 l5 y5 z5 st5 hQ5
      subst l5 y5 z5
      obtain ⟨rfl, Nq5, e5⟩ := hQ5
      have N5 := Fr.app N4 Nq5
      refine Rest.via (fun t k => st5.trans k) ?_
      show Rest p.tables e below s _ _ _ (T5.setTop (mkF m 37 #[.val (.ref a0), .val (.int p1), .val (.ref a2)] [(.int (own_cc (ts.getD (p1 + (1 : Int32)).toNatClampNeg 0)))]))
      refine Rest.via (fun t k => XS.aloadN X5.here hx rfl (hb hby d34_37) rfl rfl k) ?_
      refine Rest.via (fun t k => XS.iconst X5.here hx rfl (hb hby d34_38) k) ?_
      show Rest p.tables e below s _ _ _ (T5.setTop (mkF m 39 #[.val (.ref a0), .val (.int p1), .val (.ref a2)] [(.int (1 : Int32)), (.ref a2), (.int (own_cc (ts.getD (p1 + (1 : Int32)).toNatClampNeg 0)))]))
      obtain ⟨cq6, kq6, q6a, q6b, q6c⟩ := isOf hZ e5 S1.1
      obtain ⟨_, _, ⟨T6, L6, k6, n6⟩, -, X6, ⟨Lc6, hQ6, l6, y6, z6⟩, st6⟩ := X5.virtualBack hx (y := (⟨"java/lang/String", "charAt", "(I)C"⟩ : MethodName)) (z := (⟨"java/lang/String", "charAt", "(I)C"⟩ : MethodName)) hown (mvT hZ (own_W hw 206 rfl)) (mvT hZ (own_W hw 207 rfl)) (notFace_of_selects (args := #[]) (mvT hZ (own_W hw 209 rfl))) (mvT hZ (own_W hw 209 rfl)) (mvT hZ (own_W hw 208 rfl)) (by decide) (backOf (W := 1) (rmCA l Z aw hw [] a2 (1 : Int32) va k m0 ys ic fm h0 n0 (Nat.le_trans Z0 (Keep.refl h0 []).1) S1 (by decide) hg1 (O.keep (Keep.refl h0 []) all0) CS hf Sf) hZ (own_W hw 210 rfl) (own_W hw 6 rfl) (by decide) (by decide)) q6a q6c (g := (mkF m 39 #[.val (.ref a0), .val (.int p1), .val (.ref a2)] [(.int (1 : Int32)), (.ref a2), (.int (own_cc (ts.getD (p1 + (1 : Int32)).toNatClampNeg 0)))])) rfl (by rw [hml]; rfl) (Steps.refl _) (argsL := [(.int (1 : Int32))]) (rest := [(.int (own_cc (ts.getD (p1 + (1 : Int32)).toNatClampNeg 0)))]) (lenOf pd_29 rfl) rfl (by show 2 * 0 + _ ≤ _; exact Nat.le_of_eq rfl) (hb hby d34_39) (fun _ _ => ⟨rfl, e5, (by decide : 0 + 0 ≤ _), (by decide : 0 + 0 ≤ _)⟩)
      dsimp only [Pt.U, Pt.locs, Pt.cells, Pt.slots] at X6 l6 y6 z6 st6 hQ6
      subst l6 y6 z6
      obtain ⟨rfl, Nq6, e6⟩ := hQ6
      have N6 := Fr.app N5 Nq6
      refine Rest.via (fun t k => st6.trans k) ?_
      show Rest p.tables e below s _ _ _ (T6.setTop (mkF m 42 #[.val (.ref a0), .val (.int p1), .val (.ref a2)] [(.int (own_cc (ys.getD (1 : Int32).toNatClampNeg 0))), (.int (own_cc (ts.getD (p1 + (1 : Int32)).toNatClampNeg 0)))]))
      refine Rest.via (fun t k => XS.icmpYes X6.here hx rfl (pc0 := 42) (pc' := 47) rfl (hb hby d34_42) rfl (teq ((own_sat (off := p1) ht lr ly (own_add1 lo) (by decide : (1 : Int32).toInt = ((1 : Nat) : Int)) hg1).2 : (own_cc (ts.getD (p1 + (1 : Int32)).toNatClampNeg 0)) = (own_cc (ys.getD (1 : Int32).toNatClampNeg 0)))).1 (by decide) (by decide) k) ?_
      show Rest p.tables e below s _ _ _ (T6.setTop (mkF m 47 #[.val (.ref a0), .val (.int p1), .val (.ref a2)] []))
      refine Rest.via (fun t k => XS.iconst X6.here hx rfl (hb hby d34_47) k) ?_
      refine Rest.ret X6 (v := some (.int (nar .boolean (1 : Int32)))) (fun h => by rw [Bd.returns] at h; cases h) hlk (fun fs hr => retN X6 hx (t := .boolean) Bd.returns (by simp) (hb hby d34_48) hr) ?_ (by decide) (by decide)
      rw [e6]
      exact ⟨rfl, N6, rfl⟩
    · refine Rest.via (fun t k => XS.icmpYes X4.here hx rfl (pc0 := 27) (pc' := 47) rfl (hb hby d34_27) rfl (flt hg1).2.2.2 (by decide) (by decide) k) ?_
      show Rest p.tables e below s _ _ _ (T4.setTop (mkF m 47 #[.val (.ref a0), .val (.int p1), .val (.ref a2)] []))
      refine Rest.via (fun t k => XS.iconst X4.here hx rfl (hb hby d34_47) k) ?_
      refine Rest.ret X4 (v := some (.int (nar .boolean (1 : Int32)))) (fun h => by rw [Bd.returns] at h; cases h) hlk (fun fs hr => retN X4 hx (t := .boolean) Bd.returns (by simp) (hb hby d34_48) hr) ?_ (by decide) (by decide)
      rw [e4]
      exact ⟨rfl, N4, rfl⟩
  · refine Rest.via (fun t k => XS.ifYes X1.here hx rfl (pc0 := 4) (pc' := 22) rfl (hb hby d34_4) rfl ((if0 _ _).trans (flt hg0).2.2.2) (by decide) (by decide) k) ?_
    show Rest p.tables e below s _ _ _ (T1.setTop (mkF m 22 #[.val (.ref a0), .val (.int p1), .val (.ref a2)] []))
    refine Rest.via (fun t k => XS.aloadN X1.here hx rfl (hb hby d34_22) rfl rfl k) ?_
    show Rest p.tables e below s _ _ _ (T1.setTop (mkF m 23 #[.val (.ref a0), .val (.int p1), .val (.ref a2)] [(.ref a2)]))
    obtain ⟨cq7, kq7, q7a, q7b, q7c⟩ := isOf hZ e1 S1.1
    obtain ⟨_, _, ⟨T7, L7, k7, n7⟩, -, X7, ⟨Lc7, hQ7, l7, y7, z7⟩, st7⟩ := X1.virtualBack hx (y := (⟨"java/lang/String", "length", "()I"⟩ : MethodName)) (z := (⟨"java/lang/String", "length", "()I"⟩ : MethodName)) hown (mvT hZ (own_W hw 202 rfl)) (mvT hZ (own_W hw 99 rfl)) (notFace_of_selects (args := #[]) (mvT hZ (own_W hw 101 rfl))) (mvT hZ (own_W hw 101 rfl)) (mvT hZ (own_W hw 100 rfl)) (by decide) (backOf (W := 0) (rmSLn l Z aw hw [] a2 va k m0 ys ic h0 n0 (Nat.le_trans Z0 (Keep.refl h0 []).1) S1 (O.keep (Keep.refl h0 []) all0) CS) hZ (own_W hw 102 rfl) (own_W hw 6 rfl) (by decide) (by decide)) q7a q7c (g := (mkF m 23 #[.val (.ref a0), .val (.int p1), .val (.ref a2)] [(.ref a2)])) rfl (by rw [hml]; rfl) (Steps.refl _) (argsL := []) (rest := []) (lenOf pd_7 rfl) rfl (by show 2 * 0 + _ ≤ _; exact Nat.le_of_eq rfl) (hb hby d34_23) (fun _ _ => ⟨rfl, e1, (by decide : 0 + 0 ≤ _), (by decide : 0 + 0 ≤ _)⟩)
    dsimp only [Pt.U, Pt.locs, Pt.cells, Pt.slots] at X7 l7 y7 z7 st7 hQ7
    subst l7 y7 z7
    obtain ⟨rfl, Nq7, e7⟩ := hQ7
    have N7 := Fr.app N1 Nq7
    refine Rest.via (fun t k => st7.trans k) ?_
    show Rest p.tables e below s _ _ _ (T7.setTop (mkF m 26 #[.val (.ref a0), .val (.int p1), .val (.ref a2)] [(.int m0)]))
    refine Rest.via (fun t k => XS.iconst X7.here hx rfl (hb hby d34_26) k) ?_
    by_cases hg1 : (1 : Int32) < m0
    · refine Rest.via (fun t k => XS.icmpNo X7.here hx rfl (hb hby d34_27) rfl (tlt hg1).2.2.2 k) ?_
      show Rest p.tables e below s _ _ _ (T7.setTop (mkF m 30 #[.val (.ref a0), .val (.int p1), .val (.ref a2)] []))
      refine Rest.via (fun t k => XS.aloadN X7.here hx rfl (hb hby d34_30) rfl rfl k) ?_
      refine Rest.via (fun t k => XS.iloadN X7.here hx rfl (hb hby d34_31) rfl k) ?_
      refine Rest.via (fun t k => XS.iconst X7.here hx rfl (hb hby d34_32) k) ?_
      refine Rest.via (fun t k => XS.iadd X7.here hx rfl (hb hby d34_33) rfl k) ?_
      show Rest p.tables e below s _ _ _ (T7.setTop (mkF m 34 #[.val (.ref a0), .val (.int p1), .val (.ref a2)] [(.int (p1 + (1 : Int32))), (.ref a0)]))
      obtain ⟨cq8, kq8, q8a, q8b, q8c⟩ := isOf hZ e7 Sr.1
      obtain ⟨_, _, ⟨T8, L8, k8, n8⟩, -, X8, ⟨Lc8, hQ8, l8, y8, z8⟩, st8⟩ := X7.virtualBack hx (y := (⟨"java/lang/String", "charAt", "(I)C"⟩ : MethodName)) (z := (⟨"java/lang/String", "charAt", "(I)C"⟩ : MethodName)) hown (mvT hZ (own_W hw 206 rfl)) (mvT hZ (own_W hw 207 rfl)) (notFace_of_selects (args := #[]) (mvT hZ (own_W hw 209 rfl))) (mvT hZ (own_W hw 209 rfl)) (mvT hZ (own_W hw 208 rfl)) (by decide) (backOf (W := 0) (rmCA l Z aw hw [] a0 (p1 + (1 : Int32)) vr kr nr ts ic fm h0 n0 (Nat.le_trans Z0 (Keep.refl h0 []).1) Sr (own_sat (off := p1) ht lr ly (own_add1 lo) (by decide : (1 : Int32).toInt = ((1 : Nat) : Int)) hg1).1.1 (own_sat (off := p1) ht lr ly (own_add1 lo) (by decide : (1 : Int32).toInt = ((1 : Nat) : Int)) hg1).1.2 (O.keep (Keep.refl h0 []) all0) CS hf Sf) hZ (own_W hw 210 rfl) (own_W hw 6 rfl) (by decide) (by decide)) q8a q8c (g := (mkF m 34 #[.val (.ref a0), .val (.int p1), .val (.ref a2)] [(.int (p1 + (1 : Int32))), (.ref a0)])) rfl (by rw [hml]; rfl) (Steps.refl _) (argsL := [(.int (p1 + (1 : Int32)))]) (rest := []) (lenOf pd_29 rfl) rfl (by show 2 * 0 + _ ≤ _; exact Nat.le_of_eq rfl) (hb hby d34_34) (fun _ _ => ⟨rfl, e7, (by decide : 0 + 0 ≤ _), (by decide : 0 + 0 ≤ _)⟩)
      dsimp only [Pt.U, Pt.locs, Pt.cells, Pt.slots] at X8 l8 y8 z8 st8 hQ8
      subst l8 y8 z8
      obtain ⟨rfl, Nq8, e8⟩ := hQ8
      have N8 := Fr.app N7 Nq8
      refine Rest.via (fun t k => st8.trans k) ?_
      show Rest p.tables e below s _ _ _ (T8.setTop (mkF m 37 #[.val (.ref a0), .val (.int p1), .val (.ref a2)] [(.int (own_cc (ts.getD (p1 + (1 : Int32)).toNatClampNeg 0)))]))
      refine Rest.via (fun t k => XS.aloadN X8.here hx rfl (hb hby d34_37) rfl rfl k) ?_
      refine Rest.via (fun t k => XS.iconst X8.here hx rfl (hb hby d34_38) k) ?_
      show Rest p.tables e below s _ _ _ (T8.setTop (mkF m 39 #[.val (.ref a0), .val (.int p1), .val (.ref a2)] [(.int (1 : Int32)), (.ref a2), (.int (own_cc (ts.getD (p1 + (1 : Int32)).toNatClampNeg 0)))]))
      obtain ⟨cq9, kq9, q9a, q9b, q9c⟩ := isOf hZ e8 S1.1
      obtain ⟨_, _, ⟨T9, L9, k9, n9⟩, -, X9, ⟨Lc9, hQ9, l9, y9, z9⟩, st9⟩ := X8.virtualBack hx (y := (⟨"java/lang/String", "charAt", "(I)C"⟩ : MethodName)) (z := (⟨"java/lang/String", "charAt", "(I)C"⟩ : MethodName)) hown (mvT hZ (own_W hw 206 rfl)) (mvT hZ (own_W hw 207 rfl)) (notFace_of_selects (args := #[]) (mvT hZ (own_W hw 209 rfl))) (mvT hZ (own_W hw 209 rfl)) (mvT hZ (own_W hw 208 rfl)) (by decide) (backOf (W := 1) (rmCA l Z aw hw [] a2 (1 : Int32) va k m0 ys ic fm h0 n0 (Nat.le_trans Z0 (Keep.refl h0 []).1) S1 (by decide) hg1 (O.keep (Keep.refl h0 []) all0) CS hf Sf) hZ (own_W hw 210 rfl) (own_W hw 6 rfl) (by decide) (by decide)) q9a q9c (g := (mkF m 39 #[.val (.ref a0), .val (.int p1), .val (.ref a2)] [(.int (1 : Int32)), (.ref a2), (.int (own_cc (ts.getD (p1 + (1 : Int32)).toNatClampNeg 0)))])) rfl (by rw [hml]; rfl) (Steps.refl _) (argsL := [(.int (1 : Int32))]) (rest := [(.int (own_cc (ts.getD (p1 + (1 : Int32)).toNatClampNeg 0)))]) (lenOf pd_29 rfl) rfl (by show 2 * 0 + _ ≤ _; exact Nat.le_of_eq rfl) (hb hby d34_39) (fun _ _ => ⟨rfl, e8, (by decide : 0 + 0 ≤ _), (by decide : 0 + 0 ≤ _)⟩)
      dsimp only [Pt.U, Pt.locs, Pt.cells, Pt.slots] at X9 l9 y9 z9 st9 hQ9
      subst l9 y9 z9
      obtain ⟨rfl, Nq9, e9⟩ := hQ9
      have N9 := Fr.app N8 Nq9
      refine Rest.via (fun t k => st9.trans k) ?_
      show Rest p.tables e below s _ _ _ (T9.setTop (mkF m 42 #[.val (.ref a0), .val (.int p1), .val (.ref a2)] [(.int (own_cc (ys.getD (1 : Int32).toNatClampNeg 0))), (.int (own_cc (ts.getD (p1 + (1 : Int32)).toNatClampNeg 0)))]))
      refine Rest.via (fun t k => XS.icmpYes X9.here hx rfl (pc0 := 42) (pc' := 47) rfl (hb hby d34_42) rfl (teq ((own_sat (off := p1) ht lr ly (own_add1 lo) (by decide : (1 : Int32).toInt = ((1 : Nat) : Int)) hg1).2 : (own_cc (ts.getD (p1 + (1 : Int32)).toNatClampNeg 0)) = (own_cc (ys.getD (1 : Int32).toNatClampNeg 0)))).1 (by decide) (by decide) k) ?_
      show Rest p.tables e below s _ _ _ (T9.setTop (mkF m 47 #[.val (.ref a0), .val (.int p1), .val (.ref a2)] []))
      refine Rest.via (fun t k => XS.iconst X9.here hx rfl (hb hby d34_47) k) ?_
      refine Rest.ret X9 (v := some (.int (nar .boolean (1 : Int32)))) (fun h => by rw [Bd.returns] at h; cases h) hlk (fun fs hr => retN X9 hx (t := .boolean) Bd.returns (by simp) (hb hby d34_48) hr) ?_ (by decide) (by decide)
      rw [e9]
      exact ⟨rfl, N9, rfl⟩
    · refine Rest.via (fun t k => XS.icmpYes X7.here hx rfl (pc0 := 27) (pc' := 47) rfl (hb hby d34_27) rfl (flt hg1).2.2.2 (by decide) (by decide) k) ?_
      show Rest p.tables e below s _ _ _ (T7.setTop (mkF m 47 #[.val (.ref a0), .val (.int p1), .val (.ref a2)] []))
      refine Rest.via (fun t k => XS.iconst X7.here hx rfl (hb hby d34_47) k) ?_
      refine Rest.ret X7 (v := some (.int (nar .boolean (1 : Int32)))) (fun h => by rw [Bd.returns] at h; cases h) hlk (fun fs hr => retN X7 hx (t := .boolean) Bd.returns (by simp) (hb hby d34_48) hr) ?_ (by decide) (by decide)
      rw [e7]
      exact ⟨rfl, N7, rfl⟩
theorem d42_0 : decode method_5_code 0 = .ok (.iload_n 0, 1) := by decide +kernel
theorem d42_1 : decode method_5_code 1 = .ok (.ifCond .ne 5, 3) := by decide +kernel
theorem d42_4 : decode method_5_code 4 = .ok (.iconst 1, 1) := by decide +kernel
theorem d42_5 : decode method_5_code 5 = .ok (.ireturn, 1) := by decide +kernel
theorem d42_6 : decode method_5_code 6 = .ok (.iload_n 0, 1) := by decide +kernel
theorem d42_7 : decode method_5_code 7 = .ok (.iconst 1, 1) := by decide +kernel
theorem d42_8 : decode method_5_code 8 = .ok (.if_icmp .ne 6, 3) := by decide +kernel
theorem d42_11 : decode method_5_code 11 = .ok (.bipush 10, 2) := by decide +kernel
theorem d42_13 : decode method_5_code 13 = .ok (.ireturn, 1) := by decide +kernel
theorem d42_14 : decode method_5_code 14 = .ok (.iload_n 0, 1) := by decide +kernel
theorem d42_15 : decode method_5_code 15 = .ok (.iconst 2, 1) := by decide +kernel
theorem d42_16 : decode method_5_code 16 = .ok (.if_icmp .ne 6, 3) := by decide +kernel
theorem d42_19 : decode method_5_code 19 = .ok (.bipush 100, 2) := by decide +kernel
theorem d42_21 : decode method_5_code 21 = .ok (.ireturn, 1) := by decide +kernel
theorem d42_22 : decode method_5_code 22 = .ok (.iload_n 0, 1) := by decide +kernel
theorem d42_23 : decode method_5_code 23 = .ok (.iconst 3, 1) := by decide +kernel
theorem d42_24 : decode method_5_code 24 = .ok (.if_icmp .ne 7, 3) := by decide +kernel
theorem d42_27 : decode method_5_code 27 = .ok (.sipush 1000, 3) := by decide +kernel
theorem d42_30 : decode method_5_code 30 = .ok (.ireturn, 1) := by decide +kernel
theorem d42_31 : decode method_5_code 31 = .ok (.sipush 10000, 3) := by decide +kernel
theorem d42_34 : decode method_5_code 34 = .ok (.ireturn, 1) := by decide +kernel
theorem ef_P10 (m : MethodId) (p0 : Int32) : entryFrame m #[(.int p0)] 1 = mkF m 0 #[.val (.int p0)] [] := by first | (simp [entryFrame, mkF, argsToLocals, Value.category, maxLocals]; done) | rfl
def QP10 (Z : State) (p0 : Int32) (h0 : Heap) (n0 : Nat) (v : Option Value) (h : Heap) (L : List Loc) : Prop := v = some (.int (own_p10 p0)) ∧ Fr n0 L ∧ h = h0
set_option maxRecDepth 65536 in
set_option maxHeartbeats 40000000 in
theorem rmP10 (l : Launch) (Z : State) (aw : Array Value) (hw : ∀ d ∈ tables_1, d.before aw Z = true) (ws : List Jvm.Cond) (p0 : Int32) (h0 : Heap) (n0 : Nat) (Z0 : n0 ≤ h0.size)  :
    MetFree l (⟨"com/example/zapros/zapros/io/sql/SqlDatabaseToStringPinLaw", "p10", "(I)I"⟩ : MethodName) (head1 (Jvm.Cond.code (⟨"com/example/zapros/zapros/io/sql/SqlDatabaseToStringPinLaw", "p10", "(I)I"⟩ : MethodName) method_5_code 1 (some .int) :: ws) ({ frames := 0, cells := 0, slots := 0, locals := 0 } : Room)) (fun a U => a = #[(.int p0)] ∧ Z.Warmed39 U.vm ∧ U.heap = h0) (fun _ _ _ _ _ => True) (fun _ U o U' => ∃ v L, o = .returned v ∧ QP10 Z p0 h0 n0 v U'.heap L ∧ FrameEnd U o U' L ({ frames := 0, cells := 0, slots := 0, locals := 0 } : Room).cells ({ frames := 0, cells := 0, slots := 0, locals := 0 } : Room).slots) := by
  refine MetFree.of_bodySF (plainFor_of_name pn_2) hisR ?_
  intro p e s m args below meth c s₁ Bd hml0 hP hK
  obtain ⟨rfl, hZ, hh⟩ := hP
  have hx := Bd.exec
  have hby := Bd.bytes
  have hml : c.maxLocals = 1 := hml0
  have hown : s.vm.findClass "com/example/zapros/zapros/io/sql/SqlDatabaseToStringPinLaw" = some m.cls := findClass_of_methodNamed Bd.named
  have hnm := (name_of_methodNamed Bd.named Bd.method).1
  have hlk : meth.locks = false := BodyLoose.notSynchronized Bd
  have X0 : Stand p l e ({ frames := 0, cells := 0, slots := 0, locals := 0 } : Room) s m #[(.int p0)] below meth c s₁ [] 0 0 := Stand.of_body Bd
  have _u := trivial
  have eh0 : s₁.heap = h0 := by rw [← hh, Bd.state]; rfl
  have N0 := Fr.nil n0
  show Rest p.tables e below s (QP10 Z p0 h0 n0) _ _ (s₁.setTop (entryFrame m #[(.int p0)] 1))
  refine Rest.via (fun t k => castTop (ef_P10 m p0) k) ?_
  show Rest p.tables e below s _ _ _ (s₁.setTop (mkF m 0 #[.val (.int p0)] []))
  refine Rest.via (fun t k => XS.iloadN X0.here hx rfl (hb hby d42_0) rfl k) ?_
  by_cases hc1 : p0 = (0 : Int32)
  · refine Rest.via (fun t k => XS.ifNo X0.here hx rfl (hb hby d42_1) rfl ((if0 _ _).trans (teq hc1).2) k) ?_
    show Rest p.tables e below s _ _ _ (s₁.setTop (mkF m 4 #[.val (.int p0)] []))
    refine Rest.via (fun t k => XS.iconst X0.here hx rfl (hb hby d42_4) k) ?_
    refine Rest.ret X0 (v := some (.int (1 : Int32))) (fun h => by rw [Bd.returns] at h; cases h) hlk (fun fs hr => retOut X0 hx Bd.returns rfl (Or.inl ⟨rfl, Or.inl rfl, _, rfl⟩) (hb hby d42_5) hr) ?_ (by decide) (by decide)
    rw [eh0]
    exact ⟨by show some (Value.int (1 : Int32)) = _; rw [own_p10, if_pos hc1], N0, rfl⟩
  · refine Rest.via (fun t k => XS.ifYes X0.here hx rfl (pc0 := 1) (pc' := 6) rfl (hb hby d42_1) rfl ((if0 _ _).trans (feq hc1).2) (by decide) (by decide) k) ?_
    show Rest p.tables e below s _ _ _ (s₁.setTop (mkF m 6 #[.val (.int p0)] []))
    refine Rest.via (fun t k => XS.iloadN X0.here hx rfl (hb hby d42_6) rfl k) ?_
    refine Rest.via (fun t k => XS.iconst X0.here hx rfl (hb hby d42_7) k) ?_
    by_cases hc8 : p0 = (1 : Int32)
    · refine Rest.via (fun t k => XS.icmpNo X0.here hx rfl (hb hby d42_8) rfl (teq hc8).2 k) ?_
      show Rest p.tables e below s _ _ _ (s₁.setTop (mkF m 11 #[.val (.int p0)] []))
      refine Rest.via (fun t k => XS.bipush X0.here hx rfl (hb hby d42_11) k) ?_
      refine Rest.ret X0 (v := some (.int (10 : Int32))) (fun h => by rw [Bd.returns] at h; cases h) hlk (fun fs hr => retOut X0 hx Bd.returns rfl (Or.inl ⟨rfl, Or.inl rfl, _, rfl⟩) (hb hby d42_13) hr) ?_ (by decide) (by decide)
      rw [eh0]
      exact ⟨by show some (Value.int (10 : Int32)) = _; rw [own_p10, if_neg hc1, if_pos hc8], N0, rfl⟩
    · refine Rest.via (fun t k => XS.icmpYes X0.here hx rfl (pc0 := 8) (pc' := 14) rfl (hb hby d42_8) rfl (feq hc8).2 (by decide) (by decide) k) ?_
      show Rest p.tables e below s _ _ _ (s₁.setTop (mkF m 14 #[.val (.int p0)] []))
      refine Rest.via (fun t k => XS.iloadN X0.here hx rfl (hb hby d42_14) rfl k) ?_
      refine Rest.via (fun t k => XS.iconst X0.here hx rfl (hb hby d42_15) k) ?_
      by_cases hc16 : p0 = (2 : Int32)
      · refine Rest.via (fun t k => XS.icmpNo X0.here hx rfl (hb hby d42_16) rfl (teq hc16).2 k) ?_
        show Rest p.tables e below s _ _ _ (s₁.setTop (mkF m 19 #[.val (.int p0)] []))
        refine Rest.via (fun t k => XS.bipush X0.here hx rfl (hb hby d42_19) k) ?_
        refine Rest.ret X0 (v := some (.int (100 : Int32))) (fun h => by rw [Bd.returns] at h; cases h) hlk (fun fs hr => retOut X0 hx Bd.returns rfl (Or.inl ⟨rfl, Or.inl rfl, _, rfl⟩) (hb hby d42_21) hr) ?_ (by decide) (by decide)
        rw [eh0]
        exact ⟨by show some (Value.int (100 : Int32)) = _; rw [own_p10, if_neg hc1, if_neg hc8, if_pos hc16], N0, rfl⟩
      · refine Rest.via (fun t k => XS.icmpYes X0.here hx rfl (pc0 := 16) (pc' := 22) rfl (hb hby d42_16) rfl (feq hc16).2 (by decide) (by decide) k) ?_
        show Rest p.tables e below s _ _ _ (s₁.setTop (mkF m 22 #[.val (.int p0)] []))
        refine Rest.via (fun t k => XS.iloadN X0.here hx rfl (hb hby d42_22) rfl k) ?_
        refine Rest.via (fun t k => XS.iconst X0.here hx rfl (hb hby d42_23) k) ?_
        by_cases hc24 : p0 = (3 : Int32)
        · refine Rest.via (fun t k => XS.icmpNo X0.here hx rfl (hb hby d42_24) rfl (teq hc24).2 k) ?_
          show Rest p.tables e below s _ _ _ (s₁.setTop (mkF m 27 #[.val (.int p0)] []))
          refine Rest.via (fun t k => XS.sipush X0.here hx rfl (hb hby d42_27) k) ?_
          refine Rest.ret X0 (v := some (.int (1000 : Int32))) (fun h => by rw [Bd.returns] at h; cases h) hlk (fun fs hr => retOut X0 hx Bd.returns rfl (Or.inl ⟨rfl, Or.inl rfl, _, rfl⟩) (hb hby d42_30) hr) ?_ (by decide) (by decide)
          rw [eh0]
          exact ⟨by show some (Value.int (1000 : Int32)) = _; rw [own_p10, if_neg hc1, if_neg hc8, if_neg hc16, if_pos hc24], N0, rfl⟩
        · refine Rest.via (fun t k => XS.icmpYes X0.here hx rfl (pc0 := 24) (pc' := 31) rfl (hb hby d42_24) rfl (feq hc24).2 (by decide) (by decide) k) ?_
          show Rest p.tables e below s _ _ _ (s₁.setTop (mkF m 31 #[.val (.int p0)] []))
          refine Rest.via (fun t k => XS.sipush X0.here hx rfl (hb hby d42_31) k) ?_
          refine Rest.ret X0 (v := some (.int (10000 : Int32))) (fun h => by rw [Bd.returns] at h; cases h) hlk (fun fs hr => retOut X0 hx Bd.returns rfl (Or.inl ⟨rfl, Or.inl rfl, _, rfl⟩) (hb hby d42_34) hr) ?_ (by decide) (by decide)
          rw [eh0]
          exact ⟨by show some (Value.int (10000 : Int32)) = _; rw [own_p10, if_neg hc1, if_neg hc8, if_neg hc16, if_neg hc24], N0, rfl⟩
theorem d41_0 : decode method_6_code 0 = .ok (.iload 4, 2) := by decide +kernel
theorem d41_2 : decode method_6_code 2 = .ok (.iload_n 3, 1) := by decide +kernel
theorem d41_3 : decode method_6_code 3 = .ok (.if_icmp .lt 5, 3) := by decide +kernel
theorem d41_6 : decode method_6_code 6 = .ok (.iconst 1, 1) := by decide +kernel
theorem d41_7 : decode method_6_code 7 = .ok (.ireturn, 1) := by decide +kernel
theorem d41_8 : decode method_6_code 8 = .ok (.bipush 48, 2) := by decide +kernel
theorem d41_10 : decode method_6_code 10 = .ok (.iload_n 2, 1) := by decide +kernel
theorem d41_11 : decode method_6_code 11 = .ok (.iload_n 3, 1) := by decide +kernel
theorem d41_12 : decode method_6_code 12 = .ok (.iconst 1, 1) := by decide +kernel
theorem d41_13 : decode method_6_code 13 = .ok (.isub, 1) := by decide +kernel
theorem d41_14 : decode method_6_code 14 = .ok (.iload 4, 2) := by decide +kernel
theorem d41_16 : decode method_6_code 16 = .ok (.isub, 1) := by decide +kernel
theorem d41_17 : decode method_6_code 17 = .ok (.invokestatic 54, 3) := by decide +kernel
theorem d41_20 : decode method_6_code 20 = .ok (.idiv, 1) := by decide +kernel
theorem d41_21 : decode method_6_code 21 = .ok (.bipush 10, 2) := by decide +kernel
theorem d41_23 : decode method_6_code 23 = .ok (.irem, 1) := by decide +kernel
theorem d41_24 : decode method_6_code 24 = .ok (.iadd, 1) := by decide +kernel
theorem d41_25 : decode method_6_code 25 = .ok (.i2c, 1) := by decide +kernel
theorem d41_26 : decode method_6_code 26 = .ok (.istore 5, 2) := by decide +kernel
theorem d41_28 : decode method_6_code 28 = .ok (.aload_n 0, 1) := by decide +kernel
theorem d41_29 : decode method_6_code 29 = .ok (.iload_n 1, 1) := by decide +kernel
theorem d41_30 : decode method_6_code 30 = .ok (.iload 4, 2) := by decide +kernel
theorem d41_32 : decode method_6_code 32 = .ok (.iadd, 1) := by decide +kernel
theorem d41_33 : decode method_6_code 33 = .ok (.invokevirtual 43, 3) := by decide +kernel
theorem d41_36 : decode method_6_code 36 = .ok (.iload 5, 2) := by decide +kernel
theorem d41_38 : decode method_6_code 38 = .ok (.if_icmp .ne 7, 3) := by decide +kernel
theorem d41_41 : decode method_6_code 41 = .ok (.iconst 1, 1) := by decide +kernel
theorem d41_42 : decode method_6_code 42 = .ok (.goto 4, 3) := by decide +kernel
theorem d41_46 : decode method_6_code 46 = .ok (.ireturn, 1) := by decide +kernel
theorem ef_DIG (m : MethodId) (a0 : Addr) (p1 : Int32) (p2 : Int32) (p3 : Int32) (p4 : Int32) : entryFrame m #[(.ref a0), (.int p1), (.int p2), (.int p3), (.int p4)] 6 = mkF m 0 #[.val (.ref a0), .val (.int p1), .val (.int p2), .val (.int p3), .val (.int p4), .unset] [] := by first | (simp [entryFrame, mkF, argsToLocals, Value.category, maxLocals]; done) | rfl
def QDIG (Z : State) (a0 : Addr) (p1 : Int32) (p2 : Int32) (p3 : Int32) (p4 : Int32) (vr : Addr) (kr : ClassId) (nr : Int32) (ts : List Int32) (A : List Int32) (ic : Int32) (fm : Value) (h0 : Heap) (n0 : Nat) (v : Option Value) (h : Heap) (L : List Loc) : Prop := v = some (.int (1 : Int32)) ∧ Fr n0 L ∧ h = h0
set_option maxRecDepth 65536 in
set_option maxHeartbeats 40000000 in
theorem rmDIG (l : Launch) (Z : State) (aw : Array Value) (hw : ∀ d ∈ tables_1, d.before aw Z = true) (ws : List Jvm.Cond) (a0 : Addr) (p1 : Int32) (p2 : Int32) (p3 : Int32) (p4 : Int32) (vr : Addr) (kr : ClassId) (nr : Int32) (ts : List Int32) (A : List Int32) (ic : Int32) (fm : Value) (h0 : Heap) (n0 : Nat) (Z0 : n0 ≤ h0.size) (Sr : own_St Z h0 a0 vr kr nr (ts.map Value.int)) (lr : own_ln nr ts) (hp : own_pt p2) (hd : p3 = own_dd p2) (ht : ∃ C, ts = A ++ own_dgs (own_dd p2) p2 ++ C) (lo : own_ln p1 A) (hk : own_kOK p2 p4) (O : own_Old Z n0 h0) (CS : own_CS Z ic) (hf : fm.isRef = true) (Sf : Sta Z Z.heap "jdk/internal/util/Preconditions" "SIOOBE_FORMATTER" "Ljava/util/function/BiFunction;" fm) :
    MetFree l (⟨"com/example/zapros/zapros/io/sql/SqlDatabaseToStringPinLaw", "dig", "(Ljava/lang/String;IIII)Z"⟩ : MethodName) (head1 (Jvm.Cond.code (⟨"com/example/zapros/zapros/io/sql/SqlDatabaseToStringPinLaw", "dig", "(Ljava/lang/String;IIII)Z"⟩ : MethodName) method_6_code 6 (some .boolean) :: ws) ({ frames := 4, cells := 0, slots := 0, locals := 53 } : Room)) (fun a U => a = #[(.ref a0), (.int p1), (.int p2), (.int p3), (.int p4)] ∧ Z.Warmed39 U.vm ∧ U.heap = h0) (fun _ _ _ _ _ => True) (fun _ U o U' => ∃ v L, o = .returned v ∧ QDIG Z a0 p1 p2 p3 p4 vr kr nr ts A ic fm h0 n0 v U'.heap L ∧ FrameEnd U o U' L ({ frames := 4, cells := 0, slots := 0, locals := 53 } : Room).cells ({ frames := 4, cells := 0, slots := 0, locals := 53 } : Room).slots) := by
  refine MetFree.of_bodySF (plainFor_of_name pn_2) hisR ?_
  intro p e s m args below meth c s₁ Bd hml0 hP hK
  obtain ⟨rfl, hZ, hh⟩ := hP
  have hx := Bd.exec
  have hby := Bd.bytes
  have hml : c.maxLocals = 6 := hml0
  have hown : s.vm.findClass "com/example/zapros/zapros/io/sql/SqlDatabaseToStringPinLaw" = some m.cls := findClass_of_methodNamed Bd.named
  have hnm := (name_of_methodNamed Bd.named Bd.method).1
  have hlk : meth.locks = false := BodyLoose.notSynchronized Bd
  have X0 : Stand p l e ({ frames := 4, cells := 0, slots := 0, locals := 53 } : Room) s m #[(.ref a0), (.int p1), (.int p2), (.int p3), (.int p4)] below meth c s₁ [] 0 0 := Stand.of_body Bd
  have _u := trivial
  have eh0 : s₁.heap = h0 := by rw [← hh, Bd.state]; rfl
  have N0 := Fr.nil n0
  show Rest p.tables e below s (QDIG Z a0 p1 p2 p3 p4 vr kr nr ts A ic fm h0 n0) _ _ (s₁.setTop (entryFrame m #[(.ref a0), (.int p1), (.int p2), (.int p3), (.int p4)] 6))
  refine Rest.via (fun t k => castTop (ef_DIG m a0 p1 p2 p3 p4) k) ?_
  show Rest p.tables e below s _ _ _ (s₁.setTop (mkF m 0 #[.val (.ref a0), .val (.int p1), .val (.int p2), .val (.int p3), .val (.int p4), .unset] []))
  refine Rest.via (fun t k => XS.iload X0.here hx rfl (hb hby d41_0) rfl k) ?_
  refine Rest.via (fun t k => XS.iloadN X0.here hx rfl (hb hby d41_2) rfl k) ?_
  by_cases hkd : p4 < p3
  · refine Rest.via (fun t k => XS.icmpYes X0.here hx rfl (pc0 := 3) (pc' := 8) rfl (hb hby d41_3) rfl (tlt hkd).1 (by decide) (by decide) k) ?_
    show Rest p.tables e below s _ _ _ (s₁.setTop (mkF m 8 #[.val (.ref a0), .val (.int p1), .val (.int p2), .val (.int p3), .val (.int p4), .unset] []))
    refine Rest.via (fun t k => XS.bipush X0.here hx rfl (hb hby d41_8) k) ?_
    refine Rest.via (fun t k => XS.iloadN X0.here hx rfl (hb hby d41_10) rfl k) ?_
    refine Rest.via (fun t k => XS.iloadN X0.here hx rfl (hb hby d41_11) rfl k) ?_
    refine Rest.via (fun t k => XS.iconst X0.here hx rfl (hb hby d41_12) k) ?_
    refine Rest.via (fun t k => XS.isub X0.here hx rfl (hb hby d41_13) rfl k) ?_
    refine Rest.via (fun t k => XS.iload X0.here hx rfl (hb hby d41_14) rfl k) ?_
    refine Rest.via (fun t k => XS.isub X0.here hx rfl (hb hby d41_16) rfl k) ?_
    show Rest p.tables e below s _ _ _ (s₁.setTop (mkF m 17 #[.val (.ref a0), .val (.int p1), .val (.int p2), .val (.int p3), .val (.int p4), .unset] [(.int ((p3 - (1 : Int32)) - p4)), (.int p2), (.int (48 : Int32))]))
    obtain ⟨_, _, ⟨T1, L1, k1, n1⟩, -, X1, ⟨Lc1, hQ1, l1, y1, z1⟩, st1⟩ := Jvm.LawKit.callS X0 hx (y := (⟨"com/example/zapros/zapros/io/sql/SqlDatabaseToStringPinLaw", "p10", "(I)I"⟩ : MethodName)) hown (mvT hZ (own_W hw 234 rfl)) (mvT hZ (own_W hw 235 rfl)) (mvT hZ (own_W hw 2 rfl)) (mvT hZ (own_W hw 236 rfl)) (by decide) (backOf (W := 2) (rmP10 l Z aw hw [] ((p3 - (1 : Int32)) - p4)  h0 n0 (Nat.le_trans Z0 (Keep.refl h0 []).1) ) hZ (own_W hw 236 rfl) (own_W hw 2 rfl) (by decide) (by decide)) (g := (mkF m 17 #[.val (.ref a0), .val (.int p1), .val (.int p2), .val (.int p3), .val (.int p4), .unset] [(.int ((p3 - (1 : Int32)) - p4)), (.int p2), (.int (48 : Int32))])) rfl (by rw [hml]; rfl) (argsL := [(.int ((p3 - (1 : Int32)) - p4))]) (rest := [(.int p2), (.int (48 : Int32))]) (lenOf pd_12 rfl) rfl (by show 2 * 0 + _ ≤ _; exact Nat.le_of_eq rfl) (hb hby d41_17) (fun _ _ => ⟨rfl, eh0, (by decide : 0 + 0 ≤ _), (by decide : 0 + 0 ≤ _)⟩)
    dsimp only [Pt.U, Pt.locs, Pt.cells, Pt.slots] at X1 l1 y1 z1 st1 hQ1
    subst l1 y1 z1
    obtain ⟨rfl, Nq1, e1⟩ := hQ1
    have N1 := Fr.app N0 Nq1
    refine Rest.via (fun t k => st1 t k) ?_
    show Rest p.tables e below s _ _ _ (T1.setTop (mkF m 20 #[.val (.ref a0), .val (.int p1), .val (.int p2), .val (.int p3), .val (.int p4), .unset] [(.int (own_p10 ((p3 - (1 : Int32)) - p4))), (.int p2), (.int (48 : Int32))]))
    refine Rest.via (fun t k => XS.idiv X1.here hx rfl (hb hby d41_20) rfl (own_p10z _) k) ?_
    show Rest p.tables e below s _ _ _ (T1.setTop (mkF m 21 #[.val (.ref a0), .val (.int p1), .val (.int p2), .val (.int p3), .val (.int p4), .unset] [(.int (p2 / (own_p10 ((p3 - (1 : Int32)) - p4)))), (.int (48 : Int32))]))
    refine Rest.via (fun t k => XS.bipush X1.here hx rfl (hb hby d41_21) k) ?_
    refine Rest.via (fun t k => iremM X1 hx rfl (hb hby d41_23) rfl (by decide) k) ?_
    show Rest p.tables e below s _ _ _ (T1.setTop (mkF m 24 #[.val (.ref a0), .val (.int p1), .val (.int p2), .val (.int p3), .val (.int p4), .unset] [(.int ((p2 / (own_p10 ((p3 - (1 : Int32)) - p4))) % (10 : Int32))), (.int (48 : Int32))]))
    refine Rest.via (fun t k => XS.iadd X1.here hx rfl (hb hby d41_24) rfl k) ?_
    refine Rest.via (fun t k => XS.i2c X1.here hx rfl (hb hby d41_25) rfl k) ?_
    show Rest p.tables e below s _ _ _ (T1.setTop (mkF m 26 #[.val (.ref a0), .val (.int p1), .val (.int p2), .val (.int p3), .val (.int p4), .unset] [(.int (((48 : Int32) + ((p2 / (own_p10 ((p3 - (1 : Int32)) - p4))) % (10 : Int32))).toUInt32.toUInt16.toUInt32.toInt32))]))
    refine Rest.via (fun t k => XS.istore X1.here hx rfl (hb hby d41_26) rfl (l' := #[.val (.ref a0), .val (.int p1), .val (.int p2), .val (.int p3), .val (.int p4), .val (.int (((48 : Int32) + ((p2 / (own_p10 ((p3 - (1 : Int32)) - p4))) % (10 : Int32))).toUInt32.toUInt16.toUInt32.toInt32))]) rfl k) ?_
    show Rest p.tables e below s _ _ _ (T1.setTop (mkF m 28 #[.val (.ref a0), .val (.int p1), .val (.int p2), .val (.int p3), .val (.int p4), .val (.int (((48 : Int32) + ((p2 / (own_p10 ((p3 - (1 : Int32)) - p4))) % (10 : Int32))).toUInt32.toUInt16.toUInt32.toInt32))] []))
    rw [own_dgc hp]
    refine Rest.via (fun t k => XS.aloadN X1.here hx rfl (hb hby d41_28) rfl rfl k) ?_
    refine Rest.via (fun t k => XS.iloadN X1.here hx rfl (hb hby d41_29) rfl k) ?_
    refine Rest.via (fun t k => XS.iload X1.here hx rfl (hb hby d41_30) rfl k) ?_
    refine Rest.via (fun t k => XS.iadd X1.here hx rfl (hb hby d41_32) rfl k) ?_
    show Rest p.tables e below s _ _ _ (T1.setTop (mkF m 33 #[.val (.ref a0), .val (.int p1), .val (.int p2), .val (.int p3), .val (.int p4), .val (.int ((48 : Int32) + ((p2 / (own_p10 ((p3 - (1 : Int32)) - p4))) % (10 : Int32))))] [(.int (p1 + p4)), (.ref a0)]))
    obtain ⟨cq2, kq2, q2a, q2b, q2c⟩ := isOf hZ e1 Sr.1
    obtain ⟨_, _, ⟨T2, L2, k2, n2⟩, -, X2, ⟨Lc2, hQ2, l2, y2, z2⟩, st2⟩ := X1.virtualBack hx (y := (⟨"java/lang/String", "charAt", "(I)C"⟩ : MethodName)) (z := (⟨"java/lang/String", "charAt", "(I)C"⟩ : MethodName)) hown (mvT hZ (own_W hw 206 rfl)) (mvT hZ (own_W hw 207 rfl)) (notFace_of_selects (args := #[]) (mvT hZ (own_W hw 209 rfl))) (mvT hZ (own_W hw 209 rfl)) (mvT hZ (own_W hw 208 rfl)) (by decide) (backOf (W := 0) (rmCA l Z aw hw [] a0 (p1 + p4) vr kr nr ts ic fm h0 n0 (Nat.le_trans Z0 (Keep.refl h0 []).1) Sr (own_dat hp hd ht lr lo hk hkd).1.1 (own_dat hp hd ht lr lo hk hkd).1.2 (O.keep (Keep.refl h0 []) all0) CS hf Sf) hZ (own_W hw 210 rfl) (own_W hw 6 rfl) (by decide) (by decide)) q2a q2c (g := (mkF m 33 #[.val (.ref a0), .val (.int p1), .val (.int p2), .val (.int p3), .val (.int p4), .val (.int ((48 : Int32) + ((p2 / (own_p10 ((p3 - (1 : Int32)) - p4))) % (10 : Int32))))] [(.int (p1 + p4)), (.ref a0)])) rfl (by rw [hml]; rfl) (Steps.refl _) (argsL := [(.int (p1 + p4))]) (rest := []) (lenOf pd_29 rfl) rfl (by show 2 * 0 + _ ≤ _; exact Nat.le_of_eq rfl) (hb hby d41_33) (fun _ _ => ⟨rfl, e1, (by decide : 0 + 0 ≤ _), (by decide : 0 + 0 ≤ _)⟩)
    dsimp only [Pt.U, Pt.locs, Pt.cells, Pt.slots] at X2 l2 y2 z2 st2 hQ2
    subst l2 y2 z2
    obtain ⟨rfl, Nq2, e2⟩ := hQ2
    have N2 := Fr.app N1 Nq2
    refine Rest.via (fun t k => st2.trans k) ?_
    show Rest p.tables e below s _ _ _ (T2.setTop (mkF m 36 #[.val (.ref a0), .val (.int p1), .val (.int p2), .val (.int p3), .val (.int p4), .val (.int ((48 : Int32) + ((p2 / (own_p10 ((p3 - (1 : Int32)) - p4))) % (10 : Int32))))] [(.int (own_cc (ts.getD (p1 + p4).toNatClampNeg 0)))]))
    refine Rest.via (fun t k => XS.iload X2.here hx rfl (hb hby d41_36) rfl k) ?_
    refine Rest.via (fun t k => XS.icmpNo X2.here hx rfl (hb hby d41_38) rfl (teq ((own_dat hp hd ht lr lo hk hkd).2 : (own_cc (ts.getD (p1 + p4).toNatClampNeg 0)) = ((48 : Int32) + ((p2 / (own_p10 ((p3 - (1 : Int32)) - p4))) % (10 : Int32))))).2 k) ?_
    show Rest p.tables e below s _ _ _ (T2.setTop (mkF m 41 #[.val (.ref a0), .val (.int p1), .val (.int p2), .val (.int p3), .val (.int p4), .val (.int ((48 : Int32) + ((p2 / (own_p10 ((p3 - (1 : Int32)) - p4))) % (10 : Int32))))] []))
    refine Rest.via (fun t k => XS.iconst X2.here hx rfl (hb hby d41_41) k) ?_
    refine Rest.via (fun t k => XS.goto X2.here hx rfl (pc0 := 42) (pc' := 46) rfl (hb hby d41_42) (by decide) (by decide) k) ?_
    refine Rest.ret X2 (v := some (.int (nar .boolean (1 : Int32)))) (fun h => by rw [Bd.returns] at h; cases h) hlk (fun fs hr => retN X2 hx (t := .boolean) Bd.returns (by simp) (hb hby d41_46) hr) ?_ (by decide) (by decide)
    rw [e2]
    exact ⟨rfl, N2, rfl⟩
  · refine Rest.via (fun t k => XS.icmpNo X0.here hx rfl (hb hby d41_3) rfl (flt hkd).1 k) ?_
    show Rest p.tables e below s _ _ _ (s₁.setTop (mkF m 6 #[.val (.ref a0), .val (.int p1), .val (.int p2), .val (.int p3), .val (.int p4), .unset] []))
    refine Rest.via (fun t k => XS.iconst X0.here hx rfl (hb hby d41_6) k) ?_
    refine Rest.ret X0 (v := some (.int (nar .boolean (1 : Int32)))) (fun h => by rw [Bd.returns] at h; cases h) hlk (fun fs hr => retN X0 hx (t := .boolean) Bd.returns (by simp) (hb hby d41_7) hr) ?_ (by decide) (by decide)
    rw [eh0]
    exact ⟨rfl, N0, rfl⟩
theorem pd_30 : parseMethodDescriptor "(Ljava/lang/String;IIII)Z" = some ⟨[(.object "java/lang/String"), .int, .int, .int, .int], some .boolean⟩ := by decide +kernel
theorem d40_0 : decode method_7_code 0 = .ok (.aload_n 0, 1) := by decide +kernel
theorem d40_1 : decode method_7_code 1 = .ok (.iload_n 1, 1) := by decide +kernel
theorem d40_2 : decode method_7_code 2 = .ok (.iload_n 2, 1) := by decide +kernel
theorem d40_3 : decode method_7_code 3 = .ok (.iload_n 3, 1) := by decide +kernel
theorem d40_4 : decode method_7_code 4 = .ok (.iconst 0, 1) := by decide +kernel
theorem d40_5 : decode method_7_code 5 = .ok (.invokestatic 58, 3) := by decide +kernel
theorem d40_8 : decode method_7_code 8 = .ok (.ifCond .eq 51, 3) := by decide +kernel
theorem d40_11 : decode method_7_code 11 = .ok (.aload_n 0, 1) := by decide +kernel
theorem d40_12 : decode method_7_code 12 = .ok (.iload_n 1, 1) := by decide +kernel
theorem d40_13 : decode method_7_code 13 = .ok (.iload_n 2, 1) := by decide +kernel
theorem d40_14 : decode method_7_code 14 = .ok (.iload_n 3, 1) := by decide +kernel
theorem d40_15 : decode method_7_code 15 = .ok (.iconst 1, 1) := by decide +kernel
theorem d40_16 : decode method_7_code 16 = .ok (.invokestatic 58, 3) := by decide +kernel
theorem d40_19 : decode method_7_code 19 = .ok (.ifCond .eq 40, 3) := by decide +kernel
theorem d40_22 : decode method_7_code 22 = .ok (.aload_n 0, 1) := by decide +kernel
theorem d40_23 : decode method_7_code 23 = .ok (.iload_n 1, 1) := by decide +kernel
theorem d40_24 : decode method_7_code 24 = .ok (.iload_n 2, 1) := by decide +kernel
theorem d40_25 : decode method_7_code 25 = .ok (.iload_n 3, 1) := by decide +kernel
theorem d40_26 : decode method_7_code 26 = .ok (.iconst 2, 1) := by decide +kernel
theorem d40_27 : decode method_7_code 27 = .ok (.invokestatic 58, 3) := by decide +kernel
theorem d40_30 : decode method_7_code 30 = .ok (.ifCond .eq 29, 3) := by decide +kernel
theorem d40_33 : decode method_7_code 33 = .ok (.aload_n 0, 1) := by decide +kernel
theorem d40_34 : decode method_7_code 34 = .ok (.iload_n 1, 1) := by decide +kernel
theorem d40_35 : decode method_7_code 35 = .ok (.iload_n 2, 1) := by decide +kernel
theorem d40_36 : decode method_7_code 36 = .ok (.iload_n 3, 1) := by decide +kernel
theorem d40_37 : decode method_7_code 37 = .ok (.iconst 3, 1) := by decide +kernel
theorem d40_38 : decode method_7_code 38 = .ok (.invokestatic 58, 3) := by decide +kernel
theorem d40_41 : decode method_7_code 41 = .ok (.ifCond .eq 18, 3) := by decide +kernel
theorem d40_44 : decode method_7_code 44 = .ok (.aload_n 0, 1) := by decide +kernel
theorem d40_45 : decode method_7_code 45 = .ok (.iload_n 1, 1) := by decide +kernel
theorem d40_46 : decode method_7_code 46 = .ok (.iload_n 2, 1) := by decide +kernel
theorem d40_47 : decode method_7_code 47 = .ok (.iload_n 3, 1) := by decide +kernel
theorem d40_48 : decode method_7_code 48 = .ok (.iconst 4, 1) := by decide +kernel
theorem d40_49 : decode method_7_code 49 = .ok (.invokestatic 58, 3) := by decide +kernel
theorem d40_52 : decode method_7_code 52 = .ok (.ifCond .eq 7, 3) := by decide +kernel
theorem d40_55 : decode method_7_code 55 = .ok (.iconst 1, 1) := by decide +kernel
theorem d40_56 : decode method_7_code 56 = .ok (.goto 4, 3) := by decide +kernel
theorem d40_60 : decode method_7_code 60 = .ok (.ireturn, 1) := by decide +kernel
theorem ef_DGS (m : MethodId) (a0 : Addr) (p1 : Int32) (p2 : Int32) (p3 : Int32) : entryFrame m #[(.ref a0), (.int p1), (.int p2), (.int p3)] 4 = mkF m 0 #[.val (.ref a0), .val (.int p1), .val (.int p2), .val (.int p3)] [] := by first | (simp [entryFrame, mkF, argsToLocals, Value.category, maxLocals]; done) | rfl
def QDGS (Z : State) (a0 : Addr) (p1 : Int32) (p2 : Int32) (p3 : Int32) (vr : Addr) (kr : ClassId) (nr : Int32) (ts : List Int32) (A : List Int32) (ic : Int32) (fm : Value) (h0 : Heap) (n0 : Nat) (v : Option Value) (h : Heap) (L : List Loc) : Prop := v = some (.int (1 : Int32)) ∧ Fr n0 L ∧ h = h0
set_option maxRecDepth 65536 in
set_option maxHeartbeats 40000000 in
theorem rmDGS (l : Launch) (Z : State) (aw : Array Value) (hw : ∀ d ∈ tables_1, d.before aw Z = true) (ws : List Jvm.Cond) (a0 : Addr) (p1 : Int32) (p2 : Int32) (p3 : Int32) (vr : Addr) (kr : ClassId) (nr : Int32) (ts : List Int32) (A : List Int32) (ic : Int32) (fm : Value) (h0 : Heap) (n0 : Nat) (Z0 : n0 ≤ h0.size) (Sr : own_St Z h0 a0 vr kr nr (ts.map Value.int)) (lr : own_ln nr ts) (hp : own_pt p2) (hd : p3 = own_dd p2) (ht : ∃ C, ts = A ++ own_dgs (own_dd p2) p2 ++ C) (lo : own_ln p1 A) (O : own_Old Z n0 h0) (CS : own_CS Z ic) (hf : fm.isRef = true) (Sf : Sta Z Z.heap "jdk/internal/util/Preconditions" "SIOOBE_FORMATTER" "Ljava/util/function/BiFunction;" fm) :
    MetFree l (⟨"com/example/zapros/zapros/io/sql/SqlDatabaseToStringPinLaw", "digits", "(Ljava/lang/String;III)Z"⟩ : MethodName) (head1 (Jvm.Cond.code (⟨"com/example/zapros/zapros/io/sql/SqlDatabaseToStringPinLaw", "digits", "(Ljava/lang/String;III)Z"⟩ : MethodName) method_7_code 4 (some .boolean) :: ws) ({ frames := 5, cells := 0, slots := 0, locals := 70 } : Room)) (fun a U => a = #[(.ref a0), (.int p1), (.int p2), (.int p3)] ∧ Z.Warmed39 U.vm ∧ U.heap = h0) (fun _ _ _ _ _ => True) (fun _ U o U' => ∃ v L, o = .returned v ∧ QDGS Z a0 p1 p2 p3 vr kr nr ts A ic fm h0 n0 v U'.heap L ∧ FrameEnd U o U' L ({ frames := 5, cells := 0, slots := 0, locals := 70 } : Room).cells ({ frames := 5, cells := 0, slots := 0, locals := 70 } : Room).slots) := by
  refine MetFree.of_bodySF (plainFor_of_name pn_2) hisR ?_
  intro p e s m args below meth c s₁ Bd hml0 hP hK
  obtain ⟨rfl, hZ, hh⟩ := hP
  have hx := Bd.exec
  have hby := Bd.bytes
  have hml : c.maxLocals = 4 := hml0
  have hown : s.vm.findClass "com/example/zapros/zapros/io/sql/SqlDatabaseToStringPinLaw" = some m.cls := findClass_of_methodNamed Bd.named
  have hnm := (name_of_methodNamed Bd.named Bd.method).1
  have hlk : meth.locks = false := BodyLoose.notSynchronized Bd
  have X0 : Stand p l e ({ frames := 5, cells := 0, slots := 0, locals := 70 } : Room) s m #[(.ref a0), (.int p1), (.int p2), (.int p3)] below meth c s₁ [] 0 0 := Stand.of_body Bd
  have _u := trivial
  have eh0 : s₁.heap = h0 := by rw [← hh, Bd.state]; rfl
  have N0 := Fr.nil n0
  show Rest p.tables e below s (QDGS Z a0 p1 p2 p3 vr kr nr ts A ic fm h0 n0) _ _ (s₁.setTop (entryFrame m #[(.ref a0), (.int p1), (.int p2), (.int p3)] 4))
  refine Rest.via (fun t k => castTop (ef_DGS m a0 p1 p2 p3) k) ?_
  show Rest p.tables e below s _ _ _ (s₁.setTop (mkF m 0 #[.val (.ref a0), .val (.int p1), .val (.int p2), .val (.int p3)] []))
  refine Rest.via (fun t k => XS.aloadN X0.here hx rfl (hb hby d40_0) rfl rfl k) ?_
  refine Rest.via (fun t k => XS.iloadN X0.here hx rfl (hb hby d40_1) rfl k) ?_
  refine Rest.via (fun t k => XS.iloadN X0.here hx rfl (hb hby d40_2) rfl k) ?_
  refine Rest.via (fun t k => XS.iloadN X0.here hx rfl (hb hby d40_3) rfl k) ?_
  refine Rest.via (fun t k => XS.iconst X0.here hx rfl (hb hby d40_4) k) ?_
  show Rest p.tables e below s _ _ _ (s₁.setTop (mkF m 5 #[.val (.ref a0), .val (.int p1), .val (.int p2), .val (.int p3)] [(.int (0 : Int32)), (.int p3), (.int p2), (.int p1), (.ref a0)]))
  obtain ⟨_, _, ⟨T1, L1, k1, n1⟩, -, X1, ⟨Lc1, hQ1, l1, y1, z1⟩, st1⟩ := Jvm.LawKit.callS X0 hx (y := (⟨"com/example/zapros/zapros/io/sql/SqlDatabaseToStringPinLaw", "dig", "(Ljava/lang/String;IIII)Z"⟩ : MethodName)) hown (mvT hZ (own_W hw 231 rfl)) (mvT hZ (own_W hw 232 rfl)) (mvT hZ (own_W hw 2 rfl)) (mvT hZ (own_W hw 233 rfl)) (by decide) (backOf (W := 0) (rmDIG l Z aw hw [] a0 p1 p2 p3 (0 : Int32) vr kr nr ts A ic fm h0 n0 (Nat.le_trans Z0 (Keep.refl h0 []).1) Sr lr hp hd ht lo (own_k0 hp) (O.keep (Keep.refl h0 []) all0) CS hf Sf) hZ (own_W hw 233 rfl) (own_W hw 2 rfl) (by decide) (by decide)) (g := (mkF m 5 #[.val (.ref a0), .val (.int p1), .val (.int p2), .val (.int p3)] [(.int (0 : Int32)), (.int p3), (.int p2), (.int p1), (.ref a0)])) rfl (by rw [hml]; rfl) (argsL := [(.ref a0), (.int p1), (.int p2), (.int p3), (.int (0 : Int32))]) (rest := []) (lenOf pd_30 rfl) rfl (by show 2 * 0 + _ ≤ _; exact Nat.le_of_eq rfl) (hb hby d40_5) (fun _ _ => ⟨rfl, eh0, (by decide : 0 + 0 ≤ _), (by decide : 0 + 0 ≤ _)⟩)
  dsimp only [Pt.U, Pt.locs, Pt.cells, Pt.slots] at X1 l1 y1 z1 st1 hQ1
  subst l1 y1 z1
  obtain ⟨rfl, Nq1, e1⟩ := hQ1
  have N1 := Fr.app N0 Nq1
  refine Rest.via (fun t k => st1 t k) ?_
  show Rest p.tables e below s _ _ _ (T1.setTop (mkF m 8 #[.val (.ref a0), .val (.int p1), .val (.int p2), .val (.int p3)] [(.int (1 : Int32))]))
  refine Rest.via (fun t k => XS.ifNo X1.here hx rfl (hb hby d40_8) rfl ((if0 _ _).trans (feq (by decide : ¬ ((1 : Int32) = (0 : Int32)))).1) k) ?_
  show Rest p.tables e below s _ _ _ (T1.setTop (mkF m 11 #[.val (.ref a0), .val (.int p1), .val (.int p2), .val (.int p3)] []))
  refine Rest.via (fun t k => XS.aloadN X1.here hx rfl (hb hby d40_11) rfl rfl k) ?_
  refine Rest.via (fun t k => XS.iloadN X1.here hx rfl (hb hby d40_12) rfl k) ?_
  refine Rest.via (fun t k => XS.iloadN X1.here hx rfl (hb hby d40_13) rfl k) ?_
  refine Rest.via (fun t k => XS.iloadN X1.here hx rfl (hb hby d40_14) rfl k) ?_
  refine Rest.via (fun t k => XS.iconst X1.here hx rfl (hb hby d40_15) k) ?_
  show Rest p.tables e below s _ _ _ (T1.setTop (mkF m 16 #[.val (.ref a0), .val (.int p1), .val (.int p2), .val (.int p3)] [(.int (1 : Int32)), (.int p3), (.int p2), (.int p1), (.ref a0)]))
  obtain ⟨_, _, ⟨T2, L2, k2, n2⟩, -, X2, ⟨Lc2, hQ2, l2, y2, z2⟩, st2⟩ := Jvm.LawKit.callS X1 hx (y := (⟨"com/example/zapros/zapros/io/sql/SqlDatabaseToStringPinLaw", "dig", "(Ljava/lang/String;IIII)Z"⟩ : MethodName)) hown (mvT hZ (own_W hw 231 rfl)) (mvT hZ (own_W hw 232 rfl)) (mvT hZ (own_W hw 2 rfl)) (mvT hZ (own_W hw 233 rfl)) (by decide) (backOf (W := 0) (rmDIG l Z aw hw [] a0 p1 p2 p3 (1 : Int32) vr kr nr ts A ic fm h0 n0 (Nat.le_trans Z0 (Keep.refl h0 []).1) Sr lr hp hd ht lo (own_k1 hp) (O.keep (Keep.refl h0 []) all0) CS hf Sf) hZ (own_W hw 233 rfl) (own_W hw 2 rfl) (by decide) (by decide)) (g := (mkF m 16 #[.val (.ref a0), .val (.int p1), .val (.int p2), .val (.int p3)] [(.int (1 : Int32)), (.int p3), (.int p2), (.int p1), (.ref a0)])) rfl (by rw [hml]; rfl) (argsL := [(.ref a0), (.int p1), (.int p2), (.int p3), (.int (1 : Int32))]) (rest := []) (lenOf pd_30 rfl) rfl (by show 2 * 0 + _ ≤ _; exact Nat.le_of_eq rfl) (hb hby d40_16) (fun _ _ => ⟨rfl, e1, (by decide : 0 + 0 ≤ _), (by decide : 0 + 0 ≤ _)⟩)
  dsimp only [Pt.U, Pt.locs, Pt.cells, Pt.slots] at X2 l2 y2 z2 st2 hQ2
  subst l2 y2 z2
  obtain ⟨rfl, Nq2, e2⟩ := hQ2
  have N2 := Fr.app N1 Nq2
  refine Rest.via (fun t k => st2 t k) ?_
  show Rest p.tables e below s _ _ _ (T2.setTop (mkF m 19 #[.val (.ref a0), .val (.int p1), .val (.int p2), .val (.int p3)] [(.int (1 : Int32))]))
  refine Rest.via (fun t k => XS.ifNo X2.here hx rfl (hb hby d40_19) rfl ((if0 _ _).trans (feq (by decide : ¬ ((1 : Int32) = (0 : Int32)))).1) k) ?_
  show Rest p.tables e below s _ _ _ (T2.setTop (mkF m 22 #[.val (.ref a0), .val (.int p1), .val (.int p2), .val (.int p3)] []))
  refine Rest.via (fun t k => XS.aloadN X2.here hx rfl (hb hby d40_22) rfl rfl k) ?_
  refine Rest.via (fun t k => XS.iloadN X2.here hx rfl (hb hby d40_23) rfl k) ?_
  refine Rest.via (fun t k => XS.iloadN X2.here hx rfl (hb hby d40_24) rfl k) ?_
  refine Rest.via (fun t k => XS.iloadN X2.here hx rfl (hb hby d40_25) rfl k) ?_
  refine Rest.via (fun t k => XS.iconst X2.here hx rfl (hb hby d40_26) k) ?_
  show Rest p.tables e below s _ _ _ (T2.setTop (mkF m 27 #[.val (.ref a0), .val (.int p1), .val (.int p2), .val (.int p3)] [(.int (2 : Int32)), (.int p3), (.int p2), (.int p1), (.ref a0)]))
  obtain ⟨_, _, ⟨T3, L3, k3, n3⟩, -, X3, ⟨Lc3, hQ3, l3, y3, z3⟩, st3⟩ := Jvm.LawKit.callS X2 hx (y := (⟨"com/example/zapros/zapros/io/sql/SqlDatabaseToStringPinLaw", "dig", "(Ljava/lang/String;IIII)Z"⟩ : MethodName)) hown (mvT hZ (own_W hw 231 rfl)) (mvT hZ (own_W hw 232 rfl)) (mvT hZ (own_W hw 2 rfl)) (mvT hZ (own_W hw 233 rfl)) (by decide) (backOf (W := 0) (rmDIG l Z aw hw [] a0 p1 p2 p3 (2 : Int32) vr kr nr ts A ic fm h0 n0 (Nat.le_trans Z0 (Keep.refl h0 []).1) Sr lr hp hd ht lo (own_k2 hp) (O.keep (Keep.refl h0 []) all0) CS hf Sf) hZ (own_W hw 233 rfl) (own_W hw 2 rfl) (by decide) (by decide)) (g := (mkF m 27 #[.val (.ref a0), .val (.int p1), .val (.int p2), .val (.int p3)] [(.int (2 : Int32)), (.int p3), (.int p2), (.int p1), (.ref a0)])) rfl (by rw [hml]; rfl) (argsL := [(.ref a0), (.int p1), (.int p2), (.int p3), (.int (2 : Int32))]) (rest := []) (lenOf pd_30 rfl) rfl (by show 2 * 0 + _ ≤ _; exact Nat.le_of_eq rfl) (hb hby d40_27) (fun _ _ => ⟨rfl, e2, (by decide : 0 + 0 ≤ _), (by decide : 0 + 0 ≤ _)⟩)
  dsimp only [Pt.U, Pt.locs, Pt.cells, Pt.slots] at X3 l3 y3 z3 st3 hQ3
  subst l3 y3 z3
  obtain ⟨rfl, Nq3, e3⟩ := hQ3
  have N3 := Fr.app N2 Nq3
  refine Rest.via (fun t k => st3 t k) ?_
  show Rest p.tables e below s _ _ _ (T3.setTop (mkF m 30 #[.val (.ref a0), .val (.int p1), .val (.int p2), .val (.int p3)] [(.int (1 : Int32))]))
  refine Rest.via (fun t k => XS.ifNo X3.here hx rfl (hb hby d40_30) rfl ((if0 _ _).trans (feq (by decide : ¬ ((1 : Int32) = (0 : Int32)))).1) k) ?_
  show Rest p.tables e below s _ _ _ (T3.setTop (mkF m 33 #[.val (.ref a0), .val (.int p1), .val (.int p2), .val (.int p3)] []))
  refine Rest.via (fun t k => XS.aloadN X3.here hx rfl (hb hby d40_33) rfl rfl k) ?_
  refine Rest.via (fun t k => XS.iloadN X3.here hx rfl (hb hby d40_34) rfl k) ?_
  refine Rest.via (fun t k => XS.iloadN X3.here hx rfl (hb hby d40_35) rfl k) ?_
  refine Rest.via (fun t k => XS.iloadN X3.here hx rfl (hb hby d40_36) rfl k) ?_
  refine Rest.via (fun t k => XS.iconst X3.here hx rfl (hb hby d40_37) k) ?_
  show Rest p.tables e below s _ _ _ (T3.setTop (mkF m 38 #[.val (.ref a0), .val (.int p1), .val (.int p2), .val (.int p3)] [(.int (3 : Int32)), (.int p3), (.int p2), (.int p1), (.ref a0)]))
  obtain ⟨_, _, ⟨T4, L4, k4, n4⟩, -, X4, ⟨Lc4, hQ4, l4, y4, z4⟩, st4⟩ := Jvm.LawKit.callS X3 hx (y := (⟨"com/example/zapros/zapros/io/sql/SqlDatabaseToStringPinLaw", "dig", "(Ljava/lang/String;IIII)Z"⟩ : MethodName)) hown (mvT hZ (own_W hw 231 rfl)) (mvT hZ (own_W hw 232 rfl)) (mvT hZ (own_W hw 2 rfl)) (mvT hZ (own_W hw 233 rfl)) (by decide) (backOf (W := 0) (rmDIG l Z aw hw [] a0 p1 p2 p3 (3 : Int32) vr kr nr ts A ic fm h0 n0 (Nat.le_trans Z0 (Keep.refl h0 []).1) Sr lr hp hd ht lo (own_k3 hp) (O.keep (Keep.refl h0 []) all0) CS hf Sf) hZ (own_W hw 233 rfl) (own_W hw 2 rfl) (by decide) (by decide)) (g := (mkF m 38 #[.val (.ref a0), .val (.int p1), .val (.int p2), .val (.int p3)] [(.int (3 : Int32)), (.int p3), (.int p2), (.int p1), (.ref a0)])) rfl (by rw [hml]; rfl) (argsL := [(.ref a0), (.int p1), (.int p2), (.int p3), (.int (3 : Int32))]) (rest := []) (lenOf pd_30 rfl) rfl (by show 2 * 0 + _ ≤ _; exact Nat.le_of_eq rfl) (hb hby d40_38) (fun _ _ => ⟨rfl, e3, (by decide : 0 + 0 ≤ _), (by decide : 0 + 0 ≤ _)⟩)
  dsimp only [Pt.U, Pt.locs, Pt.cells, Pt.slots] at X4 l4 y4 z4 st4 hQ4
  subst l4 y4 z4
  obtain ⟨rfl, Nq4, e4⟩ := hQ4
  have N4 := Fr.app N3 Nq4
  refine Rest.via (fun t k => st4 t k) ?_
  show Rest p.tables e below s _ _ _ (T4.setTop (mkF m 41 #[.val (.ref a0), .val (.int p1), .val (.int p2), .val (.int p3)] [(.int (1 : Int32))]))
  refine Rest.via (fun t k => XS.ifNo X4.here hx rfl (hb hby d40_41) rfl ((if0 _ _).trans (feq (by decide : ¬ ((1 : Int32) = (0 : Int32)))).1) k) ?_
  show Rest p.tables e below s _ _ _ (T4.setTop (mkF m 44 #[.val (.ref a0), .val (.int p1), .val (.int p2), .val (.int p3)] []))
  refine Rest.via (fun t k => XS.aloadN X4.here hx rfl (hb hby d40_44) rfl rfl k) ?_
  refine Rest.via (fun t k => XS.iloadN X4.here hx rfl (hb hby d40_45) rfl k) ?_
  refine Rest.via (fun t k => XS.iloadN X4.here hx rfl (hb hby d40_46) rfl k) ?_
  refine Rest.via (fun t k => XS.iloadN X4.here hx rfl (hb hby d40_47) rfl k) ?_
  refine Rest.via (fun t k => XS.iconst X4.here hx rfl (hb hby d40_48) k) ?_
  show Rest p.tables e below s _ _ _ (T4.setTop (mkF m 49 #[.val (.ref a0), .val (.int p1), .val (.int p2), .val (.int p3)] [(.int (4 : Int32)), (.int p3), (.int p2), (.int p1), (.ref a0)]))
  obtain ⟨_, _, ⟨T5, L5, k5, n5⟩, -, X5, ⟨Lc5, hQ5, l5, y5, z5⟩, st5⟩ := Jvm.LawKit.callS X4 hx (y := (⟨"com/example/zapros/zapros/io/sql/SqlDatabaseToStringPinLaw", "dig", "(Ljava/lang/String;IIII)Z"⟩ : MethodName)) hown (mvT hZ (own_W hw 231 rfl)) (mvT hZ (own_W hw 232 rfl)) (mvT hZ (own_W hw 2 rfl)) (mvT hZ (own_W hw 233 rfl)) (by decide) (backOf (W := 0) (rmDIG l Z aw hw [] a0 p1 p2 p3 (4 : Int32) vr kr nr ts A ic fm h0 n0 (Nat.le_trans Z0 (Keep.refl h0 []).1) Sr lr hp hd ht lo (own_k4 hp) (O.keep (Keep.refl h0 []) all0) CS hf Sf) hZ (own_W hw 233 rfl) (own_W hw 2 rfl) (by decide) (by decide)) (g := (mkF m 49 #[.val (.ref a0), .val (.int p1), .val (.int p2), .val (.int p3)] [(.int (4 : Int32)), (.int p3), (.int p2), (.int p1), (.ref a0)])) rfl (by rw [hml]; rfl) (argsL := [(.ref a0), (.int p1), (.int p2), (.int p3), (.int (4 : Int32))]) (rest := []) (lenOf pd_30 rfl) rfl (by show 2 * 0 + _ ≤ _; exact Nat.le_of_eq rfl) (hb hby d40_49) (fun _ _ => ⟨rfl, e4, (by decide : 0 + 0 ≤ _), (by decide : 0 + 0 ≤ _)⟩)
  dsimp only [Pt.U, Pt.locs, Pt.cells, Pt.slots] at X5 l5 y5 z5 st5 hQ5
  subst l5 y5 z5
  obtain ⟨rfl, Nq5, e5⟩ := hQ5
  have N5 := Fr.app N4 Nq5
  refine Rest.via (fun t k => st5 t k) ?_
  show Rest p.tables e below s _ _ _ (T5.setTop (mkF m 52 #[.val (.ref a0), .val (.int p1), .val (.int p2), .val (.int p3)] [(.int (1 : Int32))]))
  refine Rest.via (fun t k => XS.ifNo X5.here hx rfl (hb hby d40_52) rfl ((if0 _ _).trans (feq (by decide : ¬ ((1 : Int32) = (0 : Int32)))).1) k) ?_
  show Rest p.tables e below s _ _ _ (T5.setTop (mkF m 55 #[.val (.ref a0), .val (.int p1), .val (.int p2), .val (.int p3)] []))
  refine Rest.via (fun t k => XS.iconst X5.here hx rfl (hb hby d40_55) k) ?_
  refine Rest.via (fun t k => XS.goto X5.here hx rfl (pc0 := 56) (pc' := 60) rfl (hb hby d40_56) (by decide) (by decide) k) ?_
  refine Rest.ret X5 (v := some (.int (nar .boolean (1 : Int32)))) (fun h => by rw [Bd.returns] at h; cases h) hlk (fun fs hr => retN X5 hx (t := .boolean) Bd.returns (by simp) (hb hby d40_60) hr) ?_ (by decide) (by decide)
  rw [e5]
  exact ⟨rfl, N5, rfl⟩
theorem own_DA_start {s : State} {args : Array Value} {n : String} {f : Int32 → Int32} {b : Term} (hb : ∀ j : Nat, b.eval args s none [j] s = some (.int (f j.toInt32))) (qi : (Jvm.Cond.initializedFor "java/lang/Integer" n "[B").before args s = true)
    (qe : (Jvm.Cond.exactly (.static "java/lang/Integer" n "[B") "[B").value args s none s [] = some true) (ql : (Jvm.Cond.eq (.length (.static "java/lang/Integer" n "[B")) (.int (100 : Int32))).value args s none s [] = some true)
    (qa : (Jvm.Cond.all (.static "java/lang/Integer" n "[B") (.eq (.elem (.static "java/lang/Integer" n "[B") (.index 0)) b)).value args s none s [] = some true) (wa : (Jvm.Cond.arrayClass .byte).before args s = true) : ∃ w, Sta s s.heap "java/lang/Integer" n "[B" (.ref w) ∧ own_DA s s.heap w f := by
  obtain ⟨w, ew⟩ := exa_v qe
  have S := Sta.start ew (Or.inl qi)
  have E := Exa.start ew qe
  obtain ⟨x', y', f1, f2, j1, j2⟩ := cmp_v (Or.inl ql)
  obtain ⟨b', cell, g1, g2, g3, g4⟩ := Jvm.Lib.length_spec f1
  cases ew.symm.trans g1
  subst g4
  have hl : cell.slots.size.toInt32 = 100 := gotT (Cond.eq_ints f1 (Term.int_eval 100)) ql
  have hs : cell.slots.size = 100 := by
    have h := len_toInt g3
    rw [hl] at h
    have e : (100 : Int32).toInt = 100 := by decide
    omega
  obtain ⟨cE, kE, e1, e2, e3, e4, -⟩ := E
  obtain ⟨cc, kc, comp, a1, a2, a3⟩ := Cond.arrayClass_spec wa
  have a1' : s.vm.findClass "[B" = some cc := a1
  cases e2.symm.trans a1'
  cases e3.symm.trans a2
  have hat := g2
  simp only [State.arrayAt?, Option.bind_eq_bind, e1, Option.bind_some, e3, a3] at g2
  split at g2
  · cases g2
  · rename_i hu
    cases g2
    have hu' : cell.vm ≠ .unknown ∧ cell.vm.isStatics = false := by
      rcases not_or.mp hu with ⟨p, q⟩
      exact ⟨p, by simpa using q⟩
    refine ⟨w, S, cell, ⟨e1, ⟨fun k hk => ?_, kE, e3, comp, a3⟩, hu'.1⟩, hs, fun j h0 h1 => ?_⟩
    · rw [hk] at e4; cases e4
    · have i0 := nat_of h0
      rw [Int32.lt_iff_toInt_lt, (by decide : (100 : Int32).toInt = 100)] at h1
      have hJ : j.toNatClampNeg < cell.slots.size := by omega
      have hj : j.toNatClampNeg.toInt32 = j := Int32.toInt_inj.mp (by rw [len_toInt (by omega)]; omega)
      have v := Cond.all_elim ew hat qa j.toNatClampNeg hJ
      have ee := elem_f (t := .static "java/lang/Integer" n "[B") (a := .index 0) (args := args) (first := s) (o := none) (idx := [j.toNatClampNeg]) (s := s) (x := w) (j := j) (cl := cell) ew (by rw [Term.index_eval, hj]) hat h0
      have eb := hb j.toNatClampNeg
      rw [hj] at eb
      obtain ⟨x, y, q1, q2, k1, k2⟩ := cmp_v (Or.inl v)
      cases (Option.some.inj (q2.symm.trans eb) : y = .int (f j))
      obtain ⟨z, rfl⟩ := k2
      have hz : z = f j := gotT (Cond.eq_ints q1 eb) v
      subst hz
      exact ee.symm.trans q1
theorem own_ones {args : Array Value} {s : State} (j : Nat) : (Jvm.Term.add (.int (48 : Int32)) (.rem (.index 0) (.int (10 : Int32)))).eval args s none [j] s = some (.int ((fun j => (48 : Int32) + (j % (10 : Int32))) j.toInt32)) := by
  simp [Term.eval]
theorem own_tens {args : Array Value} {s : State} (j : Nat) : (Jvm.Term.add (.int (48 : Int32)) (.div (.index 0) (.int (10 : Int32)))).eval args s none [j] s = some (.int ((fun j => (48 : Int32) + (j / (10 : Int32))) j.toInt32)) := by
  simp [Term.eval]
theorem own_port (x : Int32) : own_pt (((x &&& (2147483647 : Int32)) % (65535 : Int32)) + (1 : Int32)) := by
  have e := c_mask x 2147483647 31 (by decide) (by decide)
  have h1 := Int.emod_nonneg x.toInt (b := ((2 ^ 31 : Nat) : Int)) (by decide)
  have r := (c_irem (x &&& (2147483647 : Int32)) 65535 65535 (by decide)).1 (by rw [e]; exact h1)
  have a := c_iadd ((x &&& (2147483647 : Int32)) % (65535 : Int32)) 1
  have b := Int32.toInt_lt (((x &&& (2147483647 : Int32)) % (65535 : Int32)) + (1 : Int32))
  have c := Int32.le_toInt (((x &&& (2147483647 : Int32)) % (65535 : Int32)) + (1 : Int32))
  have e1 : (1 : Int32).toInt = 1 := by decide
  have e2 : (65535 : Int32).toInt = 65535 := by decide
  have r0 := Int.emod_nonneg (x &&& (2147483647 : Int32)).toInt (b := 65535) (by decide)
  have r1 := Int.emod_lt_of_pos (x &&& (2147483647 : Int32)).toInt (b := 65535) (by decide)
  unfold own_pt
  rw [Int32.lt_iff_toInt_lt, Int32.lt_iff_toInt_lt, e1, e2]
  omega
theorem own_tneq {nu nh nm p d : Int32} (hd : d = own_dd p) : own_tn nu nh nm p = (((nu + nh) + nm) + d) + (3 : Int32) := by
  subst hd
  unfold own_tn
  have e3 : (3 : Int32) = 1 + 1 + 1 := by decide
  rw [e3]
  simp only [Int32.zero_add]
  ac_rfl
theorem own_at_u (u h n : List Int32) (p : Int32) : ∃ C, own_txt u h n p = [] ++ u ++ C := ⟨[(64 : Int32)] ++ (h ++ ([(58 : Int32)] ++ (own_dgs (own_dd p) p ++ ([(47 : Int32)] ++ n)))), by simp [own_txt]⟩
theorem own_at_a (u h n : List Int32) (p : Int32) : ∃ C, own_txt u h n p = u ++ [(64 : Int32)] ++ C := ⟨h ++ ([(58 : Int32)] ++ (own_dgs (own_dd p) p ++ ([(47 : Int32)] ++ n))), by simp [own_txt]⟩
theorem own_at_h (u h n : List Int32) (p : Int32) : ∃ C, own_txt u h n p = (u ++ [(64 : Int32)]) ++ h ++ C := ⟨[(58 : Int32)] ++ (own_dgs (own_dd p) p ++ ([(47 : Int32)] ++ n)), by simp [own_txt]⟩
theorem own_at_c (u h n : List Int32) (p : Int32) : ∃ C, own_txt u h n p = ((u ++ [(64 : Int32)]) ++ h) ++ [(58 : Int32)] ++ C := ⟨own_dgs (own_dd p) p ++ ([(47 : Int32)] ++ n), by simp [own_txt]⟩
theorem own_at_d (u h n : List Int32) (p : Int32) : ∃ C, own_txt u h n p = (((u ++ [(64 : Int32)]) ++ h) ++ [(58 : Int32)]) ++ own_dgs (own_dd p) p ++ C := ⟨[(47 : Int32)] ++ n, by simp [own_txt]⟩
theorem own_at_s (u h n : List Int32) (p : Int32) : ∃ C, own_txt u h n p = ((((u ++ [(64 : Int32)]) ++ h) ++ [(58 : Int32)]) ++ own_dgs (own_dd p) p) ++ [(47 : Int32)] ++ C := ⟨n, by simp [own_txt]⟩
theorem own_at_n (u h n : List Int32) (p : Int32) : ∃ C, own_txt u h n p = (((((u ++ [(64 : Int32)]) ++ h) ++ [(58 : Int32)]) ++ own_dgs (own_dd p) p) ++ [(47 : Int32)]) ++ n ++ C := ⟨[], by simp [own_txt]⟩
def own_le (n : Int32) (xs : List Int32) : Prop := own_ln n xs ∧ xs.length ≤ 2
theorem own_of_h {nu : Int32} {u : List Int32} (lu : own_ln nu u ∧ u.length ≤ 2) : own_ln (nu + (1 : Int32)) (u ++ [(64 : Int32)]) := lu.1.app (own_ln1 64) (by have := lu.2; simp only [List.length_cons, List.length_nil]; omega)
theorem own_of_c {nu nh : Int32} {u h : List Int32} (lu : own_ln nu u ∧ u.length ≤ 2) (lh : own_ln nh h ∧ h.length ≤ 2) : own_ln ((nu + (1 : Int32)) + nh) ((u ++ [(64 : Int32)]) ++ h) := (own_of_h lu).app lh.1 (by have := lu.2; have := lh.2; simp only [List.length_append, List.length_cons, List.length_nil]; omega)
theorem own_of_d {nu nh : Int32} {u h : List Int32} (lu : own_ln nu u ∧ u.length ≤ 2) (lh : own_ln nh h ∧ h.length ≤ 2) : own_ln ((nu + (2 : Int32)) + nh) (((u ++ [(64 : Int32)]) ++ h) ++ [(58 : Int32)]) := by
  have q := (own_of_c lu lh).app (own_ln1 58) (by have := lu.2; have := lh.2; simp only [List.length_append, List.length_cons, List.length_nil]; omega)
  have e : (nu + (2 : Int32)) + nh = ((nu + (1 : Int32)) + nh) + (1 : Int32) := by
    have e2 : (2 : Int32) = 1 + 1 := by decide
    rw [e2]; ac_rfl
  rw [e]; exact q
theorem own_of_s {nu nh d p : Int32} {u h : List Int32} (lu : own_ln nu u ∧ u.length ≤ 2) (lh : own_ln nh h ∧ h.length ≤ 2) (hp : own_pt p) (hd : d = own_dd p) : own_ln (((nu + (2 : Int32)) + nh) + d) ((((u ++ [(64 : Int32)]) ++ h) ++ [(58 : Int32)]) ++ own_dgs (own_dd p) p) := by
  subst hd
  exact (own_of_d lu lh).app (own_dln hp).1 (by have := lu.2; have := lh.2; have := (own_dln hp).2; simp only [List.length_append, List.length_cons, List.length_nil]; omega)
theorem own_of_n {nu nh d p : Int32} {u h : List Int32} (lu : own_ln nu u ∧ u.length ≤ 2) (lh : own_ln nh h ∧ h.length ≤ 2) (hp : own_pt p) (hd : d = own_dd p) : own_ln (((nu + (3 : Int32)) + nh) + d) (((((u ++ [(64 : Int32)]) ++ h) ++ [(58 : Int32)]) ++ own_dgs (own_dd p) p) ++ [(47 : Int32)]) := by
  have q := (own_of_s lu lh hp hd).app (own_ln1 47) (by have := lu.2; have := lh.2; have := (own_dln hp).2; simp only [List.length_append, List.length_cons, List.length_nil]; omega)
  have e : ((nu + (3 : Int32)) + nh) + d = (((nu + (2 : Int32)) + nh) + d) + (1 : Int32) := by
    have e2 : (3 : Int32) = 2 + 1 := by decide
    rw [e2]; ac_rfl
  rw [e]; exact q
theorem own_of_t {nu nh nm p : Int32} {u h n : List Int32} (lu : own_ln nu u ∧ u.length ≤ 2) (lh : own_ln nh h ∧ h.length ≤ 2) (ln : own_ln nm n ∧ n.length ≤ 2) (hp : own_pt p) : own_ln (own_tn nu nh nm p) (own_txt u h n p) := by
  have q := (own_of_n lu lh hp rfl).app ln.1 (by have := lu.2; have := lh.2; have := ln.2; have := (own_dln hp).2; simp only [List.length_append, List.length_cons, List.length_nil]; omega)
  have e : own_tn nu nh nm p = (((nu + (3 : Int32)) + nh) + own_dd p) + nm := by rw [own_tneq rfl]; ac_rfl
  rw [e]
  have e2 : own_txt u h n p = ((((((u ++ [(64 : Int32)]) ++ h) ++ [(58 : Int32)]) ++ own_dgs (own_dd p) p) ++ [(47 : Int32)]) ++ n) := by simp [own_txt]
  rw [e2]; exact q

theorem pd_31 : parseMethodDescriptor "(I)Ljava/lang/String;" = some ⟨[.int], some (.object "java/lang/String")⟩ := by decide +kernel
theorem pd_32 : parseMethodDescriptor "(Lcom/example/zapros/zapros/io/sql/SqlDatabase$Driver;Ljava/lang/String;ILjava/lang/String;Ljava/lang/String;Ljava/lang/String;)V" = some ⟨[(.object "com/example/zapros/zapros/io/sql/SqlDatabase$Driver"), (.object "java/lang/String"), .int, (.object "java/lang/String"), (.object "java/lang/String"), (.object "java/lang/String")], none⟩ := by decide +kernel
theorem pd_33 : parseMethodDescriptor "(Ljava/lang/String;ILjava/lang/String;)Z" = some ⟨[(.object "java/lang/String"), .int, (.object "java/lang/String")], some .boolean⟩ := by decide +kernel
theorem pd_34 : parseMethodDescriptor "(Ljava/lang/String;III)Z" = some ⟨[(.object "java/lang/String"), .int, .int, .int], some .boolean⟩ := by decide +kernel
theorem ef_0 (m : MethodId) (p0 : Int32) (p1 : Int32) (p2 : Int32) (p3 : Int32) (p4 : Int32) : entryFrame m #[(.int p0), (.int p1), (.int p2), (.int p3), (.int p4)] maxLocals = mkF m 0 #[.val (.int p0), .val (.int p1), .val (.int p2), .val (.int p3), .val (.int p4), .unset, .unset, .unset, .unset, .unset, .unset, .unset, .unset, .unset, .unset, .unset, .unset] [] := by first | (simp [entryFrame, mkF, argsToLocals, Value.category, maxLocals]; done) | rfl
def Q0 (Z : State) (p0 : Int32) (p1 : Int32) (p2 : Int32) (p3 : Int32) (p4 : Int32) (ic : Int32) (wo : Addr) (wt : Addr) (fm : Value) (d0 : Addr) (d1 : Addr) (h0 : Heap) (n0 : Nat) (v : Option Value) (h : Heap) (L : List Loc) (vm : Vm) : Prop := v = some (.int 1) ∧ Fr n0 L
set_option maxRecDepth 65536 in
set_option maxHeartbeats 40000000 in
theorem rm0 (l : Launch) (Z : State) (aw : Array Value) (hw : ∀ d ∈ tables_1, d.before aw Z = true) (ws : List Jvm.Cond) (p0 : Int32) (p1 : Int32) (p2 : Int32) (p3 : Int32) (p4 : Int32) (ic : Int32) (wo : Addr) (wt : Addr) (fm : Value) (d0 : Addr) (d1 : Addr) (h0 : Heap) (n0 : Nat) (Z0 : n0 ≤ h0.size) (O : own_Old Z n0 h0) (CS : own_CS Z ic) (hcw : Jvm.Lit.compactW.before aw Z = true) (HE : Jvm.Lit.constHeld Z "java/lang/String" 7) (H7 : Jvm.Lit.constHeld Z "com/example/zapros/zapros/io/sql/SqlDatabase" 7) (H15 : Jvm.Lit.constHeld Z "com/example/zapros/zapros/io/sql/SqlDatabase" 15) (H17 : Jvm.Lit.constHeld Z "com/example/zapros/zapros/io/sql/SqlDatabase" 17) (H19 : Jvm.Lit.constHeld Z "com/example/zapros/zapros/io/sql/SqlDatabase" 19) (H21 : Jvm.Lit.constHeld Z "com/example/zapros/zapros/io/sql/SqlDatabase" 21) (H63 : Jvm.Lit.constHeld Z "com/example/zapros/zapros/io/sql/SqlDatabase" 63) (H65 : Jvm.Lit.constHeld Z "com/example/zapros/zapros/io/sql/SqlDatabase" 65) (H67 : Jvm.Lit.constHeld Z "com/example/zapros/zapros/io/sql/SqlDatabase" 67) (DG : own_DG Z wo wt) (hf : fm.isRef = true) (Sf : Sta Z Z.heap "jdk/internal/util/Preconditions" "SIOOBE_FORMATTER" "Ljava/util/function/BiFunction;" fm) (SPg : Sta Z Z.heap "com/example/zapros/zapros/io/sql/SqlDatabase$Driver" "PG" "Lcom/example/zapros/zapros/io/sql/SqlDatabase$Driver;" (.ref d0)) (SMa : Sta Z Z.heap "com/example/zapros/zapros/io/sql/SqlDatabase$Driver" "MARIADB" "Lcom/example/zapros/zapros/io/sql/SqlDatabase$Driver;" (.ref d1)) :
    MetFree l x (head1 (Jvm.Cond.code x code maxLocals ret :: ws) room_1) (fun a U => a = #[(.int p0), (.int p1), (.int p2), (.int p3), (.int p4)] ∧ Z.Warmed39 U.vm ∧ U.heap = h0 ∧ (fun vm => IB Z vm []) U.vm) (fun _ _ _ _ _ => True) (fun _ U o U' => ∃ v L, o = .returned v ∧ Q0 Z p0 p1 p2 p3 p4 ic wo wt fm d0 d1 h0 n0 v U'.heap L U'.vm ∧ ReturnedEndW U o U' L 37 242) := by
  refine MetFree.of_bodySF (plainFor_of_name pn_2) hisR ?_
  intro p e s m args below meth c s₁ Bd hml0 hP hK
  obtain ⟨rfl, hZ, hh, hVP⟩ := hP
  have hx := Bd.exec
  have hby := Bd.bytes
  have hml : c.maxLocals = 17 := hml0
  have hown : s.vm.findClass "com/example/zapros/zapros/io/sql/SqlDatabaseToStringPinLaw" = some m.cls := findClass_of_methodNamed Bd.named
  have hnm := (name_of_methodNamed Bd.named Bd.method).1
  have hlk : meth.locks = false := BodyLoose.notSynchronized Bd
  have X0 : Stand p l e room_1 (s.setVm s.vm) m #[(.int p0), (.int p1), (.int p2), (.int p3), (.int p4)] below meth c s₁ [] 0 0 := Stand.of_body Bd
  have hS : s.Since s.vm h0.size := (State.WarmedH.refl s).since _
  have eh0 : s₁.heap = h0 := by rw [← hh, Bd.state]; rfl
  have N0 := Fr.nil n0
  show RestW p.tables e below s (Q0 Z p0 p1 p2 p3 p4 ic wo wt fm d0 d1 h0 n0) _ _ (s₁.setTop (entryFrame m #[(.int p0), (.int p1), (.int p2), (.int p3), (.int p4)] maxLocals))
  refine RestW.via (fun t k => castTop (ef_0 m p0 p1 p2 p3 p4) k) ?_
  have EV : own_EV Z h0 s.vm := Or.inl hVP
  show RestW p.tables e below s _ _ _ (s₁.setTop (mkF m 0 #[.val (.int p0), .val (.int p1), .val (.int p2), .val (.int p3), .val (.int p4), .unset, .unset, .unset, .unset, .unset, .unset, .unset, .unset, .unset, .unset, .unset, .unset] []))
  refine RestW.via (fun t k => XS.iloadN X0.here hx rfl (hb hby at_0) rfl k) ?_
  show RestW p.tables e below s _ _ _ (s₁.setTop (mkF m 1 #[.val (.int p0), .val (.int p1), .val (.int p2), .val (.int p3), .val (.int p4), .unset, .unset, .unset, .unset, .unset, .unset, .unset, .unset, .unset, .unset, .unset, .unset] [(.int p0)]))
  obtain ⟨_, _, ⟨T1, L1, k1, n1⟩, -, X1, hSq1, gr1, ⟨Lc1, hQ1, l1, y1, z1⟩, st1⟩ := callSS X0 hx (y := (⟨"com/example/zapros/zapros/io/sql/SqlDatabaseToStringPinLaw", "mk", "(I)Ljava/lang/String;"⟩ : MethodName)) hown (mvT hZ (own_W hw 0 rfl)) (mvT hZ (own_W hw 1 rfl)) (mvT hZ (own_W hw 2 rfl)) (mvT hZ (own_W hw 3 rfl)) (by decide) (own_backV (W := 0) (rmMK l Z aw hw [] p0 ic h0 n0 (Nat.le_trans Z0 (Keep.refl h0 []).1) (O.keep (Keep.refl h0 []) all0) CS hcw HE) hZ (own_W hw 3 rfl) (own_W hw 2 rfl) (by decide) (by decide) (fun vm' hw' => own_EV_keep (s := s) EV hw' (Keep.refl _ _))) (g := (mkF m 1 #[.val (.int p0), .val (.int p1), .val (.int p2), .val (.int p3), .val (.int p4), .unset, .unset, .unset, .unset, .unset, .unset, .unset, .unset, .unset, .unset, .unset, .unset] [(.int p0)])) rfl (by rw [hml]; rfl) (argsL := [(.int p0)]) (rest := []) (lenOf pd_31 rfl) rfl (by show 2 * 0 + _ ≤ _; exact Nat.le_of_eq rfl) (hb hby at_1) (fun _ _ => ⟨rfl, eh0, (by decide : 0 + 4 ≤ _), (by decide : 0 + 8 ≤ _)⟩)
  dsimp only [Pt.U, Pt.locs, Pt.cells, Pt.slots] at X1 l1 y1 z1 st1 hQ1 hSq1 gr1
  subst l1 y1 z1
  obtain ⟨X1, hS, hZ, hown⟩ := rebS hS (by rw [eh0]; first | exact (Nat.le_refl _) | exact Nat.le_refl _) X1 hSq1 gr1 hZ hown
  obtain ⟨h1, e1⟩ : ∃ z, T1.heap = z := ⟨_, rfl⟩
  rw [e1] at hQ1
  obtain ⟨tu, vu, qu, rfl, Nq1, Kq1, gt1, Su, EV⟩ := hQ1
  have N1 := Fr.app N0 Nq1
  have K1 : Keep h0 h1 [] := (Keep.refl h0 []).trans Kq1 all0
  refine RestW.via (fun t k => st1.trans k) ?_
  show RestW p.tables e below s _ _ _ (T1.setTop (mkF m 4 #[.val (.int p0), .val (.int p1), .val (.int p2), .val (.int p3), .val (.int p4), .unset, .unset, .unset, .unset, .unset, .unset, .unset, .unset, .unset, .unset, .unset, .unset] [(.ref tu)]))
  refine RestW.via (fun t k => XS.astore X1.here hx rfl (hb hby at_4) rfl rfl (l' := #[.val (.int p0), .val (.int p1), .val (.int p2), .val (.int p3), .val (.int p4), .val (.ref tu), .unset, .unset, .unset, .unset, .unset, .unset, .unset, .unset, .unset, .unset, .unset]) rfl k) ?_
  refine RestW.via (fun t k => XS.iloadN X1.here hx rfl (hb hby at_6) rfl k) ?_
  show RestW p.tables e below s _ _ _ (T1.setTop (mkF m 7 #[.val (.int p0), .val (.int p1), .val (.int p2), .val (.int p3), .val (.int p4), .val (.ref tu), .unset, .unset, .unset, .unset, .unset, .unset, .unset, .unset, .unset, .unset, .unset] [(.int p1)]))
  obtain ⟨_, _, ⟨T2, L2, k2, n2⟩, -, X2, hSq2, gr2, ⟨Lc2, hQ2, l2, y2, z2⟩, st2⟩ := callSS X1 hx (y := (⟨"com/example/zapros/zapros/io/sql/SqlDatabaseToStringPinLaw", "mk", "(I)Ljava/lang/String;"⟩ : MethodName)) hown (mvT hZ (own_W hw 0 rfl)) (mvT hZ (own_W hw 1 rfl)) (mvT hZ (own_W hw 2 rfl)) (mvT hZ (own_W hw 3 rfl)) (by decide) (own_backV (W := 0) (rmMK l Z aw hw [] p1 ic h1 n0 (Nat.le_trans Z0 K1.1) (O.keep K1 all0) CS hcw HE) hZ (own_W hw 3 rfl) (own_W hw 2 rfl) (by decide) (by decide) (fun vm' hw' => own_EV_keep (s := s) EV hw' (Keep.refl _ _))) (g := (mkF m 7 #[.val (.int p0), .val (.int p1), .val (.int p2), .val (.int p3), .val (.int p4), .val (.ref tu), .unset, .unset, .unset, .unset, .unset, .unset, .unset, .unset, .unset, .unset, .unset] [(.int p1)])) rfl (by rw [hml]; rfl) (argsL := [(.int p1)]) (rest := []) (lenOf pd_31 rfl) rfl (by show 2 * 0 + _ ≤ _; exact Nat.le_of_eq rfl) (hb hby at_7) (fun _ _ => ⟨rfl, e1, (by decide : 4 + 4 ≤ _), (by decide : 8 + 8 ≤ _)⟩)
  dsimp only [Pt.U, Pt.locs, Pt.cells, Pt.slots] at X2 l2 y2 z2 st2 hQ2 hSq2 gr2
  subst l2 y2 z2
  obtain ⟨X2, hS, hZ, hown⟩ := rebS hS (by rw [e1]; first | exact (Nat.le_of_eq (congrArg Array.size e1)) | exact Nat.le_refl _) X2 hSq2 gr2 hZ hown
  obtain ⟨h2, e2⟩ : ∃ z, T2.heap = z := ⟨_, rfl⟩
  rw [e2] at hQ2
  obtain ⟨th, vh, qh, rfl, Nq2, Kq2, gt2, Sh, EV⟩ := hQ2
  have N2 := Fr.app N1 Nq2
  have K2 : Keep h0 h2 [] := K1.trans Kq2 all0
  refine RestW.via (fun t k => st2.trans k) ?_
  show RestW p.tables e below s _ _ _ (T2.setTop (mkF m 10 #[.val (.int p0), .val (.int p1), .val (.int p2), .val (.int p3), .val (.int p4), .val (.ref tu), .unset, .unset, .unset, .unset, .unset, .unset, .unset, .unset, .unset, .unset, .unset] [(.ref th)]))
  refine RestW.via (fun t k => XS.astore X2.here hx rfl (hb hby at_10) rfl rfl (l' := #[.val (.int p0), .val (.int p1), .val (.int p2), .val (.int p3), .val (.int p4), .val (.ref tu), .val (.ref th), .unset, .unset, .unset, .unset, .unset, .unset, .unset, .unset, .unset, .unset]) rfl k) ?_
  refine RestW.via (fun t k => XS.iloadN X2.here hx rfl (hb hby at_12) rfl k) ?_
  show RestW p.tables e below s _ _ _ (T2.setTop (mkF m 13 #[.val (.int p0), .val (.int p1), .val (.int p2), .val (.int p3), .val (.int p4), .val (.ref tu), .val (.ref th), .unset, .unset, .unset, .unset, .unset, .unset, .unset, .unset, .unset, .unset] [(.int p2)]))
  obtain ⟨_, _, ⟨T3, L3, k3, n3⟩, -, X3, hSq3, gr3, ⟨Lc3, hQ3, l3, y3, z3⟩, st3⟩ := callSS X2 hx (y := (⟨"com/example/zapros/zapros/io/sql/SqlDatabaseToStringPinLaw", "mk", "(I)Ljava/lang/String;"⟩ : MethodName)) hown (mvT hZ (own_W hw 0 rfl)) (mvT hZ (own_W hw 1 rfl)) (mvT hZ (own_W hw 2 rfl)) (mvT hZ (own_W hw 3 rfl)) (by decide) (own_backV (W := 0) (rmMK l Z aw hw [] p2 ic h2 n0 (Nat.le_trans Z0 K2.1) (O.keep K2 all0) CS hcw HE) hZ (own_W hw 3 rfl) (own_W hw 2 rfl) (by decide) (by decide) (fun vm' hw' => own_EV_keep (s := s) EV hw' (Keep.refl _ _))) (g := (mkF m 13 #[.val (.int p0), .val (.int p1), .val (.int p2), .val (.int p3), .val (.int p4), .val (.ref tu), .val (.ref th), .unset, .unset, .unset, .unset, .unset, .unset, .unset, .unset, .unset, .unset] [(.int p2)])) rfl (by rw [hml]; rfl) (argsL := [(.int p2)]) (rest := []) (lenOf pd_31 rfl) rfl (by show 2 * 0 + _ ≤ _; exact Nat.le_of_eq rfl) (hb hby at_13) (fun _ _ => ⟨rfl, e2, (by decide : 8 + 4 ≤ _), (by decide : 16 + 8 ≤ _)⟩)
  dsimp only [Pt.U, Pt.locs, Pt.cells, Pt.slots] at X3 l3 y3 z3 st3 hQ3 hSq3 gr3
  subst l3 y3 z3
  obtain ⟨X3, hS, hZ, hown⟩ := rebS hS (by rw [e2]; first | exact (Nat.le_of_eq (congrArg Array.size e2)) | exact Nat.le_refl _) X3 hSq3 gr3 hZ hown
  obtain ⟨h3, e3⟩ : ∃ z, T3.heap = z := ⟨_, rfl⟩
  rw [e3] at hQ3
  obtain ⟨tn, vn, qn, rfl, Nq3, Kq3, gt3, Sn, EV⟩ := hQ3
  have N3 := Fr.app N2 Nq3
  have K3 : Keep h0 h3 [] := K2.trans Kq3 all0
  refine RestW.via (fun t k => st3.trans k) ?_
  show RestW p.tables e below s _ _ _ (T3.setTop (mkF m 16 #[.val (.int p0), .val (.int p1), .val (.int p2), .val (.int p3), .val (.int p4), .val (.ref tu), .val (.ref th), .unset, .unset, .unset, .unset, .unset, .unset, .unset, .unset, .unset, .unset] [(.ref tn)]))
  refine RestW.via (fun t k => XS.astore X3.here hx rfl (hb hby at_16) rfl rfl (l' := #[.val (.int p0), .val (.int p1), .val (.int p2), .val (.int p3), .val (.int p4), .val (.ref tu), .val (.ref th), .val (.ref tn), .unset, .unset, .unset, .unset, .unset, .unset, .unset, .unset, .unset]) rfl k) ?_
  refine RestW.via (fun t k => XS.iloadN X3.here hx rfl (hb hby at_18) rfl k) ?_
  show RestW p.tables e below s _ _ _ (T3.setTop (mkF m 19 #[.val (.int p0), .val (.int p1), .val (.int p2), .val (.int p3), .val (.int p4), .val (.ref tu), .val (.ref th), .val (.ref tn), .unset, .unset, .unset, .unset, .unset, .unset, .unset, .unset, .unset] [(.int p3)]))
  obtain ⟨_, _, ⟨T4, L4, k4, n4⟩, -, X4, hSq4, gr4, ⟨Lc4, hQ4, l4, y4, z4⟩, st4⟩ := callSS X3 hx (y := (⟨"com/example/zapros/zapros/io/sql/SqlDatabaseToStringPinLaw", "mk", "(I)Ljava/lang/String;"⟩ : MethodName)) hown (mvT hZ (own_W hw 0 rfl)) (mvT hZ (own_W hw 1 rfl)) (mvT hZ (own_W hw 2 rfl)) (mvT hZ (own_W hw 3 rfl)) (by decide) (own_backV (W := 0) (rmMK l Z aw hw [] p3 ic h3 n0 (Nat.le_trans Z0 K3.1) (O.keep K3 all0) CS hcw HE) hZ (own_W hw 3 rfl) (own_W hw 2 rfl) (by decide) (by decide) (fun vm' hw' => own_EV_keep (s := s) EV hw' (Keep.refl _ _))) (g := (mkF m 19 #[.val (.int p0), .val (.int p1), .val (.int p2), .val (.int p3), .val (.int p4), .val (.ref tu), .val (.ref th), .val (.ref tn), .unset, .unset, .unset, .unset, .unset, .unset, .unset, .unset, .unset] [(.int p3)])) rfl (by rw [hml]; rfl) (argsL := [(.int p3)]) (rest := []) (lenOf pd_31 rfl) rfl (by show 2 * 0 + _ ≤ _; exact Nat.le_of_eq rfl) (hb hby at_19) (fun _ _ => ⟨rfl, e3, (by decide : 12 + 4 ≤ _), (by decide : 24 + 8 ≤ _)⟩)
  dsimp only [Pt.U, Pt.locs, Pt.cells, Pt.slots] at X4 l4 y4 z4 st4 hQ4 hSq4 gr4
  subst l4 y4 z4
  obtain ⟨X4, hS, hZ, hown⟩ := rebS hS (by rw [e3]; first | exact (Nat.le_of_eq (congrArg Array.size e3)) | exact Nat.le_refl _) X4 hSq4 gr4 hZ hown
  obtain ⟨h4, e4⟩ : ∃ z, T4.heap = z := ⟨_, rfl⟩
  rw [e4] at hQ4
  obtain ⟨tw, vw, qw, rfl, Nq4, Kq4, gt4, Sw, EV⟩ := hQ4
  have N4 := Fr.app N3 Nq4
  have K4 : Keep h0 h4 [] := K3.trans Kq4 all0
  refine RestW.via (fun t k => st4.trans k) ?_
  show RestW p.tables e below s _ _ _ (T4.setTop (mkF m 22 #[.val (.int p0), .val (.int p1), .val (.int p2), .val (.int p3), .val (.int p4), .val (.ref tu), .val (.ref th), .val (.ref tn), .unset, .unset, .unset, .unset, .unset, .unset, .unset, .unset, .unset] [(.ref tw)]))
  refine RestW.via (fun t k => XS.astore X4.here hx rfl (hb hby at_22) rfl rfl (l' := #[.val (.int p0), .val (.int p1), .val (.int p2), .val (.int p3), .val (.int p4), .val (.ref tu), .val (.ref th), .val (.ref tn), .val (.ref tw), .unset, .unset, .unset, .unset, .unset, .unset, .unset, .unset]) rfl k) ?_
  show RestW p.tables e below s _ _ _ (T4.setTop (mkF m 24 #[.val (.int p0), .val (.int p1), .val (.int p2), .val (.int p3), .val (.int p4), .val (.ref tu), .val (.ref th), .val (.ref tn), .val (.ref tw), .unset, .unset, .unset, .unset, .unset, .unset, .unset, .unset] []))
  have I := own_EV_ib EV
  refine RestW.via (fun t k => XS.iloadN X4.here hx rfl (hb hby at_24) rfl k) ?_
  refine RestW.via (fun t k => XS.bipush X4.here hx rfl (hb hby at_25) k) ?_
  refine RestW.via (fun t k => XS.iushr X4.here hx rfl (hb hby at_27) rfl k) ?_
  show RestW p.tables e below s _ _ _ (T4.setTop (mkF m 28 #[.val (.int p0), .val (.int p1), .val (.int p2), .val (.int p3), .val (.int p4), .val (.ref tu), .val (.ref th), .val (.ref tn), .val (.ref tw), .unset, .unset, .unset, .unset, .unset, .unset, .unset, .unset] [(.int ((p3.toUInt32 >>> ((20 : Int32) &&& 31).toUInt32).toInt32))]))
  refine RestW.via (fun t k => XS.iconst X4.here hx rfl (hb hby at_28) k) ?_
  refine RestW.via (fun t k => XS.iand X4.here hx rfl (hb hby at_29) rfl k) ?_
  show RestW p.tables e below s _ _ _ (T4.setTop (mkF m 30 #[.val (.int p0), .val (.int p1), .val (.int p2), .val (.int p3), .val (.int p4), .val (.ref tu), .val (.ref th), .val (.ref tn), .val (.ref tw), .unset, .unset, .unset, .unset, .unset, .unset, .unset, .unset] [(.int (((p3.toUInt32 >>> ((20 : Int32) &&& 31).toUInt32).toInt32) &&& (1 : Int32)))]))
  have JM : ∀ (dr : Addr) (TM : State) (LM : List Loc) (XM : Stand p l e room_1 (s.setVm T4.vm) m #[(.int p0), (.int p1), (.int p2), (.int p3), (.int p4)] below meth c TM LM 16 32) (eM : TM.heap = h4) (NM : Fr n0 LM), RestW p.tables e below s (Q0 Z p0 p1 p2 p3 p4 ic wo wt fm d0 d1 h0 n0) 37 242 (TM.setTop (mkF m 42 #[.val (.int p0), .val (.int p1), .val (.int p2), .val (.int p3), .val (.int p4), .val (.ref tu), .val (.ref th), .val (.ref tn), .val (.ref tw), .unset, .unset, .unset, .unset, .unset, .unset, .unset, .unset] [(.ref dr)])) := by
    intro dr TM LM XM eM NM 
    show RestW p.tables e below s _ _ _ (TM.setTop (mkF m 42 #[.val (.int p0), .val (.int p1), .val (.int p2), .val (.int p3), .val (.int p4), .val (.ref tu), .val (.ref th), .val (.ref tn), .val (.ref tw), .unset, .unset, .unset, .unset, .unset, .unset, .unset, .unset] [(.ref dr)]))
    refine RestW.via (fun t k => XS.astore XM.here hx rfl (hb hby at_42) rfl rfl (l' := #[.val (.int p0), .val (.int p1), .val (.int p2), .val (.int p3), .val (.int p4), .val (.ref tu), .val (.ref th), .val (.ref tn), .val (.ref tw), .val (.ref dr), .unset, .unset, .unset, .unset, .unset, .unset, .unset]) rfl k) ?_
    refine RestW.via (fun t k => XS.iload XM.here hx rfl (hb hby at_44) rfl k) ?_
    refine RestW.via (fun t k => XM.ldcInt hx hown (mvT hZ (own_W hw 29 rfl)) (g := (mkF m 46 #[.val (.int p0), .val (.int p1), .val (.int p2), .val (.int p3), .val (.int p4), .val (.ref tu), .val (.ref th), .val (.ref tn), .val (.ref tw), .val (.ref dr), .unset, .unset, .unset, .unset, .unset, .unset, .unset] [(.int p4)])) rfl (hb hby at_46) t k) ?_
    show RestW p.tables e below s _ _ _ (TM.setTop (mkF m 48 #[.val (.int p0), .val (.int p1), .val (.int p2), .val (.int p3), .val (.int p4), .val (.ref tu), .val (.ref th), .val (.ref tn), .val (.ref tw), .val (.ref dr), .unset, .unset, .unset, .unset, .unset, .unset, .unset] [(.int (2147483647 : Int32)), (.int p4)]))
    refine RestW.via (fun t k => XS.iand XM.here hx rfl (hb hby at_48) rfl k) ?_
    refine RestW.via (fun t k => XM.ldcInt hx hown (mvT hZ (own_W hw 30 rfl)) (g := (mkF m 49 #[.val (.int p0), .val (.int p1), .val (.int p2), .val (.int p3), .val (.int p4), .val (.ref tu), .val (.ref th), .val (.ref tn), .val (.ref tw), .val (.ref dr), .unset, .unset, .unset, .unset, .unset, .unset, .unset] [(.int (p4 &&& (2147483647 : Int32)))])) rfl (hb hby at_49) t k) ?_
    show RestW p.tables e below s _ _ _ (TM.setTop (mkF m 51 #[.val (.int p0), .val (.int p1), .val (.int p2), .val (.int p3), .val (.int p4), .val (.ref tu), .val (.ref th), .val (.ref tn), .val (.ref tw), .val (.ref dr), .unset, .unset, .unset, .unset, .unset, .unset, .unset] [(.int (65535 : Int32)), (.int (p4 &&& (2147483647 : Int32)))]))
    refine RestW.via (fun t k => iremM XM hx rfl (hb hby at_51) rfl (by decide) k) ?_
    show RestW p.tables e below s _ _ _ (TM.setTop (mkF m 52 #[.val (.int p0), .val (.int p1), .val (.int p2), .val (.int p3), .val (.int p4), .val (.ref tu), .val (.ref th), .val (.ref tn), .val (.ref tw), .val (.ref dr), .unset, .unset, .unset, .unset, .unset, .unset, .unset] [(.int ((p4 &&& (2147483647 : Int32)) % (65535 : Int32)))]))
    refine RestW.via (fun t k => XS.iconst XM.here hx rfl (hb hby at_52) k) ?_
    refine RestW.via (fun t k => XS.iadd XM.here hx rfl (hb hby at_53) rfl k) ?_
    show RestW p.tables e below s _ _ _ (TM.setTop (mkF m 54 #[.val (.int p0), .val (.int p1), .val (.int p2), .val (.int p3), .val (.int p4), .val (.ref tu), .val (.ref th), .val (.ref tn), .val (.ref tw), .val (.ref dr), .unset, .unset, .unset, .unset, .unset, .unset, .unset] [(.int (((p4 &&& (2147483647 : Int32)) % (65535 : Int32)) + (1 : Int32)))]))
    refine RestW.via (fun t k => XS.istore XM.here hx rfl (hb hby at_54) rfl (l' := #[.val (.int p0), .val (.int p1), .val (.int p2), .val (.int p3), .val (.int p4), .val (.ref tu), .val (.ref th), .val (.ref tn), .val (.ref tw), .val (.ref dr), .val (.int (((p4 &&& (2147483647 : Int32)) % (65535 : Int32)) + (1 : Int32))), .unset, .unset, .unset, .unset, .unset, .unset]) rfl k) ?_
    show RestW p.tables e below s _ _ _ (TM.setTop (mkF m 56 #[.val (.int p0), .val (.int p1), .val (.int p2), .val (.int p3), .val (.int p4), .val (.ref tu), .val (.ref th), .val (.ref tn), .val (.ref tw), .val (.ref dr), .val (.int (((p4 &&& (2147483647 : Int32)) % (65535 : Int32)) + (1 : Int32))), .unset, .unset, .unset, .unset, .unset, .unset] []))
    obtain ⟨pp, hv_pp⟩ : ∃ z : Int32, z = (((p4 &&& (2147483647 : Int32)) % (65535 : Int32)) + (1 : Int32)) := ⟨_, rfl⟩
    rw [← hv_pp]
    show RestW p.tables e below s _ _ _ (TM.setTop (mkF m 56 #[.val (.int p0), .val (.int p1), .val (.int p2), .val (.int p3), .val (.int p4), .val (.ref tu), .val (.ref th), .val (.ref tn), .val (.ref tw), .val (.ref dr), .val (.int pp), .unset, .unset, .unset, .unset, .unset, .unset] []))
    have hp : own_pt pp := by rw [hv_pp]; exact own_port _
    obtain ⟨T5, h5, X5, e5, E5, A5, D5, -, st5⟩ := newO XM hx hZ hown (own_W hw 31 rfl) (own_W hw 32 rfl) (own_W hw 33 rfl) eM (g := (mkF m 56 #[.val (.int p0), .val (.int p1), .val (.int p2), .val (.int p3), .val (.int p4), .val (.ref tu), .val (.ref th), .val (.ref tn), .val (.ref tw), .val (.ref dr), .val (.int pp), .unset, .unset, .unset, .unset, .unset, .unset] [])) rfl (hb hby at_56) (by decide) (by decide)
    obtain ⟨b5, gq5⟩ : ∃ z, z = h4.size := ⟨_, rfl⟩
    rw [← gq5] at A5 D5 st5
    have sz_b5 : h0.size ≤ b5 := Nat.le_trans K4.1 (Nat.le_of_eq gq5.symm)
    have g_b5 : n0 ≤ b5 := Nat.le_trans Z0 sz_b5
    have ne_tu_b5 : tu ≠ b5 := Nat.ne_of_lt (Nat.lt_of_lt_of_le (((Su.1.keep Kq2).keep Kq3).keep Kq4).lt (Nat.le_of_eq gq5.symm))
    have ne_vu_b5 : vu ≠ b5 := Nat.ne_of_lt (Nat.lt_of_lt_of_le (((Su.2.2.2.keep Kq2 nin0).keep Kq3 nin0).keep Kq4 nin0).lt (Nat.le_of_eq gq5.symm))
    have ne_th_b5 : th ≠ b5 := Nat.ne_of_lt (Nat.lt_of_lt_of_le ((Sh.1.keep Kq3).keep Kq4).lt (Nat.le_of_eq gq5.symm))
    have ne_vh_b5 : vh ≠ b5 := Nat.ne_of_lt (Nat.lt_of_lt_of_le ((Sh.2.2.2.keep Kq3 nin0).keep Kq4 nin0).lt (Nat.le_of_eq gq5.symm))
    have ne_tn_b5 : tn ≠ b5 := Nat.ne_of_lt (Nat.lt_of_lt_of_le (Sn.1.keep Kq4).lt (Nat.le_of_eq gq5.symm))
    have ne_vn_b5 : vn ≠ b5 := Nat.ne_of_lt (Nat.lt_of_lt_of_le (Sn.2.2.2.keep Kq4 nin0).lt (Nat.le_of_eq gq5.symm))
    have ne_tw_b5 : tw ≠ b5 := Nat.ne_of_lt (Nat.lt_of_lt_of_le Sw.1.lt (Nat.le_of_eq gq5.symm))
    have ne_vw_b5 : vw ≠ b5 := Nat.ne_of_lt (Nat.lt_of_lt_of_le Sw.2.2.2.lt (Nat.le_of_eq gq5.symm))
    have K5 : Keep h0 h5 [] := K4.ext E5
    have E_b5 := A5
    have F_driver_b5 : Fld Z h5 b5 "com/example/zapros/zapros/io/sql/SqlDatabase" "driver" "Lcom/example/zapros/zapros/io/sql/SqlDatabase$Driver;" .null := D5 (Or.inr (own_W hw 54 rfl)) (ty := (.object "com/example/zapros/zapros/io/sql/SqlDatabase$Driver")) (by decide)
    have F_host_b5 : Fld Z h5 b5 "com/example/zapros/zapros/io/sql/SqlDatabase" "host" "Ljava/lang/String;" .null := D5 (Or.inr (own_W hw 56 rfl)) (ty := (.object "java/lang/String")) (by decide)
    have F_port_b5 : Fld Z h5 b5 "com/example/zapros/zapros/io/sql/SqlDatabase" "port" "I" (.int (0 : Int32)) := D5 (Or.inr (own_W hw 58 rfl)) (ty := .int) (by decide)
    have F_name_b5 : Fld Z h5 b5 "com/example/zapros/zapros/io/sql/SqlDatabase" "name" "Ljava/lang/String;" .null := D5 (Or.inr (own_W hw 60 rfl)) (ty := (.object "java/lang/String")) (by decide)
    have F_username_b5 : Fld Z h5 b5 "com/example/zapros/zapros/io/sql/SqlDatabase" "username" "Ljava/lang/String;" .null := D5 (Or.inr (own_W hw 62 rfl)) (ty := (.object "java/lang/String")) (by decide)
    have F_password_b5 : Fld Z h5 b5 "com/example/zapros/zapros/io/sql/SqlDatabase" "password" "Ljava/lang/String;" .null := D5 (Or.inr (own_W hw 64 rfl)) (ty := (.object "java/lang/String")) (by decide)
    refine RestW.via (fun t k => st5 t k) ?_
    show RestW p.tables e below s _ _ _ (T5.setTop (mkF m 59 #[.val (.int p0), .val (.int p1), .val (.int p2), .val (.int p3), .val (.int p4), .val (.ref tu), .val (.ref th), .val (.ref tn), .val (.ref tw), .val (.ref dr), .val (.int pp), .unset, .unset, .unset, .unset, .unset, .unset] [(.ref b5)]))
    refine RestW.via (fun t k => XS.dup X5.here hx rfl (hb hby at_59) rfl rfl k) ?_
    refine RestW.via (fun t k => XS.aload X5.here hx rfl (hb hby at_60) rfl rfl k) ?_
    refine RestW.via (fun t k => XS.aload X5.here hx rfl (hb hby at_62) rfl rfl k) ?_
    refine RestW.via (fun t k => XS.iload X5.here hx rfl (hb hby at_64) rfl k) ?_
    refine RestW.via (fun t k => XS.aload X5.here hx rfl (hb hby at_66) rfl rfl k) ?_
    refine RestW.via (fun t k => XS.aload X5.here hx rfl (hb hby at_68) rfl rfl k) ?_
    refine RestW.via (fun t k => XS.aload X5.here hx rfl (hb hby at_70) rfl rfl k) ?_
    show RestW p.tables e below s _ _ _ (T5.setTop (mkF m 72 #[.val (.int p0), .val (.int p1), .val (.int p2), .val (.int p3), .val (.int p4), .val (.ref tu), .val (.ref th), .val (.ref tn), .val (.ref tw), .val (.ref dr), .val (.int pp), .unset, .unset, .unset, .unset, .unset, .unset] [(.ref tw), (.ref tu), (.ref tn), (.int pp), (.ref th), (.ref dr), (.ref b5), (.ref b5)]))
    obtain ⟨_, _, ⟨T6, L6, k6, n6⟩, -, X6, hSq6, gr6, ⟨Lc6, hQ6, l6, y6, z6⟩, st6⟩ := X5.specialBackS hx (y := (⟨"com/example/zapros/zapros/io/sql/SqlDatabase", "<init>", "(Lcom/example/zapros/zapros/io/sql/SqlDatabase$Driver;Ljava/lang/String;ILjava/lang/String;Ljava/lang/String;Ljava/lang/String;)V"⟩ : MethodName)) rfl hown (mvT hZ (own_W hw 34 rfl)) (mvT hZ (own_W hw 35 rfl)) (mvT hZ (own_W hw 36 rfl)) (by decide) (own_backV (W := 1) (rmDI l Z aw hw [] b5 dr th pp tn tu tw  h5 n0 (Nat.le_trans Z0 K5.1) E_b5 F_driver_b5 F_host_b5 F_port_b5 F_name_b5 F_username_b5 F_password_b5 g_b5 hp (O.keep K5 all0) hcw H7 H15 H17 H19 H21) hZ (own_W hw 36 rfl) (own_W hw 33 rfl) (by decide) (by decide) (fun vm' hw' => own_IB_warm (s := s) I hw')) (g := (mkF m 72 #[.val (.int p0), .val (.int p1), .val (.int p2), .val (.int p3), .val (.int p4), .val (.ref tu), .val (.ref th), .val (.ref tn), .val (.ref tw), .val (.ref dr), .val (.int pp), .unset, .unset, .unset, .unset, .unset, .unset] [(.ref tw), (.ref tu), (.ref tn), (.int pp), (.ref th), (.ref dr), (.ref b5), (.ref b5)])) rfl (by rw [hml]; rfl) (Steps.refl _) (a := b5) (argsL := [(.ref dr), (.ref th), (.int pp), (.ref tn), (.ref tu), (.ref tw)]) (rest := [(.ref b5)]) (lenOf pd_32 rfl) rfl (by show 2 * 0 + _ ≤ _; exact Nat.le_of_eq rfl) (hb hby at_72) (fun _ _ => ⟨rfl, e5, (by decide : 17 + 10 ≤ _), (by decide : 38 + 140 ≤ _)⟩)
    dsimp only [Pt.U, Pt.locs, Pt.cells, Pt.slots] at X6 l6 y6 z6 st6 hQ6 hSq6 gr6
    subst l6 y6 z6
    obtain ⟨X6, hS, hZ, hown⟩ := rebS hS (by rw [e5]; first | exact (Nat.le_trans (Nat.le_of_eq (congrArg Array.size e4)) E5.1) | exact Nat.le_refl _) X6 hSq6 gr6 hZ hown
    obtain ⟨h6, e6⟩ : ∃ z, T6.heap = z := ⟨_, rfl⟩
    rw [e6] at hQ6
    obtain ⟨rfl, Nq6, Kq6, Ed, Fu, Fh, Fp, Fn, I⟩ := hQ6
    have N6 := Fr.app NM Nq6
    have K6 : Keep h0 h6 [] := K5.trans Kq6 (allS (Or.inr sz_b5) all0)
    have Sud := (own_St_keep (own_St_keep (own_St_keep (own_St_keep (own_St_keep Su Kq2 nin0 nin0) Kq3 nin0 nin0) Kq4 nin0 nin0) ((Keep.refl _ []).ext E5) nin0 nin0) Kq6 (ninS ne_tu_b5 nin0) (ninS ne_vu_b5 nin0))
    have Shd := (own_St_keep (own_St_keep (own_St_keep (own_St_keep Sh Kq3 nin0 nin0) Kq4 nin0 nin0) ((Keep.refl _ []).ext E5) nin0 nin0) Kq6 (ninS ne_th_b5 nin0) (ninS ne_vh_b5 nin0))
    have Snd := (own_St_keep (own_St_keep (own_St_keep Sn Kq4 nin0 nin0) ((Keep.refl _ []).ext E5) nin0 nin0) Kq6 (ninS ne_tn_b5 nin0) (ninS ne_vn_b5 nin0))
    refine RestW.via (fun t k => st6.trans k) ?_
    show RestW p.tables e below s _ _ _ (T6.setTop (mkF m 75 #[.val (.int p0), .val (.int p1), .val (.int p2), .val (.int p3), .val (.int p4), .val (.ref tu), .val (.ref th), .val (.ref tn), .val (.ref tw), .val (.ref dr), .val (.int pp), .unset, .unset, .unset, .unset, .unset, .unset] [(.ref b5)]))
    refine RestW.via (fun t k => XS.astore X6.here hx rfl (hb hby at_75) rfl rfl (l' := #[.val (.int p0), .val (.int p1), .val (.int p2), .val (.int p3), .val (.int p4), .val (.ref tu), .val (.ref th), .val (.ref tn), .val (.ref tw), .val (.ref dr), .val (.int pp), .val (.ref b5), .unset, .unset, .unset, .unset, .unset]) rfl k) ?_
    refine RestW.via (fun t k => XS.aload X6.here hx rfl (hb hby at_77) rfl rfl k) ?_
    show RestW p.tables e below s _ _ _ (T6.setTop (mkF m 79 #[.val (.int p0), .val (.int p1), .val (.int p2), .val (.int p3), .val (.int p4), .val (.ref tu), .val (.ref th), .val (.ref tn), .val (.ref tw), .val (.ref dr), .val (.int pp), .val (.ref b5), .unset, .unset, .unset, .unset, .unset] [(.ref b5)]))
    obtain ⟨cq7, kq7, q7a, q7b, q7c⟩ := isOf hZ e6 Ed
    obtain ⟨_, _, ⟨T7, L7, k7, n7⟩, -, X7, hSq7, gr7, ⟨Lc7, hQ7, l7, y7, z7⟩, st7⟩ := X6.virtualBackS hx (y := (⟨"com/example/zapros/zapros/io/sql/SqlDatabase", "toString", "()Ljava/lang/String;"⟩ : MethodName)) (z := (⟨"com/example/zapros/zapros/io/sql/SqlDatabase", "toString", "()Ljava/lang/String;"⟩ : MethodName)) hown (mvT hZ (own_W hw 65 rfl)) (mvT hZ (own_W hw 66 rfl)) (notFace_of_selects (args := #[]) (mvT hZ (own_W hw 68 rfl))) (mvT hZ (own_W hw 68 rfl)) (mvT hZ (own_W hw 67 rfl)) (by decide) (own_backV (W := 0) (rmTS l Z aw hw [] b5 tu vu qu (own_n p0) (own_l p0) th vh qh (own_n p1) (own_l p1) tn vn qn (own_n p2) (own_l p2) pp ic wo wt h6 n0 (Nat.le_trans Z0 K6.1) Ed Fu Fh Fn Fp Sud Shd Snd (own_lln p0) (own_lln p1) (own_lln p2) hp (O.keep K6 all0) CS hcw H63 H65 H67 DG) hZ (own_W hw 69 rfl) (own_W hw 33 rfl) (by decide) (by decide) (fun vm' hw' => own_IB_warm (s := s) I hw')) q7a q7c (g := (mkF m 79 #[.val (.int p0), .val (.int p1), .val (.int p2), .val (.int p3), .val (.int p4), .val (.ref tu), .val (.ref th), .val (.ref tn), .val (.ref tw), .val (.ref dr), .val (.int pp), .val (.ref b5), .unset, .unset, .unset, .unset, .unset] [(.ref b5)])) rfl (by rw [hml]; rfl) (Steps.refl _) (argsL := []) (rest := []) (lenOf pd_26 rfl) rfl (by show 2 * 0 + _ ≤ _; exact Nat.le_of_eq rfl) (hb hby at_79) (fun _ _ => ⟨rfl, e6, (by decide : 27 + 10 ≤ _), (by decide : 178 + 64 ≤ _)⟩)
    dsimp only [Pt.U, Pt.locs, Pt.cells, Pt.slots] at X7 l7 y7 z7 st7 hQ7 hSq7 gr7
    subst l7 y7 z7
    obtain ⟨X7, hS, hZ, hown⟩ := rebS hS (by rw [e6]; first | exact (Nat.le_of_eq (congrArg Array.size e6)) | exact Nat.le_refl _) X7 hSq7 gr7 hZ hown
    obtain ⟨h7, e7⟩ : ∃ z, T7.heap = z := ⟨_, rfl⟩
    rw [e7] at hQ7
    obtain ⟨tr, vr, kr, rfl, Nq7, Kq7, gtr, Sr⟩ := hQ7
    have N7 := Fr.app N6 Nq7
    have K7 : Keep h0 h7 [] := K6.trans Kq7 all0
    have Sut := (own_St_keep Sud Kq7 nin0 nin0)
    have Sht := (own_St_keep Shd Kq7 nin0 nin0)
    have Snt := (own_St_keep Snd Kq7 nin0 nin0)
    have ltn := own_of_t (own_lln p0) (own_lln p1) (own_lln p2) hp
    have OT := O.keep K7 all0
    refine RestW.via (fun t k => st7.trans k) ?_
    show RestW p.tables e below s _ _ _ (T7.setTop (mkF m 82 #[.val (.int p0), .val (.int p1), .val (.int p2), .val (.int p3), .val (.int p4), .val (.ref tu), .val (.ref th), .val (.ref tn), .val (.ref tw), .val (.ref dr), .val (.int pp), .val (.ref b5), .unset, .unset, .unset, .unset, .unset] [(.ref tr)]))
    refine RestW.via (fun t k => XS.astore X7.here hx rfl (hb hby at_82) rfl rfl (l' := #[.val (.int p0), .val (.int p1), .val (.int p2), .val (.int p3), .val (.int p4), .val (.ref tu), .val (.ref th), .val (.ref tn), .val (.ref tw), .val (.ref dr), .val (.int pp), .val (.ref b5), .val (.ref tr), .unset, .unset, .unset, .unset]) rfl k) ?_
    refine RestW.via (fun t k => XS.aload X7.here hx rfl (hb hby at_84) rfl rfl k) ?_
    refine RestW.via (fun t k => XS.ifnonnullYes X7.here hx rfl (pc0 := 86) (pc' := 91) rfl (hb hby at_86) rfl (by decide) (by decide) k) ?_
    show RestW p.tables e below s _ _ _ (T7.setTop (mkF m 91 #[.val (.int p0), .val (.int p1), .val (.int p2), .val (.int p3), .val (.int p4), .val (.ref tu), .val (.ref th), .val (.ref tn), .val (.ref tw), .val (.ref dr), .val (.int pp), .val (.ref b5), .val (.ref tr), .unset, .unset, .unset, .unset] []))
    refine RestW.via (fun t k => XS.aload X7.here hx rfl (hb hby at_91) rfl rfl k) ?_
    show RestW p.tables e below s _ _ _ (T7.setTop (mkF m 93 #[.val (.int p0), .val (.int p1), .val (.int p2), .val (.int p3), .val (.int p4), .val (.ref tu), .val (.ref th), .val (.ref tn), .val (.ref tw), .val (.ref dr), .val (.int pp), .val (.ref b5), .val (.ref tr), .unset, .unset, .unset, .unset] [(.ref tu)]))
    obtain ⟨cq8, kq8, q8a, q8b, q8c⟩ := isOf hZ e7 Sut.1
    obtain ⟨_, _, ⟨T8, L8, k8, n8⟩, -, X8, ⟨Lc8, hQ8, l8, y8, z8⟩, st8⟩ := X7.virtualBack hx (y := (⟨"java/lang/String", "length", "()I"⟩ : MethodName)) (z := (⟨"java/lang/String", "length", "()I"⟩ : MethodName)) hown (mvT hZ (own_W hw 202 rfl)) (mvT hZ (own_W hw 99 rfl)) (notFace_of_selects (args := #[]) (mvT hZ (own_W hw 101 rfl))) (mvT hZ (own_W hw 101 rfl)) (mvT hZ (own_W hw 100 rfl)) (by decide) (backOf (W := 0) (rmSLn l Z aw hw [] tu vu qu (own_n p0) (own_l p0) ic h7 n0 (Nat.le_trans Z0 K7.1) Sut OT CS) hZ (own_W hw 102 rfl) (own_W hw 6 rfl) (by decide) (by decide)) q8a q8c (g := (mkF m 93 #[.val (.int p0), .val (.int p1), .val (.int p2), .val (.int p3), .val (.int p4), .val (.ref tu), .val (.ref th), .val (.ref tn), .val (.ref tw), .val (.ref dr), .val (.int pp), .val (.ref b5), .val (.ref tr), .unset, .unset, .unset, .unset] [(.ref tu)])) rfl (by rw [hml]; rfl) (Steps.refl _) (argsL := []) (rest := []) (lenOf pd_7 rfl) rfl (by show 2 * 0 + _ ≤ _; exact Nat.le_of_eq rfl) (hb hby at_93) (fun _ _ => ⟨rfl, e7, (by decide : 37 + 0 ≤ _), (by decide : 242 + 0 ≤ _)⟩)
    dsimp only [Pt.U, Pt.locs, Pt.cells, Pt.slots] at X8 l8 y8 z8 st8 hQ8
    subst l8 y8 z8
    obtain ⟨rfl, Nq8, e8⟩ := hQ8
    have N8 := Fr.app N7 Nq8
    refine RestW.via (fun t k => st8.trans k) ?_
    show RestW p.tables e below s _ _ _ (T8.setTop (mkF m 96 #[.val (.int p0), .val (.int p1), .val (.int p2), .val (.int p3), .val (.int p4), .val (.ref tu), .val (.ref th), .val (.ref tn), .val (.ref tw), .val (.ref dr), .val (.int pp), .val (.ref b5), .val (.ref tr), .unset, .unset, .unset, .unset] [(.int (own_n p0))]))
    refine RestW.via (fun t k => XS.istore X8.here hx rfl (hb hby at_96) rfl (l' := #[.val (.int p0), .val (.int p1), .val (.int p2), .val (.int p3), .val (.int p4), .val (.ref tu), .val (.ref th), .val (.ref tn), .val (.ref tw), .val (.ref dr), .val (.int pp), .val (.ref b5), .val (.ref tr), .val (.int (own_n p0)), .unset, .unset, .unset]) rfl k) ?_
    refine RestW.via (fun t k => XS.aload X8.here hx rfl (hb hby at_98) rfl rfl k) ?_
    show RestW p.tables e below s _ _ _ (T8.setTop (mkF m 100 #[.val (.int p0), .val (.int p1), .val (.int p2), .val (.int p3), .val (.int p4), .val (.ref tu), .val (.ref th), .val (.ref tn), .val (.ref tw), .val (.ref dr), .val (.int pp), .val (.ref b5), .val (.ref tr), .val (.int (own_n p0)), .unset, .unset, .unset] [(.ref th)]))
    obtain ⟨cq9, kq9, q9a, q9b, q9c⟩ := isOf hZ e8 Sht.1
    obtain ⟨_, _, ⟨T9, L9, k9, n9⟩, -, X9, ⟨Lc9, hQ9, l9, y9, z9⟩, st9⟩ := X8.virtualBack hx (y := (⟨"java/lang/String", "length", "()I"⟩ : MethodName)) (z := (⟨"java/lang/String", "length", "()I"⟩ : MethodName)) hown (mvT hZ (own_W hw 202 rfl)) (mvT hZ (own_W hw 99 rfl)) (notFace_of_selects (args := #[]) (mvT hZ (own_W hw 101 rfl))) (mvT hZ (own_W hw 101 rfl)) (mvT hZ (own_W hw 100 rfl)) (by decide) (backOf (W := 0) (rmSLn l Z aw hw [] th vh qh (own_n p1) (own_l p1) ic h7 n0 (Nat.le_trans Z0 K7.1) Sht OT CS) hZ (own_W hw 102 rfl) (own_W hw 6 rfl) (by decide) (by decide)) q9a q9c (g := (mkF m 100 #[.val (.int p0), .val (.int p1), .val (.int p2), .val (.int p3), .val (.int p4), .val (.ref tu), .val (.ref th), .val (.ref tn), .val (.ref tw), .val (.ref dr), .val (.int pp), .val (.ref b5), .val (.ref tr), .val (.int (own_n p0)), .unset, .unset, .unset] [(.ref th)])) rfl (by rw [hml]; rfl) (Steps.refl _) (argsL := []) (rest := []) (lenOf pd_7 rfl) rfl (by show 2 * 0 + _ ≤ _; exact Nat.le_of_eq rfl) (hb hby at_100) (fun _ _ => ⟨rfl, e8, (by decide : 37 + 0 ≤ _), (by decide : 242 + 0 ≤ _)⟩)
    dsimp only [Pt.U, Pt.locs, Pt.cells, Pt.slots] at X9 l9 y9 z9 st9 hQ9
    subst l9 y9 z9
    obtain ⟨rfl, Nq9, e9⟩ := hQ9
    have N9 := Fr.app N8 Nq9
    refine RestW.via (fun t k => st9.trans k) ?_
    show RestW p.tables e below s _ _ _ (T9.setTop (mkF m 103 #[.val (.int p0), .val (.int p1), .val (.int p2), .val (.int p3), .val (.int p4), .val (.ref tu), .val (.ref th), .val (.ref tn), .val (.ref tw), .val (.ref dr), .val (.int pp), .val (.ref b5), .val (.ref tr), .val (.int (own_n p0)), .unset, .unset, .unset] [(.int (own_n p1))]))
    refine RestW.via (fun t k => XS.istore X9.here hx rfl (hb hby at_103) rfl (l' := #[.val (.int p0), .val (.int p1), .val (.int p2), .val (.int p3), .val (.int p4), .val (.ref tu), .val (.ref th), .val (.ref tn), .val (.ref tw), .val (.ref dr), .val (.int pp), .val (.ref b5), .val (.ref tr), .val (.int (own_n p0)), .val (.int (own_n p1)), .unset, .unset]) rfl k) ?_
    refine RestW.via (fun t k => XS.aload X9.here hx rfl (hb hby at_105) rfl rfl k) ?_
    show RestW p.tables e below s _ _ _ (T9.setTop (mkF m 107 #[.val (.int p0), .val (.int p1), .val (.int p2), .val (.int p3), .val (.int p4), .val (.ref tu), .val (.ref th), .val (.ref tn), .val (.ref tw), .val (.ref dr), .val (.int pp), .val (.ref b5), .val (.ref tr), .val (.int (own_n p0)), .val (.int (own_n p1)), .unset, .unset] [(.ref tn)]))
    obtain ⟨cq10, kq10, q10a, q10b, q10c⟩ := isOf hZ e9 Snt.1
    obtain ⟨_, _, ⟨T10, L10, k10, n10⟩, -, X10, ⟨Lc10, hQ10, l10, y10, z10⟩, st10⟩ := X9.virtualBack hx (y := (⟨"java/lang/String", "length", "()I"⟩ : MethodName)) (z := (⟨"java/lang/String", "length", "()I"⟩ : MethodName)) hown (mvT hZ (own_W hw 202 rfl)) (mvT hZ (own_W hw 99 rfl)) (notFace_of_selects (args := #[]) (mvT hZ (own_W hw 101 rfl))) (mvT hZ (own_W hw 101 rfl)) (mvT hZ (own_W hw 100 rfl)) (by decide) (backOf (W := 0) (rmSLn l Z aw hw [] tn vn qn (own_n p2) (own_l p2) ic h7 n0 (Nat.le_trans Z0 K7.1) Snt OT CS) hZ (own_W hw 102 rfl) (own_W hw 6 rfl) (by decide) (by decide)) q10a q10c (g := (mkF m 107 #[.val (.int p0), .val (.int p1), .val (.int p2), .val (.int p3), .val (.int p4), .val (.ref tu), .val (.ref th), .val (.ref tn), .val (.ref tw), .val (.ref dr), .val (.int pp), .val (.ref b5), .val (.ref tr), .val (.int (own_n p0)), .val (.int (own_n p1)), .unset, .unset] [(.ref tn)])) rfl (by rw [hml]; rfl) (Steps.refl _) (argsL := []) (rest := []) (lenOf pd_7 rfl) rfl (by show 2 * 0 + _ ≤ _; exact Nat.le_of_eq rfl) (hb hby at_107) (fun _ _ => ⟨rfl, e9, (by decide : 37 + 0 ≤ _), (by decide : 242 + 0 ≤ _)⟩)
    dsimp only [Pt.U, Pt.locs, Pt.cells, Pt.slots] at X10 l10 y10 z10 st10 hQ10
    subst l10 y10 z10
    obtain ⟨rfl, Nq10, e10⟩ := hQ10
    have N10 := Fr.app N9 Nq10
    refine RestW.via (fun t k => st10.trans k) ?_
    show RestW p.tables e below s _ _ _ (T10.setTop (mkF m 110 #[.val (.int p0), .val (.int p1), .val (.int p2), .val (.int p3), .val (.int p4), .val (.ref tu), .val (.ref th), .val (.ref tn), .val (.ref tw), .val (.ref dr), .val (.int pp), .val (.ref b5), .val (.ref tr), .val (.int (own_n p0)), .val (.int (own_n p1)), .unset, .unset] [(.int (own_n p2))]))
    refine RestW.via (fun t k => XS.istore X10.here hx rfl (hb hby at_110) rfl (l' := #[.val (.int p0), .val (.int p1), .val (.int p2), .val (.int p3), .val (.int p4), .val (.ref tu), .val (.ref th), .val (.ref tn), .val (.ref tw), .val (.ref dr), .val (.int pp), .val (.ref b5), .val (.ref tr), .val (.int (own_n p0)), .val (.int (own_n p1)), .val (.int (own_n p2)), .unset]) rfl k) ?_
    show RestW p.tables e below s _ _ _ (T10.setTop (mkF m 112 #[.val (.int p0), .val (.int p1), .val (.int p2), .val (.int p3), .val (.int p4), .val (.ref tu), .val (.ref th), .val (.ref tn), .val (.ref tw), .val (.ref dr), .val (.int pp), .val (.ref b5), .val (.ref tr), .val (.int (own_n p0)), .val (.int (own_n p1)), .val (.int (own_n p2)), .unset] []))
    have J159 : ∀ (dv : Int32), (dv = own_dd pp) → RestW p.tables e below s (Q0 Z p0 p1 p2 p3 p4 ic wo wt fm d0 d1 h0 n0) 37 242 (T10.setTop (mkF m 159 #[.val (.int p0), .val (.int p1), .val (.int p2), .val (.int p3), .val (.int p4), .val (.ref tu), .val (.ref th), .val (.ref tn), .val (.ref tw), .val (.ref dr), .val (.int pp), .val (.ref b5), .val (.ref tr), .val (.int (own_n p0)), .val (.int (own_n p1)), .val (.int (own_n p2)), .unset] [(.int dv)])) := by
      intro dv hdv
      show RestW p.tables e below s _ _ _ (T10.setTop (mkF m 159 #[.val (.int p0), .val (.int p1), .val (.int p2), .val (.int p3), .val (.int p4), .val (.ref tu), .val (.ref th), .val (.ref tn), .val (.ref tw), .val (.ref dr), .val (.int pp), .val (.ref b5), .val (.ref tr), .val (.int (own_n p0)), .val (.int (own_n p1)), .val (.int (own_n p2)), .unset] [(.int dv)]))
      refine RestW.via (fun t k => XS.istore X10.here hx rfl (hb hby at_159) rfl (l' := #[.val (.int p0), .val (.int p1), .val (.int p2), .val (.int p3), .val (.int p4), .val (.ref tu), .val (.ref th), .val (.ref tn), .val (.ref tw), .val (.ref dr), .val (.int pp), .val (.ref b5), .val (.ref tr), .val (.int (own_n p0)), .val (.int (own_n p1)), .val (.int (own_n p2)), .val (.int dv)]) rfl k) ?_
      refine RestW.via (fun t k => XS.aload X10.here hx rfl (hb hby at_161) rfl rfl k) ?_
      show RestW p.tables e below s _ _ _ (T10.setTop (mkF m 163 #[.val (.int p0), .val (.int p1), .val (.int p2), .val (.int p3), .val (.int p4), .val (.ref tu), .val (.ref th), .val (.ref tn), .val (.ref tw), .val (.ref dr), .val (.int pp), .val (.ref b5), .val (.ref tr), .val (.int (own_n p0)), .val (.int (own_n p1)), .val (.int (own_n p2)), .val (.int dv)] [(.ref tr)]))
      obtain ⟨cq11, kq11, q11a, q11b, q11c⟩ := isOf hZ e10 Sr.1
      obtain ⟨_, _, ⟨T11, L11, k11, n11⟩, -, X11, ⟨Lc11, hQ11, l11, y11, z11⟩, st11⟩ := X10.virtualBack hx (y := (⟨"java/lang/String", "length", "()I"⟩ : MethodName)) (z := (⟨"java/lang/String", "length", "()I"⟩ : MethodName)) hown (mvT hZ (own_W hw 202 rfl)) (mvT hZ (own_W hw 99 rfl)) (notFace_of_selects (args := #[]) (mvT hZ (own_W hw 101 rfl))) (mvT hZ (own_W hw 101 rfl)) (mvT hZ (own_W hw 100 rfl)) (by decide) (backOf (W := 0) (rmSLn l Z aw hw [] tr vr kr (own_tn (own_n p0) (own_n p1) (own_n p2) pp) (own_txt (own_l p0) (own_l p1) (own_l p2) pp) ic h7 n0 (Nat.le_trans Z0 K7.1) Sr OT CS) hZ (own_W hw 102 rfl) (own_W hw 6 rfl) (by decide) (by decide)) q11a q11c (g := (mkF m 163 #[.val (.int p0), .val (.int p1), .val (.int p2), .val (.int p3), .val (.int p4), .val (.ref tu), .val (.ref th), .val (.ref tn), .val (.ref tw), .val (.ref dr), .val (.int pp), .val (.ref b5), .val (.ref tr), .val (.int (own_n p0)), .val (.int (own_n p1)), .val (.int (own_n p2)), .val (.int dv)] [(.ref tr)])) rfl (by rw [hml]; rfl) (Steps.refl _) (argsL := []) (rest := []) (lenOf pd_7 rfl) rfl (by show 2 * 0 + _ ≤ _; exact Nat.le_of_eq rfl) (hb hby at_163) (fun _ _ => ⟨rfl, e10, (by decide : 37 + 0 ≤ _), (by decide : 242 + 0 ≤ _)⟩)
      dsimp only [Pt.U, Pt.locs, Pt.cells, Pt.slots] at X11 l11 y11 z11 st11 hQ11
      subst l11 y11 z11
      obtain ⟨rfl, Nq11, e11⟩ := hQ11
      have N11 := Fr.app N10 Nq11
      refine RestW.via (fun t k => st11.trans k) ?_
      show RestW p.tables e below s _ _ _ (T11.setTop (mkF m 166 #[.val (.int p0), .val (.int p1), .val (.int p2), .val (.int p3), .val (.int p4), .val (.ref tu), .val (.ref th), .val (.ref tn), .val (.ref tw), .val (.ref dr), .val (.int pp), .val (.ref b5), .val (.ref tr), .val (.int (own_n p0)), .val (.int (own_n p1)), .val (.int (own_n p2)), .val (.int dv)] [(.int (own_tn (own_n p0) (own_n p1) (own_n p2) pp))]))
      refine RestW.via (fun t k => XS.iload X11.here hx rfl (hb hby at_166) rfl k) ?_
      refine RestW.via (fun t k => XS.iload X11.here hx rfl (hb hby at_168) rfl k) ?_
      refine RestW.via (fun t k => XS.iadd X11.here hx rfl (hb hby at_170) rfl k) ?_
      refine RestW.via (fun t k => XS.iload X11.here hx rfl (hb hby at_171) rfl k) ?_
      refine RestW.via (fun t k => XS.iadd X11.here hx rfl (hb hby at_173) rfl k) ?_
      refine RestW.via (fun t k => XS.iload X11.here hx rfl (hb hby at_174) rfl k) ?_
      refine RestW.via (fun t k => XS.iadd X11.here hx rfl (hb hby at_176) rfl k) ?_
      refine RestW.via (fun t k => XS.iconst X11.here hx rfl (hb hby at_177) k) ?_
      refine RestW.via (fun t k => XS.iadd X11.here hx rfl (hb hby at_178) rfl k) ?_
      refine RestW.via (fun t k => XS.icmpYes X11.here hx rfl (pc0 := 179) (pc' := 184) rfl (hb hby at_179) rfl (teq (own_tneq hdv : (own_tn (own_n p0) (own_n p1) (own_n p2) pp) = (((((own_n p0) + (own_n p1)) + (own_n p2)) + dv) + (3 : Int32)))).1 (by decide) (by decide) k) ?_
      show RestW p.tables e below s _ _ _ (T11.setTop (mkF m 184 #[.val (.int p0), .val (.int p1), .val (.int p2), .val (.int p3), .val (.int p4), .val (.ref tu), .val (.ref th), .val (.ref tn), .val (.ref tw), .val (.ref dr), .val (.int pp), .val (.ref b5), .val (.ref tr), .val (.int (own_n p0)), .val (.int (own_n p1)), .val (.int (own_n p2)), .val (.int dv)] []))
      refine RestW.via (fun t k => XS.aload X11.here hx rfl (hb hby at_184) rfl rfl k) ?_
      refine RestW.via (fun t k => XS.iconst X11.here hx rfl (hb hby at_186) k) ?_
      refine RestW.via (fun t k => XS.aload X11.here hx rfl (hb hby at_187) rfl rfl k) ?_
      show RestW p.tables e below s _ _ _ (T11.setTop (mkF m 189 #[.val (.int p0), .val (.int p1), .val (.int p2), .val (.int p3), .val (.int p4), .val (.ref tu), .val (.ref th), .val (.ref tn), .val (.ref tw), .val (.ref dr), .val (.int pp), .val (.ref b5), .val (.ref tr), .val (.int (own_n p0)), .val (.int (own_n p1)), .val (.int (own_n p2)), .val (.int dv)] [(.ref tu), (.int (0 : Int32)), (.ref tr)]))
      obtain ⟨_, _, ⟨T12, L12, k12, n12⟩, -, X12, ⟨Lc12, hQ12, l12, y12, z12⟩, st12⟩ := Jvm.LawKit.callS X11 hx (y := (⟨"com/example/zapros/zapros/io/sql/SqlDatabaseToStringPinLaw", "has", "(Ljava/lang/String;ILjava/lang/String;)Z"⟩ : MethodName)) hown (mvT hZ (own_W hw 203 rfl)) (mvT hZ (own_W hw 204 rfl)) (mvT hZ (own_W hw 2 rfl)) (mvT hZ (own_W hw 205 rfl)) (by decide) (backOf (W := 0) (rmHAS l Z aw hw [] tr (0 : Int32) tu vr kr (own_tn (own_n p0) (own_n p1) (own_n p2) pp) (own_txt (own_l p0) (own_l p1) (own_l p2) pp) vu qu (own_n p0) (own_l p0) [] ic fm h7 n0 (Nat.le_trans Z0 K7.1) Sr ltn Sut (own_lln p0).1 own_ln0 (own_at_u (own_l p0) (own_l p1) (own_l p2) pp) OT CS hf Sf) hZ (own_W hw 205 rfl) (own_W hw 2 rfl) (by decide) (by decide)) (g := (mkF m 189 #[.val (.int p0), .val (.int p1), .val (.int p2), .val (.int p3), .val (.int p4), .val (.ref tu), .val (.ref th), .val (.ref tn), .val (.ref tw), .val (.ref dr), .val (.int pp), .val (.ref b5), .val (.ref tr), .val (.int (own_n p0)), .val (.int (own_n p1)), .val (.int (own_n p2)), .val (.int dv)] [(.ref tu), (.int (0 : Int32)), (.ref tr)])) rfl (by rw [hml]; rfl) (argsL := [(.ref tr), (.int (0 : Int32)), (.ref tu)]) (rest := []) (lenOf pd_33 rfl) rfl (by show 2 * 0 + _ ≤ _; exact Nat.le_of_eq rfl) (hb hby at_189) (fun _ _ => ⟨rfl, e11, (by decide : 37 + 0 ≤ _), (by decide : 242 + 0 ≤ _)⟩)
      dsimp only [Pt.U, Pt.locs, Pt.cells, Pt.slots] at X12 l12 y12 z12 st12 hQ12
      subst l12 y12 z12
      obtain ⟨rfl, Nq12, e12⟩ := hQ12
      have N12 := Fr.app N11 Nq12
      refine RestW.via (fun t k => st12 t k) ?_
      show RestW p.tables e below s _ _ _ (T12.setTop (mkF m 192 #[.val (.int p0), .val (.int p1), .val (.int p2), .val (.int p3), .val (.int p4), .val (.ref tu), .val (.ref th), .val (.ref tn), .val (.ref tw), .val (.ref dr), .val (.int pp), .val (.ref b5), .val (.ref tr), .val (.int (own_n p0)), .val (.int (own_n p1)), .val (.int (own_n p2)), .val (.int dv)] [(.int (1 : Int32))]))
      refine RestW.via (fun t k => XS.ifYes X12.here hx rfl (pc0 := 192) (pc' := 197) rfl (hb hby at_192) rfl ((if0 _ _).trans (feq (by decide : ¬ ((1 : Int32) = (0 : Int32)))).2) (by decide) (by decide) k) ?_
      show RestW p.tables e below s _ _ _ (T12.setTop (mkF m 197 #[.val (.int p0), .val (.int p1), .val (.int p2), .val (.int p3), .val (.int p4), .val (.ref tu), .val (.ref th), .val (.ref tn), .val (.ref tw), .val (.ref dr), .val (.int pp), .val (.ref b5), .val (.ref tr), .val (.int (own_n p0)), .val (.int (own_n p1)), .val (.int (own_n p2)), .val (.int dv)] []))
      refine RestW.via (fun t k => XS.aload X12.here hx rfl (hb hby at_197) rfl rfl k) ?_
      refine RestW.via (fun t k => XS.iload X12.here hx rfl (hb hby at_199) rfl k) ?_
      show RestW p.tables e below s _ _ _ (T12.setTop (mkF m 201 #[.val (.int p0), .val (.int p1), .val (.int p2), .val (.int p3), .val (.int p4), .val (.ref tu), .val (.ref th), .val (.ref tn), .val (.ref tw), .val (.ref dr), .val (.int pp), .val (.ref b5), .val (.ref tr), .val (.int (own_n p0)), .val (.int (own_n p1)), .val (.int (own_n p2)), .val (.int dv)] [(.int (own_n p0)), (.ref tr)]))
      have hAa := own_hatx (K := 0) (own_at_a (own_l p0) (own_l p1) (own_l p2) pp) ltn ((own_lln p0).1.1.trans (by simp)) (by decide)
      obtain ⟨cq13, kq13, q13a, q13b, q13c⟩ := isOf hZ e12 Sr.1
      obtain ⟨_, _, ⟨T13, L13, k13, n13⟩, -, X13, ⟨Lc13, hQ13, l13, y13, z13⟩, st13⟩ := X12.virtualBack hx (y := (⟨"java/lang/String", "charAt", "(I)C"⟩ : MethodName)) (z := (⟨"java/lang/String", "charAt", "(I)C"⟩ : MethodName)) hown (mvT hZ (own_W hw 206 rfl)) (mvT hZ (own_W hw 207 rfl)) (notFace_of_selects (args := #[]) (mvT hZ (own_W hw 209 rfl))) (mvT hZ (own_W hw 209 rfl)) (mvT hZ (own_W hw 208 rfl)) (by decide) (backOf (W := 0) (rmCA l Z aw hw [] tr (own_n p0) vr kr (own_tn (own_n p0) (own_n p1) (own_n p2) pp) (own_txt (own_l p0) (own_l p1) (own_l p2) pp) ic fm h7 n0 (Nat.le_trans Z0 K7.1) Sr hAa.1.1 hAa.1.2 OT CS hf Sf) hZ (own_W hw 210 rfl) (own_W hw 6 rfl) (by decide) (by decide)) q13a q13c (g := (mkF m 201 #[.val (.int p0), .val (.int p1), .val (.int p2), .val (.int p3), .val (.int p4), .val (.ref tu), .val (.ref th), .val (.ref tn), .val (.ref tw), .val (.ref dr), .val (.int pp), .val (.ref b5), .val (.ref tr), .val (.int (own_n p0)), .val (.int (own_n p1)), .val (.int (own_n p2)), .val (.int dv)] [(.int (own_n p0)), (.ref tr)])) rfl (by rw [hml]; rfl) (Steps.refl _) (argsL := [(.int (own_n p0))]) (rest := []) (lenOf pd_29 rfl) rfl (by show 2 * 0 + _ ≤ _; exact Nat.le_of_eq rfl) (hb hby at_201) (fun _ _ => ⟨rfl, e12, (by decide : 37 + 0 ≤ _), (by decide : 242 + 0 ≤ _)⟩)
      dsimp only [Pt.U, Pt.locs, Pt.cells, Pt.slots] at X13 l13 y13 z13 st13 hQ13
      subst l13 y13 z13
      obtain ⟨rfl, Nq13, e13⟩ := hQ13
      have N13 := Fr.app N12 Nq13
      refine RestW.via (fun t k => st13.trans k) ?_
      show RestW p.tables e below s _ _ _ (T13.setTop (mkF m 204 #[.val (.int p0), .val (.int p1), .val (.int p2), .val (.int p3), .val (.int p4), .val (.ref tu), .val (.ref th), .val (.ref tn), .val (.ref tw), .val (.ref dr), .val (.int pp), .val (.ref b5), .val (.ref tr), .val (.int (own_n p0)), .val (.int (own_n p1)), .val (.int (own_n p2)), .val (.int dv)] [(.int (own_cc ((own_txt (own_l p0) (own_l p1) (own_l p2) pp).getD (own_n p0).toNatClampNeg 0)))]))
      refine RestW.via (fun t k => XS.bipush X13.here hx rfl (hb hby at_204) k) ?_
      refine RestW.via (fun t k => XS.icmpYes X13.here hx rfl (pc0 := 206) (pc' := 211) rfl (hb hby at_206) rfl (teq ((by rw [hAa.2]; decide) : (own_cc ((own_txt (own_l p0) (own_l p1) (own_l p2) pp).getD (own_n p0).toNatClampNeg 0)) = (64 : Int32))).1 (by decide) (by decide) k) ?_
      show RestW p.tables e below s _ _ _ (T13.setTop (mkF m 211 #[.val (.int p0), .val (.int p1), .val (.int p2), .val (.int p3), .val (.int p4), .val (.ref tu), .val (.ref th), .val (.ref tn), .val (.ref tw), .val (.ref dr), .val (.int pp), .val (.ref b5), .val (.ref tr), .val (.int (own_n p0)), .val (.int (own_n p1)), .val (.int (own_n p2)), .val (.int dv)] []))
      refine RestW.via (fun t k => XS.aload X13.here hx rfl (hb hby at_211) rfl rfl k) ?_
      refine RestW.via (fun t k => XS.iload X13.here hx rfl (hb hby at_213) rfl k) ?_
      refine RestW.via (fun t k => XS.iconst X13.here hx rfl (hb hby at_215) k) ?_
      refine RestW.via (fun t k => XS.iadd X13.here hx rfl (hb hby at_216) rfl k) ?_
      refine RestW.via (fun t k => XS.aload X13.here hx rfl (hb hby at_217) rfl rfl k) ?_
      show RestW p.tables e below s _ _ _ (T13.setTop (mkF m 219 #[.val (.int p0), .val (.int p1), .val (.int p2), .val (.int p3), .val (.int p4), .val (.ref tu), .val (.ref th), .val (.ref tn), .val (.ref tw), .val (.ref dr), .val (.int pp), .val (.ref b5), .val (.ref tr), .val (.int (own_n p0)), .val (.int (own_n p1)), .val (.int (own_n p2)), .val (.int dv)] [(.ref th), (.int ((own_n p0) + (1 : Int32))), (.ref tr)]))
      obtain ⟨_, _, ⟨T14, L14, k14, n14⟩, -, X14, ⟨Lc14, hQ14, l14, y14, z14⟩, st14⟩ := Jvm.LawKit.callS X13 hx (y := (⟨"com/example/zapros/zapros/io/sql/SqlDatabaseToStringPinLaw", "has", "(Ljava/lang/String;ILjava/lang/String;)Z"⟩ : MethodName)) hown (mvT hZ (own_W hw 203 rfl)) (mvT hZ (own_W hw 204 rfl)) (mvT hZ (own_W hw 2 rfl)) (mvT hZ (own_W hw 205 rfl)) (by decide) (backOf (W := 0) (rmHAS l Z aw hw [] tr ((own_n p0) + (1 : Int32)) th vr kr (own_tn (own_n p0) (own_n p1) (own_n p2) pp) (own_txt (own_l p0) (own_l p1) (own_l p2) pp) vh qh (own_n p1) (own_l p1) ((own_l p0) ++ [(64 : Int32)]) ic fm h7 n0 (Nat.le_trans Z0 K7.1) Sr ltn Sht (own_lln p1).1 (own_of_h (own_lln p0)) (own_at_h (own_l p0) (own_l p1) (own_l p2) pp) OT CS hf Sf) hZ (own_W hw 205 rfl) (own_W hw 2 rfl) (by decide) (by decide)) (g := (mkF m 219 #[.val (.int p0), .val (.int p1), .val (.int p2), .val (.int p3), .val (.int p4), .val (.ref tu), .val (.ref th), .val (.ref tn), .val (.ref tw), .val (.ref dr), .val (.int pp), .val (.ref b5), .val (.ref tr), .val (.int (own_n p0)), .val (.int (own_n p1)), .val (.int (own_n p2)), .val (.int dv)] [(.ref th), (.int ((own_n p0) + (1 : Int32))), (.ref tr)])) rfl (by rw [hml]; rfl) (argsL := [(.ref tr), (.int ((own_n p0) + (1 : Int32))), (.ref th)]) (rest := []) (lenOf pd_33 rfl) rfl (by show 2 * 0 + _ ≤ _; exact Nat.le_of_eq rfl) (hb hby at_219) (fun _ _ => ⟨rfl, e13, (by decide : 37 + 0 ≤ _), (by decide : 242 + 0 ≤ _)⟩)
      dsimp only [Pt.U, Pt.locs, Pt.cells, Pt.slots] at X14 l14 y14 z14 st14 hQ14
      subst l14 y14 z14
      obtain ⟨rfl, Nq14, e14⟩ := hQ14
      have N14 := Fr.app N13 Nq14
      refine RestW.via (fun t k => st14 t k) ?_
      show RestW p.tables e below s _ _ _ (T14.setTop (mkF m 222 #[.val (.int p0), .val (.int p1), .val (.int p2), .val (.int p3), .val (.int p4), .val (.ref tu), .val (.ref th), .val (.ref tn), .val (.ref tw), .val (.ref dr), .val (.int pp), .val (.ref b5), .val (.ref tr), .val (.int (own_n p0)), .val (.int (own_n p1)), .val (.int (own_n p2)), .val (.int dv)] [(.int (1 : Int32))]))
      refine RestW.via (fun t k => XS.ifYes X14.here hx rfl (pc0 := 222) (pc' := 227) rfl (hb hby at_222) rfl ((if0 _ _).trans (feq (by decide : ¬ ((1 : Int32) = (0 : Int32)))).2) (by decide) (by decide) k) ?_
      show RestW p.tables e below s _ _ _ (T14.setTop (mkF m 227 #[.val (.int p0), .val (.int p1), .val (.int p2), .val (.int p3), .val (.int p4), .val (.ref tu), .val (.ref th), .val (.ref tn), .val (.ref tw), .val (.ref dr), .val (.int pp), .val (.ref b5), .val (.ref tr), .val (.int (own_n p0)), .val (.int (own_n p1)), .val (.int (own_n p2)), .val (.int dv)] []))
      refine RestW.via (fun t k => XS.aload X14.here hx rfl (hb hby at_227) rfl rfl k) ?_
      refine RestW.via (fun t k => XS.iload X14.here hx rfl (hb hby at_229) rfl k) ?_
      refine RestW.via (fun t k => XS.iconst X14.here hx rfl (hb hby at_231) k) ?_
      refine RestW.via (fun t k => XS.iadd X14.here hx rfl (hb hby at_232) rfl k) ?_
      refine RestW.via (fun t k => XS.iload X14.here hx rfl (hb hby at_233) rfl k) ?_
      refine RestW.via (fun t k => XS.iadd X14.here hx rfl (hb hby at_235) rfl k) ?_
      show RestW p.tables e below s _ _ _ (T14.setTop (mkF m 236 #[.val (.int p0), .val (.int p1), .val (.int p2), .val (.int p3), .val (.int p4), .val (.ref tu), .val (.ref th), .val (.ref tn), .val (.ref tw), .val (.ref dr), .val (.int pp), .val (.ref b5), .val (.ref tr), .val (.int (own_n p0)), .val (.int (own_n p1)), .val (.int (own_n p2)), .val (.int dv)] [(.int (((own_n p0) + (1 : Int32)) + (own_n p1))), (.ref tr)]))
      have hAc := own_hatx (K := 0) (own_at_c (own_l p0) (own_l p1) (own_l p2) pp) ltn ((own_of_c (own_lln p0) (own_lln p1)).1.trans (by simp)) (by decide)
      obtain ⟨cq15, kq15, q15a, q15b, q15c⟩ := isOf hZ e14 Sr.1
      obtain ⟨_, _, ⟨T15, L15, k15, n15⟩, -, X15, ⟨Lc15, hQ15, l15, y15, z15⟩, st15⟩ := X14.virtualBack hx (y := (⟨"java/lang/String", "charAt", "(I)C"⟩ : MethodName)) (z := (⟨"java/lang/String", "charAt", "(I)C"⟩ : MethodName)) hown (mvT hZ (own_W hw 206 rfl)) (mvT hZ (own_W hw 207 rfl)) (notFace_of_selects (args := #[]) (mvT hZ (own_W hw 209 rfl))) (mvT hZ (own_W hw 209 rfl)) (mvT hZ (own_W hw 208 rfl)) (by decide) (backOf (W := 0) (rmCA l Z aw hw [] tr (((own_n p0) + (1 : Int32)) + (own_n p1)) vr kr (own_tn (own_n p0) (own_n p1) (own_n p2) pp) (own_txt (own_l p0) (own_l p1) (own_l p2) pp) ic fm h7 n0 (Nat.le_trans Z0 K7.1) Sr hAc.1.1 hAc.1.2 OT CS hf Sf) hZ (own_W hw 210 rfl) (own_W hw 6 rfl) (by decide) (by decide)) q15a q15c (g := (mkF m 236 #[.val (.int p0), .val (.int p1), .val (.int p2), .val (.int p3), .val (.int p4), .val (.ref tu), .val (.ref th), .val (.ref tn), .val (.ref tw), .val (.ref dr), .val (.int pp), .val (.ref b5), .val (.ref tr), .val (.int (own_n p0)), .val (.int (own_n p1)), .val (.int (own_n p2)), .val (.int dv)] [(.int (((own_n p0) + (1 : Int32)) + (own_n p1))), (.ref tr)])) rfl (by rw [hml]; rfl) (Steps.refl _) (argsL := [(.int (((own_n p0) + (1 : Int32)) + (own_n p1)))]) (rest := []) (lenOf pd_29 rfl) rfl (by show 2 * 0 + _ ≤ _; exact Nat.le_of_eq rfl) (hb hby at_236) (fun _ _ => ⟨rfl, e14, (by decide : 37 + 0 ≤ _), (by decide : 242 + 0 ≤ _)⟩)
      dsimp only [Pt.U, Pt.locs, Pt.cells, Pt.slots] at X15 l15 y15 z15 st15 hQ15
      subst l15 y15 z15
      obtain ⟨rfl, Nq15, e15⟩ := hQ15
      have N15 := Fr.app N14 Nq15
      refine RestW.via (fun t k => st15.trans k) ?_
      show RestW p.tables e below s _ _ _ (T15.setTop (mkF m 239 #[.val (.int p0), .val (.int p1), .val (.int p2), .val (.int p3), .val (.int p4), .val (.ref tu), .val (.ref th), .val (.ref tn), .val (.ref tw), .val (.ref dr), .val (.int pp), .val (.ref b5), .val (.ref tr), .val (.int (own_n p0)), .val (.int (own_n p1)), .val (.int (own_n p2)), .val (.int dv)] [(.int (own_cc ((own_txt (own_l p0) (own_l p1) (own_l p2) pp).getD (((own_n p0) + (1 : Int32)) + (own_n p1)).toNatClampNeg 0)))]))
      refine RestW.via (fun t k => XS.bipush X15.here hx rfl (hb hby at_239) k) ?_
      refine RestW.via (fun t k => XS.icmpYes X15.here hx rfl (pc0 := 241) (pc' := 246) rfl (hb hby at_241) rfl (teq ((by rw [hAc.2]; decide) : (own_cc ((own_txt (own_l p0) (own_l p1) (own_l p2) pp).getD (((own_n p0) + (1 : Int32)) + (own_n p1)).toNatClampNeg 0)) = (58 : Int32))).1 (by decide) (by decide) k) ?_
      show RestW p.tables e below s _ _ _ (T15.setTop (mkF m 246 #[.val (.int p0), .val (.int p1), .val (.int p2), .val (.int p3), .val (.int p4), .val (.ref tu), .val (.ref th), .val (.ref tn), .val (.ref tw), .val (.ref dr), .val (.int pp), .val (.ref b5), .val (.ref tr), .val (.int (own_n p0)), .val (.int (own_n p1)), .val (.int (own_n p2)), .val (.int dv)] []))
      refine RestW.via (fun t k => XS.aload X15.here hx rfl (hb hby at_246) rfl rfl k) ?_
      refine RestW.via (fun t k => XS.iload X15.here hx rfl (hb hby at_248) rfl k) ?_
      refine RestW.via (fun t k => XS.iconst X15.here hx rfl (hb hby at_250) k) ?_
      refine RestW.via (fun t k => XS.iadd X15.here hx rfl (hb hby at_251) rfl k) ?_
      refine RestW.via (fun t k => XS.iload X15.here hx rfl (hb hby at_252) rfl k) ?_
      refine RestW.via (fun t k => XS.iadd X15.here hx rfl (hb hby at_254) rfl k) ?_
      refine RestW.via (fun t k => XS.iload X15.here hx rfl (hb hby at_255) rfl k) ?_
      refine RestW.via (fun t k => XS.iload X15.here hx rfl (hb hby at_257) rfl k) ?_
      show RestW p.tables e below s _ _ _ (T15.setTop (mkF m 259 #[.val (.int p0), .val (.int p1), .val (.int p2), .val (.int p3), .val (.int p4), .val (.ref tu), .val (.ref th), .val (.ref tn), .val (.ref tw), .val (.ref dr), .val (.int pp), .val (.ref b5), .val (.ref tr), .val (.int (own_n p0)), .val (.int (own_n p1)), .val (.int (own_n p2)), .val (.int dv)] [(.int dv), (.int pp), (.int (((own_n p0) + (2 : Int32)) + (own_n p1))), (.ref tr)]))
      obtain ⟨_, _, ⟨T16, L16, k16, n16⟩, -, X16, ⟨Lc16, hQ16, l16, y16, z16⟩, st16⟩ := Jvm.LawKit.callS X15 hx (y := (⟨"com/example/zapros/zapros/io/sql/SqlDatabaseToStringPinLaw", "digits", "(Ljava/lang/String;III)Z"⟩ : MethodName)) hown (mvT hZ (own_W hw 228 rfl)) (mvT hZ (own_W hw 229 rfl)) (mvT hZ (own_W hw 2 rfl)) (mvT hZ (own_W hw 230 rfl)) (by decide) (backOf (W := 0) (rmDGS l Z aw hw [] tr (((own_n p0) + (2 : Int32)) + (own_n p1)) pp dv vr kr (own_tn (own_n p0) (own_n p1) (own_n p2) pp) (own_txt (own_l p0) (own_l p1) (own_l p2) pp) ((((own_l p0) ++ [(64 : Int32)]) ++ (own_l p1)) ++ [(58 : Int32)]) ic fm h7 n0 (Nat.le_trans Z0 K7.1) Sr ltn hp hdv (own_at_d (own_l p0) (own_l p1) (own_l p2) pp) (own_of_d (own_lln p0) (own_lln p1)) OT CS hf Sf) hZ (own_W hw 230 rfl) (own_W hw 2 rfl) (by decide) (by decide)) (g := (mkF m 259 #[.val (.int p0), .val (.int p1), .val (.int p2), .val (.int p3), .val (.int p4), .val (.ref tu), .val (.ref th), .val (.ref tn), .val (.ref tw), .val (.ref dr), .val (.int pp), .val (.ref b5), .val (.ref tr), .val (.int (own_n p0)), .val (.int (own_n p1)), .val (.int (own_n p2)), .val (.int dv)] [(.int dv), (.int pp), (.int (((own_n p0) + (2 : Int32)) + (own_n p1))), (.ref tr)])) rfl (by rw [hml]; rfl) (argsL := [(.ref tr), (.int (((own_n p0) + (2 : Int32)) + (own_n p1))), (.int pp), (.int dv)]) (rest := []) (lenOf pd_34 rfl) rfl (by show 2 * 0 + _ ≤ _; exact Nat.le_of_eq rfl) (hb hby at_259) (fun _ _ => ⟨rfl, e15, (by decide : 37 + 0 ≤ _), (by decide : 242 + 0 ≤ _)⟩)
      dsimp only [Pt.U, Pt.locs, Pt.cells, Pt.slots] at X16 l16 y16 z16 st16 hQ16
      subst l16 y16 z16
      obtain ⟨rfl, Nq16, e16⟩ := hQ16
      have N16 := Fr.app N15 Nq16
      refine RestW.via (fun t k => st16 t k) ?_
      show RestW p.tables e below s _ _ _ (T16.setTop (mkF m 262 #[.val (.int p0), .val (.int p1), .val (.int p2), .val (.int p3), .val (.int p4), .val (.ref tu), .val (.ref th), .val (.ref tn), .val (.ref tw), .val (.ref dr), .val (.int pp), .val (.ref b5), .val (.ref tr), .val (.int (own_n p0)), .val (.int (own_n p1)), .val (.int (own_n p2)), .val (.int dv)] [(.int (1 : Int32))]))
      refine RestW.via (fun t k => XS.ifYes X16.here hx rfl (pc0 := 262) (pc' := 267) rfl (hb hby at_262) rfl ((if0 _ _).trans (feq (by decide : ¬ ((1 : Int32) = (0 : Int32)))).2) (by decide) (by decide) k) ?_
      show RestW p.tables e below s _ _ _ (T16.setTop (mkF m 267 #[.val (.int p0), .val (.int p1), .val (.int p2), .val (.int p3), .val (.int p4), .val (.ref tu), .val (.ref th), .val (.ref tn), .val (.ref tw), .val (.ref dr), .val (.int pp), .val (.ref b5), .val (.ref tr), .val (.int (own_n p0)), .val (.int (own_n p1)), .val (.int (own_n p2)), .val (.int dv)] []))
      refine RestW.via (fun t k => XS.aload X16.here hx rfl (hb hby at_267) rfl rfl k) ?_
      refine RestW.via (fun t k => XS.iload X16.here hx rfl (hb hby at_269) rfl k) ?_
      refine RestW.via (fun t k => XS.iconst X16.here hx rfl (hb hby at_271) k) ?_
      refine RestW.via (fun t k => XS.iadd X16.here hx rfl (hb hby at_272) rfl k) ?_
      refine RestW.via (fun t k => XS.iload X16.here hx rfl (hb hby at_273) rfl k) ?_
      refine RestW.via (fun t k => XS.iadd X16.here hx rfl (hb hby at_275) rfl k) ?_
      refine RestW.via (fun t k => XS.iload X16.here hx rfl (hb hby at_276) rfl k) ?_
      refine RestW.via (fun t k => XS.iadd X16.here hx rfl (hb hby at_278) rfl k) ?_
      show RestW p.tables e below s _ _ _ (T16.setTop (mkF m 279 #[.val (.int p0), .val (.int p1), .val (.int p2), .val (.int p3), .val (.int p4), .val (.ref tu), .val (.ref th), .val (.ref tn), .val (.ref tw), .val (.ref dr), .val (.int pp), .val (.ref b5), .val (.ref tr), .val (.int (own_n p0)), .val (.int (own_n p1)), .val (.int (own_n p2)), .val (.int dv)] [(.int ((((own_n p0) + (2 : Int32)) + (own_n p1)) + dv)), (.ref tr)]))
      have hAs := own_hatx (K := 0) (own_at_s (own_l p0) (own_l p1) (own_l p2) pp) ltn ((own_of_s (own_lln p0) (own_lln p1) hp hdv).1.trans (by simp)) (by decide)
      obtain ⟨cq17, kq17, q17a, q17b, q17c⟩ := isOf hZ e16 Sr.1
      obtain ⟨_, _, ⟨T17, L17, k17, n17⟩, -, X17, ⟨Lc17, hQ17, l17, y17, z17⟩, st17⟩ := X16.virtualBack hx (y := (⟨"java/lang/String", "charAt", "(I)C"⟩ : MethodName)) (z := (⟨"java/lang/String", "charAt", "(I)C"⟩ : MethodName)) hown (mvT hZ (own_W hw 206 rfl)) (mvT hZ (own_W hw 207 rfl)) (notFace_of_selects (args := #[]) (mvT hZ (own_W hw 209 rfl))) (mvT hZ (own_W hw 209 rfl)) (mvT hZ (own_W hw 208 rfl)) (by decide) (backOf (W := 0) (rmCA l Z aw hw [] tr ((((own_n p0) + (2 : Int32)) + (own_n p1)) + dv) vr kr (own_tn (own_n p0) (own_n p1) (own_n p2) pp) (own_txt (own_l p0) (own_l p1) (own_l p2) pp) ic fm h7 n0 (Nat.le_trans Z0 K7.1) Sr hAs.1.1 hAs.1.2 OT CS hf Sf) hZ (own_W hw 210 rfl) (own_W hw 6 rfl) (by decide) (by decide)) q17a q17c (g := (mkF m 279 #[.val (.int p0), .val (.int p1), .val (.int p2), .val (.int p3), .val (.int p4), .val (.ref tu), .val (.ref th), .val (.ref tn), .val (.ref tw), .val (.ref dr), .val (.int pp), .val (.ref b5), .val (.ref tr), .val (.int (own_n p0)), .val (.int (own_n p1)), .val (.int (own_n p2)), .val (.int dv)] [(.int ((((own_n p0) + (2 : Int32)) + (own_n p1)) + dv)), (.ref tr)])) rfl (by rw [hml]; rfl) (Steps.refl _) (argsL := [(.int ((((own_n p0) + (2 : Int32)) + (own_n p1)) + dv))]) (rest := []) (lenOf pd_29 rfl) rfl (by show 2 * 0 + _ ≤ _; exact Nat.le_of_eq rfl) (hb hby at_279) (fun _ _ => ⟨rfl, e16, (by decide : 37 + 0 ≤ _), (by decide : 242 + 0 ≤ _)⟩)
      dsimp only [Pt.U, Pt.locs, Pt.cells, Pt.slots] at X17 l17 y17 z17 st17 hQ17
      subst l17 y17 z17
      obtain ⟨rfl, Nq17, e17⟩ := hQ17
      have N17 := Fr.app N16 Nq17
      refine RestW.via (fun t k => st17.trans k) ?_
      show RestW p.tables e below s _ _ _ (T17.setTop (mkF m 282 #[.val (.int p0), .val (.int p1), .val (.int p2), .val (.int p3), .val (.int p4), .val (.ref tu), .val (.ref th), .val (.ref tn), .val (.ref tw), .val (.ref dr), .val (.int pp), .val (.ref b5), .val (.ref tr), .val (.int (own_n p0)), .val (.int (own_n p1)), .val (.int (own_n p2)), .val (.int dv)] [(.int (own_cc ((own_txt (own_l p0) (own_l p1) (own_l p2) pp).getD ((((own_n p0) + (2 : Int32)) + (own_n p1)) + dv).toNatClampNeg 0)))]))
      refine RestW.via (fun t k => XS.bipush X17.here hx rfl (hb hby at_282) k) ?_
      refine RestW.via (fun t k => XS.icmpYes X17.here hx rfl (pc0 := 284) (pc' := 289) rfl (hb hby at_284) rfl (teq ((by rw [hAs.2]; decide) : (own_cc ((own_txt (own_l p0) (own_l p1) (own_l p2) pp).getD ((((own_n p0) + (2 : Int32)) + (own_n p1)) + dv).toNatClampNeg 0)) = (47 : Int32))).1 (by decide) (by decide) k) ?_
      show RestW p.tables e below s _ _ _ (T17.setTop (mkF m 289 #[.val (.int p0), .val (.int p1), .val (.int p2), .val (.int p3), .val (.int p4), .val (.ref tu), .val (.ref th), .val (.ref tn), .val (.ref tw), .val (.ref dr), .val (.int pp), .val (.ref b5), .val (.ref tr), .val (.int (own_n p0)), .val (.int (own_n p1)), .val (.int (own_n p2)), .val (.int dv)] []))
      refine RestW.via (fun t k => XS.aload X17.here hx rfl (hb hby at_289) rfl rfl k) ?_
      refine RestW.via (fun t k => XS.iload X17.here hx rfl (hb hby at_291) rfl k) ?_
      refine RestW.via (fun t k => XS.iconst X17.here hx rfl (hb hby at_293) k) ?_
      refine RestW.via (fun t k => XS.iadd X17.here hx rfl (hb hby at_294) rfl k) ?_
      refine RestW.via (fun t k => XS.iload X17.here hx rfl (hb hby at_295) rfl k) ?_
      refine RestW.via (fun t k => XS.iadd X17.here hx rfl (hb hby at_297) rfl k) ?_
      refine RestW.via (fun t k => XS.iload X17.here hx rfl (hb hby at_298) rfl k) ?_
      refine RestW.via (fun t k => XS.iadd X17.here hx rfl (hb hby at_300) rfl k) ?_
      refine RestW.via (fun t k => XS.aload X17.here hx rfl (hb hby at_301) rfl rfl k) ?_
      show RestW p.tables e below s _ _ _ (T17.setTop (mkF m 303 #[.val (.int p0), .val (.int p1), .val (.int p2), .val (.int p3), .val (.int p4), .val (.ref tu), .val (.ref th), .val (.ref tn), .val (.ref tw), .val (.ref dr), .val (.int pp), .val (.ref b5), .val (.ref tr), .val (.int (own_n p0)), .val (.int (own_n p1)), .val (.int (own_n p2)), .val (.int dv)] [(.ref tn), (.int ((((own_n p0) + (3 : Int32)) + (own_n p1)) + dv)), (.ref tr)]))
      obtain ⟨_, _, ⟨T18, L18, k18, n18⟩, -, X18, ⟨Lc18, hQ18, l18, y18, z18⟩, st18⟩ := Jvm.LawKit.callS X17 hx (y := (⟨"com/example/zapros/zapros/io/sql/SqlDatabaseToStringPinLaw", "has", "(Ljava/lang/String;ILjava/lang/String;)Z"⟩ : MethodName)) hown (mvT hZ (own_W hw 203 rfl)) (mvT hZ (own_W hw 204 rfl)) (mvT hZ (own_W hw 2 rfl)) (mvT hZ (own_W hw 205 rfl)) (by decide) (backOf (W := 0) (rmHAS l Z aw hw [] tr ((((own_n p0) + (3 : Int32)) + (own_n p1)) + dv) tn vr kr (own_tn (own_n p0) (own_n p1) (own_n p2) pp) (own_txt (own_l p0) (own_l p1) (own_l p2) pp) vn qn (own_n p2) (own_l p2) ((((((own_l p0) ++ [(64 : Int32)]) ++ (own_l p1)) ++ [(58 : Int32)]) ++ own_dgs (own_dd pp) pp) ++ [(47 : Int32)]) ic fm h7 n0 (Nat.le_trans Z0 K7.1) Sr ltn Snt (own_lln p2).1 (own_of_n (own_lln p0) (own_lln p1) hp hdv) (own_at_n (own_l p0) (own_l p1) (own_l p2) pp) OT CS hf Sf) hZ (own_W hw 205 rfl) (own_W hw 2 rfl) (by decide) (by decide)) (g := (mkF m 303 #[.val (.int p0), .val (.int p1), .val (.int p2), .val (.int p3), .val (.int p4), .val (.ref tu), .val (.ref th), .val (.ref tn), .val (.ref tw), .val (.ref dr), .val (.int pp), .val (.ref b5), .val (.ref tr), .val (.int (own_n p0)), .val (.int (own_n p1)), .val (.int (own_n p2)), .val (.int dv)] [(.ref tn), (.int ((((own_n p0) + (3 : Int32)) + (own_n p1)) + dv)), (.ref tr)])) rfl (by rw [hml]; rfl) (argsL := [(.ref tr), (.int ((((own_n p0) + (3 : Int32)) + (own_n p1)) + dv)), (.ref tn)]) (rest := []) (lenOf pd_33 rfl) rfl (by show 2 * 0 + _ ≤ _; exact Nat.le_of_eq rfl) (hb hby at_303) (fun _ _ => ⟨rfl, e17, (by decide : 37 + 0 ≤ _), (by decide : 242 + 0 ≤ _)⟩)
      dsimp only [Pt.U, Pt.locs, Pt.cells, Pt.slots] at X18 l18 y18 z18 st18 hQ18
      subst l18 y18 z18
      obtain ⟨rfl, Nq18, e18⟩ := hQ18
      have N18 := Fr.app N17 Nq18
      refine RestW.via (fun t k => st18 t k) ?_
      show RestW p.tables e below s _ _ _ (T18.setTop (mkF m 306 #[.val (.int p0), .val (.int p1), .val (.int p2), .val (.int p3), .val (.int p4), .val (.ref tu), .val (.ref th), .val (.ref tn), .val (.ref tw), .val (.ref dr), .val (.int pp), .val (.ref b5), .val (.ref tr), .val (.int (own_n p0)), .val (.int (own_n p1)), .val (.int (own_n p2)), .val (.int dv)] [(.int (1 : Int32))]))
      refine RestW.via (fun t k => XS.ifYes X18.here hx rfl (pc0 := 306) (pc' := 311) rfl (hb hby at_306) rfl ((if0 _ _).trans (feq (by decide : ¬ ((1 : Int32) = (0 : Int32)))).2) (by decide) (by decide) k) ?_
      show RestW p.tables e below s _ _ _ (T18.setTop (mkF m 311 #[.val (.int p0), .val (.int p1), .val (.int p2), .val (.int p3), .val (.int p4), .val (.ref tu), .val (.ref th), .val (.ref tn), .val (.ref tw), .val (.ref dr), .val (.int pp), .val (.ref b5), .val (.ref tr), .val (.int (own_n p0)), .val (.int (own_n p1)), .val (.int (own_n p2)), .val (.int dv)] []))
      refine RestW.via (fun t k => XS.iconst X18.here hx rfl (hb hby at_311) k) ?_
      refine RestW.ret X18 hS (by rw [e18]; first | exact (Nat.le_of_eq (congrArg Array.size e7)) | exact Nat.le_refl _) (v := some (.int (nar .boolean (1 : Int32)))) (fun h => by rw [Bd.returns] at h; cases h) hlk (fun fs hr => retN X18 hx (t := .boolean) Bd.returns (by simp) (hb hby at_312) hr) ?_ (by decide) (by decide)
      rw [e18]
      exact ⟨rfl, N18⟩
    refine RestW.via (fun t k => XS.iload X10.here hx rfl (hb hby at_112) rfl k) ?_
    refine RestW.via (fun t k => XS.sipush X10.here hx rfl (hb hby at_114) k) ?_
    by_cases hc117 : pp < (10000 : Int32)
    · refine RestW.via (fun t k => XS.icmpYes X10.here hx rfl (pc0 := 117) (pc' := 124) rfl (hb hby at_117) rfl (tlt hc117).1 (by decide) (by decide) k) ?_
      show RestW p.tables e below s _ _ _ (T10.setTop (mkF m 124 #[.val (.int p0), .val (.int p1), .val (.int p2), .val (.int p3), .val (.int p4), .val (.ref tu), .val (.ref th), .val (.ref tn), .val (.ref tw), .val (.ref dr), .val (.int pp), .val (.ref b5), .val (.ref tr), .val (.int (own_n p0)), .val (.int (own_n p1)), .val (.int (own_n p2)), .unset] []))
      refine RestW.via (fun t k => XS.iload X10.here hx rfl (hb hby at_124) rfl k) ?_
      refine RestW.via (fun t k => XS.sipush X10.here hx rfl (hb hby at_126) k) ?_
      by_cases hc129 : pp < (1000 : Int32)
      · refine RestW.via (fun t k => XS.icmpYes X10.here hx rfl (pc0 := 129) (pc' := 136) rfl (hb hby at_129) rfl (tlt hc129).1 (by decide) (by decide) k) ?_
        show RestW p.tables e below s _ _ _ (T10.setTop (mkF m 136 #[.val (.int p0), .val (.int p1), .val (.int p2), .val (.int p3), .val (.int p4), .val (.ref tu), .val (.ref th), .val (.ref tn), .val (.ref tw), .val (.ref dr), .val (.int pp), .val (.ref b5), .val (.ref tr), .val (.int (own_n p0)), .val (.int (own_n p1)), .val (.int (own_n p2)), .unset] []))
        refine RestW.via (fun t k => XS.iload X10.here hx rfl (hb hby at_136) rfl k) ?_
        refine RestW.via (fun t k => XS.bipush X10.here hx rfl (hb hby at_138) k) ?_
        by_cases hc140 : pp < (100 : Int32)
        · refine RestW.via (fun t k => XS.icmpYes X10.here hx rfl (pc0 := 140) (pc' := 147) rfl (hb hby at_140) rfl (tlt hc140).1 (by decide) (by decide) k) ?_
          show RestW p.tables e below s _ _ _ (T10.setTop (mkF m 147 #[.val (.int p0), .val (.int p1), .val (.int p2), .val (.int p3), .val (.int p4), .val (.ref tu), .val (.ref th), .val (.ref tn), .val (.ref tw), .val (.ref dr), .val (.int pp), .val (.ref b5), .val (.ref tr), .val (.int (own_n p0)), .val (.int (own_n p1)), .val (.int (own_n p2)), .unset] []))
          refine RestW.via (fun t k => XS.iload X10.here hx rfl (hb hby at_147) rfl k) ?_
          refine RestW.via (fun t k => XS.bipush X10.here hx rfl (hb hby at_149) k) ?_
          by_cases hc151 : pp < (10 : Int32)
          · refine RestW.via (fun t k => XS.icmpYes X10.here hx rfl (pc0 := 151) (pc' := 158) rfl (hb hby at_151) rfl (tlt hc151).1 (by decide) (by decide) k) ?_
            show RestW p.tables e below s _ _ _ (T10.setTop (mkF m 158 #[.val (.int p0), .val (.int p1), .val (.int p2), .val (.int p3), .val (.int p4), .val (.ref tu), .val (.ref th), .val (.ref tn), .val (.ref tw), .val (.ref dr), .val (.int pp), .val (.ref b5), .val (.ref tr), .val (.int (own_n p0)), .val (.int (own_n p1)), .val (.int (own_n p2)), .unset] []))
            refine RestW.via (fun t k => XS.iconst X10.here hx rfl (hb hby at_158) k) ?_
            show RestW p.tables e below s _ _ _ (T10.setTop (mkF m 159 #[.val (.int p0), .val (.int p1), .val (.int p2), .val (.int p3), .val (.int p4), .val (.ref tu), .val (.ref th), .val (.ref tn), .val (.ref tw), .val (.ref dr), .val (.int pp), .val (.ref b5), .val (.ref tr), .val (.int (own_n p0)), .val (.int (own_n p1)), .val (.int (own_n p2)), .unset] [(.int (1 : Int32))]))
            exact J159 _ (by rw [own_dd, if_pos hc117, if_pos hc129, if_pos hc140, if_pos hc151])
          · refine RestW.via (fun t k => XS.icmpNo X10.here hx rfl (hb hby at_151) rfl (flt hc151).1 k) ?_
            show RestW p.tables e below s _ _ _ (T10.setTop (mkF m 154 #[.val (.int p0), .val (.int p1), .val (.int p2), .val (.int p3), .val (.int p4), .val (.ref tu), .val (.ref th), .val (.ref tn), .val (.ref tw), .val (.ref dr), .val (.int pp), .val (.ref b5), .val (.ref tr), .val (.int (own_n p0)), .val (.int (own_n p1)), .val (.int (own_n p2)), .unset] []))
            refine RestW.via (fun t k => XS.iconst X10.here hx rfl (hb hby at_154) k) ?_
            refine RestW.via (fun t k => XS.goto X10.here hx rfl (pc0 := 155) (pc' := 159) rfl (hb hby at_155) (by decide) (by decide) k) ?_
            show RestW p.tables e below s _ _ _ (T10.setTop (mkF m 159 #[.val (.int p0), .val (.int p1), .val (.int p2), .val (.int p3), .val (.int p4), .val (.ref tu), .val (.ref th), .val (.ref tn), .val (.ref tw), .val (.ref dr), .val (.int pp), .val (.ref b5), .val (.ref tr), .val (.int (own_n p0)), .val (.int (own_n p1)), .val (.int (own_n p2)), .unset] [(.int (2 : Int32))]))
            exact J159 _ (by rw [own_dd, if_pos hc117, if_pos hc129, if_pos hc140, if_neg hc151])
        · refine RestW.via (fun t k => XS.icmpNo X10.here hx rfl (hb hby at_140) rfl (flt hc140).1 k) ?_
          show RestW p.tables e below s _ _ _ (T10.setTop (mkF m 143 #[.val (.int p0), .val (.int p1), .val (.int p2), .val (.int p3), .val (.int p4), .val (.ref tu), .val (.ref th), .val (.ref tn), .val (.ref tw), .val (.ref dr), .val (.int pp), .val (.ref b5), .val (.ref tr), .val (.int (own_n p0)), .val (.int (own_n p1)), .val (.int (own_n p2)), .unset] []))
          refine RestW.via (fun t k => XS.iconst X10.here hx rfl (hb hby at_143) k) ?_
          refine RestW.via (fun t k => XS.goto X10.here hx rfl (pc0 := 144) (pc' := 159) rfl (hb hby at_144) (by decide) (by decide) k) ?_
          show RestW p.tables e below s _ _ _ (T10.setTop (mkF m 159 #[.val (.int p0), .val (.int p1), .val (.int p2), .val (.int p3), .val (.int p4), .val (.ref tu), .val (.ref th), .val (.ref tn), .val (.ref tw), .val (.ref dr), .val (.int pp), .val (.ref b5), .val (.ref tr), .val (.int (own_n p0)), .val (.int (own_n p1)), .val (.int (own_n p2)), .unset] [(.int (3 : Int32))]))
          exact J159 _ (by rw [own_dd, if_pos hc117, if_pos hc129, if_neg hc140])
      · refine RestW.via (fun t k => XS.icmpNo X10.here hx rfl (hb hby at_129) rfl (flt hc129).1 k) ?_
        show RestW p.tables e below s _ _ _ (T10.setTop (mkF m 132 #[.val (.int p0), .val (.int p1), .val (.int p2), .val (.int p3), .val (.int p4), .val (.ref tu), .val (.ref th), .val (.ref tn), .val (.ref tw), .val (.ref dr), .val (.int pp), .val (.ref b5), .val (.ref tr), .val (.int (own_n p0)), .val (.int (own_n p1)), .val (.int (own_n p2)), .unset] []))
        refine RestW.via (fun t k => XS.iconst X10.here hx rfl (hb hby at_132) k) ?_
        refine RestW.via (fun t k => XS.goto X10.here hx rfl (pc0 := 133) (pc' := 159) rfl (hb hby at_133) (by decide) (by decide) k) ?_
        show RestW p.tables e below s _ _ _ (T10.setTop (mkF m 159 #[.val (.int p0), .val (.int p1), .val (.int p2), .val (.int p3), .val (.int p4), .val (.ref tu), .val (.ref th), .val (.ref tn), .val (.ref tw), .val (.ref dr), .val (.int pp), .val (.ref b5), .val (.ref tr), .val (.int (own_n p0)), .val (.int (own_n p1)), .val (.int (own_n p2)), .unset] [(.int (4 : Int32))]))
        exact J159 _ (by rw [own_dd, if_pos hc117, if_neg hc129])
    · refine RestW.via (fun t k => XS.icmpNo X10.here hx rfl (hb hby at_117) rfl (flt hc117).1 k) ?_
      show RestW p.tables e below s _ _ _ (T10.setTop (mkF m 120 #[.val (.int p0), .val (.int p1), .val (.int p2), .val (.int p3), .val (.int p4), .val (.ref tu), .val (.ref th), .val (.ref tn), .val (.ref tw), .val (.ref dr), .val (.int pp), .val (.ref b5), .val (.ref tr), .val (.int (own_n p0)), .val (.int (own_n p1)), .val (.int (own_n p2)), .unset] []))
      refine RestW.via (fun t k => XS.iconst X10.here hx rfl (hb hby at_120) k) ?_
      refine RestW.via (fun t k => XS.goto X10.here hx rfl (pc0 := 121) (pc' := 159) rfl (hb hby at_121) (by decide) (by decide) k) ?_
      show RestW p.tables e below s _ _ _ (T10.setTop (mkF m 159 #[.val (.int p0), .val (.int p1), .val (.int p2), .val (.int p3), .val (.int p4), .val (.ref tu), .val (.ref th), .val (.ref tn), .val (.ref tw), .val (.ref dr), .val (.int pp), .val (.ref b5), .val (.ref tr), .val (.int (own_n p0)), .val (.int (own_n p1)), .val (.int (own_n p2)), .unset] [(.int (5 : Int32))]))
      exact J159 _ (by rw [own_dd, if_neg hc117])
  show RestW p.tables e below s _ _ _ (T4.setTop (mkF m 30 #[.val (.int p0), .val (.int p1), .val (.int p2), .val (.int p3), .val (.int p4), .val (.ref tu), .val (.ref th), .val (.ref tn), .val (.ref tw), .unset, .unset, .unset, .unset, .unset, .unset, .unset, .unset] [(.int (((p3.toUInt32 >>> ((20 : Int32) &&& 31).toUInt32).toInt32) &&& (1 : Int32)))]))
  by_cases hc30 : (((p3.toUInt32 >>> ((20 : Int32) &&& 31).toUInt32).toInt32) &&& (1 : Int32)) = (0 : Int32)
  · refine RestW.via (fun t k => XS.ifNo X4.here hx rfl (hb hby at_30) rfl ((if0 _ _).trans (teq hc30).2) k) ?_
    show RestW p.tables e below s _ _ _ (T4.setTop (mkF m 33 #[.val (.int p0), .val (.int p1), .val (.int p2), .val (.int p3), .val (.int p4), .val (.ref tu), .val (.ref th), .val (.ref tn), .val (.ref tw), .unset, .unset, .unset, .unset, .unset, .unset, .unset, .unset] []))
    obtain ⟨T19, X19, e19, st19⟩ := getS2 X4 hx hZ hown (host := "") (Or.inl (own_W hw 26 rfl)) Via.refl e4 (SPg.ext (O.keep K4 all0).2) (g := (mkF m 33 #[.val (.int p0), .val (.int p1), .val (.int p2), .val (.int p3), .val (.int p4), .val (.ref tu), .val (.ref th), .val (.ref tn), .val (.ref tw), .unset, .unset, .unset, .unset, .unset, .unset, .unset, .unset] [])) rfl (hb hby at_33)
    refine RestW.via (fun t k => st19 t k) ?_
    show RestW p.tables e below s _ _ _ (T19.setTop (mkF m 36 #[.val (.int p0), .val (.int p1), .val (.int p2), .val (.int p3), .val (.int p4), .val (.ref tu), .val (.ref th), .val (.ref tn), .val (.ref tw), .unset, .unset, .unset, .unset, .unset, .unset, .unset, .unset] [(.ref d0)]))
    refine RestW.via (fun t k => XS.goto X19.here hx rfl (pc0 := 36) (pc' := 42) rfl (hb hby at_36) (by decide) (by decide) k) ?_
    show RestW p.tables e below s _ _ _ (T19.setTop (mkF m 42 #[.val (.int p0), .val (.int p1), .val (.int p2), .val (.int p3), .val (.int p4), .val (.ref tu), .val (.ref th), .val (.ref tn), .val (.ref tw), .unset, .unset, .unset, .unset, .unset, .unset, .unset, .unset] [(.ref d0)]))
    exact JM _ _ _ X19 e19 N4
  · refine RestW.via (fun t k => XS.ifYes X4.here hx rfl (pc0 := 30) (pc' := 39) rfl (hb hby at_30) rfl ((if0 _ _).trans (feq hc30).2) (by decide) (by decide) k) ?_
    show RestW p.tables e below s _ _ _ (T4.setTop (mkF m 39 #[.val (.int p0), .val (.int p1), .val (.int p2), .val (.int p3), .val (.int p4), .val (.ref tu), .val (.ref th), .val (.ref tn), .val (.ref tw), .unset, .unset, .unset, .unset, .unset, .unset, .unset, .unset] []))
    obtain ⟨T20, X20, e20, st20⟩ := getS2 X4 hx hZ hown (host := "") (Or.inl (own_W hw 248 rfl)) Via.refl e4 (SMa.ext (O.keep K4 all0).2) (g := (mkF m 39 #[.val (.int p0), .val (.int p1), .val (.int p2), .val (.int p3), .val (.int p4), .val (.ref tu), .val (.ref th), .val (.ref tn), .val (.ref tw), .unset, .unset, .unset, .unset, .unset, .unset, .unset, .unset] [])) rfl (hb hby at_39)
    refine RestW.via (fun t k => st20 t k) ?_
    show RestW p.tables e below s _ _ _ (T20.setTop (mkF m 42 #[.val (.int p0), .val (.int p1), .val (.int p2), .val (.int p3), .val (.int p4), .val (.ref tu), .val (.ref th), .val (.ref tn), .val (.ref tw), .unset, .unset, .unset, .unset, .unset, .unset, .unset, .unset] [(.ref d1)]))
    exact JM _ _ _ X20 e20 N4
set_option maxRecDepth 65536 in
set_option maxHeartbeats 40000000 in
theorem comes_1 {Post : Tables → Env → Array Value → State → Outcome → State → Prop} (hpost : ∀ tb e args s v u, (limb_1_1.after args s (.returned v) u = true ∧ limb_1_2.after args s (.returned v) u = true ∧ True) → Jvm.D.FramedW s (.returned v) u (Jvm.fieldLocs frame_1_writes args s ++ Jvm.arrayLocs frame_1_arrays args s ++ Jvm.staticLocs frame_1_statics s) 64 9472 → Post tb e args s (.returned v) u) :
    ArmFor flags0 classFile x code maxLocals ret World_1 tables_1 room_1 Calls_1 rest_1 Pre_1 Post := by
  intro l hfl _ _ p e ha hc hk s m args below hf hA hF happ hP
  obtain ⟨hcalls, hrest, hpre⟩ := hP
  obtain ⟨-, -, -, hnamed, -, -, -, hat⟩ := (Spec.applies_iff hf).mp happ
  obtain ⟨hg, hn⟩ := and_e (Cond.before_iff.mp (show (Jvm.Cond.and given_1 narrow_1).before args s = true from hpre))
  obtain ⟨hcnt, hg0⟩ := and_e hg
  obtain ⟨ha0, hg1⟩ := and_e hg0
  obtain ⟨ha1, hg2⟩ := and_e hg1
  obtain ⟨ha2, hg3⟩ := and_e hg2
  obtain ⟨ha3, hg4⟩ := and_e hg3
  have ha4 := hg4
  obtain ⟨w0, w1, w2, w3, w4, rfl⟩ : ∃ w0 w1 w2 w3 w4 : Value, args = #[w0, w1, w2, w3, w4] := by
    have hs : args.size = 5 := by simpa [Cond.value, given_1] using hcnt
    obtain ⟨L⟩ := args
    match L, hs with
    | [w0, w1, w2, w3, w4], _ => exact ⟨w0, w1, w2, w3, w4, rfl⟩
  have hw := fun d (hd : d ∈ tables_1) => atoms_spec (ws := Jvm.Cond.code x code maxLocals ret :: tables_1) hat d (List.mem_cons_of_mem _ hd)
  obtain ⟨hsets, hown0⟩ := atoms_of _ (rest_1_c_eq ▸ (show rest_1_c.before _ s = true from hrest))
  have hr0 := Cond.before_iff.mp hown0
  have hfit : Fit s := fun {y c} hc i hi => by
    obtain ⟨ha, rfl⟩ := Array.getElem?_eq_some_iff.mp hc
    have q := List.all_eq_true.mp ((Array.all_eq_true_iff_forall_mem.mp hF) _ (Array.getElem_mem ha)) i (List.mem_range.mpr hi)
    simpa [Array.getElem?_eq_getElem hi] using q
  obtain ⟨i0, ei0⟩ := is_v ha0
  obtain rfl : w0 = (.int i0) := Option.some.inj ei0
  obtain ⟨i1, ei1⟩ := is_v ha1
  obtain rfl : w1 = (.int i1) := Option.some.inj ei1
  obtain ⟨i2, ei2⟩ := is_v ha2
  obtain rfl : w2 = (.int i2) := Option.some.inj ei2
  obtain ⟨i3, ei3⟩ := is_v ha3
  obtain rfl : w3 = (.int i3) := Option.some.inj ei3
  obtain ⟨i4, ei4⟩ := is_v ha4
  obtain rfl : w4 = (.int i4) := Option.some.inj ei4
  obtain ⟨hn0, hr0⟩ := and_e hn
  have hn1 := hr0
  obtain ⟨d0, ed0⟩ := exa_v hn0
  have SPg : Sta s s.heap "com/example/zapros/zapros/io/sql/SqlDatabase$Driver" "PG" "Lcom/example/zapros/zapros/io/sql/SqlDatabase$Driver;" (.ref d0) := Sta.start ed0 (Or.inr ⟨(own_W hw 27 rfl), (own_W hw 28 rfl)⟩)
  obtain ⟨d1, ed1⟩ := exa_v hn1
  have SMa : Sta s s.heap "com/example/zapros/zapros/io/sql/SqlDatabase$Driver" "MARIADB" "Lcom/example/zapros/zapros/io/sql/SqlDatabase$Driver;" (.ref d1) := Sta.start ed1 (Or.inr ⟨(own_W hw 27 rfl), (own_W hw 249 rfl)⟩)
  obtain ⟨ic, eic⟩ := is_v (Cond.before_iff.mp (hsets _ (List.mem_of_getElem? (i := 1) rfl)))
  have CS : own_CS s ic := ⟨Sta.start eic (Or.inl (hsets _ (List.mem_of_getElem? (i := 0) rfl))), gotF (Cond.eq_ints eic (Term.int_eval (0))) (not_v (Cond.before_iff.mp (hsets _ (List.mem_of_getElem? (i := 2) rfl))))⟩
  have hcw : Jvm.Lit.compactW.before _ s = true := (hsets _ (List.mem_of_getElem? (i := 2) rfl))
  have H7 : Jvm.Lit.constHeld s "com/example/zapros/zapros/io/sql/SqlDatabase" 7 := hcalls.1 _ (List.mem_of_getElem? (i := 0) rfl)
  have H15 : Jvm.Lit.constHeld s "com/example/zapros/zapros/io/sql/SqlDatabase" 15 := hcalls.1 _ (List.mem_of_getElem? (i := 1) rfl)
  have H17 : Jvm.Lit.constHeld s "com/example/zapros/zapros/io/sql/SqlDatabase" 17 := hcalls.1 _ (List.mem_of_getElem? (i := 2) rfl)
  have H19 : Jvm.Lit.constHeld s "com/example/zapros/zapros/io/sql/SqlDatabase" 19 := hcalls.1 _ (List.mem_of_getElem? (i := 3) rfl)
  have H21 : Jvm.Lit.constHeld s "com/example/zapros/zapros/io/sql/SqlDatabase" 21 := hcalls.1 _ (List.mem_of_getElem? (i := 4) rfl)
  have H63 : Jvm.Lit.constHeld s "com/example/zapros/zapros/io/sql/SqlDatabase" 63 := hcalls.1 _ (List.mem_of_getElem? (i := 5) rfl)
  have H65 : Jvm.Lit.constHeld s "com/example/zapros/zapros/io/sql/SqlDatabase" 65 := hcalls.1 _ (List.mem_of_getElem? (i := 6) rfl)
  have H67 : Jvm.Lit.constHeld s "com/example/zapros/zapros/io/sql/SqlDatabase" 67 := hcalls.1 _ (List.mem_of_getElem? (i := 7) rfl)
  have HE : Jvm.Lit.constHeld s "java/lang/String" 7 := hcalls.1 _ (List.mem_of_getElem? (i := 8) rfl)
  obtain ⟨fm, efm, hfm⟩ := isR_v (Cond.before_iff.mp (hsets _ (List.mem_of_getElem? (i := 8) rfl)))
  have Sf : Sta s s.heap "jdk/internal/util/Preconditions" "SIOOBE_FORMATTER" "Ljava/util/function/BiFunction;" fm := Sta.start efm (Or.inl (hsets _ (List.mem_of_getElem? (i := 7) rfl)))
  obtain ⟨wo, So, Do⟩ := own_DA_start (f := fun j => (48 : Int32) + (j % (10 : Int32))) own_ones (hsets _ (List.mem_of_getElem? (i := 11) rfl)) (Cond.before_iff.mp (hsets _ (List.mem_of_getElem? (i := 12) rfl))) (Cond.before_iff.mp (hsets _ (List.mem_of_getElem? (i := 13) rfl))) (Cond.before_iff.mp (hsets _ (List.mem_of_getElem? (i := 14) rfl))) (own_W hw 19 rfl)
  obtain ⟨wt, St_, Dt⟩ := own_DA_start (f := fun j => (48 : Int32) + (j / (10 : Int32))) own_tens (hsets _ (List.mem_of_getElem? (i := 16) rfl)) (Cond.before_iff.mp (hsets _ (List.mem_of_getElem? (i := 17) rfl))) (Cond.before_iff.mp (hsets _ (List.mem_of_getElem? (i := 18) rfl))) (Cond.before_iff.mp (hsets _ (List.mem_of_getElem? (i := 19) rfl))) (own_W hw 19 rfl)
  have DG : own_DG s wo wt := ⟨So, St_, Do, Dt⟩
  obtain ⟨n, o, h1, h2, h3, _, L, rfl, ⟨rfl, N⟩, hq⟩ := rm0 l s _ hw tables_1 i0 i1 i2 i3 i4 ic wo wt fm d0 d1 s.heap s.heap.size (Nat.le_refl _) ⟨Nat.le_refl _, Nat.le_refl _, fun _ _ q => q⟩ CS hcw HE H7 H15 H17 H19 H21 H63 H65 H67 DG hfm Sf SPg SMa p e ha hc hk s m _ below hf ((Spec.applies_iff_loose hf).mp happ).1 ⟨rfl, State.Warmed39.refl s, rfl, IB.start⟩ trivial
  refine ⟨n, _, h1, h2, h3, hpost _ _ _ _ _ _ ⟨Cond.after_iff.mpr rfl, Cond.after_iff.mpr (eq_i res_at (Term.int_eval (1)) rfl), trivial⟩ ⟨hq.1, hq.2.1, hq.2.2.1, (hq.2.2.2.sift fun y hy => Or.inr (N y hy)).mono (by decide) (by decide)⟩⟩
theorem main_1_1 : Claimed_1_1 := comes_1 fun _ _ _ _ _ _ h hF => ⟨h.1, hF⟩
theorem main_1_2 : Claimed_1_2 := comes_1 fun _ _ _ _ _ _ h hF => ⟨h.2.1, hF⟩
end Jvm.Pilot.@@N@@
namespace Jvm.Pilot.@@N@@
open Jvm Jvm.ClassFile Sem Op Lib Jvm.Free Jvm.Stand Jvm.Pilot.@@N@@.Jvm.D
/-! MADE BY PROGRAM (witnessworld.py) out of the Statement's table words and the real class files: 32 classes; the members and pool entries that the words name. The judged class is class 1, her method 1. -/
namespace start1
open Jvm.ClassFile
def u (s : String) : CpInfo := .utf8 (stringToUtf16 s)
/-- a pool by its gaps: so many unusable entries, then the entry; so many at the end -/
def gap : Nat → List CpInfo → List CpInfo
  | 0, r => r
  | n + 1, r => .unusable :: gap n r
def poolList (es : List (Nat × CpInfo)) (last : Nat) : List CpInfo := es.foldr (fun e r => gap e.1 (e.2 :: r)) (gap last [])
def pool (es : List (Nat × CpInfo)) (last : Nat) : Array CpInfo := ⟨poolList es last⟩
def fileOf (pool : Array CpInfo) (this : Nat) (attrs : Array Attribute := #[]) (ms : Array MethodInfo := #[]) (fl : Nat := 33) (sup : Nat := 0) (ifs : Array Nat := #[]) (fds : Array FieldInfo := #[]) : ClassFile where
  minorVersion := 0
  majorVersion := 65
  constantPool := pool
  accessFlags := fl
  thisClass := this
  superClass := sup
  interfaces := ifs
  fields := fds
  methods := ms
  attributes := attrs
def plain (name : String) (sup : Option ClassId) : Class where
  name := name
  kind := .ordinary
  loader := none
  accessFlags := 33
  super := sup
  interfaces := #[]
  cf := none
  fields := #[]
  methods := #[]
  instanceTypes := #[]
  staticTypes := #[]
  resolved := #[]
  callSites := []
  init := .initialized
  statics := none
  mirror := none

def pool0 : Array CpInfo := pool [(5, u "<init>"), (0, u "()V"), (1, .class_ 10), (1, u "java/lang/Object")] 113

def k0c0 : Code := { maxStack := 0, maxLocals := 1, code := object_method_1_code, exceptionTable := #[], attributes := #[] }
def k0m0 : Method := { name := "<init>", desc := "()V", sig := { parameters := [], returnType := none }, accessFlags := 1, code := some k0c0 }
/-- java/lang/Object -/
def k0 : Class := { plain "java/lang/Object" none with
  accessFlags := 33
  interfaces := #[]
  cf := some (fileOf pool0 8 #[] #[{ accessFlags := 1, nameIndex := 5, descriptorIndex := 6, attributes := #[] }] 33 0 #[] #[])
  fields := #[]
  methods := #[k0m0]
  instanceTypes := #[]
  staticTypes := #[]
  resolved := Array.replicate 124 none
  statics := none }

def pool1 : Array CpInfo := pool [(2, .class_ 4), (1, u "java/lang/Object"), (0, u "<init>"), (0, u "()V"), (0, .methodref 8 9), (0, .class_ 10), (0, .nameAndType 11 12), (0, u "com/example/zapros/zapros/io/sql/SqlDatabaseToStringPinLaw"), (0, u "mk"), (0, u "(I)Ljava/lang/String;"), (0, .fieldref 14 15), (0, .class_ 16), (0, .nameAndType 17 18), (0, u "com/example/zapros/zapros/io/sql/SqlDatabase$Driver"), (0, u "PG"), (0, u "Lcom/example/zapros/zapros/io/sql/SqlDatabase$Driver;"), (0, .fieldref 14 20), (0, .nameAndType 21 18), (0, u "MARIADB"), (0, .integer 2147483647), (0, .integer 65535), (0, .class_ 25), (0, u "com/example/zapros/zapros/io/sql/SqlDatabase"), (0, .methodref 24 27), (0, .nameAndType 5 28), (0, u "(Lcom/example/zapros/zapros/io/sql/SqlDatabase$Driver;Ljava/lang/String;ILjava/lang/String;Ljava/lang/String;Ljava/lang/String;)V"), (0, .methodref 24 30), (0, .nameAndType 31 32), (0, u "toString"), (0, u "()Ljava/lang/String;"), (0, .methodref 34 35), (0, .class_ 36), (0, .nameAndType 37 38), (0, u "java/lang/String"), (0, u "length"), (0, u "()I"), (0, .methodref 8 40), (0, .nameAndType 41 42), (0, u "has"), (0, u "(Ljava/lang/String;ILjava/lang/String;)Z"), (0, .methodref 34 44), (0, .nameAndType 45 46), (0, u "charAt"), (0, u "(I)C"), (0, .methodref 8 48), (0, .nameAndType 49 50), (0, u "digits"), (0, u "(Ljava/lang/String;III)Z"), (0, .methodref 34 52), (0, .nameAndType 5 53), (0, u "([C)V"), (0, .methodref 8 55), (0, .nameAndType 56 57), (0, u "p10"), (0, u "(I)I"), (0, .methodref 8 59), (0, .nameAndType 60 61), (0, u "dig"), (0, u "(Ljava/lang/String;IIII)Z"), (2, u "law"), (0, u "(IIIII)Z")] 5

def k1m0 : Method := { name := "<init>", desc := "()V", sig := { parameters := [], returnType := none }, accessFlags := 1, code := none }
def k1c1 : Code := { maxStack := 8, maxLocals := 17, code := code, exceptionTable := #[], attributes := #[] }
def k1m1 : Method := { name := "law", desc := "(IIIII)Z", sig := { parameters := [.int, .int, .int, .int, .int], returnType := some .boolean }, accessFlags := 9, code := some k1c1 }
def k1c2 : Code := { maxStack := 6, maxLocals := 4, code := method_3_code, exceptionTable := #[], attributes := #[] }
def k1m2 : Method := { name := "mk", desc := "(I)Ljava/lang/String;", sig := { parameters := [.int], returnType := some (.object "java/lang/String") }, accessFlags := 10, code := some k1c2 }
def k1c3 : Code := { maxStack := 3, maxLocals := 3, code := method_4_code, exceptionTable := #[], attributes := #[] }
def k1m3 : Method := { name := "has", desc := "(Ljava/lang/String;ILjava/lang/String;)Z", sig := { parameters := [(.object "java/lang/String"), .int, (.object "java/lang/String")], returnType := some .boolean }, accessFlags := 10, code := some k1c3 }
def k1c4 : Code := { maxStack := 2, maxLocals := 1, code := method_5_code, exceptionTable := #[], attributes := #[] }
def k1m4 : Method := { name := "p10", desc := "(I)I", sig := { parameters := [.int], returnType := some .int }, accessFlags := 10, code := some k1c4 }
def k1c5 : Code := { maxStack := 4, maxLocals := 6, code := method_6_code, exceptionTable := #[], attributes := #[] }
def k1m5 : Method := { name := "dig", desc := "(Ljava/lang/String;IIII)Z", sig := { parameters := [(.object "java/lang/String"), .int, .int, .int, .int], returnType := some .boolean }, accessFlags := 10, code := some k1c5 }
def k1c6 : Code := { maxStack := 5, maxLocals := 4, code := method_7_code, exceptionTable := #[], attributes := #[] }
def k1m6 : Method := { name := "digits", desc := "(Ljava/lang/String;III)Z", sig := { parameters := [(.object "java/lang/String"), .int, .int, .int], returnType := some .boolean }, accessFlags := 10, code := some k1c6 }
/-- com/example/zapros/zapros/io/sql/SqlDatabaseToStringPinLaw -/
def k1 : Class := { plain "com/example/zapros/zapros/io/sql/SqlDatabaseToStringPinLaw" (some 0) with
  accessFlags := 49
  interfaces := #[]
  cf := some (fileOf pool1 8 #[] #[{ accessFlags := 1, nameIndex := 5, descriptorIndex := 6, attributes := #[] }, { accessFlags := 9, nameIndex := 64, descriptorIndex := 65, attributes := #[] }, { accessFlags := 10, nameIndex := 11, descriptorIndex := 12, attributes := #[] }, { accessFlags := 10, nameIndex := 41, descriptorIndex := 42, attributes := #[] }, { accessFlags := 10, nameIndex := 56, descriptorIndex := 57, attributes := #[] }, { accessFlags := 10, nameIndex := 60, descriptorIndex := 61, attributes := #[] }, { accessFlags := 10, nameIndex := 49, descriptorIndex := 50, attributes := #[] }] 49 2 #[] #[])
  fields := #[]
  methods := #[k1m0, k1m1, k1m2, k1m3, k1m4, k1m5, k1m6]
  instanceTypes := #[]
  staticTypes := #[]
  resolved := Array.replicate 71 none
  statics := none }

def pool2 : Array CpInfo := pool [(1, .class_ 2), (0, u "java/io/Serializable"), (0, .class_ 4), (0, u "java/lang/Object")] 2

/-- java/io/Serializable -/
def k2 : Class := { plain "java/io/Serializable" (some 0) with
  accessFlags := 1537
  interfaces := #[]
  cf := some (fileOf pool2 1 #[] #[] 1537 3 #[] #[])
  fields := #[]
  methods := #[]
  instanceTypes := #[]
  staticTypes := #[]
  resolved := Array.replicate 7 none
  statics := none }

def pool3 : Array CpInfo := pool [(1, .class_ 2), (0, u "java/lang/Comparable"), (0, .class_ 4), (0, u "java/lang/Object")] 7

/-- java/lang/Comparable -/
def k3 : Class := { plain "java/lang/Comparable" (some 0) with
  accessFlags := 1537
  interfaces := #[]
  cf := some (fileOf pool3 1 #[] #[] 1537 3 #[] #[])
  fields := #[]
  methods := #[]
  instanceTypes := #[]
  staticTypes := #[]
  resolved := Array.replicate 12 none
  statics := none }

def pool4 : Array CpInfo := pool [(2, .class_ 4), (1, u "java/lang/CharSequence"), (42, .class_ 48), (0, u "java/lang/CharSequence$1CodePointIterator"), (10, .class_ 60), (0, u "java/lang/CharSequence$1CharIterator"), (5, .class_ 67), (0, u "java/lang/Object")] 63

/-- java/lang/CharSequence -/
def k4 : Class := { plain "java/lang/CharSequence" (some 0) with
  accessFlags := 1537
  interfaces := #[]
  cf := some (fileOf pool4 2 #[.nestMembers #[47, 59]] #[] 1537 66 #[] #[])
  fields := #[]
  methods := #[]
  instanceTypes := #[]
  staticTypes := #[]
  resolved := Array.replicate 131 none
  statics := none }

def pool5 : Array CpInfo := pool [(1, .class_ 2), (0, u "java/lang/constant/Constable"), (0, .class_ 4), (0, u "java/lang/Object")] 6

/-- java/lang/constant/Constable -/
def k5 : Class := { plain "java/lang/constant/Constable" (some 0) with
  accessFlags := 1537
  interfaces := #[]
  cf := some (fileOf pool5 1 #[] #[] 1537 3 #[] #[])
  fields := #[]
  methods := #[]
  instanceTypes := #[]
  staticTypes := #[]
  resolved := Array.replicate 11 none
  statics := none }

def pool6 : Array CpInfo := pool [(1, .class_ 2), (0, u "java/lang/constant/ConstantDesc"), (0, .class_ 4), (0, u "java/lang/Object")] 32

/-- java/lang/constant/ConstantDesc -/
def k6 : Class := { plain "java/lang/constant/ConstantDesc" (some 0) with
  accessFlags := 1537
  interfaces := #[]
  cf := some (fileOf pool6 1 #[] #[] 1537 3 #[] #[])
  fields := #[]
  methods := #[]
  instanceTypes := #[]
  staticTypes := #[]
  resolved := Array.replicate 37 none
  statics := none }

def pool7 : Array CpInfo := pool [(1, .methodref 2 3), (0, .class_ 4), (0, .nameAndType 5 6), (0, u "java/lang/Object"), (0, u "<init>"), (0, u "()V"), (0, .string 8), (0, u ""), (0, .fieldref 10 11), (0, .class_ 12), (0, .nameAndType 13 14), (0, u "java/lang/String"), (0, u "value"), (0, u "[B"), (0, .fieldref 10 16), (0, .nameAndType 17 18), (0, u "coder"), (0, u "B"), (2, u "hash"), (0, u "I"), (2, u "hashIsZero"), (0, u "Z"), (0, .methodref 10 28), (0, .nameAndType 5 29), (0, u "([CIILjava/lang/Void;)V"), (8, .fieldref 10 39), (0, .nameAndType 40 26), (0, u "COMPACT_STRINGS"), (1, .class_ 44), (1, u "java/lang/StringUTF16"), (0, u "compress"), (1, .methodref 42 48), (0, .nameAndType 49 50), (0, u "coderFromArrayLen"), (0, u "([BI)B"), (3, .methodref 55 56), (0, .class_ 57), (0, .nameAndType 58 59), (0, u "java/util/Arrays"), (0, u "copyOfRange"), (0, u "([BII)[B"), (47, .class_ 109), (1, u "java/lang/StringLatin1"), (32, u "()Z"), (34, .methodref 42 178), (0, .nameAndType 45 179), (0, u "([CII)[B"), (13, .class_ 195), (1, u "java/lang/System"), (16, .methodref 193 213), (0, .nameAndType 214 215), (0, u "arraycopy"), (0, u "(Ljava/lang/Object;ILjava/lang/Object;II)V"), (118, u "()I"), (0, .methodref 10 336), (0, .nameAndType 17 337), (0, u "()B"), (2, u "()[B"), (22, u "([BI)C"), (27, u "(II)V"), (35, u "(I)C"), (61, .methodref 10 490), (0, .nameAndType 5 491), (0, u "(Ljava/lang/AbstractStringBuilder;Ljava/lang/Void;)V"), (0, .methodref 10 493), (0, .nameAndType 494 142), (0, u "isLatin1"), (0, .methodref 107 496), (0, .nameAndType 497 363), (0, u "charAt"), (3, u "checkIndex"), (4, .nameAndType 507 334), (0, u "length"), (24, u "getBytes"), (16, .methodref 550 506), (0, .class_ 551), (0, u "java/lang/AbstractStringBuilder"), (0, .methodref 550 553), (0, .nameAndType 554 340), (0, u "getValue"), (20, .class_ 576), (0, u "java/lang/CharSequence"), (22, u "CASE_INSENSITIVE_ORDER"), (0, u "Ljava/util/Comparator;"), (220, u "([BIB)V"), (188, u "([C)V"), (36, .methodref 550 493), (5, .fieldref 1054 1055), (0, .class_ 1056), (0, .nameAndType 1057 1058), (0, u "jdk/internal/util/Preconditions"), (0, u "SIOOBE_FORMATTER"), (0, u "Ljava/util/function/BiFunction;"), (0, .methodref 1054 1060), (0, .nameAndType 501 1061), (0, u "(IILjava/util/function/BiFunction;)I"), (39, u "serialPersistentFields"), (0, u "[Ljava/io/ObjectStreamField;"), (0, .class_ 1104), (0, u "java/lang/String$CaseInsensitiveComparator"), (1, .class_ 1107), (0, u "java/io/Serializable"), (0, .class_ 1109), (0, u "java/lang/Comparable"), (0, .class_ 1111), (0, u "java/lang/constant/Constable"), (0, .class_ 1113), (0, u "java/lang/constant/ConstantDesc"), (2, u "serialVersionUID"), (0, u "J"), (3, u "REPL"), (0, u "C"), (2, u "LATIN1"), (1, u "UTF16"), (105, u "(Ljava/lang/StringBuilder;)V")] 217

def k7m0 : Method := { name := "<init>", desc := "()V", sig := { parameters := [], returnType := none }, accessFlags := 1, code := none }
def k7c1 : Code := { maxStack := 5, maxLocals := 2, code := jdk_42_method_3_code, exceptionTable := #[], attributes := #[] }
def k7m1 : Method := { name := "<init>", desc := "([C)V", sig := { parameters := [(.array .char)], returnType := none }, accessFlags := 1, code := some k7c1 }
def k7c2 : Code := { maxStack := 3, maxLocals := 2, code := jdk_42_method_53_code, exceptionTable := #[], attributes := #[] }
def k7m2 : Method := { name := "<init>", desc := "(Ljava/lang/StringBuilder;)V", sig := { parameters := [(.object "java/lang/StringBuilder")], returnType := none }, accessFlags := 1, code := some k7c2 }
def k7c3 : Code := { maxStack := 2, maxLocals := 1, code := jdk_42_method_54_code, exceptionTable := #[], attributes := #[] }
def k7m3 : Method := { name := "length", desc := "()I", sig := { parameters := [], returnType := some .int }, accessFlags := 1, code := some k7c3 }
def k7c4 : Code := { maxStack := 2, maxLocals := 2, code := jdk_42_method_56_code, exceptionTable := #[], attributes := #[] }
def k7m4 : Method := { name := "charAt", desc := "(I)C", sig := { parameters := [.int], returnType := some .char }, accessFlags := 1, code := some k7c4 }
def k7c5 : Code := { maxStack := 5, maxLocals := 4, code := jdk_42_method_147_code, exceptionTable := #[], attributes := #[] }
def k7m5 : Method := { name := "getBytes", desc := "([BIB)V", sig := { parameters := [(.array .byte), .int, .byte], returnType := none }, accessFlags := 0, code := some k7c5 }
def k7c6 : Code := { maxStack := 4, maxLocals := 6, code := jdk_42_method_149_code, exceptionTable := #[], attributes := #[] }
def k7m6 : Method := { name := "<init>", desc := "([CIILjava/lang/Void;)V", sig := { parameters := [(.array .char), .int, .int, (.object "java/lang/Void")], returnType := none }, accessFlags := 2, code := some k7c6 }
def k7c7 : Code := { maxStack := 5, maxLocals := 5, code := jdk_42_method_150_code, exceptionTable := #[], attributes := #[] }
def k7m7 : Method := { name := "<init>", desc := "(Ljava/lang/AbstractStringBuilder;Ljava/lang/Void;)V", sig := { parameters := [(.object "java/lang/AbstractStringBuilder"), (.object "java/lang/Void")], returnType := none }, accessFlags := 0, code := some k7c7 }
def k7c8 : Code := { maxStack := 1, maxLocals := 1, code := jdk_42_method_152_code, exceptionTable := #[], attributes := #[] }
def k7m8 : Method := { name := "coder", desc := "()B", sig := { parameters := [], returnType := some .byte }, accessFlags := 0, code := some k7c8 }
def k7c9 : Code := { maxStack := 1, maxLocals := 1, code := jdk_42_method_154_code, exceptionTable := #[], attributes := #[] }
def k7m9 : Method := { name := "isLatin1", desc := "()Z", sig := { parameters := [], returnType := some .boolean }, accessFlags := 0, code := some k7c9 }
def k7c10 : Code := { maxStack := 3, maxLocals := 2, code := jdk_42_method_155_code, exceptionTable := #[], attributes := #[] }
def k7m10 : Method := { name := "checkIndex", desc := "(II)V", sig := { parameters := [.int, .int], returnType := none }, accessFlags := 8, code := some k7c10 }
/-- java/lang/String -/
def k7 : Class := { plain "java/lang/String" (some 0) with
  accessFlags := 49
  interfaces := #[2, 3, 4, 5, 6]
  cf := some (fileOf pool7 10 #[.nestMembers #[1103]] #[{ accessFlags := 1, nameIndex := 5, descriptorIndex := 6, attributes := #[] }, { accessFlags := 1, nameIndex := 5, descriptorIndex := 1010, attributes := #[] }, { accessFlags := 1, nameIndex := 5, descriptorIndex := 1233, attributes := #[] }, { accessFlags := 1, nameIndex := 507, descriptorIndex := 334, attributes := #[] }, { accessFlags := 1, nameIndex := 497, descriptorIndex := 427, attributes := #[] }, { accessFlags := 0, nameIndex := 532, descriptorIndex := 821, attributes := #[] }, { accessFlags := 2, nameIndex := 5, descriptorIndex := 29, attributes := #[] }, { accessFlags := 0, nameIndex := 5, descriptorIndex := 491, attributes := #[] }, { accessFlags := 0, nameIndex := 17, descriptorIndex := 337, attributes := #[] }, { accessFlags := 0, nameIndex := 494, descriptorIndex := 142, attributes := #[] }, { accessFlags := 8, nameIndex := 501, descriptorIndex := 391, attributes := #[] }] 49 2 #[1106, 1108, 575, 1110, 1112] #[{ accessFlags := 18, nameIndex := 13, descriptorIndex := 14, attributes := #[] }, { accessFlags := 18, nameIndex := 17, descriptorIndex := 18, attributes := #[] }, { accessFlags := 2, nameIndex := 21, descriptorIndex := 22, attributes := #[] }, { accessFlags := 2, nameIndex := 25, descriptorIndex := 26, attributes := #[] }, { accessFlags := 26, nameIndex := 1116, descriptorIndex := 1117, attributes := #[] }, { accessFlags := 24, nameIndex := 40, descriptorIndex := 26, attributes := #[] }, { accessFlags := 26, nameIndex := 1101, descriptorIndex := 1102, attributes := #[] }, { accessFlags := 26, nameIndex := 1121, descriptorIndex := 1122, attributes := #[] }, { accessFlags := 25, nameIndex := 599, descriptorIndex := 600, attributes := #[] }, { accessFlags := 24, nameIndex := 1125, descriptorIndex := 18, attributes := #[] }, { accessFlags := 24, nameIndex := 1127, descriptorIndex := 18, attributes := #[] }])
  fields := #[{ name := "value", type := (.array .byte), accessFlags := 18, slot := 0, constantValue := 0 }, { name := "coder", type := .byte, accessFlags := 18, slot := 1, constantValue := 0 }, { name := "hash", type := .int, accessFlags := 2, slot := 2, constantValue := 0 }, { name := "hashIsZero", type := .boolean, accessFlags := 2, slot := 3, constantValue := 0 }, { name := "serialVersionUID", type := .long, accessFlags := 26, slot := 0, constantValue := 0 }, { name := "COMPACT_STRINGS", type := .boolean, accessFlags := 24, slot := 1, constantValue := 0 }, { name := "serialPersistentFields", type := (.array (.object "java/io/ObjectStreamField")), accessFlags := 26, slot := 2, constantValue := 0 }, { name := "REPL", type := .char, accessFlags := 26, slot := 3, constantValue := 0 }, { name := "CASE_INSENSITIVE_ORDER", type := (.object "java/util/Comparator"), accessFlags := 25, slot := 4, constantValue := 0 }, { name := "LATIN1", type := .byte, accessFlags := 24, slot := 5, constantValue := 0 }, { name := "UTF16", type := .byte, accessFlags := 24, slot := 6, constantValue := 0 }]
  methods := #[k7m0, k7m1, k7m2, k7m3, k7m4, k7m5, k7m6, k7m7, k7m8, k7m9, k7m10]
  instanceTypes := #[(.array .byte), .byte, .int, .boolean]
  staticTypes := #[.long, .boolean, (.array (.object "java/io/ObjectStreamField")), .char, (.object "java/util/Comparator"), .byte, .byte]
  resolved := Array.replicate 1451 none
  statics := some 0 }

def pool8 : Array CpInfo := pool [(2, .class_ 4), (1, u "java/lang/Enum"), (0, u "name"), (0, u "Ljava/lang/String;"), (2, u "ordinal"), (0, u "I"), (1, .class_ 14), (1, u "java/lang/Object"), (4, u "hash"), (86, .class_ 108), (1, u "java/lang/Enum$EnumDesc"), (2, .class_ 112), (0, u "java/lang/constant/Constable"), (0, .class_ 114), (0, u "java/lang/Comparable"), (0, .class_ 116), (0, u "java/io/Serializable")] 87

/-- java/lang/Enum -/
def k8 : Class := { plain "java/lang/Enum" (some 0) with
  accessFlags := 1057
  interfaces := #[5, 3, 2]
  cf := some (fileOf pool8 2 #[.nestMembers #[106]] #[] 1057 12 #[111, 113, 115] #[{ accessFlags := 18, nameIndex := 5, descriptorIndex := 6, attributes := #[] }, { accessFlags := 18, nameIndex := 9, descriptorIndex := 10, attributes := #[] }, { accessFlags := 2, nameIndex := 19, descriptorIndex := 10, attributes := #[] }])
  fields := #[{ name := "name", type := (.object "java/lang/String"), accessFlags := 18, slot := 0, constantValue := 0 }, { name := "ordinal", type := .int, accessFlags := 18, slot := 1, constantValue := 0 }, { name := "hash", type := .int, accessFlags := 2, slot := 2, constantValue := 0 }]
  methods := #[]
  instanceTypes := #[(.object "java/lang/String"), .int, .int]
  staticTypes := #[]
  resolved := Array.replicate 204 none
  statics := none }

def pool9 : Array CpInfo := pool [(1, .class_ 2), (0, u "com/example/zapros/zapros/io/sql/SqlDatabase$Driver"), (2, u "PG"), (0, u "Lcom/example/zapros/zapros/io/sql/SqlDatabase$Driver;"), (2, u "MARIADB"), (2, u "$VALUES"), (0, u "[Lcom/example/zapros/zapros/io/sql/SqlDatabase$Driver;"), (6, .class_ 22), (1, u "java/lang/Enum"), (79, .class_ 103), (0, u "com/example/zapros/zapros/io/sql/SqlDatabase")] 21

/-- com/example/zapros/zapros/io/sql/SqlDatabase$Driver -/
def k9 : Class := { plain "com/example/zapros/zapros/io/sql/SqlDatabase$Driver" (some 8) with
  accessFlags := 16433
  interfaces := #[]
  cf := some (fileOf pool9 1 #[.nestHost 102] #[] 16433 20 #[] #[{ accessFlags := 16409, nameIndex := 5, descriptorIndex := 6, attributes := #[] }, { accessFlags := 16409, nameIndex := 9, descriptorIndex := 6, attributes := #[] }, { accessFlags := 4122, nameIndex := 12, descriptorIndex := 13, attributes := #[] }])
  fields := #[{ name := "PG", type := (.object "com/example/zapros/zapros/io/sql/SqlDatabase$Driver"), accessFlags := 16409, slot := 0, constantValue := 0 }, { name := "MARIADB", type := (.object "com/example/zapros/zapros/io/sql/SqlDatabase$Driver"), accessFlags := 16409, slot := 1, constantValue := 0 }, { name := "$VALUES", type := (.array (.object "com/example/zapros/zapros/io/sql/SqlDatabase$Driver")), accessFlags := 4122, slot := 2, constantValue := 0 }]
  methods := #[]
  instanceTypes := #[(.object "java/lang/String"), .int, .int]
  staticTypes := #[(.object "com/example/zapros/zapros/io/sql/SqlDatabase$Driver"), (.object "com/example/zapros/zapros/io/sql/SqlDatabase$Driver"), (.array (.object "com/example/zapros/zapros/io/sql/SqlDatabase$Driver"))]
  resolved := Array.replicate 125 none
  statics := some 1 }

def pool10 : Array CpInfo := pool [(1, .methodref 2 3), (0, .class_ 4), (0, .nameAndType 5 6), (0, u "java/lang/Object"), (0, u "<init>"), (0, u "()V"), (0, .class_ 8), (0, u "java/lang/Record")] 13

def k10c0 : Code := { maxStack := 1, maxLocals := 1, code := jdk_30_method_1_code, exceptionTable := #[], attributes := #[] }
def k10m0 : Method := { name := "<init>", desc := "()V", sig := { parameters := [], returnType := none }, accessFlags := 4, code := some k10c0 }
/-- java/lang/Record -/
def k10 : Class := { plain "java/lang/Record" (some 0) with
  accessFlags := 1057
  interfaces := #[]
  cf := some (fileOf pool10 7 #[] #[{ accessFlags := 4, nameIndex := 5, descriptorIndex := 6, attributes := #[] }] 1057 2 #[] #[])
  fields := #[]
  methods := #[k10m0]
  instanceTypes := #[]
  staticTypes := #[]
  resolved := Array.replicate 22 none
  statics := none }

def pool11 : Array CpInfo := pool [(1, .methodref 2 3), (0, .class_ 4), (0, .nameAndType 5 6), (0, u "java/lang/Record"), (0, u "<init>"), (0, u "()V"), (0, .string 8), (0, u "driver"), (0, .methodref 10 11), (0, .class_ 12), (0, .nameAndType 13 14), (0, u "java/util/Objects"), (0, u "requireNonNull"), (0, u "(Ljava/lang/Object;Ljava/lang/String;)Ljava/lang/Object;"), (0, .string 16), (0, u "host"), (0, .string 18), (0, u "name"), (0, .string 20), (0, u "username"), (0, .string 22), (0, u "password"), (0, .integer 65535), (2, .class_ 27), (0, u "java/lang/StringBuilder"), (0, .methodref 26 3), (2, .methodref 26 32), (0, .nameAndType 33 34), (0, u "append"), (0, u "(Ljava/lang/String;)Ljava/lang/StringBuilder;"), (0, .methodref 26 36), (0, .nameAndType 33 37), (0, u "(I)Ljava/lang/StringBuilder;"), (0, .methodref 26 39), (0, .nameAndType 40 41), (0, u "toString"), (0, u "()Ljava/lang/String;"), (3, .fieldref 46 47), (0, .class_ 48), (0, .nameAndType 8 49), (0, u "com/example/zapros/zapros/io/sql/SqlDatabase"), (0, u "Lcom/example/zapros/zapros/io/sql/SqlDatabase$Driver;"), (0, .fieldref 46 51), (0, .nameAndType 16 52), (0, u "Ljava/lang/String;"), (0, .fieldref 46 54), (0, .nameAndType 55 56), (0, u "port"), (0, u "I"), (0, .fieldref 46 58), (0, .nameAndType 18 52), (0, .fieldref 46 60), (0, .nameAndType 20 52), (0, .fieldref 46 62), (0, .nameAndType 22 52), (0, .string 64), (0, u "@"), (0, .string 66), (0, u ":"), (0, .string 68), (0, u "/"), (8, u "(Lcom/example/zapros/zapros/io/sql/SqlDatabase$Driver;Ljava/lang/String;ILjava/lang/String;Ljava/lang/String;Ljava/lang/String;)V"), (3, .class_ 82), (0, u "com/example/zapros/zapros/io/sql/SqlDatabase$Driver")] 33

def k11c0 : Code := { maxStack := 4, maxLocals := 7, code := prog_4_method_1_code, exceptionTable := #[], attributes := #[] }
def k11m0 : Method := { name := "<init>", desc := "(Lcom/example/zapros/zapros/io/sql/SqlDatabase$Driver;Ljava/lang/String;ILjava/lang/String;Ljava/lang/String;Ljava/lang/String;)V", sig := { parameters := [(.object "com/example/zapros/zapros/io/sql/SqlDatabase$Driver"), (.object "java/lang/String"), .int, (.object "java/lang/String"), (.object "java/lang/String"), (.object "java/lang/String")], returnType := none }, accessFlags := 1, code := some k11c0 }
def k11c1 : Code := { maxStack := 2, maxLocals := 1, code := prog_4_method_2_code, exceptionTable := #[], attributes := #[] }
def k11m1 : Method := { name := "toString", desc := "()Ljava/lang/String;", sig := { parameters := [], returnType := some (.object "java/lang/String") }, accessFlags := 1, code := some k11c1 }
/-- com/example/zapros/zapros/io/sql/SqlDatabase -/
def k11 : Class := { plain "com/example/zapros/zapros/io/sql/SqlDatabase" (some 10) with
  accessFlags := 49
  interfaces := #[]
  cf := some (fileOf pool11 46 #[.nestMembers #[81]] #[{ accessFlags := 1, nameIndex := 5, descriptorIndex := 77, attributes := #[] }, { accessFlags := 1, nameIndex := 40, descriptorIndex := 41, attributes := #[] }] 49 2 #[] #[{ accessFlags := 18, nameIndex := 8, descriptorIndex := 49, attributes := #[] }, { accessFlags := 18, nameIndex := 16, descriptorIndex := 52, attributes := #[] }, { accessFlags := 18, nameIndex := 55, descriptorIndex := 56, attributes := #[] }, { accessFlags := 18, nameIndex := 18, descriptorIndex := 52, attributes := #[] }, { accessFlags := 18, nameIndex := 20, descriptorIndex := 52, attributes := #[] }, { accessFlags := 18, nameIndex := 22, descriptorIndex := 52, attributes := #[] }])
  fields := #[{ name := "driver", type := (.object "com/example/zapros/zapros/io/sql/SqlDatabase$Driver"), accessFlags := 18, slot := 0, constantValue := 0 }, { name := "host", type := (.object "java/lang/String"), accessFlags := 18, slot := 1, constantValue := 0 }, { name := "port", type := .int, accessFlags := 18, slot := 2, constantValue := 0 }, { name := "name", type := (.object "java/lang/String"), accessFlags := 18, slot := 3, constantValue := 0 }, { name := "username", type := (.object "java/lang/String"), accessFlags := 18, slot := 4, constantValue := 0 }, { name := "password", type := (.object "java/lang/String"), accessFlags := 18, slot := 5, constantValue := 0 }]
  methods := #[k11m0, k11m1]
  instanceTypes := #[(.object "com/example/zapros/zapros/io/sql/SqlDatabase$Driver"), (.object "java/lang/String"), .int, (.object "java/lang/String"), (.object "java/lang/String"), (.object "java/lang/String")]
  staticTypes := #[]
  resolved := Array.replicate 116 none
  statics := none }

def pool12 : Array CpInfo := pool [(2, .class_ 4), (1, u "java/lang/Object"), (0, u "<init>"), (0, u "()V"), (35, .class_ 44), (1, u "java/util/Objects"), (0, u "requireNonNull"), (48, u "(Ljava/lang/Object;Ljava/lang/String;)Ljava/lang/Object;")] 89

def k12m0 : Method := { name := "<init>", desc := "()V", sig := { parameters := [], returnType := none }, accessFlags := 2, code := none }
def k12c1 : Code := { maxStack := 3, maxLocals := 2, code := jdk_31_method_11_code, exceptionTable := #[], attributes := #[] }
def k12m1 : Method := { name := "requireNonNull", desc := "(Ljava/lang/Object;Ljava/lang/String;)Ljava/lang/Object;", sig := { parameters := [(.object "java/lang/Object"), (.object "java/lang/String")], returnType := some (.object "java/lang/Object") }, accessFlags := 9, code := some k12c1 }
/-- java/util/Objects -/
def k12 : Class := { plain "java/util/Objects" (some 0) with
  accessFlags := 49
  interfaces := #[]
  cf := some (fileOf pool12 42 #[] #[{ accessFlags := 2, nameIndex := 5, descriptorIndex := 6, attributes := #[] }, { accessFlags := 9, nameIndex := 45, descriptorIndex := 94, attributes := #[] }] 49 2 #[] #[])
  fields := #[]
  methods := #[k12m0, k12m1]
  instanceTypes := #[]
  staticTypes := #[]
  resolved := Array.replicate 184 none
  statics := none }

def pool13 : Array CpInfo := pool [(1, .class_ 2), (0, u "java/lang/Appendable"), (0, .class_ 4), (0, u "java/lang/Object")] 9

/-- java/lang/Appendable -/
def k13 : Class := { plain "java/lang/Appendable" (some 0) with
  accessFlags := 1537
  interfaces := #[]
  cf := some (fileOf pool13 1 #[] #[] 1537 3 #[] #[])
  fields := #[]
  methods := #[]
  instanceTypes := #[]
  staticTypes := #[]
  resolved := Array.replicate 14 none
  statics := none }

def pool14 : Array CpInfo := pool [(1, .class_ 2), (0, u "java/lang/String"), (0, .methodref 4 5), (0, .class_ 6), (0, .nameAndType 7 8), (0, u "java/lang/Object"), (0, u "<init>"), (0, u "()V"), (1, .class_ 12), (1, u "java/lang/AbstractStringBuilder"), (0, u "EMPTYVALUE"), (0, u "[B"), (0, .fieldref 10 16), (0, .nameAndType 17 14), (0, u "value"), (0, .fieldref 1 19), (0, .nameAndType 20 21), (0, u "COMPACT_STRINGS"), (0, u "Z"), (0, .fieldref 10 23), (0, .nameAndType 24 25), (0, u "coder"), (0, u "B"), (6, .methodref 1 33), (0, .nameAndType 34 35), (0, u "length"), (0, u "()I"), (0, .class_ 37), (0, u "java/lang/Integer"), (2, .methodref 1 41), (0, .nameAndType 24 42), (0, u "()B"), (2, u "append"), (0, u "(Ljava/lang/String;)Ljava/lang/AbstractStringBuilder;"), (1, .class_ 49), (0, u "java/lang/CharSequence"), (19, u "(Ljava/lang/String;)V"), (5, u "maybeLatin1"), (3, .fieldref 10 80), (0, .nameAndType 81 82), (0, u "count"), (0, u "I"), (0, .methodref 10 84), (0, .nameAndType 85 86), (0, u "isLatin1"), (0, u "()Z"), (13, .methodref 10 101), (0, .nameAndType 102 103), (0, u "ensureCapacityInternal"), (0, u "(I)V"), (3, u "(I)I"), (80, u "getChars"), (19, .methodref 10 209), (0, .nameAndType 210 211), (0, u "putStringAt"), (0, u "(ILjava/lang/String;)V"), (5, u "inflateIfNeededFor"), (2, .nameAndType 221 222), (0, u "getBytes"), (0, u "([BIB)V"), (22, .methodref 36 246), (0, .nameAndType 247 107), (0, u "stringSize"), (0, .methodref 36 249), (0, .nameAndType 188 250), (0, u "(II[B)I"), (146, .methodref 10 398), (0, .nameAndType 217 69), (0, .methodref 1 220), (3, u "()[B"), (40, .class_ 445), (0, u "java/lang/Appendable"), (65, u "(I)Ljava/lang/AbstractStringBuilder;"), (40, u "getValue")] 56

def k14m0 : Method := { name := "<init>", desc := "()V", sig := { parameters := [], returnType := none }, accessFlags := 0, code := none }
def k14c1 : Code := { maxStack := 2, maxLocals := 2, code := jdk_68_method_2_code, exceptionTable := #[], attributes := #[] }
def k14m1 : Method := { name := "<init>", desc := "(I)V", sig := { parameters := [.int], returnType := none }, accessFlags := 0, code := some k14c1 }
def k14c2 : Code := { maxStack := 1, maxLocals := 1, code := jdk_68_method_6_code, exceptionTable := #[], attributes := #[] }
def k14m2 : Method := { name := "length", desc := "()I", sig := { parameters := [], returnType := some .int }, accessFlags := 1, code := some k14c2 }
def k14c3 : Code := { maxStack := 4, maxLocals := 3, code := jdk_68_method_9_code, exceptionTable := #[], attributes := #[] }
def k14m3 : Method := { name := "ensureCapacityInternal", desc := "(I)V", sig := { parameters := [.int], returnType := none }, accessFlags := 2, code := some k14c3 }
def k14c4 : Code := { maxStack := 3, maxLocals := 3, code := jdk_68_method_22_code, exceptionTable := #[], attributes := #[] }
def k14m4 : Method := { name := "append", desc := "(Ljava/lang/String;)Ljava/lang/AbstractStringBuilder;", sig := { parameters := [(.object "java/lang/String")], returnType := some (.object "java/lang/AbstractStringBuilder") }, accessFlags := 1, code := some k14c4 }
def k14c5 : Code := { maxStack := 4, maxLocals := 4, code := jdk_68_method_32_code, exceptionTable := #[], attributes := #[] }
def k14m5 : Method := { name := "append", desc := "(I)Ljava/lang/AbstractStringBuilder;", sig := { parameters := [.int], returnType := some (.object "java/lang/AbstractStringBuilder") }, accessFlags := 1, code := some k14c5 }
def k14c6 : Code := { maxStack := 1, maxLocals := 1, code := jdk_68_method_64_code, exceptionTable := #[], attributes := #[] }
def k14m6 : Method := { name := "getValue", desc := "()[B", sig := { parameters := [], returnType := some (.array .byte) }, accessFlags := 16, code := some k14c6 }
def k14c7 : Code := { maxStack := 1, maxLocals := 1, code := jdk_68_method_68_code, exceptionTable := #[], attributes := #[] }
def k14m7 : Method := { name := "isLatin1", desc := "()Z", sig := { parameters := [], returnType := some .boolean }, accessFlags := 16, code := some k14c7 }
def k14c8 : Code := { maxStack := 2, maxLocals := 2, code := jdk_68_method_71_code, exceptionTable := #[], attributes := #[] }
def k14m8 : Method := { name := "inflateIfNeededFor", desc := "(Ljava/lang/String;)V", sig := { parameters := [(.object "java/lang/String")], returnType := none }, accessFlags := 2, code := some k14c8 }
def k14c9 : Code := { maxStack := 4, maxLocals := 3, code := jdk_68_method_73_code, exceptionTable := #[], attributes := #[] }
def k14m9 : Method := { name := "putStringAt", desc := "(ILjava/lang/String;)V", sig := { parameters := [.int, (.object "java/lang/String")], returnType := none }, accessFlags := 2, code := some k14c9 }
/-- java/lang/AbstractStringBuilder -/
def k14 : Class := { plain "java/lang/AbstractStringBuilder" (some 0) with
  accessFlags := 1056
  interfaces := #[13, 4]
  cf := some (fileOf pool14 10 #[] #[{ accessFlags := 0, nameIndex := 7, descriptorIndex := 8, attributes := #[] }, { accessFlags := 0, nameIndex := 7, descriptorIndex := 103, attributes := #[] }, { accessFlags := 1, nameIndex := 34, descriptorIndex := 35, attributes := #[] }, { accessFlags := 2, nameIndex := 102, descriptorIndex := 103, attributes := #[] }, { accessFlags := 1, nameIndex := 45, descriptorIndex := 46, attributes := #[] }, { accessFlags := 1, nameIndex := 45, descriptorIndex := 511, attributes := #[] }, { accessFlags := 16, nameIndex := 552, descriptorIndex := 403, attributes := #[] }, { accessFlags := 16, nameIndex := 85, descriptorIndex := 86, attributes := #[] }, { accessFlags := 2, nameIndex := 217, descriptorIndex := 69, attributes := #[] }, { accessFlags := 2, nameIndex := 210, descriptorIndex := 211, attributes := #[] }] 1056 4 #[444, 48] #[{ accessFlags := 0, nameIndex := 17, descriptorIndex := 14, attributes := #[] }, { accessFlags := 0, nameIndex := 24, descriptorIndex := 25, attributes := #[] }, { accessFlags := 0, nameIndex := 75, descriptorIndex := 21, attributes := #[] }, { accessFlags := 0, nameIndex := 81, descriptorIndex := 82, attributes := #[] }, { accessFlags := 26, nameIndex := 13, descriptorIndex := 14, attributes := #[] }])
  fields := #[{ name := "value", type := (.array .byte), accessFlags := 0, slot := 0, constantValue := 0 }, { name := "coder", type := .byte, accessFlags := 0, slot := 1, constantValue := 0 }, { name := "maybeLatin1", type := .boolean, accessFlags := 0, slot := 2, constantValue := 0 }, { name := "count", type := .int, accessFlags := 0, slot := 3, constantValue := 0 }, { name := "EMPTYVALUE", type := (.array .byte), accessFlags := 26, slot := 0, constantValue := 0 }]
  methods := #[k14m0, k14m1, k14m2, k14m3, k14m4, k14m5, k14m6, k14m7, k14m8, k14m9]
  instanceTypes := #[(.array .byte), .byte, .boolean, .int]
  staticTypes := #[(.array .byte)]
  resolved := Array.replicate 609 none
  statics := none }

def pool15 : Array CpInfo := pool [(1, .methodref 2 3), (0, .class_ 4), (0, .nameAndType 5 6), (0, u "java/lang/AbstractStringBuilder"), (0, u "<init>"), (0, u "(I)V"), (11, .class_ 20), (1, u "java/lang/String"), (3, .class_ 26), (1, u "java/lang/StringBuilder"), (0, u "append"), (0, u "(Ljava/lang/String;)Ljava/lang/StringBuilder;"), (0, .methodref 2 30), (0, .nameAndType 27 31), (0, u "(Ljava/lang/String;)Ljava/lang/AbstractStringBuilder;"), (21, .methodref 2 54), (0, .nameAndType 27 55), (0, u "(I)Ljava/lang/AbstractStringBuilder;"), (81, .methodref 18 138), (0, .nameAndType 5 139), (0, u "(Ljava/lang/StringBuilder;)V"), (5, u "()V"), (10, u "()I"), (111, u "(I)Ljava/lang/StringBuilder;"), (74, .methodref 2 344), (0, .nameAndType 345 156), (0, u "length"), (3, .class_ 350), (0, u "java/lang/Appendable"), (0, .class_ 352), (0, u "java/io/Serializable"), (0, .class_ 354), (0, u "java/lang/Comparable"), (0, .class_ 356), (0, u "java/lang/CharSequence"), (0, u "serialVersionUID"), (0, u "J"), (40, u "toString"), (0, u "()Ljava/lang/String;")] 21

def k15c0 : Code := { maxStack := 2, maxLocals := 1, code := jdk_67_method_1_code, exceptionTable := #[], attributes := #[] }
def k15m0 : Method := { name := "<init>", desc := "()V", sig := { parameters := [], returnType := none }, accessFlags := 1, code := some k15c0 }
def k15c1 : Code := { maxStack := 2, maxLocals := 2, code := jdk_67_method_7_code, exceptionTable := #[], attributes := #[] }
def k15m1 : Method := { name := "append", desc := "(Ljava/lang/String;)Ljava/lang/StringBuilder;", sig := { parameters := [(.object "java/lang/String")], returnType := some (.object "java/lang/StringBuilder") }, accessFlags := 1, code := some k15c1 }
def k15c2 : Code := { maxStack := 2, maxLocals := 2, code := jdk_67_method_15_code, exceptionTable := #[], attributes := #[] }
def k15m2 : Method := { name := "append", desc := "(I)Ljava/lang/StringBuilder;", sig := { parameters := [.int], returnType := some (.object "java/lang/StringBuilder") }, accessFlags := 1, code := some k15c2 }
def k15c3 : Code := { maxStack := 3, maxLocals := 1, code := jdk_67_method_42_code, exceptionTable := #[], attributes := #[] }
def k15m3 : Method := { name := "toString", desc := "()Ljava/lang/String;", sig := { parameters := [], returnType := some (.object "java/lang/String") }, accessFlags := 1, code := some k15c3 }
def k15c4 : Code := { maxStack := 1, maxLocals := 1, code := jdk_67_method_93_code, exceptionTable := #[], attributes := #[] }
def k15m4 : Method := { name := "length", desc := "()I", sig := { parameters := [], returnType := some .int }, accessFlags := 4161, code := some k15c4 }
/-- java/lang/StringBuilder -/
def k15 : Class := { plain "java/lang/StringBuilder" (some 14) with
  accessFlags := 49
  interfaces := #[13, 2, 3, 4]
  cf := some (fileOf pool15 24 #[] #[{ accessFlags := 1, nameIndex := 5, descriptorIndex := 145, attributes := #[] }, { accessFlags := 1, nameIndex := 27, descriptorIndex := 28, attributes := #[] }, { accessFlags := 1, nameIndex := 27, descriptorIndex := 268, attributes := #[] }, { accessFlags := 1, nameIndex := 399, descriptorIndex := 400, attributes := #[] }, { accessFlags := 4161, nameIndex := 345, descriptorIndex := 156, attributes := #[] }] 49 2 #[349, 351, 353, 355] #[{ accessFlags := 24, nameIndex := 357, descriptorIndex := 358, attributes := #[] }])
  fields := #[{ name := "serialVersionUID", type := .long, accessFlags := 24, slot := 0, constantValue := 0 }]
  methods := #[k15m0, k15m1, k15m2, k15m3, k15m4]
  instanceTypes := #[(.array .byte), .byte, .boolean, .int]
  staticTypes := #[.long]
  resolved := Array.replicate 422 none
  statics := none }

def pool16 : Array CpInfo := pool [(2, .class_ 4), (1, u "java/lang/Object"), (0, u "<init>"), (0, u "()V"), (1, .class_ 10), (1, u "java/lang/System"), (0, u "allowSecurityManager"), (0, u "I"), (16, u "cons"), (0, u "Ljava/io/Console;"), (77, .class_ 110), (1, u "java/lang/System$CallersHolder"), (43, u "initialErrStream"), (0, u "Ljava/io/PrintStream;"), (19, u "security"), (0, u "Ljava/lang/SecurityManager;"), (31, .class_ 209), (0, u "java/lang/System$1"), (7, u "props"), (0, u "Ljava/util/Properties;"), (2, u "lineSeparator"), (0, u "Ljava/lang/String;"), (96, .class_ 321), (1, u "java/lang/System$LoggerFinder"), (5, .class_ 328), (0, u "java/lang/System$Logger"), (67, u "err"), (2, u "out"), (91, u "notSupportedJnuEncoding"), (15, u "in"), (17, u "initialIn"), (0, u "Ljava/io/InputStream;"), (35, u "bootLayer"), (0, u "Ljava/lang/ModuleLayer;"), (99, .class_ 664), (0, u "java/lang/System$2"), (9, u "NEVER"), (2, u "MAYBE"), (49, u "arraycopy"), (0, u "(Ljava/lang/Object;ILjava/lang/Object;II)V"), (72, .class_ 802), (0, u "java/lang/System$Logger$Level")] 31

def k16m0 : Method := { name := "<init>", desc := "()V", sig := { parameters := [], returnType := none }, accessFlags := 2, code := none }
def k16m1 : Method := { name := "arraycopy", desc := "(Ljava/lang/Object;ILjava/lang/Object;II)V", sig := { parameters := [(.object "java/lang/Object"), .int, (.object "java/lang/Object"), .int, .int], returnType := none }, accessFlags := 265, code := none }
/-- java/lang/System -/
def k16 : Class := { plain "java/lang/System" (some 0) with
  accessFlags := 49
  interfaces := #[]
  cf := some (fileOf pool16 8 #[.nestMembers #[319, 327, 801, 108, 663, 208]] #[{ accessFlags := 2, nameIndex := 5, descriptorIndex := 6, attributes := #[] }, { accessFlags := 265, nameIndex := 727, descriptorIndex := 728, attributes := #[] }] 49 2 #[] #[{ accessFlags := 25, nameIndex := 507, descriptorIndex := 526, attributes := #[] }, { accessFlags := 25, nameIndex := 399, descriptorIndex := 155, attributes := #[] }, { accessFlags := 25, nameIndex := 396, descriptorIndex := 155, attributes := #[] }, { accessFlags := 10, nameIndex := 525, descriptorIndex := 526, attributes := #[] }, { accessFlags := 26, nameIndex := 674, descriptorIndex := 12, attributes := #[] }, { accessFlags := 26, nameIndex := 677, descriptorIndex := 12, attributes := #[] }, { accessFlags := 10, nameIndex := 11, descriptorIndex := 12, attributes := #[] }, { accessFlags := 74, nameIndex := 175, descriptorIndex := 176, attributes := #[] }, { accessFlags := 10, nameIndex := 491, descriptorIndex := 222, attributes := #[] }, { accessFlags := 74, nameIndex := 29, descriptorIndex := 30, attributes := #[] }, { accessFlags := 74, nameIndex := 154, descriptorIndex := 155, attributes := #[] }, { accessFlags := 10, nameIndex := 217, descriptorIndex := 218, attributes := #[] }, { accessFlags := 10, nameIndex := 221, descriptorIndex := 222, attributes := #[] }, { accessFlags := 8, nameIndex := 562, descriptorIndex := 563, attributes := #[] }])
  fields := #[{ name := "in", type := (.object "java/io/InputStream"), accessFlags := 25, slot := 0, constantValue := 0 }, { name := "out", type := (.object "java/io/PrintStream"), accessFlags := 25, slot := 1, constantValue := 0 }, { name := "err", type := (.object "java/io/PrintStream"), accessFlags := 25, slot := 2, constantValue := 0 }, { name := "initialIn", type := (.object "java/io/InputStream"), accessFlags := 10, slot := 3, constantValue := 0 }, { name := "NEVER", type := .int, accessFlags := 26, slot := 4, constantValue := 0 }, { name := "MAYBE", type := .int, accessFlags := 26, slot := 5, constantValue := 0 }, { name := "allowSecurityManager", type := .int, accessFlags := 10, slot := 6, constantValue := 0 }, { name := "security", type := (.object "java/lang/SecurityManager"), accessFlags := 74, slot := 7, constantValue := 0 }, { name := "notSupportedJnuEncoding", type := (.object "java/lang/String"), accessFlags := 10, slot := 8, constantValue := 0 }, { name := "cons", type := (.object "java/io/Console"), accessFlags := 74, slot := 9, constantValue := 0 }, { name := "initialErrStream", type := (.object "java/io/PrintStream"), accessFlags := 74, slot := 10, constantValue := 0 }, { name := "props", type := (.object "java/util/Properties"), accessFlags := 10, slot := 11, constantValue := 0 }, { name := "lineSeparator", type := (.object "java/lang/String"), accessFlags := 10, slot := 12, constantValue := 0 }, { name := "bootLayer", type := (.object "java/lang/ModuleLayer"), accessFlags := 8, slot := 13, constantValue := 0 }]
  methods := #[k16m0, k16m1]
  instanceTypes := #[]
  staticTypes := #[(.object "java/io/InputStream"), (.object "java/io/PrintStream"), (.object "java/io/PrintStream"), (.object "java/io/InputStream"), .int, .int, .int, (.object "java/lang/SecurityManager"), (.object "java/lang/String"), (.object "java/io/Console"), (.object "java/io/PrintStream"), (.object "java/util/Properties"), (.object "java/lang/String"), (.object "java/lang/ModuleLayer")]
  resolved := Array.replicate 834 none
  statics := none }

def pool17 : Array CpInfo := pool [(2, .class_ 4), (1, u "java/lang/Object"), (0, u "<init>"), (0, u "()V"), (1, .class_ 10), (1, u "java/lang/Number"), (2, .class_ 14), (0, u "java/io/Serializable"), (0, u "serialVersionUID"), (0, u "J")] 20

def k17m0 : Method := { name := "<init>", desc := "()V", sig := { parameters := [], returnType := none }, accessFlags := 1, code := none }
/-- java/lang/Number -/
def k17 : Class := { plain "java/lang/Number" (some 0) with
  accessFlags := 1057
  interfaces := #[2]
  cf := some (fileOf pool17 8 #[] #[{ accessFlags := 1, nameIndex := 5, descriptorIndex := 6, attributes := #[] }] 1057 2 #[13] #[{ accessFlags := 26, nameIndex := 15, descriptorIndex := 16, attributes := #[] }])
  fields := #[{ name := "serialVersionUID", type := .long, accessFlags := 26, slot := 0, constantValue := 0 }]
  methods := #[k17m0]
  instanceTypes := #[]
  staticTypes := #[.long]
  resolved := Array.replicate 37 none
  statics := none }

def pool18 : Array CpInfo := pool [(1, .class_ 2), (0, u "java/lang/Integer"), (16, u "digits"), (0, u "[C"), (33, u "(I)I"), (19, u "stringSize"), (2, u "getChars"), (0, u "(II[B)I"), (4, .fieldref 1 84), (0, .nameAndType 85 86), (0, u "DigitOnes"), (0, u "[B"), (0, .fieldref 1 88), (0, .nameAndType 89 86), (0, u "DigitTens"), (99, .class_ 190), (0, u "java/lang/Integer$IntegerCache"), (3, u "I"), (8, .class_ 204), (0, u "java/lang/Number"), (2, u "value"), (94, u "TYPE"), (0, u "Ljava/lang/Class;"), (0, .class_ 305), (0, u "java/lang/Comparable"), (0, .class_ 307), (0, u "java/lang/constant/Constable"), (0, .class_ 309), (0, u "java/lang/constant/ConstantDesc"), (0, u "MIN_VALUE"), (1, u "MAX_VALUE"), (3, u "SIZE"), (1, u "BYTES"), (1, u "serialVersionUID"), (0, u "J")] 131

def k18c0 : Code := { maxStack := 4, maxLocals := 7, code := jdk_33_method_12_code, exceptionTable := #[], attributes := #[] }
def k18m0 : Method := { name := "getChars", desc := "(II[B)I", sig := { parameters := [.int, .int, (.array .byte)], returnType := some .int }, accessFlags := 8, code := some k18c0 }
def k18c1 : Code := { maxStack := 2, maxLocals := 4, code := jdk_33_method_13_code, exceptionTable := #[], attributes := #[] }
def k18m1 : Method := { name := "stringSize", desc := "(I)I", sig := { parameters := [.int], returnType := some .int }, accessFlags := 8, code := some k18c1 }
/-- java/lang/Integer -/
def k18 : Class := { plain "java/lang/Integer" (some 17) with
  accessFlags := 49
  interfaces := #[3, 5, 6]
  cf := some (fileOf pool18 1 #[.nestMembers #[189]] #[{ accessFlags := 8, nameIndex := 77, descriptorIndex := 78, attributes := #[] }, { accessFlags := 8, nameIndex := 74, descriptorIndex := 54, attributes := #[] }] 49 203 #[304, 306, 308] #[{ accessFlags := 25, nameIndex := 310, descriptorIndex := 194, attributes := #[] }, { accessFlags := 25, nameIndex := 312, descriptorIndex := 194, attributes := #[] }, { accessFlags := 25, nameIndex := 302, descriptorIndex := 303, attributes := #[] }, { accessFlags := 24, nameIndex := 19, descriptorIndex := 20, attributes := #[] }, { accessFlags := 24, nameIndex := 89, descriptorIndex := 86, attributes := #[] }, { accessFlags := 24, nameIndex := 85, descriptorIndex := 86, attributes := #[] }, { accessFlags := 18, nameIndex := 207, descriptorIndex := 194, attributes := #[] }, { accessFlags := 25, nameIndex := 316, descriptorIndex := 194, attributes := #[] }, { accessFlags := 25, nameIndex := 318, descriptorIndex := 194, attributes := #[] }, { accessFlags := 26, nameIndex := 320, descriptorIndex := 321, attributes := #[] }])
  fields := #[{ name := "MIN_VALUE", type := .int, accessFlags := 25, slot := 0, constantValue := 0 }, { name := "MAX_VALUE", type := .int, accessFlags := 25, slot := 1, constantValue := 0 }, { name := "TYPE", type := (.object "java/lang/Class"), accessFlags := 25, slot := 2, constantValue := 0 }, { name := "digits", type := (.array .char), accessFlags := 24, slot := 3, constantValue := 0 }, { name := "DigitTens", type := (.array .byte), accessFlags := 24, slot := 4, constantValue := 0 }, { name := "DigitOnes", type := (.array .byte), accessFlags := 24, slot := 5, constantValue := 0 }, { name := "value", type := .int, accessFlags := 18, slot := 0, constantValue := 0 }, { name := "SIZE", type := .int, accessFlags := 25, slot := 6, constantValue := 0 }, { name := "BYTES", type := .int, accessFlags := 25, slot := 7, constantValue := 0 }, { name := "serialVersionUID", type := .long, accessFlags := 26, slot := 8, constantValue := 0 }]
  methods := #[k18m0, k18m1]
  instanceTypes := #[.int]
  staticTypes := #[.int, .int, (.object "java/lang/Class"), (.array .char), (.array .byte), (.array .byte), .int, .int, .long]
  resolved := Array.replicate 453 none
  statics := some 2 }

def pool19 : Array CpInfo := pool [(2, .class_ 4), (1, u "java/lang/Object"), (0, u "<init>"), (0, u "()V"), (7, .class_ 16), (1, u "java/util/Arrays"), (57, .class_ 76), (1, u "java/util/Arrays$NaturalOrder"), (36, .class_ 115), (1, u "java/util/Arrays$LegacyMergeSort"), (1, u "Z"), (21, u "copyOfRange"), (10, .methodref 151 152), (0, .class_ 153), (0, .nameAndType 154 155), (0, u "java/lang/System"), (0, u "arraycopy"), (0, u "(Ljava/lang/Object;ILjava/lang/Object;II)V"), (148, .methodref 305 306), (0, .class_ 307), (0, .nameAndType 308 309), (0, u "java/lang/Math"), (0, u "min"), (0, u "(II)I"), (29, .methodref 14 340), (0, .nameAndType 341 342), (0, u "copyOfRangeByte"), (0, u "([BII)[B"), (0, .methodref 14 344), (0, .nameAndType 345 346), (0, u "checkLength"), (0, u "(II)V"), (28, .class_ 376), (0, u "java/util/Arrays$ArrayList"), (68, u "$assertionsDisabled"), (269, u "MIN_ARRAY_SORT_GRAN"), (0, u "I"), (2, u "INSERTIONSORT_THRESHOLD"), (255, .class_ 976), (0, u "java/util/Arrays$ArrayItr")] 52

def k19m0 : Method := { name := "<init>", desc := "()V", sig := { parameters := [], returnType := none }, accessFlags := 2, code := none }
def k19c1 : Code := { maxStack := 4, maxLocals := 2, code := jdk_65_method_131_code, exceptionTable := #[], attributes := #[] }
def k19m1 : Method := { name := "checkLength", desc := "(II)V", sig := { parameters := [.int, .int], returnType := none }, accessFlags := 10, code := some k19c1 }
def k19c2 : Code := { maxStack := 3, maxLocals := 3, code := jdk_65_method_132_code, exceptionTable := #[], attributes := #[] }
def k19m2 : Method := { name := "copyOfRange", desc := "([BII)[B", sig := { parameters := [(.array .byte), .int, .int], returnType := some (.array .byte) }, accessFlags := 9, code := some k19c2 }
def k19c3 : Code := { maxStack := 6, maxLocals := 5, code := jdk_65_method_133_code, exceptionTable := #[], attributes := #[] }
def k19m3 : Method := { name := "copyOfRangeByte", desc := "([BII)[B", sig := { parameters := [(.array .byte), .int, .int], returnType := some (.array .byte) }, accessFlags := 10, code := some k19c3 }
/-- java/util/Arrays -/
def k19 : Class := { plain "java/util/Arrays" (some 0) with
  accessFlags := 49
  interfaces := #[]
  cf := some (fileOf pool19 14 #[.nestMembers #[975, 375, 113, 74]] #[{ accessFlags := 2, nameIndex := 5, descriptorIndex := 6, attributes := #[] }, { accessFlags := 10, nameIndex := 345, descriptorIndex := 346, attributes := #[] }, { accessFlags := 9, nameIndex := 139, descriptorIndex := 342, attributes := #[] }, { accessFlags := 10, nameIndex := 341, descriptorIndex := 342, attributes := #[] }] 49 2 #[] #[{ accessFlags := 26, nameIndex := 715, descriptorIndex := 716, attributes := #[] }, { accessFlags := 26, nameIndex := 719, descriptorIndex := 716, attributes := #[] }, { accessFlags := 4120, nameIndex := 445, descriptorIndex := 117, attributes := #[] }])
  fields := #[{ name := "MIN_ARRAY_SORT_GRAN", type := .int, accessFlags := 26, slot := 0, constantValue := 0 }, { name := "INSERTIONSORT_THRESHOLD", type := .int, accessFlags := 26, slot := 1, constantValue := 0 }, { name := "$assertionsDisabled", type := .boolean, accessFlags := 4120, slot := 2, constantValue := 0 }]
  methods := #[k19m0, k19m1, k19m2, k19m3]
  instanceTypes := #[]
  staticTypes := #[.int, .int, .boolean]
  resolved := Array.replicate 1029 none
  statics := none }

def pool20 : Array CpInfo := pool [(1, .class_ 2), (0, u "java/lang/Math"), (1, .class_ 6), (1, u "java/lang/Object"), (0, u "<init>"), (0, u "()V"), (89, .class_ 100), (1, u "java/lang/Math$RandomNumberGeneratorHolder"), (71, u "negativeZeroFloatBits"), (0, u "J"), (2, u "negativeZeroDoubleBits"), (24, u "min"), (43, u "$assertionsDisabled"), (0, u "Z"), (88, u "(II)I"), (2, u "twoToTheDoubleScaleDown"), (0, u "D"), (4, u "twoToTheDoubleScaleUp"), (9, u "E"), (3, u "PI"), (2, u "TAU"), (2, u "DEGREES_TO_RADIANS"), (0, u "RADIANS_TO_DEGREES")] 94

def k20m0 : Method := { name := "<init>", desc := "()V", sig := { parameters := [], returnType := none }, accessFlags := 2, code := none }
def k20c1 : Code := { maxStack := 2, maxLocals := 2, code := jdk_29_method_69_code, exceptionTable := #[], attributes := #[] }
def k20m1 : Method := { name := "min", desc := "(II)I", sig := { parameters := [.int, .int], returnType := some .int }, accessFlags := 9, code := some k20c1 }
/-- java/lang/Math -/
def k20 : Class := { plain "java/lang/Math" (some 0) with
  accessFlags := 49
  interfaces := #[]
  cf := some (fileOf pool20 1 #[.nestMembers #[98]] #[{ accessFlags := 2, nameIndex := 7, descriptorIndex := 8, attributes := #[] }, { accessFlags := 9, nameIndex := 201, descriptorIndex := 335, attributes := #[] }] 49 4 #[] #[{ accessFlags := 25, nameIndex := 354, descriptorIndex := 339, attributes := #[] }, { accessFlags := 25, nameIndex := 358, descriptorIndex := 339, attributes := #[] }, { accessFlags := 25, nameIndex := 361, descriptorIndex := 339, attributes := #[] }, { accessFlags := 26, nameIndex := 364, descriptorIndex := 339, attributes := #[] }, { accessFlags := 26, nameIndex := 365, descriptorIndex := 339, attributes := #[] }, { accessFlags := 26, nameIndex := 172, descriptorIndex := 173, attributes := #[] }, { accessFlags := 26, nameIndex := 176, descriptorIndex := 173, attributes := #[] }, { accessFlags := 8, nameIndex := 344, descriptorIndex := 339, attributes := #[] }, { accessFlags := 8, nameIndex := 338, descriptorIndex := 339, attributes := #[] }, { accessFlags := 4120, nameIndex := 245, descriptorIndex := 246, attributes := #[] }])
  fields := #[{ name := "E", type := .double, accessFlags := 25, slot := 0, constantValue := 0 }, { name := "PI", type := .double, accessFlags := 25, slot := 1, constantValue := 0 }, { name := "TAU", type := .double, accessFlags := 25, slot := 2, constantValue := 0 }, { name := "DEGREES_TO_RADIANS", type := .double, accessFlags := 26, slot := 3, constantValue := 0 }, { name := "RADIANS_TO_DEGREES", type := .double, accessFlags := 26, slot := 4, constantValue := 0 }, { name := "negativeZeroFloatBits", type := .long, accessFlags := 26, slot := 5, constantValue := 0 }, { name := "negativeZeroDoubleBits", type := .long, accessFlags := 26, slot := 6, constantValue := 0 }, { name := "twoToTheDoubleScaleUp", type := .double, accessFlags := 8, slot := 7, constantValue := 0 }, { name := "twoToTheDoubleScaleDown", type := .double, accessFlags := 8, slot := 8, constantValue := 0 }, { name := "$assertionsDisabled", type := .boolean, accessFlags := 4120, slot := 9, constantValue := 0 }]
  methods := #[k20m0, k20m1]
  instanceTypes := #[]
  staticTypes := #[.double, .double, .double, .double, .double, .long, .long, .double, .double, .boolean]
  resolved := Array.replicate 460 none
  statics := none }

def pool21 : Array CpInfo := pool [(1, .class_ 2), (0, u "java/lang/String"), (1, .class_ 6), (1, u "java/lang/Object"), (0, u "<init>"), (0, u "()V"), (0, .methodref 1 10), (0, .nameAndType 11 12), (0, u "checkIndex"), (0, u "(II)V"), (1, .class_ 16), (1, u "java/lang/StringLatin1"), (36, u "([BI)C"), (67, u "$assertionsDisabled"), (0, u "Z"), (98, .class_ 223), (1, u "java/lang/StringLatin1$LinesSpliterator"), (28, u "charAt"), (137, .class_ 391), (0, u "java/lang/StringLatin1$CharsSpliterator")] 3

def k21m0 : Method := { name := "<init>", desc := "()V", sig := { parameters := [], returnType := none }, accessFlags := 0, code := none }
def k21c1 : Code := { maxStack := 2, maxLocals := 2, code := jdk_43_method_2_code, exceptionTable := #[], attributes := #[] }
def k21m1 : Method := { name := "charAt", desc := "([BI)C", sig := { parameters := [(.array .byte), .int], returnType := some .char }, accessFlags := 9, code := some k21c1 }
/-- java/lang/StringLatin1 -/
def k21 : Class := { plain "java/lang/StringLatin1" (some 0) with
  accessFlags := 48
  interfaces := #[]
  cf := some (fileOf pool21 14 #[.nestMembers #[390, 221]] #[{ accessFlags := 0, nameIndex := 7, descriptorIndex := 8, attributes := #[] }, { accessFlags := 9, nameIndex := 252, descriptorIndex := 53, attributes := #[] }] 48 4 #[] #[{ accessFlags := 4120, nameIndex := 121, descriptorIndex := 122, attributes := #[] }])
  fields := #[{ name := "$assertionsDisabled", type := .boolean, accessFlags := 4120, slot := 0, constantValue := 0 }]
  methods := #[k21m0, k21m1]
  instanceTypes := #[]
  staticTypes := #[.boolean]
  resolved := Array.replicate 395 none
  statics := none }

def pool22 : Array CpInfo := pool [(2, .class_ 4), (1, u "java/lang/Object"), (0, u "<init>"), (0, u "()V"), (17, .class_ 26), (1, u "jdk/internal/util/Preconditions"), (6, u "checkIndex"), (21, .class_ 56), (0, u "jdk/internal/util/Preconditions$4"), (57, .class_ 115), (0, u "jdk/internal/util/Preconditions$1"), (7, u "SIOOBE_FORMATTER"), (0, u "Ljava/util/function/BiFunction;"), (0, .class_ 126), (0, u "jdk/internal/util/Preconditions$2"), (3, u "AIOOBE_FORMATTER"), (0, .class_ 132), (0, u "jdk/internal/util/Preconditions$3"), (3, u "IOOBE_FORMATTER"), (41, u "(IILjava/util/function/BiFunction;)I")] 15

def k22m0 : Method := { name := "<init>", desc := "()V", sig := { parameters := [], returnType := none }, accessFlags := 1, code := none }
def k22c1 : Code := { maxStack := 3, maxLocals := 3, code := jdk_41_method_11_code, exceptionTable := #[], attributes := #[] }
def k22m1 : Method := { name := "checkIndex", desc := "(IILjava/util/function/BiFunction;)I", sig := { parameters := [.int, .int, (.object "java/util/function/BiFunction")], returnType := some .int }, accessFlags := 9, code := some k22c1 }
/-- jdk/internal/util/Preconditions -/
def k22 : Class := { plain "jdk/internal/util/Preconditions" (some 0) with
  accessFlags := 33
  interfaces := #[]
  cf := some (fileOf pool22 24 #[.nestMembers #[55, 131, 125, 114]] #[{ accessFlags := 1, nameIndex := 5, descriptorIndex := 6, attributes := #[] }, { accessFlags := 9, nameIndex := 33, descriptorIndex := 178, attributes := #[] }] 33 2 #[] #[{ accessFlags := 25, nameIndex := 123, descriptorIndex := 124, attributes := #[] }, { accessFlags := 25, nameIndex := 130, descriptorIndex := 124, attributes := #[] }, { accessFlags := 25, nameIndex := 136, descriptorIndex := 124, attributes := #[] }])
  fields := #[{ name := "SIOOBE_FORMATTER", type := (.object "java/util/function/BiFunction"), accessFlags := 25, slot := 0, constantValue := 0 }, { name := "AIOOBE_FORMATTER", type := (.object "java/util/function/BiFunction"), accessFlags := 25, slot := 1, constantValue := 0 }, { name := "IOOBE_FORMATTER", type := (.object "java/util/function/BiFunction"), accessFlags := 25, slot := 2, constantValue := 0 }]
  methods := #[k22m0, k22m1]
  instanceTypes := #[]
  staticTypes := #[(.object "java/util/function/BiFunction"), (.object "java/util/function/BiFunction"), (.object "java/util/function/BiFunction")]
  resolved := Array.replicate 194 none
  statics := some 3 }

def pool23 : Array CpInfo := pool [(6, .class_ 8), (1, u "java/lang/Object"), (0, u "<init>"), (0, u "()V"), (1, .class_ 14), (1, u "java/lang/StringUTF16"), (31, u "$assertionsDisabled"), (0, u "Z"), (13, u "HI_BYTE_SHIFT"), (0, u "I"), (2, u "LO_BYTE_SHIFT"), (49, .methodref 12 116), (0, .nameAndType 117 118), (0, u "compress"), (0, u "([CI[BII)I"), (3, u "([CII)[B"), (138, u "coderFromArrayLen"), (0, u "([BI)B"), (106, .class_ 371), (1, u "java/lang/StringUTF16$LinesSpliterator"), (58, u "MAX_LENGTH"), (196, .class_ 628), (0, u "java/lang/StringUTF16$CodePointsSpliterator"), (0, .class_ 630), (0, u "java/lang/StringUTF16$CharsSpliterator")] 4

def k23m0 : Method := { name := "<init>", desc := "()V", sig := { parameters := [], returnType := none }, accessFlags := 0, code := none }
def k23c1 : Code := { maxStack := 2, maxLocals := 2, code := jdk_52_method_15_code, exceptionTable := #[], attributes := #[] }
def k23m1 : Method := { name := "coderFromArrayLen", desc := "([BI)B", sig := { parameters := [(.array .byte), .int], returnType := some .byte }, accessFlags := 8, code := some k23c1 }
def k23c2 : Code := { maxStack := 5, maxLocals := 6, code := jdk_52_method_16_code, exceptionTable := #[], attributes := #[] }
def k23m2 : Method := { name := "compress", desc := "([CII)[B", sig := { parameters := [(.array .char), .int, .int], returnType := some (.array .byte) }, accessFlags := 9, code := some k23c2 }
def k23c3 : Code := { maxStack := 3, maxLocals := 7, code := jdk_52_method_21_code, exceptionTable := #[], attributes := #[] }
def k23m3 : Method := { name := "compress", desc := "([CI[BII)I", sig := { parameters := [(.array .char), .int, (.array .byte), .int, .int], returnType := some .int }, accessFlags := 9, code := some k23c3 }
/-- java/lang/StringUTF16 -/
def k23 : Class := { plain "java/lang/StringUTF16" (some 0) with
  accessFlags := 48
  interfaces := #[]
  cf := some (fileOf pool23 12 #[.nestMembers #[627, 629, 369]] #[{ accessFlags := 0, nameIndex := 9, descriptorIndex := 10, attributes := #[] }, { accessFlags := 8, nameIndex := 261, descriptorIndex := 262, attributes := #[] }, { accessFlags := 9, nameIndex := 117, descriptorIndex := 122, attributes := #[] }, { accessFlags := 9, nameIndex := 117, descriptorIndex := 118, attributes := #[] }] 48 6 #[] #[{ accessFlags := 26, nameIndex := 61, descriptorIndex := 62, attributes := #[] }, { accessFlags := 26, nameIndex := 65, descriptorIndex := 62, attributes := #[] }, { accessFlags := 24, nameIndex := 430, descriptorIndex := 62, attributes := #[] }, { accessFlags := 4120, nameIndex := 46, descriptorIndex := 47, attributes := #[] }])
  fields := #[{ name := "HI_BYTE_SHIFT", type := .int, accessFlags := 26, slot := 0, constantValue := 0 }, { name := "LO_BYTE_SHIFT", type := .int, accessFlags := 26, slot := 1, constantValue := 0 }, { name := "MAX_LENGTH", type := .int, accessFlags := 24, slot := 2, constantValue := 0 }, { name := "$assertionsDisabled", type := .boolean, accessFlags := 4120, slot := 3, constantValue := 0 }]
  methods := #[k23m0, k23m1, k23m2, k23m3]
  instanceTypes := #[]
  staticTypes := #[.int, .int, .int, .boolean]
  resolved := Array.replicate 635 none
  statics := none }

def pool24 : Array CpInfo := pool [(9, u "<init>"), (6, .class_ 18), (1, u "java/lang/Object"), (0, u "()V"), (1, .class_ 23), (1, u "jdk/internal/util/ArraysSupport"), (0, u "LOG2_ARRAY_LONG_INDEX_SCALE"), (0, u "I"), (2, u "U"), (0, u "Ljdk/internal/misc/Unsafe;"), (8, u "BIG_ENDIAN"), (0, u "Z"), (8, u "LOG2_BYTE_BIT_SIZE"), (4, u "LOG2_ARRAY_INT_INDEX_SCALE"), (54, u "JLA"), (0, u "Ljdk/internal/access/JavaLangAccess;"), (11, u "LOG2_ARRAY_BOOLEAN_INDEX_SCALE"), (9, u "LOG2_ARRAY_BYTE_INDEX_SCALE"), (5, u "LOG2_ARRAY_CHAR_INDEX_SCALE"), (5, u "LOG2_ARRAY_SHORT_INDEX_SCALE"), (18, u "LOG2_ARRAY_FLOAT_INDEX_SCALE"), (24, u "LOG2_ARRAY_DOUBLE_INDEX_SCALE"), (89, u "T_BOOLEAN"), (2, u "T_CHAR"), (1, u "T_FLOAT"), (1, u "T_DOUBLE"), (1, u "T_BYTE"), (1, u "T_SHORT"), (1, u "T_INT"), (1, u "T_LONG"), (1, u "SOFT_MAX_ARRAY_LENGTH")] 83

def k24m0 : Method := { name := "<init>", desc := "()V", sig := { parameters := [], returnType := none }, accessFlags := 2, code := none }
/-- jdk/internal/util/ArraysSupport -/
def k24 : Class := { plain "jdk/internal/util/ArraysSupport" (some 0) with
  accessFlags := 33
  interfaces := #[]
  cf := some (fileOf pool24 21 #[] #[{ accessFlags := 2, nameIndex := 9, descriptorIndex := 19, attributes := #[] }] 33 16 #[] #[{ accessFlags := 24, nameIndex := 28, descriptorIndex := 29, attributes := #[] }, { accessFlags := 26, nameIndex := 38, descriptorIndex := 39, attributes := #[] }, { accessFlags := 25, nameIndex := 121, descriptorIndex := 25, attributes := #[] }, { accessFlags := 25, nameIndex := 131, descriptorIndex := 25, attributes := #[] }, { accessFlags := 25, nameIndex := 137, descriptorIndex := 25, attributes := #[] }, { accessFlags := 25, nameIndex := 143, descriptorIndex := 25, attributes := #[] }, { accessFlags := 25, nameIndex := 53, descriptorIndex := 25, attributes := #[] }, { accessFlags := 25, nameIndex := 24, descriptorIndex := 25, attributes := #[] }, { accessFlags := 25, nameIndex := 162, descriptorIndex := 25, attributes := #[] }, { accessFlags := 25, nameIndex := 187, descriptorIndex := 25, attributes := #[] }, { accessFlags := 26, nameIndex := 48, descriptorIndex := 25, attributes := #[] }, { accessFlags := 25, nameIndex := 277, descriptorIndex := 25, attributes := #[] }, { accessFlags := 25, nameIndex := 280, descriptorIndex := 25, attributes := #[] }, { accessFlags := 25, nameIndex := 282, descriptorIndex := 25, attributes := #[] }, { accessFlags := 25, nameIndex := 284, descriptorIndex := 25, attributes := #[] }, { accessFlags := 25, nameIndex := 286, descriptorIndex := 25, attributes := #[] }, { accessFlags := 25, nameIndex := 288, descriptorIndex := 25, attributes := #[] }, { accessFlags := 25, nameIndex := 290, descriptorIndex := 25, attributes := #[] }, { accessFlags := 25, nameIndex := 292, descriptorIndex := 25, attributes := #[] }, { accessFlags := 26, nameIndex := 108, descriptorIndex := 109, attributes := #[] }, { accessFlags := 25, nameIndex := 294, descriptorIndex := 25, attributes := #[] }])
  fields := #[{ name := "U", type := (.object "jdk/internal/misc/Unsafe"), accessFlags := 24, slot := 0, constantValue := 0 }, { name := "BIG_ENDIAN", type := .boolean, accessFlags := 26, slot := 1, constantValue := 0 }, { name := "LOG2_ARRAY_BOOLEAN_INDEX_SCALE", type := .int, accessFlags := 25, slot := 2, constantValue := 0 }, { name := "LOG2_ARRAY_BYTE_INDEX_SCALE", type := .int, accessFlags := 25, slot := 3, constantValue := 0 }, { name := "LOG2_ARRAY_CHAR_INDEX_SCALE", type := .int, accessFlags := 25, slot := 4, constantValue := 0 }, { name := "LOG2_ARRAY_SHORT_INDEX_SCALE", type := .int, accessFlags := 25, slot := 5, constantValue := 0 }, { name := "LOG2_ARRAY_INT_INDEX_SCALE", type := .int, accessFlags := 25, slot := 6, constantValue := 0 }, { name := "LOG2_ARRAY_LONG_INDEX_SCALE", type := .int, accessFlags := 25, slot := 7, constantValue := 0 }, { name := "LOG2_ARRAY_FLOAT_INDEX_SCALE", type := .int, accessFlags := 25, slot := 8, constantValue := 0 }, { name := "LOG2_ARRAY_DOUBLE_INDEX_SCALE", type := .int, accessFlags := 25, slot := 9, constantValue := 0 }, { name := "LOG2_BYTE_BIT_SIZE", type := .int, accessFlags := 26, slot := 10, constantValue := 0 }, { name := "T_BOOLEAN", type := .int, accessFlags := 25, slot := 11, constantValue := 0 }, { name := "T_CHAR", type := .int, accessFlags := 25, slot := 12, constantValue := 0 }, { name := "T_FLOAT", type := .int, accessFlags := 25, slot := 13, constantValue := 0 }, { name := "T_DOUBLE", type := .int, accessFlags := 25, slot := 14, constantValue := 0 }, { name := "T_BYTE", type := .int, accessFlags := 25, slot := 15, constantValue := 0 }, { name := "T_SHORT", type := .int, accessFlags := 25, slot := 16, constantValue := 0 }, { name := "T_INT", type := .int, accessFlags := 25, slot := 17, constantValue := 0 }, { name := "T_LONG", type := .int, accessFlags := 25, slot := 18, constantValue := 0 }, { name := "JLA", type := (.object "jdk/internal/access/JavaLangAccess"), accessFlags := 26, slot := 19, constantValue := 0 }, { name := "SOFT_MAX_ARRAY_LENGTH", type := .int, accessFlags := 25, slot := 20, constantValue := 0 }]
  methods := #[k24m0]
  instanceTypes := #[]
  staticTypes := #[(.object "jdk/internal/misc/Unsafe"), .boolean, .int, .int, .int, .int, .int, .int, .int, .int, .int, .int, .int, .int, .int, .int, .int, .int, .int, (.object "jdk/internal/access/JavaLangAccess"), .int]
  resolved := Array.replicate 378 none
  statics := none }

def pool25 : Array CpInfo := pool [(1, u "java/lang/Cloneable"), (0, .class_ 1), (0, u "java/lang/Object"), (0, .class_ 3)] 3

/-- java/lang/Cloneable -/
def k25 : Class := { plain "java/lang/Cloneable" (some 0) with
  accessFlags := 1537
  interfaces := #[]
  cf := some (fileOf pool25 2 #[] #[] 1537 4 #[] #[])
  fields := #[]
  methods := #[]
  instanceTypes := #[]
  staticTypes := #[]
  resolved := Array.replicate 8 none
  statics := none }

/-- the primitive byte -/
def k26 : Class := { plain "byte" none with kind := .primitive 'B', accessFlags := 0x411 }
/-- [B -/
def k27 : Class := { plain "[B" (some 0) with kind := .array 26 .byte, interfaces := #[25, 2], accessFlags := 1041 }

/-- the primitive char -/
def k28 : Class := { plain "char" none with kind := .primitive 'C', accessFlags := 0x411 }
/-- [C -/
def k29 : Class := { plain "[C" (some 0) with kind := .array 28 .char, interfaces := #[25, 2], accessFlags := 1041 }

/-- the primitive int -/
def k30 : Class := { plain "int" none with kind := .primitive 'I', accessFlags := 0x411 }
/-- [I -/
def k31 : Class := { plain "[I" (some 0) with kind := .array 30 .int, interfaces := #[25, 2], accessFlags := 1041 }

def heap : Heap := #[{ cls := 7, slots := #[.long 0, .int 1, .null, .int 0, .null, .int 0, .int 0], vm := .statics 7 },
  { cls := 9, slots := #[.ref 4, .ref 5, .null], vm := .statics 9 },
  { cls := 18, slots := #[.int 0, .int 0, .null, .null, .ref 7, .ref 6, .int 0, .int 0, .long 0], vm := .statics 18 },
  { cls := 22, slots := #[.null, .null, .null], vm := .statics 22 },
  { cls := 9, slots := #[.null, .int 0, .int 0], vm := .none },
  { cls := 9, slots := #[.null, .int 1, .int 0], vm := .none },
  { cls := 27, slots := #[.int 48, .int 49, .int 50, .int 51, .int 52, .int 53, .int 54, .int 55, .int 56, .int 57, .int 48, .int 49, .int 50, .int 51, .int 52, .int 53, .int 54, .int 55, .int 56, .int 57, .int 48, .int 49, .int 50, .int 51, .int 52, .int 53, .int 54, .int 55, .int 56, .int 57, .int 48, .int 49, .int 50, .int 51, .int 52, .int 53, .int 54, .int 55, .int 56, .int 57, .int 48, .int 49, .int 50, .int 51, .int 52, .int 53, .int 54, .int 55, .int 56, .int 57, .int 48, .int 49, .int 50, .int 51, .int 52, .int 53, .int 54, .int 55, .int 56, .int 57, .int 48, .int 49, .int 50, .int 51, .int 52, .int 53, .int 54, .int 55, .int 56, .int 57, .int 48, .int 49, .int 50, .int 51, .int 52, .int 53, .int 54, .int 55, .int 56, .int 57, .int 48, .int 49, .int 50, .int 51, .int 52, .int 53, .int 54, .int 55, .int 56, .int 57, .int 48, .int 49, .int 50, .int 51, .int 52, .int 53, .int 54, .int 55, .int 56, .int 57], vm := .none },
  { cls := 27, slots := #[.int 48, .int 48, .int 48, .int 48, .int 48, .int 48, .int 48, .int 48, .int 48, .int 48, .int 49, .int 49, .int 49, .int 49, .int 49, .int 49, .int 49, .int 49, .int 49, .int 49, .int 50, .int 50, .int 50, .int 50, .int 50, .int 50, .int 50, .int 50, .int 50, .int 50, .int 51, .int 51, .int 51, .int 51, .int 51, .int 51, .int 51, .int 51, .int 51, .int 51, .int 52, .int 52, .int 52, .int 52, .int 52, .int 52, .int 52, .int 52, .int 52, .int 52, .int 53, .int 53, .int 53, .int 53, .int 53, .int 53, .int 53, .int 53, .int 53, .int 53, .int 54, .int 54, .int 54, .int 54, .int 54, .int 54, .int 54, .int 54, .int 54, .int 54, .int 55, .int 55, .int 55, .int 55, .int 55, .int 55, .int 55, .int 55, .int 55, .int 55, .int 56, .int 56, .int 56, .int 56, .int 56, .int 56, .int 56, .int 56, .int 56, .int 56, .int 57, .int 57, .int 57, .int 57, .int 57, .int 57, .int 57, .int 57, .int 57, .int 57], vm := .none }]
def classes : Array Class := #[k0, k1, k2, k3, k4, k5, k6, k7, k8, k9, k10, k11, k12, k13, k14, k15, k16, k17, k18, k19, k20, k21, k22, k23, k24, k25, k26, k27, k28, k29, k30, k31]
def interned : List (Array UInt16 × Addr) := []
def slotsUsed : Nat := 228
def theMethod : MethodId := ⟨1, 1⟩
def args0 : Array Value := #[.int 5, .int 6, .int 1, .int 3, .int 1]
def aboutOver (below : List Frame) : State where
  vm := { classes := classes, interned := interned.toArray }
  heap := heap
  slotsUsed := slotsUsed
  threads := #[{ frames := .invoking theMethod args0 :: below }]
def below0 : List Frame := [.native { method := ⟨0, 0⟩, args := #[] }]
def about1 : State := aboutOver below0
def p0 : Program := .bare "" "" ""
def e0 : Env := launch0.env 0 0 0
theorem w_frames : about1.frames = Frame.invoking theMethod args0 :: below0 := rfl
set_option maxRecDepth 65536 in
theorem w_args : argsFit about1.vm theMethod args0 = true := by decide +kernel
set_option maxRecDepth 65536 in
theorem w_heap : heapFits about1 = true := by decide +kernel
set_option maxRecDepth 65536 in
theorem w_runnable : about1.curStatus? = some .runnable := by decide +kernel
set_option maxRecDepth 65536 in
theorem w_alone : about1.alone = true := by decide +kernel
set_option maxRecDepth 65536 in
theorem w_named : about1.methodNamed? x = some theMethod := by decide +kernel
set_option maxRecDepth 65536 in
theorem w_hears : about1.hears theMethod below0 = true := by decide +kernel
set_option maxRecDepth 65536 in
theorem w_ripe : about1.ripe theMethod args0 below0 = true := by decide +kernel
theorem w_running : about1.status = .running := rfl
set_option maxRecDepth 65536 in
theorem w_room : about1.hasRoom e0.platform room_1 = true :=
  launch0.hasRoom_least _ room_1 (by decide +kernel) (by decide +kernel) (by decide +kernel) (by decide +kernel) (by decide +kernel) (by decide +kernel)
theorem allAtoms_all (ts : List Jvm.Cond) (a : Array Jvm.Value) (st : Jvm.State) : (allAtoms ts).before a st = ts.all (fun c => c.before a st) := by
  induction ts with
  | nil => rfl
  | cons c t ih =>
    show (Jvm.Cond.and c (allAtoms t)).before a st = _
    rw [Jvm.Cond.before_and, ih, List.all_cons]
def words1 : List Jvm.Cond := Jvm.Cond.code x code maxLocals ret :: tables_1
/-- a 'code' word, met by the world's own term for the bytes: nothing is compared byte by byte -/
theorem code_word {y : MethodName} {bytes : ByteArray} {mx : Nat} {rt : Option FieldType} {a : Array Value} {s : State} {m : MethodId} {meth : Method} {c : Code} (h1 : s.methodNamed? y = some m) (h2 : s.vm.method? m = some meth) (h3 : meth.code = some c) (h4 : c.code = bytes)
    (h5 : (c.maxLocals == mx && c.exceptionTable.isEmpty && decide (c.maxStack ≤ mostOperands) && decide (meth.sig.returnType = rt) && !meth.locks && decide (parseMethodDescriptor y.desc = some meth.sig)) = true) : (Jvm.Cond.code y bytes mx rt).before a s = true := by
  simp only [Bool.and_eq_true, beq_iff_eq, Bool.not_eq_true', decide_eq_true_eq] at h5
  obtain ⟨⟨⟨⟨⟨g1, g2⟩, g3⟩, g4⟩, g5⟩, g6⟩ := h5
  simp [Cond.before, Cond.holds, Cond.value, h1, h2, h3, h4, g1, g2, g3, g4, g5, g6]
def isCode : Jvm.Cond → Bool
  | .code _ _ _ _ => true
  | _ => false
theorem all_split {L : List Jvm.Cond} {P : Jvm.Cond → Bool} (h1 : L.all (fun c => isCode c || P c) = true) (h2 : ∀ c ∈ L.filter isCode, P c = true) : L.all P = true := by
  refine List.all_eq_true.mpr fun c hc => ?_
  have h := List.all_eq_true.mp h1 c hc
  rcases Bool.eq_false_or_eq_true (isCode c) with hi | hi
  · exact h2 c (List.mem_filter.mpr ⟨hc, hi⟩)
  · simpa [hi] using h
set_option maxRecDepth 65536 in
theorem w_c0 : (Jvm.Cond.code x code maxLocals ret).before args0 about1 = true := code_word (m := ⟨1, 1⟩) (meth := k1m1) (c := k1c1) (by decide +kernel) rfl rfl rfl (by decide +kernel)
set_option maxRecDepth 65536 in
theorem w_c1 : (Jvm.Cond.code ({ cls := "com/example/zapros/zapros/io/sql/SqlDatabaseToStringPinLaw", name := "mk", desc := "(I)Ljava/lang/String;" } : Jvm.MethodName) method_3_code (4 : Nat) (Option.some (Jvm.ClassFile.FieldType.object "java/lang/String"))).before args0 about1 = true := code_word (m := ⟨1, 2⟩) (meth := k1m2) (c := k1c2) (by decide +kernel) rfl rfl rfl (by decide +kernel)
set_option maxRecDepth 65536 in
theorem w_c2 : (Jvm.Cond.code ({ cls := "java/lang/String", name := "<init>", desc := "([C)V" } : Jvm.MethodName) jdk_42_method_3_code (2 : Nat) (Option.none : Option Jvm.ClassFile.FieldType)).before args0 about1 = true := code_word (m := ⟨7, 1⟩) (meth := k7m1) (c := k7c1) (by decide +kernel) rfl rfl rfl (by decide +kernel)
set_option maxRecDepth 65536 in
theorem w_c3 : (Jvm.Cond.code ({ cls := "java/lang/String", name := "<init>", desc := "([CIILjava/lang/Void;)V" } : Jvm.MethodName) jdk_42_method_149_code (6 : Nat) (Option.none : Option Jvm.ClassFile.FieldType)).before args0 about1 = true := code_word (m := ⟨7, 6⟩) (meth := k7m6) (c := k7c6) (by decide +kernel) rfl rfl rfl (by decide +kernel)
set_option maxRecDepth 65536 in
theorem w_c4 : (Jvm.Cond.code ({ cls := "java/lang/Object", name := "<init>", desc := "()V" } : Jvm.MethodName) object_method_1_code (1 : Nat) (Option.none : Option Jvm.ClassFile.FieldType)).before args0 about1 = true := code_word (m := ⟨0, 0⟩) (meth := k0m0) (c := k0c0) (by decide +kernel) rfl rfl rfl (by decide +kernel)
set_option maxRecDepth 65536 in
theorem w_c5 : (Jvm.Cond.code ({ cls := "com/example/zapros/zapros/io/sql/SqlDatabase", name := "<init>", desc := "(Lcom/example/zapros/zapros/io/sql/SqlDatabase$Driver;Ljava/lang/String;ILjava/lang/String;Ljava/lang/String;Ljava/lang/String;)V" } : Jvm.MethodName) prog_4_method_1_code (7 : Nat) (Option.none : Option Jvm.ClassFile.FieldType)).before args0 about1 = true := code_word (m := ⟨11, 0⟩) (meth := k11m0) (c := k11c0) (by decide +kernel) rfl rfl rfl (by decide +kernel)
set_option maxRecDepth 65536 in
theorem w_c6 : (Jvm.Cond.code ({ cls := "java/lang/Record", name := "<init>", desc := "()V" } : Jvm.MethodName) jdk_30_method_1_code (1 : Nat) (Option.none : Option Jvm.ClassFile.FieldType)).before args0 about1 = true := code_word (m := ⟨10, 0⟩) (meth := k10m0) (c := k10c0) (by decide +kernel) rfl rfl rfl (by decide +kernel)
set_option maxRecDepth 65536 in
theorem w_c7 : (Jvm.Cond.code ({ cls := "java/util/Objects", name := "requireNonNull", desc := "(Ljava/lang/Object;Ljava/lang/String;)Ljava/lang/Object;" } : Jvm.MethodName) jdk_31_method_11_code (2 : Nat) (Option.some (Jvm.ClassFile.FieldType.object "java/lang/Object"))).before args0 about1 = true := code_word (m := ⟨12, 1⟩) (meth := k12m1) (c := k12c1) (by decide +kernel) rfl rfl rfl (by decide +kernel)
set_option maxRecDepth 65536 in
theorem w_c8 : (Jvm.Cond.code ({ cls := "com/example/zapros/zapros/io/sql/SqlDatabase", name := "toString", desc := "()Ljava/lang/String;" } : Jvm.MethodName) prog_4_method_2_code (1 : Nat) (Option.some (Jvm.ClassFile.FieldType.object "java/lang/String"))).before args0 about1 = true := code_word (m := ⟨11, 1⟩) (meth := k11m1) (c := k11c1) (by decide +kernel) rfl rfl rfl (by decide +kernel)
set_option maxRecDepth 65536 in
theorem w_c9 : (Jvm.Cond.code ({ cls := "java/lang/StringBuilder", name := "<init>", desc := "()V" } : Jvm.MethodName) jdk_67_method_1_code (1 : Nat) (Option.none : Option Jvm.ClassFile.FieldType)).before args0 about1 = true := code_word (m := ⟨15, 0⟩) (meth := k15m0) (c := k15c0) (by decide +kernel) rfl rfl rfl (by decide +kernel)
set_option maxRecDepth 65536 in
theorem w_c10 : (Jvm.Cond.code ({ cls := "java/lang/AbstractStringBuilder", name := "<init>", desc := "(I)V" } : Jvm.MethodName) jdk_68_method_2_code (2 : Nat) (Option.none : Option Jvm.ClassFile.FieldType)).before args0 about1 = true := code_word (m := ⟨14, 1⟩) (meth := k14m1) (c := k14c1) (by decide +kernel) rfl rfl rfl (by decide +kernel)
set_option maxRecDepth 65536 in
theorem w_c11 : (Jvm.Cond.code ({ cls := "java/lang/StringBuilder", name := "append", desc := "(Ljava/lang/String;)Ljava/lang/StringBuilder;" } : Jvm.MethodName) jdk_67_method_7_code (2 : Nat) (Option.some (Jvm.ClassFile.FieldType.object "java/lang/StringBuilder"))).before args0 about1 = true := code_word (m := ⟨15, 1⟩) (meth := k15m1) (c := k15c1) (by decide +kernel) rfl rfl rfl (by decide +kernel)
set_option maxRecDepth 65536 in
theorem w_c12 : (Jvm.Cond.code ({ cls := "java/lang/AbstractStringBuilder", name := "append", desc := "(Ljava/lang/String;)Ljava/lang/AbstractStringBuilder;" } : Jvm.MethodName) jdk_68_method_22_code (3 : Nat) (Option.some (Jvm.ClassFile.FieldType.object "java/lang/AbstractStringBuilder"))).before args0 about1 = true := code_word (m := ⟨14, 4⟩) (meth := k14m4) (c := k14c4) (by decide +kernel) rfl rfl rfl (by decide +kernel)
set_option maxRecDepth 65536 in
theorem w_c13 : (Jvm.Cond.code ({ cls := "java/lang/String", name := "length", desc := "()I" } : Jvm.MethodName) jdk_42_method_54_code (1 : Nat) (Option.some Jvm.ClassFile.FieldType.int)).before args0 about1 = true := code_word (m := ⟨7, 3⟩) (meth := k7m3) (c := k7c3) (by decide +kernel) rfl rfl rfl (by decide +kernel)
set_option maxRecDepth 65536 in
theorem w_c14 : (Jvm.Cond.code ({ cls := "java/lang/String", name := "coder", desc := "()B" } : Jvm.MethodName) jdk_42_method_152_code (1 : Nat) (Option.some Jvm.ClassFile.FieldType.byte)).before args0 about1 = true := code_word (m := ⟨7, 8⟩) (meth := k7m8) (c := k7c8) (by decide +kernel) rfl rfl rfl (by decide +kernel)
set_option maxRecDepth 65536 in
theorem w_c15 : (Jvm.Cond.code ({ cls := "java/lang/AbstractStringBuilder", name := "ensureCapacityInternal", desc := "(I)V" } : Jvm.MethodName) jdk_68_method_9_code (3 : Nat) (Option.none : Option Jvm.ClassFile.FieldType)).before args0 about1 = true := code_word (m := ⟨14, 3⟩) (meth := k14m3) (c := k14c3) (by decide +kernel) rfl rfl rfl (by decide +kernel)
set_option maxRecDepth 65536 in
theorem w_c16 : (Jvm.Cond.code ({ cls := "java/lang/AbstractStringBuilder", name := "putStringAt", desc := "(ILjava/lang/String;)V" } : Jvm.MethodName) jdk_68_method_73_code (3 : Nat) (Option.none : Option Jvm.ClassFile.FieldType)).before args0 about1 = true := code_word (m := ⟨14, 9⟩) (meth := k14m9) (c := k14c9) (by decide +kernel) rfl rfl rfl (by decide +kernel)
set_option maxRecDepth 65536 in
theorem w_c17 : (Jvm.Cond.code ({ cls := "java/lang/AbstractStringBuilder", name := "inflateIfNeededFor", desc := "(Ljava/lang/String;)V" } : Jvm.MethodName) jdk_68_method_71_code (2 : Nat) (Option.none : Option Jvm.ClassFile.FieldType)).before args0 about1 = true := code_word (m := ⟨14, 8⟩) (meth := k14m8) (c := k14c8) (by decide +kernel) rfl rfl rfl (by decide +kernel)
set_option maxRecDepth 65536 in
theorem w_c18 : (Jvm.Cond.code ({ cls := "java/lang/String", name := "getBytes", desc := "([BIB)V" } : Jvm.MethodName) jdk_42_method_147_code (4 : Nat) (Option.none : Option Jvm.ClassFile.FieldType)).before args0 about1 = true := code_word (m := ⟨7, 5⟩) (meth := k7m5) (c := k7c5) (by decide +kernel) rfl rfl rfl (by decide +kernel)
set_option maxRecDepth 65536 in
theorem w_c19 : (Jvm.Cond.code ({ cls := "java/lang/StringBuilder", name := "append", desc := "(I)Ljava/lang/StringBuilder;" } : Jvm.MethodName) jdk_67_method_15_code (2 : Nat) (Option.some (Jvm.ClassFile.FieldType.object "java/lang/StringBuilder"))).before args0 about1 = true := code_word (m := ⟨15, 2⟩) (meth := k15m2) (c := k15c2) (by decide +kernel) rfl rfl rfl (by decide +kernel)
set_option maxRecDepth 65536 in
theorem w_c20 : (Jvm.Cond.code ({ cls := "java/lang/AbstractStringBuilder", name := "append", desc := "(I)Ljava/lang/AbstractStringBuilder;" } : Jvm.MethodName) jdk_68_method_32_code (4 : Nat) (Option.some (Jvm.ClassFile.FieldType.object "java/lang/AbstractStringBuilder"))).before args0 about1 = true := code_word (m := ⟨14, 5⟩) (meth := k14m5) (c := k14c5) (by decide +kernel) rfl rfl rfl (by decide +kernel)
set_option maxRecDepth 65536 in
theorem w_c21 : (Jvm.Cond.code ({ cls := "java/lang/Integer", name := "stringSize", desc := "(I)I" } : Jvm.MethodName) jdk_33_method_13_code (4 : Nat) (Option.some Jvm.ClassFile.FieldType.int)).before args0 about1 = true := code_word (m := ⟨18, 1⟩) (meth := k18m1) (c := k18c1) (by decide +kernel) rfl rfl rfl (by decide +kernel)
set_option maxRecDepth 65536 in
theorem w_c22 : (Jvm.Cond.code ({ cls := "java/lang/AbstractStringBuilder", name := "isLatin1", desc := "()Z" } : Jvm.MethodName) jdk_68_method_68_code (1 : Nat) (Option.some Jvm.ClassFile.FieldType.boolean)).before args0 about1 = true := code_word (m := ⟨14, 7⟩) (meth := k14m7) (c := k14c7) (by decide +kernel) rfl rfl rfl (by decide +kernel)
set_option maxRecDepth 65536 in
theorem w_c23 : (Jvm.Cond.code ({ cls := "java/lang/Integer", name := "getChars", desc := "(II[B)I" } : Jvm.MethodName) jdk_33_method_12_code (7 : Nat) (Option.some Jvm.ClassFile.FieldType.int)).before args0 about1 = true := code_word (m := ⟨18, 0⟩) (meth := k18m0) (c := k18c0) (by decide +kernel) rfl rfl rfl (by decide +kernel)
set_option maxRecDepth 65536 in
theorem w_c24 : (Jvm.Cond.code ({ cls := "java/lang/StringBuilder", name := "toString", desc := "()Ljava/lang/String;" } : Jvm.MethodName) jdk_67_method_42_code (1 : Nat) (Option.some (Jvm.ClassFile.FieldType.object "java/lang/String"))).before args0 about1 = true := code_word (m := ⟨15, 3⟩) (meth := k15m3) (c := k15c3) (by decide +kernel) rfl rfl rfl (by decide +kernel)
set_option maxRecDepth 65536 in
theorem w_c25 : (Jvm.Cond.code ({ cls := "java/lang/String", name := "<init>", desc := "(Ljava/lang/StringBuilder;)V" } : Jvm.MethodName) jdk_42_method_53_code (2 : Nat) (Option.none : Option Jvm.ClassFile.FieldType)).before args0 about1 = true := code_word (m := ⟨7, 2⟩) (meth := k7m2) (c := k7c2) (by decide +kernel) rfl rfl rfl (by decide +kernel)
set_option maxRecDepth 65536 in
theorem w_c26 : (Jvm.Cond.code ({ cls := "java/lang/String", name := "<init>", desc := "(Ljava/lang/AbstractStringBuilder;Ljava/lang/Void;)V" } : Jvm.MethodName) jdk_42_method_150_code (5 : Nat) (Option.none : Option Jvm.ClassFile.FieldType)).before args0 about1 = true := code_word (m := ⟨7, 7⟩) (meth := k7m7) (c := k7c7) (by decide +kernel) rfl rfl rfl (by decide +kernel)
set_option maxRecDepth 65536 in
theorem w_c27 : (Jvm.Cond.code ({ cls := "java/lang/AbstractStringBuilder", name := "getValue", desc := "()[B" } : Jvm.MethodName) jdk_68_method_64_code (1 : Nat) (Option.some (Jvm.ClassFile.FieldType.array Jvm.ClassFile.FieldType.byte))).before args0 about1 = true := code_word (m := ⟨14, 6⟩) (meth := k14m6) (c := k14c6) (by decide +kernel) rfl rfl rfl (by decide +kernel)
set_option maxRecDepth 65536 in
theorem w_c28 : (Jvm.Cond.code ({ cls := "java/lang/StringBuilder", name := "length", desc := "()I" } : Jvm.MethodName) jdk_67_method_93_code (1 : Nat) (Option.some Jvm.ClassFile.FieldType.int)).before args0 about1 = true := code_word (m := ⟨15, 4⟩) (meth := k15m4) (c := k15c4) (by decide +kernel) rfl rfl rfl (by decide +kernel)
set_option maxRecDepth 65536 in
theorem w_c29 : (Jvm.Cond.code ({ cls := "java/lang/AbstractStringBuilder", name := "length", desc := "()I" } : Jvm.MethodName) jdk_68_method_6_code (1 : Nat) (Option.some Jvm.ClassFile.FieldType.int)).before args0 about1 = true := code_word (m := ⟨14, 2⟩) (meth := k14m2) (c := k14c2) (by decide +kernel) rfl rfl rfl (by decide +kernel)
set_option maxRecDepth 65536 in
theorem w_c30 : (Jvm.Cond.code ({ cls := "java/util/Arrays", name := "copyOfRange", desc := "([BII)[B" } : Jvm.MethodName) jdk_65_method_132_code (3 : Nat) (Option.some (Jvm.ClassFile.FieldType.array Jvm.ClassFile.FieldType.byte))).before args0 about1 = true := code_word (m := ⟨19, 2⟩) (meth := k19m2) (c := k19c2) (by decide +kernel) rfl rfl rfl (by decide +kernel)
set_option maxRecDepth 65536 in
theorem w_c31 : (Jvm.Cond.code ({ cls := "java/util/Arrays", name := "copyOfRangeByte", desc := "([BII)[B" } : Jvm.MethodName) jdk_65_method_133_code (5 : Nat) (Option.some (Jvm.ClassFile.FieldType.array Jvm.ClassFile.FieldType.byte))).before args0 about1 = true := code_word (m := ⟨19, 3⟩) (meth := k19m3) (c := k19c3) (by decide +kernel) rfl rfl rfl (by decide +kernel)
set_option maxRecDepth 65536 in
theorem w_c32 : (Jvm.Cond.code ({ cls := "java/util/Arrays", name := "checkLength", desc := "(II)V" } : Jvm.MethodName) jdk_65_method_131_code (2 : Nat) (Option.none : Option Jvm.ClassFile.FieldType)).before args0 about1 = true := code_word (m := ⟨19, 1⟩) (meth := k19m1) (c := k19c1) (by decide +kernel) rfl rfl rfl (by decide +kernel)
set_option maxRecDepth 65536 in
theorem w_c33 : (Jvm.Cond.code ({ cls := "java/lang/Math", name := "min", desc := "(II)I" } : Jvm.MethodName) jdk_29_method_69_code (2 : Nat) (Option.some Jvm.ClassFile.FieldType.int)).before args0 about1 = true := code_word (m := ⟨20, 1⟩) (meth := k20m1) (c := k20c1) (by decide +kernel) rfl rfl rfl (by decide +kernel)
set_option maxRecDepth 65536 in
theorem w_c34 : (Jvm.Cond.code ({ cls := "com/example/zapros/zapros/io/sql/SqlDatabaseToStringPinLaw", name := "has", desc := "(Ljava/lang/String;ILjava/lang/String;)Z" } : Jvm.MethodName) method_4_code (3 : Nat) (Option.some Jvm.ClassFile.FieldType.boolean)).before args0 about1 = true := code_word (m := ⟨1, 3⟩) (meth := k1m3) (c := k1c3) (by decide +kernel) rfl rfl rfl (by decide +kernel)
set_option maxRecDepth 65536 in
theorem w_c35 : (Jvm.Cond.code ({ cls := "java/lang/String", name := "charAt", desc := "(I)C" } : Jvm.MethodName) jdk_42_method_56_code (2 : Nat) (Option.some Jvm.ClassFile.FieldType.char)).before args0 about1 = true := code_word (m := ⟨7, 4⟩) (meth := k7m4) (c := k7c4) (by decide +kernel) rfl rfl rfl (by decide +kernel)
set_option maxRecDepth 65536 in
theorem w_c36 : (Jvm.Cond.code ({ cls := "java/lang/String", name := "isLatin1", desc := "()Z" } : Jvm.MethodName) jdk_42_method_154_code (1 : Nat) (Option.some Jvm.ClassFile.FieldType.boolean)).before args0 about1 = true := code_word (m := ⟨7, 9⟩) (meth := k7m9) (c := k7c9) (by decide +kernel) rfl rfl rfl (by decide +kernel)
set_option maxRecDepth 65536 in
theorem w_c37 : (Jvm.Cond.code ({ cls := "java/lang/StringLatin1", name := "charAt", desc := "([BI)C" } : Jvm.MethodName) jdk_43_method_2_code (2 : Nat) (Option.some Jvm.ClassFile.FieldType.char)).before args0 about1 = true := code_word (m := ⟨21, 1⟩) (meth := k21m1) (c := k21c1) (by decide +kernel) rfl rfl rfl (by decide +kernel)
set_option maxRecDepth 65536 in
theorem w_c38 : (Jvm.Cond.code ({ cls := "java/lang/String", name := "checkIndex", desc := "(II)V" } : Jvm.MethodName) jdk_42_method_155_code (2 : Nat) (Option.none : Option Jvm.ClassFile.FieldType)).before args0 about1 = true := code_word (m := ⟨7, 10⟩) (meth := k7m10) (c := k7c10) (by decide +kernel) rfl rfl rfl (by decide +kernel)
set_option maxRecDepth 65536 in
theorem w_c39 : (Jvm.Cond.code ({ cls := "jdk/internal/util/Preconditions", name := "checkIndex", desc := "(IILjava/util/function/BiFunction;)I" } : Jvm.MethodName) jdk_41_method_11_code (3 : Nat) (Option.some Jvm.ClassFile.FieldType.int)).before args0 about1 = true := code_word (m := ⟨22, 1⟩) (meth := k22m1) (c := k22c1) (by decide +kernel) rfl rfl rfl (by decide +kernel)
set_option maxRecDepth 65536 in
theorem w_c40 : (Jvm.Cond.code ({ cls := "com/example/zapros/zapros/io/sql/SqlDatabaseToStringPinLaw", name := "digits", desc := "(Ljava/lang/String;III)Z" } : Jvm.MethodName) method_7_code (4 : Nat) (Option.some Jvm.ClassFile.FieldType.boolean)).before args0 about1 = true := code_word (m := ⟨1, 6⟩) (meth := k1m6) (c := k1c6) (by decide +kernel) rfl rfl rfl (by decide +kernel)
set_option maxRecDepth 65536 in
theorem w_c41 : (Jvm.Cond.code ({ cls := "com/example/zapros/zapros/io/sql/SqlDatabaseToStringPinLaw", name := "dig", desc := "(Ljava/lang/String;IIII)Z" } : Jvm.MethodName) method_6_code (6 : Nat) (Option.some Jvm.ClassFile.FieldType.boolean)).before args0 about1 = true := code_word (m := ⟨1, 5⟩) (meth := k1m5) (c := k1c5) (by decide +kernel) rfl rfl rfl (by decide +kernel)
set_option maxRecDepth 65536 in
theorem w_c42 : (Jvm.Cond.code ({ cls := "com/example/zapros/zapros/io/sql/SqlDatabaseToStringPinLaw", name := "p10", desc := "(I)I" } : Jvm.MethodName) method_5_code (1 : Nat) (Option.some Jvm.ClassFile.FieldType.int)).before args0 about1 = true := code_word (m := ⟨1, 4⟩) (meth := k1m4) (c := k1c4) (by decide +kernel) rfl rfl rfl (by decide +kernel)
set_option maxRecDepth 65536 in
theorem w_c43 : (Jvm.Cond.code ({ cls := "java/lang/StringUTF16", name := "compress", desc := "([CII)[B" } : Jvm.MethodName) jdk_52_method_16_code (6 : Nat) (Option.some (Jvm.ClassFile.FieldType.array Jvm.ClassFile.FieldType.byte))).before args0 about1 = true := code_word (m := ⟨23, 2⟩) (meth := k23m2) (c := k23c2) (by decide +kernel) rfl rfl rfl (by decide +kernel)
set_option maxRecDepth 65536 in
theorem w_c44 : (Jvm.Cond.code ({ cls := "java/lang/StringUTF16", name := "compress", desc := "([CI[BII)I" } : Jvm.MethodName) jdk_52_method_21_code (7 : Nat) (Option.some Jvm.ClassFile.FieldType.int)).before args0 about1 = true := code_word (m := ⟨23, 3⟩) (meth := k23m3) (c := k23c3) (by decide +kernel) rfl rfl rfl (by decide +kernel)
set_option maxRecDepth 65536 in
theorem w_c45 : (Jvm.Cond.code ({ cls := "java/lang/StringUTF16", name := "coderFromArrayLen", desc := "([BI)B" } : Jvm.MethodName) jdk_52_method_15_code (2 : Nat) (Option.some Jvm.ClassFile.FieldType.byte)).before args0 about1 = true := code_word (m := ⟨23, 1⟩) (meth := k23m1) (c := k23c1) (by decide +kernel) rfl rfl rfl (by decide +kernel)
def codes1 : List Jvm.Cond := [Jvm.Cond.code x code maxLocals ret, Jvm.Cond.code ({ cls := "com/example/zapros/zapros/io/sql/SqlDatabaseToStringPinLaw", name := "mk", desc := "(I)Ljava/lang/String;" } : Jvm.MethodName) method_3_code (4 : Nat) (Option.some (Jvm.ClassFile.FieldType.object "java/lang/String")), Jvm.Cond.code ({ cls := "java/lang/String", name := "<init>", desc := "([C)V" } : Jvm.MethodName) jdk_42_method_3_code (2 : Nat) (Option.none : Option Jvm.ClassFile.FieldType), Jvm.Cond.code ({ cls := "java/lang/String", name := "<init>", desc := "([CIILjava/lang/Void;)V" } : Jvm.MethodName) jdk_42_method_149_code (6 : Nat) (Option.none : Option Jvm.ClassFile.FieldType), Jvm.Cond.code ({ cls := "java/lang/Object", name := "<init>", desc := "()V" } : Jvm.MethodName) object_method_1_code (1 : Nat) (Option.none : Option Jvm.ClassFile.FieldType), Jvm.Cond.code ({ cls := "com/example/zapros/zapros/io/sql/SqlDatabase", name := "<init>", desc := "(Lcom/example/zapros/zapros/io/sql/SqlDatabase$Driver;Ljava/lang/String;ILjava/lang/String;Ljava/lang/String;Ljava/lang/String;)V" } : Jvm.MethodName) prog_4_method_1_code (7 : Nat) (Option.none : Option Jvm.ClassFile.FieldType), Jvm.Cond.code ({ cls := "java/lang/Record", name := "<init>", desc := "()V" } : Jvm.MethodName) jdk_30_method_1_code (1 : Nat) (Option.none : Option Jvm.ClassFile.FieldType), Jvm.Cond.code ({ cls := "java/util/Objects", name := "requireNonNull", desc := "(Ljava/lang/Object;Ljava/lang/String;)Ljava/lang/Object;" } : Jvm.MethodName) jdk_31_method_11_code (2 : Nat) (Option.some (Jvm.ClassFile.FieldType.object "java/lang/Object")), Jvm.Cond.code ({ cls := "com/example/zapros/zapros/io/sql/SqlDatabase", name := "toString", desc := "()Ljava/lang/String;" } : Jvm.MethodName) prog_4_method_2_code (1 : Nat) (Option.some (Jvm.ClassFile.FieldType.object "java/lang/String")), Jvm.Cond.code ({ cls := "java/lang/StringBuilder", name := "<init>", desc := "()V" } : Jvm.MethodName) jdk_67_method_1_code (1 : Nat) (Option.none : Option Jvm.ClassFile.FieldType), Jvm.Cond.code ({ cls := "java/lang/AbstractStringBuilder", name := "<init>", desc := "(I)V" } : Jvm.MethodName) jdk_68_method_2_code (2 : Nat) (Option.none : Option Jvm.ClassFile.FieldType), Jvm.Cond.code ({ cls := "java/lang/StringBuilder", name := "append", desc := "(Ljava/lang/String;)Ljava/lang/StringBuilder;" } : Jvm.MethodName) jdk_67_method_7_code (2 : Nat) (Option.some (Jvm.ClassFile.FieldType.object "java/lang/StringBuilder")), Jvm.Cond.code ({ cls := "java/lang/AbstractStringBuilder", name := "append", desc := "(Ljava/lang/String;)Ljava/lang/AbstractStringBuilder;" } : Jvm.MethodName) jdk_68_method_22_code (3 : Nat) (Option.some (Jvm.ClassFile.FieldType.object "java/lang/AbstractStringBuilder")), Jvm.Cond.code ({ cls := "java/lang/String", name := "length", desc := "()I" } : Jvm.MethodName) jdk_42_method_54_code (1 : Nat) (Option.some Jvm.ClassFile.FieldType.int), Jvm.Cond.code ({ cls := "java/lang/String", name := "coder", desc := "()B" } : Jvm.MethodName) jdk_42_method_152_code (1 : Nat) (Option.some Jvm.ClassFile.FieldType.byte), Jvm.Cond.code ({ cls := "java/lang/AbstractStringBuilder", name := "ensureCapacityInternal", desc := "(I)V" } : Jvm.MethodName) jdk_68_method_9_code (3 : Nat) (Option.none : Option Jvm.ClassFile.FieldType), Jvm.Cond.code ({ cls := "java/lang/AbstractStringBuilder", name := "putStringAt", desc := "(ILjava/lang/String;)V" } : Jvm.MethodName) jdk_68_method_73_code (3 : Nat) (Option.none : Option Jvm.ClassFile.FieldType), Jvm.Cond.code ({ cls := "java/lang/AbstractStringBuilder", name := "inflateIfNeededFor", desc := "(Ljava/lang/String;)V" } : Jvm.MethodName) jdk_68_method_71_code (2 : Nat) (Option.none : Option Jvm.ClassFile.FieldType), Jvm.Cond.code ({ cls := "java/lang/String", name := "getBytes", desc := "([BIB)V" } : Jvm.MethodName) jdk_42_method_147_code (4 : Nat) (Option.none : Option Jvm.ClassFile.FieldType), Jvm.Cond.code ({ cls := "java/lang/StringBuilder", name := "append", desc := "(I)Ljava/lang/StringBuilder;" } : Jvm.MethodName) jdk_67_method_15_code (2 : Nat) (Option.some (Jvm.ClassFile.FieldType.object "java/lang/StringBuilder")), Jvm.Cond.code ({ cls := "java/lang/AbstractStringBuilder", name := "append", desc := "(I)Ljava/lang/AbstractStringBuilder;" } : Jvm.MethodName) jdk_68_method_32_code (4 : Nat) (Option.some (Jvm.ClassFile.FieldType.object "java/lang/AbstractStringBuilder")), Jvm.Cond.code ({ cls := "java/lang/Integer", name := "stringSize", desc := "(I)I" } : Jvm.MethodName) jdk_33_method_13_code (4 : Nat) (Option.some Jvm.ClassFile.FieldType.int), Jvm.Cond.code ({ cls := "java/lang/AbstractStringBuilder", name := "isLatin1", desc := "()Z" } : Jvm.MethodName) jdk_68_method_68_code (1 : Nat) (Option.some Jvm.ClassFile.FieldType.boolean), Jvm.Cond.code ({ cls := "java/lang/Integer", name := "getChars", desc := "(II[B)I" } : Jvm.MethodName) jdk_33_method_12_code (7 : Nat) (Option.some Jvm.ClassFile.FieldType.int), Jvm.Cond.code ({ cls := "java/lang/StringBuilder", name := "toString", desc := "()Ljava/lang/String;" } : Jvm.MethodName) jdk_67_method_42_code (1 : Nat) (Option.some (Jvm.ClassFile.FieldType.object "java/lang/String")), Jvm.Cond.code ({ cls := "java/lang/String", name := "<init>", desc := "(Ljava/lang/StringBuilder;)V" } : Jvm.MethodName) jdk_42_method_53_code (2 : Nat) (Option.none : Option Jvm.ClassFile.FieldType), Jvm.Cond.code ({ cls := "java/lang/String", name := "<init>", desc := "(Ljava/lang/AbstractStringBuilder;Ljava/lang/Void;)V" } : Jvm.MethodName) jdk_42_method_150_code (5 : Nat) (Option.none : Option Jvm.ClassFile.FieldType), Jvm.Cond.code ({ cls := "java/lang/AbstractStringBuilder", name := "getValue", desc := "()[B" } : Jvm.MethodName) jdk_68_method_64_code (1 : Nat) (Option.some (Jvm.ClassFile.FieldType.array Jvm.ClassFile.FieldType.byte)), Jvm.Cond.code ({ cls := "java/lang/StringBuilder", name := "length", desc := "()I" } : Jvm.MethodName) jdk_67_method_93_code (1 : Nat) (Option.some Jvm.ClassFile.FieldType.int), Jvm.Cond.code ({ cls := "java/lang/AbstractStringBuilder", name := "length", desc := "()I" } : Jvm.MethodName) jdk_68_method_6_code (1 : Nat) (Option.some Jvm.ClassFile.FieldType.int), Jvm.Cond.code ({ cls := "java/util/Arrays", name := "copyOfRange", desc := "([BII)[B" } : Jvm.MethodName) jdk_65_method_132_code (3 : Nat) (Option.some (Jvm.ClassFile.FieldType.array Jvm.ClassFile.FieldType.byte)), Jvm.Cond.code ({ cls := "java/util/Arrays", name := "copyOfRangeByte", desc := "([BII)[B" } : Jvm.MethodName) jdk_65_method_133_code (5 : Nat) (Option.some (Jvm.ClassFile.FieldType.array Jvm.ClassFile.FieldType.byte)), Jvm.Cond.code ({ cls := "java/util/Arrays", name := "checkLength", desc := "(II)V" } : Jvm.MethodName) jdk_65_method_131_code (2 : Nat) (Option.none : Option Jvm.ClassFile.FieldType), Jvm.Cond.code ({ cls := "java/lang/Math", name := "min", desc := "(II)I" } : Jvm.MethodName) jdk_29_method_69_code (2 : Nat) (Option.some Jvm.ClassFile.FieldType.int), Jvm.Cond.code ({ cls := "com/example/zapros/zapros/io/sql/SqlDatabaseToStringPinLaw", name := "has", desc := "(Ljava/lang/String;ILjava/lang/String;)Z" } : Jvm.MethodName) method_4_code (3 : Nat) (Option.some Jvm.ClassFile.FieldType.boolean), Jvm.Cond.code ({ cls := "java/lang/String", name := "charAt", desc := "(I)C" } : Jvm.MethodName) jdk_42_method_56_code (2 : Nat) (Option.some Jvm.ClassFile.FieldType.char), Jvm.Cond.code ({ cls := "java/lang/String", name := "isLatin1", desc := "()Z" } : Jvm.MethodName) jdk_42_method_154_code (1 : Nat) (Option.some Jvm.ClassFile.FieldType.boolean), Jvm.Cond.code ({ cls := "java/lang/StringLatin1", name := "charAt", desc := "([BI)C" } : Jvm.MethodName) jdk_43_method_2_code (2 : Nat) (Option.some Jvm.ClassFile.FieldType.char), Jvm.Cond.code ({ cls := "java/lang/String", name := "checkIndex", desc := "(II)V" } : Jvm.MethodName) jdk_42_method_155_code (2 : Nat) (Option.none : Option Jvm.ClassFile.FieldType), Jvm.Cond.code ({ cls := "jdk/internal/util/Preconditions", name := "checkIndex", desc := "(IILjava/util/function/BiFunction;)I" } : Jvm.MethodName) jdk_41_method_11_code (3 : Nat) (Option.some Jvm.ClassFile.FieldType.int), Jvm.Cond.code ({ cls := "com/example/zapros/zapros/io/sql/SqlDatabaseToStringPinLaw", name := "digits", desc := "(Ljava/lang/String;III)Z" } : Jvm.MethodName) method_7_code (4 : Nat) (Option.some Jvm.ClassFile.FieldType.boolean), Jvm.Cond.code ({ cls := "com/example/zapros/zapros/io/sql/SqlDatabaseToStringPinLaw", name := "dig", desc := "(Ljava/lang/String;IIII)Z" } : Jvm.MethodName) method_6_code (6 : Nat) (Option.some Jvm.ClassFile.FieldType.boolean), Jvm.Cond.code ({ cls := "com/example/zapros/zapros/io/sql/SqlDatabaseToStringPinLaw", name := "p10", desc := "(I)I" } : Jvm.MethodName) method_5_code (1 : Nat) (Option.some Jvm.ClassFile.FieldType.int), Jvm.Cond.code ({ cls := "java/lang/StringUTF16", name := "compress", desc := "([CII)[B" } : Jvm.MethodName) jdk_52_method_16_code (6 : Nat) (Option.some (Jvm.ClassFile.FieldType.array Jvm.ClassFile.FieldType.byte)), Jvm.Cond.code ({ cls := "java/lang/StringUTF16", name := "compress", desc := "([CI[BII)I" } : Jvm.MethodName) jdk_52_method_21_code (7 : Nat) (Option.some Jvm.ClassFile.FieldType.int), Jvm.Cond.code ({ cls := "java/lang/StringUTF16", name := "coderFromArrayLen", desc := "([BI)B" } : Jvm.MethodName) jdk_52_method_15_code (2 : Nat) (Option.some Jvm.ClassFile.FieldType.byte)]
set_option maxRecDepth 65536 in
theorem codes_eq : words1.filter isCode = codes1 := rfl
theorem w_codes : ∀ c ∈ words1.filter isCode, c.before args0 about1 = true := by
  rw [codes_eq]
  intro c hc
  simp only [codes1, List.mem_cons, List.not_mem_nil, or_false] at hc
  rcases hc with rfl | rfl | rfl | rfl | rfl | rfl | rfl | rfl | rfl | rfl | rfl | rfl | rfl | rfl | rfl | rfl | rfl | rfl | rfl | rfl | rfl | rfl | rfl | rfl | rfl | rfl | rfl | rfl | rfl | rfl | rfl | rfl | rfl | rfl | rfl | rfl | rfl | rfl | rfl | rfl | rfl | rfl | rfl | rfl | rfl | rfl
  · exact w_c0
  · exact w_c1
  · exact w_c2
  · exact w_c3
  · exact w_c4
  · exact w_c5
  · exact w_c6
  · exact w_c7
  · exact w_c8
  · exact w_c9
  · exact w_c10
  · exact w_c11
  · exact w_c12
  · exact w_c13
  · exact w_c14
  · exact w_c15
  · exact w_c16
  · exact w_c17
  · exact w_c18
  · exact w_c19
  · exact w_c20
  · exact w_c21
  · exact w_c22
  · exact w_c23
  · exact w_c24
  · exact w_c25
  · exact w_c26
  · exact w_c27
  · exact w_c28
  · exact w_c29
  · exact w_c30
  · exact w_c31
  · exact w_c32
  · exact w_c33
  · exact w_c34
  · exact w_c35
  · exact w_c36
  · exact w_c37
  · exact w_c38
  · exact w_c39
  · exact w_c40
  · exact w_c41
  · exact w_c42
  · exact w_c43
  · exact w_c44
  · exact w_c45
set_option maxRecDepth 65536 in
theorem w_t1 : (words1.take 24).all (fun c => isCode c || c.before args0 about1) = true := by decide +kernel
set_option maxRecDepth 65536 in
theorem w_t2 : ((words1.drop 24).take 24).all (fun c => isCode c || c.before args0 about1) = true := by decide +kernel
set_option maxRecDepth 65536 in
theorem w_t3 : (((words1.drop 24).drop 24).take 24).all (fun c => isCode c || c.before args0 about1) = true := by decide +kernel
set_option maxRecDepth 65536 in
theorem w_t4 : ((((words1.drop 24).drop 24).drop 24).take 24).all (fun c => isCode c || c.before args0 about1) = true := by decide +kernel
set_option maxRecDepth 65536 in
theorem w_t5 : (((((words1.drop 24).drop 24).drop 24).drop 24).take 24).all (fun c => isCode c || c.before args0 about1) = true := by decide +kernel
set_option maxRecDepth 65536 in
theorem w_t6 : ((((((words1.drop 24).drop 24).drop 24).drop 24).drop 24).take 24).all (fun c => isCode c || c.before args0 about1) = true := by decide +kernel
set_option maxRecDepth 65536 in
theorem w_t7 : (((((((words1.drop 24).drop 24).drop 24).drop 24).drop 24).drop 24).take 24).all (fun c => isCode c || c.before args0 about1) = true := by decide +kernel
set_option maxRecDepth 65536 in
theorem w_t8 : ((((((((words1.drop 24).drop 24).drop 24).drop 24).drop 24).drop 24).drop 24).take 24).all (fun c => isCode c || c.before args0 about1) = true := by decide +kernel
set_option maxRecDepth 65536 in
theorem w_t9 : (((((((((words1.drop 24).drop 24).drop 24).drop 24).drop 24).drop 24).drop 24).drop 24).take 24).all (fun c => isCode c || c.before args0 about1) = true := by decide +kernel
set_option maxRecDepth 65536 in
theorem w_t10 : ((((((((((words1.drop 24).drop 24).drop 24).drop 24).drop 24).drop 24).drop 24).drop 24).drop 24).take 24).all (fun c => isCode c || c.before args0 about1) = true := by decide +kernel
set_option maxRecDepth 65536 in
theorem w_t11 : ((((((((((words1.drop 24).drop 24).drop 24).drop 24).drop 24).drop 24).drop 24).drop 24).drop 24).drop 24).all (fun c => isCode c || c.before args0 about1) = true := by decide +kernel
theorem w_tables : (allAtoms (Jvm.Cond.code x code maxLocals ret :: tables_1)).before args0 about1 = true := by
  rw [allAtoms_all]
  show words1.all (fun c => c.before args0 about1) = true
  refine all_split ?_ w_codes
  rw [← List.take_append_drop 24 words1, List.all_append, w_t1, ← List.take_append_drop 24 (words1.drop 24), List.all_append, w_t2, ← List.take_append_drop 24 ((words1.drop 24).drop 24), List.all_append, w_t3, ← List.take_append_drop 24 (((words1.drop 24).drop 24).drop 24), List.all_append, w_t4, ← List.take_append_drop 24 ((((words1.drop 24).drop 24).drop 24).drop 24), List.all_append, w_t5, ← List.take_append_drop 24 (((((words1.drop 24).drop 24).drop 24).drop 24).drop 24), List.all_append, w_t6, ← List.take_append_drop 24 ((((((words1.drop 24).drop 24).drop 24).drop 24).drop 24).drop 24), List.all_append, w_t7, ← List.take_append_drop 24 (((((((words1.drop 24).drop 24).drop 24).drop 24).drop 24).drop 24).drop 24), List.all_append, w_t8, ← List.take_append_drop 24 ((((((((words1.drop 24).drop 24).drop 24).drop 24).drop 24).drop 24).drop 24).drop 24), List.all_append, w_t9, ← List.take_append_drop 24 (((((((((words1.drop 24).drop 24).drop 24).drop 24).drop 24).drop 24).drop 24).drop 24).drop 24), List.all_append, w_t10, w_t11]
  rfl
set_option maxRecDepth 65536 in
theorem w_rest : rest_1_c.before args0 about1 = true := by decide +kernel
set_option maxRecDepth 65536 in
theorem w_case : (Jvm.Cond.and given_1 narrow_1).before args0 about1 = true := by decide +kernel
set_option maxRecDepth 65536 in
theorem w_consts : constsHeld consts_1 about1 := Jvm.Lit.constsHeldB_iff.mp (by decide +kernel)
theorem w_applies : (headSpec (Jvm.Cond.code x code maxLocals ret :: tables_1) room_1).applies x e0.platform about1 = true :=
  (Spec.applies_iff w_frames).mpr ⟨w_running, w_runnable, w_alone, w_named, w_hears, w_ripe, w_room, w_tables⟩
theorem atStart : AtStart classFile x code maxLocals ret World_1 tables_1 room_1 Calls_1 rest_1 Pre_1 launch0 p0 e0 about1 theMethod args0 below0 :=
  ⟨lists_1, trivial, launch0.admits_env _ _ _, launch0.least_env, fairChoices_fair.cas, fairChoices_fair.clock, w_frames, w_args, w_heap, w_applies, ⟨w_consts, trivial⟩, w_rest, w_case⟩
end start1
theorem witness_1 : WitnessClaimed_1 := ⟨start1.p0, start1.e0, start1.about1, start1.theMethod, start1.args0, start1.below0, start1.atStart⟩
end Jvm.Pilot.@@N@@
