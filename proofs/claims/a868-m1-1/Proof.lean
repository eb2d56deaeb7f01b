import JvmDerived
import JvmDerived.Pilot.@@N@@Statement
import JvmDerived.Pilot.@@N@@Code
set_option linter.unusedVariables false
set_option linter.unusedSimpArgs false
namespace Jvm.Pilot.@@N@@
open Jvm Jvm.ClassFile Sem Op Lib Jvm.Free Jvm.Stand Jvm.LawKit Jvm.RoadKit Bundle Jvm.Pilot.@@N@@.Jvm.D
/-- from S the method comes to its end, and what it leaves answers Q -/
def Rest (tb : Tables) (e : Env) (below : List Frame) (s : State) (Q : Option Value → Heap → List Loc → Prop) (k n : Nat) (S : State) : Prop :=
  ∃ t o, Steps tb e below S t ∧ t.status = .running ∧ Ended t below o ∧ ∃ v L, o = .returned v ∧ Q v t.heap L ∧ FrameEnd s o t L k n
theorem Rest.via {tb : Tables} {e : Env} {below : List Frame} {s : State} {Q : Option Value → Heap → List Loc → Prop} {k n : Nat} {S S' : State} (h : ∀ t, Steps tb e below S' t → Steps tb e below S t) (r : Rest tb e below s Q k n S') : Rest tb e below s Q k n S := by
  obtain ⟨t, o, h1, h2⟩ := r; exact ⟨t, o, h t h1, h2⟩
theorem Rest.ret {p : Program} {l : Launch} {e : Env} {R : Room} {s : State} {m : MethodId} {args : Array Value} {below : List Frame} {meth : Method} {c : Code} {T : State} {locs : List Loc} {cells slots : Nat} {Q : Option Value → Heap → List Loc → Prop} {k n : Nat} {S : State} {v : Option Value}
    (X : Stand p l e R s m args below meth c T locs cells slots) (hv : meth.sig.returnType = none → v = none) (hlocks : meth.locks = false)
    (st : ∀ fs, (∀ (f : JFrame) (acts : List Action), f.method = m → f.locked = none → f.entered = [] → (doReturn e (T.setTop f) acts v).1 = T.setFrames fs) → Steps p.tables e below S (T.setFrames fs))
    (hq : Q v T.heap locs) (hk : cells ≤ k) (hn : slots ≤ n) : Rest p.tables e below s Q k n S := by
  obtain ⟨fs, hr, hrun, hended, hW, hsame⟩ := X.leave (v := v) hv hlocks
  exact ⟨_, _, st fs hr, hrun, hended, _, _, rfl, hq, ⟨_, rfl⟩, hW, hsame.mono hk hn⟩
theorem own_nn (x : Int32) : ¬ (x &&& (2147483647 : Int32)) < (0 : Int32) := by
  have e := c_mask x 2147483647 31 (by decide) (by decide)
  rw [Int32.lt_iff_toInt_lt, e]
  have h0 : (0 : Int32).toInt = 0 := by decide
  have := Int.emod_nonneg x.toInt (b := ((2 ^ 31 : Nat) : Int)) (by decide)
  omega
def own_eq (w1 w2 u1 u2 : Int32) : Int32 := if w1 = u1 then (if w2 = u2 then 1 else 0) else 0
theorem own_eq_self (a b : Int32) : own_eq a b a b = (1 : Int32) := by rw [own_eq, if_pos rfl, if_pos rfl]
theorem own_e11 {a b u v : Int32} (h1 : u = a) (h2 : v = b) : own_eq a b u v = (1 : Int32) ∧ own_eq u v a b = (1 : Int32) := by subst h1 h2; exact ⟨own_eq_self _ _, own_eq_self _ _⟩
theorem own_e10 {a b u v : Int32} (h1 : u = a) (h2 : ¬ v = b) : own_eq a b u v = (0 : Int32) ∧ own_eq u v a b = (0 : Int32) := by
  subst h1
  exact ⟨by rw [own_eq, if_pos rfl, if_neg (fun q => h2 q.symm)], by rw [own_eq, if_pos rfl, if_neg h2]⟩
theorem own_e0 {a b u v : Int32} (h1 : ¬ u = a) : own_eq a b u v = (0 : Int32) ∧ own_eq u v a b = (0 : Int32) := ⟨by rw [own_eq, if_neg (fun q => h1 q.symm)], by rw [own_eq, if_neg h1]⟩
def own_IC (Z : State) (h : Heap) (w : Addr) : Prop := Sta Z h "java/lang/Integer$IntegerCache" "high" "I" (.int (127 : Int32)) ∧ Sta Z h "java/lang/Integer$IntegerCache" "cache" "[Ljava/lang/Integer;" (.ref w) ∧ ∃ cl : Cell, Arr Z h w cl (.object "java/lang/Integer") ∧ cl.slots.size = 256 ∧ ∀ j, j < 256 → ∃ a, cl.slots[j]? = some (.ref a) ∧ Exa Z h a "java/lang/Integer"
theorem own_IC_ext {Z : State} {h h' : Heap} {w : Addr} (E : Ext h h') (F : own_IC Z h w) : own_IC Z h' w := by
  obtain ⟨a, b, cl, c1, c2, c3⟩ := F
  exact ⟨a.ext E, b.ext E, cl, c1.ext E, c2, fun j hj => by obtain ⟨x, x1, x2⟩ := c3 j hj; exact ⟨x, x1, x2.ext E⟩⟩
theorem own_kext {h0 h : Heap} (K : Keep h0 h []) : Ext h0 h := ⟨K.1, fun a c q => K.2.1 a c q nin0⟩
theorem own_sub0 {vm : Vm} {f : Nat} {c t : ClassId} : vm.isSubclassAux (f + 1) c t = (c == t || match vm.classes[c]? with | some k => (match k.super with | some p => vm.isSubclassAux f p t | none => false) | none => false) := rfl
theorem own_assign {vm : Vm} {c t : ClassId} {k kt : Class} (ne : c ≠ t) (h2 : vm.classes[c]? = some k) (g2 : vm.classes[t]? = some kt) (h5 : k.kind = .ordinary) (g3 : kt.kind = .ordinary) (gi : kt.isInterface = false) (q4 : vm.isSubclass c t = false) : vm.assignable c t = false := by
  have e : vm.assignable c t = (c == t || match vm.classes[c]?, vm.classes[t]? with
      | some ks, some kt =>
        match ks.kind, kt.kind with
        | .array sc _, .array tc _ => if vm.isPrimitive sc || vm.isPrimitive tc then sc == tc else vm.assignableAux 255 sc tc
        | .primitive _, _ | _, .primitive _ => false
        | _, _ => if kt.isInterface then (vm.superinterfaces c).contains t else vm.isSubclass c t
      | _, _ => false) := rfl
  rw [e, h2, g2]
  simp [ne, h5, g3, gi, q4]
theorem own_nobox {Z : State} {a0 : Array Value} {K : String} {n : Nat} (w1 : (Jvm.Cond.superclass "java/lang/Integer" "java/lang/Number").before a0 Z = true) (w2 : (Jvm.Cond.superclass "java/lang/Number" "java/lang/Object").before a0 Z = true) (w3 : (Jvm.Cond.noSuperclass "java/lang/Object").before a0 Z = true)
    (wk : (Jvm.Cond.instantiable K n).before a0 Z = true) (n1 : "java/lang/Integer" ≠ K) (n2 : "java/lang/Number" ≠ K) (n3 : "java/lang/Object" ≠ K) : ∃ c t, Z.vm.findClass "java/lang/Integer" = some c ∧ Z.vm.findClass K = some t ∧ Z.vm.assignable c t = false := by
  obtain ⟨t, kt, g1, g2, g3, g4, -⟩ := Cond.instantiable_spec wk
  obtain ⟨co, ko, o1, o2, o3, -, -⟩ := Cond.noSuperclass_spec w3
  obtain ⟨c, h0⟩ := found_sup w1
  obtain ⟨p, k, kp, h1, h2, h3, h4, h5, -, h7⟩ := Cond.superclass_spec h0 w1
  obtain ⟨p', k', kp', j1, j2, j3, j4, j5, -, j7⟩ := Cond.superclass_spec h1 w2
  cases o1.symm.trans j1
  have ns : NS Z "java/lang/Integer" K := NS.step w1 (NS.step w2 ⟨co, t, o1, g1, fun fuel => by
    cases fuel with
    | zero => rfl
    | succ f => rw [own_sub0, o2]; simp [ids_ne o1 g1 n3, o3]⟩ n2) n1
  obtain ⟨c2, t2, q1, q2, q3⟩ := ns
  have ec : c2 = c := Option.some.inj (q1.symm.trans h0)
  have et : t2 = t := Option.some.inj (q2.symm.trans g1)
  rw [ec, et] at q3
  have gi : kt.isInterface = false := (Bool.or_eq_false_iff.mp g4).1
  have ne := ids_ne h0 g1 n1
  have q4 : Z.vm.isSubclass c t = false := q3 _
  exact ⟨c, t, h0, g1, own_assign ne h2 g2 h5 g3 gi q4⟩
theorem own_IC_start {s : State} {args : Array Value} (q3 : (Jvm.Cond.eq (.static "java/lang/Integer$IntegerCache" "high" "I") (.int (127 : Int32))).value args s none s [] = some true) (q1 : (Jvm.Cond.initializedFor "java/lang/Integer$IntegerCache" "high" "I").before args s = true)
    (q4 : (Jvm.Cond.arrayOf (.static "java/lang/Integer$IntegerCache" "cache" "[Ljava/lang/Integer;") (.object "java/lang/Integer")).value args s none s [] = some true) (q2 : (Jvm.Cond.laysStatic "java/lang/Integer$IntegerCache" "cache" "[Ljava/lang/Integer;").before args s = true) (q0 : (Jvm.Cond.initialized "java/lang/Integer$IntegerCache").before args s = true)
    (q6 : (Jvm.Cond.eq (.length (.static "java/lang/Integer$IntegerCache" "cache" "[Ljava/lang/Integer;")) (.int (256 : Int32))).value args s none s [] = some true)
    {r : Jvm.Cond} (q7 : (Jvm.Cond.all (.static "java/lang/Integer$IntegerCache" "cache" "[Ljava/lang/Integer;") (.and (.exactly (.elem (.static "java/lang/Integer$IntegerCache" "cache" "[Ljava/lang/Integer;") (.index 0)) "java/lang/Integer") r)).value args s none s [] = some true) : ∃ w, own_IC s s.heap w := by
  obtain ⟨x, y, e1, e2, k1, k2⟩ := cmp_v (Or.inl q3)
  cases (Option.some.inj (e2.symm.trans (Term.int_eval 127)) : y = .int 127)
  obtain ⟨z, rfl⟩ := k2
  have hz : z = 127 := gotT (Cond.eq_ints e1 (Term.int_eval 127)) q3
  subst hz
  have S1 := Sta.start e1 (Or.inl q1)
  obtain ⟨w, ew⟩ := arr_v q4
  have S2 := Sta.start ew (Or.inr ⟨q0, q2⟩)
  obtain ⟨cl, A⟩ := Arr.start ew q4
  have hat : s.arrayAt? w = some cl := Arr.fin (Vm.Alike.refl _) A
  obtain ⟨x', y', f1, f2, j1, j2⟩ := cmp_v (Or.inl q6)
  obtain ⟨b, cell, g1, g2, g3, g4⟩ := Jvm.Lib.length_spec f1
  cases ew.symm.trans g1
  cases hat.symm.trans g2
  subst g4
  have hl : cl.slots.size.toInt32 = 256 := gotT (Cond.eq_ints f1 (Term.int_eval 256)) q6
  have hs : cl.slots.size = 256 := by
    have h := len_toInt g3
    rw [hl] at h
    have e : (256 : Int32).toInt = 256 := by decide
    omega
  refine ⟨w, S1, S2, cl, A, hs, fun j hj => ?_⟩
  have hj' : j < cl.slots.size := by omega
  obtain ⟨hx, -⟩ := and_e (Cond.all_elim ew hat q7 j hj')
  obtain ⟨a, c, ce, k, m1, m2, m3, m4, m5, m6, m7⟩ := Cond.exactly_spec (beq_iff_eq.mpr hx : Jvm.Cond.holds args s none s [j] _ = true)
  have hjn : ¬ (j.toInt32 < 0) := by
    have h := len_toInt (n := j) (by omega)
    rw [Int32.lt_iff_toInt_lt, h]
    have e : (0 : Int32).toInt = 0 := by decide
    omega
  have ee := elem_f (t := .static "java/lang/Integer$IntegerCache" "cache" "[Ljava/lang/Integer;") (a := .index 0) (args := args) (first := s) (o := none) (idx := [j]) (s := s) (x := w) (j := j.toInt32) (cl := cl) ew (Term.index_eval j) hat hjn
  rw [m1] at ee
  have hn : j.toInt32.toNatClampNeg = j := by
    have h := nat_of hjn
    have h2 := len_toInt (n := j) (by omega)
    omega
  rw [hn] at ee
  subst m6
  exact ⟨a, ee.symm, ce, k, m3, m2, m4, m5, m7⟩
theorem own_cidx {p : Int32} (h1 : ¬ (p < (-128 : Int32))) (h2 : ¬ ((127 : Int32) < p)) : ¬ (p + (128 : Int32)) < 0 ∧ (p + (128 : Int32)).toNatClampNeg < 256 := by
  rw [Int32.lt_iff_toInt_lt] at h1 h2
  have e1 : (-128 : Int32).toInt = -128 := by decide
  have e2 : (127 : Int32).toInt = 127 := by decide
  have e3 : (128 : Int32).toInt = 128 := by decide
  have e0 : (0 : Int32).toInt = 0 := by decide
  have a := c_iadd p (128 : Int32)
  have r := rng32 (p + (128 : Int32))
  have r2 := rng32 p
  have hn : ¬ (p + (128 : Int32)) < 0 := by rw [Int32.lt_iff_toInt_lt]; omega
  have h := nat_of hn
  exact ⟨hn, by omega⟩
theorem d6_0 : decode jdk_18_method_1_code 0 = .ok (.aload_n 0, 1) := by decide +kernel
theorem d6_1 : decode jdk_18_method_1_code 1 = .ok (.invokespecial 1, 3) := by decide +kernel
theorem d6_4 : decode jdk_18_method_1_code 4 = .ok (.return_, 1) := by decide +kernel
theorem pn_0 : plainName "java/lang/Number" = true := by first | (simp [plainName, overriddenIn]; done) | decide +kernel
theorem ef_Nu (m : MethodId) (a0 : Addr) : entryFrame m #[(.ref a0)] 1 = mkF m 0 #[.val (.ref a0)] [] := by first | (simp [entryFrame, mkF, argsToLocals, Value.category, maxLocals]; done) | rfl
def QNu (Z : State) (a0 : Addr) (h0 : Heap) (n0 : Nat) (v : Option Value) (h : Heap) (L : List Loc) : Prop := v = none ∧ Fr n0 L ∧ h = h0
set_option maxRecDepth 65536 in
set_option maxHeartbeats 40000000 in
theorem rmNu (l : Launch) (Z : State) (aw : Array Value) (hw : ∀ d ∈ tables_1, d.before aw Z = true) (ws : List Jvm.Cond) (a0 : Addr) (h0 : Heap) (n0 : Nat) (Z0 : n0 ≤ h0.size)  :
    MetFree l (⟨"java/lang/Number", "<init>", "()V"⟩ : MethodName) (head1 (Jvm.Cond.code (⟨"java/lang/Number", "<init>", "()V"⟩ : MethodName) jdk_18_method_1_code 1 none :: ws) ({ frames := 1, cells := 0, slots := 0, locals := 12 } : Room)) (fun a U => a = #[(.ref a0)] ∧ Z.Warmed39 U.vm ∧ U.heap = h0) (fun _ _ _ _ _ => True) (fun _ U o U' => ∃ v L, o = .returned v ∧ QNu Z a0 h0 n0 v U'.heap L ∧ FrameEnd U o U' L ({ frames := 1, cells := 0, slots := 0, locals := 12 } : Room).cells ({ frames := 1, cells := 0, slots := 0, locals := 12 } : Room).slots) := by
  refine MetFree.of_bodySF (plainFor_of_name pn_0) hisR ?_
  intro p e s m args below meth c s₁ Bd hml0 hP hK
  obtain ⟨rfl, hZ, hh⟩ := hP
  have hx := Bd.exec
  have hby := Bd.bytes
  have hml : c.maxLocals = 1 := hml0
  have hown : s.vm.findClass "java/lang/Number" = some m.cls := findClass_of_methodNamed Bd.named
  have hnm := (name_of_methodNamed Bd.named Bd.method).1
  have hlk : meth.locks = false := BodyLoose.notSynchronized Bd
  have X0 : Stand p l e ({ frames := 1, cells := 0, slots := 0, locals := 12 } : Room) s m #[(.ref a0)] below meth c s₁ [] 0 0 := Stand.of_body Bd
  have eh0 : s₁.heap = h0 := by rw [← hh, Bd.state]; rfl
  have N0 := Fr.nil n0
  show Rest p.tables e below s (QNu Z a0 h0 n0) _ _ (s₁.setTop (entryFrame m #[(.ref a0)] 1))
  refine Rest.via (fun t k => castTop (ef_Nu m a0) k) ?_
  show Rest p.tables e below s _ _ _ (s₁.setTop (mkF m 0 #[.val (.ref a0)] []))
  refine Rest.via (fun t k => XS.aloadN X0.here hx rfl (hb hby d6_0) rfl rfl k) ?_
  show Rest p.tables e below s _ _ _ (s₁.setTop (mkF m 1 #[.val (.ref a0)] [(.ref a0)]))
  obtain ⟨T1, X1, e1, st1⟩ := initO X0 hx hZ hown (hw _ (List.mem_of_getElem? (i := 39) rfl)) (hw _ (List.mem_of_getElem? (i := 8) rfl)) (hw _ (List.mem_of_getElem? (i := 9) rfl)) eh0 (g := (mkF m 1 #[.val (.ref a0)] [(.ref a0)])) rfl (by rw [hml]; rfl) rfl (hb hby d6_1) (by decide) (W := 0) (by show 2 * 0 + _ ≤ _; exact Nat.le_of_eq rfl) (by decide)
  refine Rest.via (fun t k => st1 t k) ?_
  show Rest p.tables e below s _ _ _ (T1.setTop (mkF m 4 #[.val (.ref a0)] []))
  refine Rest.ret X1 (v := none) (fun _ => rfl) hlk (fun fs hr => X1.returnOut hx Bd.returns (hb hby d6_4) hr) ?_ (by decide) (by decide)
  rw [e1]
  exact ⟨rfl, N0, rfl⟩
theorem pd_0 : parseMethodDescriptor "()V" = some ⟨[], none⟩ := by decide +kernel
theorem d5_0 : decode jdk_33_method_23_code 0 = .ok (.aload_n 0, 1) := by decide +kernel
theorem d5_1 : decode jdk_33_method_23_code 1 = .ok (.invokespecial 202, 3) := by decide +kernel
theorem d5_4 : decode jdk_33_method_23_code 4 = .ok (.aload_n 0, 1) := by decide +kernel
theorem d5_5 : decode jdk_33_method_23_code 5 = .ok (.iload_n 1, 1) := by decide +kernel
theorem d5_6 : decode jdk_33_method_23_code 6 = .ok (.putfield 205, 3) := by decide +kernel
theorem d5_9 : decode jdk_33_method_23_code 9 = .ok (.return_, 1) := by decide +kernel
theorem pn_1 : plainName "java/lang/Integer" = true := by first | (simp [plainName, overriddenIn]; done) | decide +kernel
theorem ef_In (m : MethodId) (a0 : Addr) (p1 : Int32) : entryFrame m #[(.ref a0), (.int p1)] 2 = mkF m 0 #[.val (.ref a0), .val (.int p1)] [] := by first | (simp [entryFrame, mkF, argsToLocals, Value.category, maxLocals]; done) | rfl
def QIn (Z : State) (a0 : Addr) (p1 : Int32) (h0 : Heap) (n0 : Nat) (v : Option Value) (h : Heap) (L : List Loc) : Prop := v = none ∧ Fr n0 L ∧ Keep h0 h [a0]
set_option maxRecDepth 65536 in
set_option maxHeartbeats 40000000 in
theorem rmIn (l : Launch) (Z : State) (aw : Array Value) (hw : ∀ d ∈ tables_1, d.before aw Z = true) (ws : List Jvm.Cond) (a0 : Addr) (p1 : Int32) (h0 : Heap) (n0 : Nat) (Z0 : n0 ≤ h0.size) (E_a0 : Exa Z h0 a0 "java/lang/Integer") (F_value : Fld Z h0 a0 "java/lang/Integer" "value" "I" (.int (0 : Int32))) (g_a0 : n0 ≤ a0) :
    MetFree l (⟨"java/lang/Integer", "<init>", "(I)V"⟩ : MethodName) (head1 (Jvm.Cond.code (⟨"java/lang/Integer", "<init>", "(I)V"⟩ : MethodName) jdk_33_method_23_code 2 none :: ws) ({ frames := 2, cells := 0, slots := 0, locals := 24 } : Room)) (fun a U => a = #[(.ref a0), (.int p1)] ∧ Z.Warmed39 U.vm ∧ U.heap = h0) (fun _ _ _ _ _ => True) (fun _ U o U' => ∃ v L, o = .returned v ∧ QIn Z a0 p1 h0 n0 v U'.heap L ∧ FrameEnd U o U' L ({ frames := 2, cells := 0, slots := 0, locals := 24 } : Room).cells ({ frames := 2, cells := 0, slots := 0, locals := 24 } : Room).slots) := by
  refine MetFree.of_bodySF (plainFor_of_name pn_1) hisR ?_
  intro p e s m args below meth c s₁ Bd hml0 hP hK
  obtain ⟨rfl, hZ, hh⟩ := hP
  have hx := Bd.exec
  have hby := Bd.bytes
  have hml : c.maxLocals = 2 := hml0
  have hown : s.vm.findClass "java/lang/Integer" = some m.cls := findClass_of_methodNamed Bd.named
  have hnm := (name_of_methodNamed Bd.named Bd.method).1
  have hlk : meth.locks = false := BodyLoose.notSynchronized Bd
  have X0 : Stand p l e ({ frames := 2, cells := 0, slots := 0, locals := 24 } : Room) s m #[(.ref a0), (.int p1)] below meth c s₁ [] 0 0 := Stand.of_body Bd
  have eh0 : s₁.heap = h0 := by rw [← hh, Bd.state]; rfl
  have N0 := Fr.nil n0
  show Rest p.tables e below s (QIn Z a0 p1 h0 n0) _ _ (s₁.setTop (entryFrame m #[(.ref a0), (.int p1)] 2))
  refine Rest.via (fun t k => castTop (ef_In m a0 p1) k) ?_
  show Rest p.tables e below s _ _ _ (s₁.setTop (mkF m 0 #[.val (.ref a0), .val (.int p1)] []))
  refine Rest.via (fun t k => XS.aloadN X0.here hx rfl (hb hby d5_0) rfl rfl k) ?_
  show Rest p.tables e below s _ _ _ (s₁.setTop (mkF m 1 #[.val (.ref a0), .val (.int p1)] [(.ref a0)]))
  obtain ⟨_, _, ⟨T1, L1, k1, n1⟩, -, X1, ⟨Lc1, hQ1, l1, y1, z1⟩, st1⟩ := X0.specialBack hx (y := (⟨"java/lang/Number", "<init>", "()V"⟩ : MethodName)) rfl hown (mvT hZ (hw _ (List.mem_of_getElem? (i := 33) rfl))) (mvT hZ (hw _ (List.mem_of_getElem? (i := 34) rfl))) (mvT hZ (hw _ (List.mem_of_getElem? (i := 38) rfl))) (by decide) (backOf (W := 0) (rmNu l Z aw hw [] a0  h0 n0 (Nat.le_trans Z0 (Keep.refl h0 [a0]).1) ) hZ (hw _ (List.mem_of_getElem? (i := 38) rfl)) (hw _ (List.mem_of_getElem? (i := 37) rfl)) (by decide) (by decide)) (g := (mkF m 1 #[.val (.ref a0), .val (.int p1)] [(.ref a0)])) rfl (by rw [hml]; rfl) (Steps.refl _) (a := a0) (argsL := []) (rest := []) (lenOf pd_0 rfl) rfl (by show 2 * 0 + _ ≤ _; exact Nat.le_of_eq rfl) (hb hby d5_1) (fun _ _ => ⟨rfl, eh0, (by decide : 0 + 0 ≤ _), (by decide : 0 + 0 ≤ _)⟩)
  dsimp only [Pt.U, Pt.locs, Pt.cells, Pt.slots] at X1 l1 y1 z1 st1 hQ1
  subst l1 y1 z1
  obtain ⟨rfl, Nq1, e1⟩ := hQ1
  have N1 := Fr.app N0 Nq1
  refine Rest.via (fun t k => st1.trans k) ?_
  show Rest p.tables e below s _ _ _ (T1.setTop (mkF m 4 #[.val (.ref a0), .val (.int p1)] []))
  refine Rest.via (fun t k => XS.aloadN X1.here hx rfl (hb hby d5_4) rfl rfl k) ?_
  show Rest p.tables e below s _ _ _ (T1.setTop (mkF m 5 #[.val (.ref a0), .val (.int p1)] [(.ref a0)]))
  refine Rest.via (fun t k => XS.iloadN X1.here hx rfl (hb hby d5_5) rfl k) ?_
  show Rest p.tables e below s _ _ _ (T1.setTop (mkF m 6 #[.val (.ref a0), .val (.int p1)] [(.int p1), (.ref a0)]))
  have Fo2 := F_value
  obtain ⟨T2, h2, X2, e2, W2, st2⟩ := putF X1 hx hZ hown (host := "") (Or.inl (hw _ (List.mem_of_getElem? (i := 40) rfl))) Via.refl e1 Fo2 E_a0 (Or.inr ⟨(hw _ (List.mem_of_getElem? (i := 41) rfl)), rfl, hnm⟩) (hw _ (List.mem_of_getElem? (i := 28) rfl)) (ty := .int) (by decide) rfl rfl (g := (mkF m 6 #[.val (.ref a0), .val (.int p1)] [(.int p1), (.ref a0)])) rfl rfl (hb hby d5_6)
  refine Rest.via (fun t k => st2 t k) ?_
  have N2 := Fr.snoc X2 N1 g_a0
  have K2 : Keep h0 h2 [a0] := (Keep.refl h0 [a0]).wr W2 (Or.inl (List.mem_of_getElem? (i := 0) rfl))
  have Fw2 := Fo2.same W2
  show Rest p.tables e below s _ _ _ (T2.setTop (mkF m 9 #[.val (.ref a0), .val (.int p1)] []))
  refine Rest.ret X2 (v := none) (fun _ => rfl) hlk (fun fs hr => X2.returnOut hx Bd.returns (hb hby d5_9) hr) ?_ (by decide) (by decide)
  rw [e2]
  exact ⟨rfl, N2, K2⟩
theorem pd_1 : parseMethodDescriptor "(I)V" = some ⟨[.int], none⟩ := by decide +kernel
theorem d4_0 : decode jdk_33_method_22_code 0 = .ok (.iload_n 0, 1) := by decide +kernel
theorem d4_1 : decode jdk_33_method_22_code 1 = .ok (.bipush (-128), 2) := by decide +kernel
theorem d4_3 : decode jdk_33_method_22_code 3 = .ok (.if_icmp .lt 20, 3) := by decide +kernel
theorem d4_6 : decode jdk_33_method_22_code 6 = .ok (.iload_n 0, 1) := by decide +kernel
theorem d4_7 : decode jdk_33_method_22_code 7 = .ok (.getstatic 191, 3) := by decide +kernel
theorem d4_10 : decode jdk_33_method_22_code 10 = .ok (.if_icmp .gt 13, 3) := by decide +kernel
theorem d4_13 : decode jdk_33_method_22_code 13 = .ok (.getstatic 195, 3) := by decide +kernel
theorem d4_16 : decode jdk_33_method_22_code 16 = .ok (.iload_n 0, 1) := by decide +kernel
theorem d4_17 : decode jdk_33_method_22_code 17 = .ok (.sipush 128, 3) := by decide +kernel
theorem d4_20 : decode jdk_33_method_22_code 20 = .ok (.iadd, 1) := by decide +kernel
theorem d4_21 : decode jdk_33_method_22_code 21 = .ok (.aaload, 1) := by decide +kernel
theorem d4_22 : decode jdk_33_method_22_code 22 = .ok (.areturn, 1) := by decide +kernel
theorem d4_23 : decode jdk_33_method_22_code 23 = .ok (.new 1, 3) := by decide +kernel
theorem d4_26 : decode jdk_33_method_22_code 26 = .ok (.dup, 1) := by decide +kernel
theorem d4_27 : decode jdk_33_method_22_code 27 = .ok (.iload_n 0, 1) := by decide +kernel
theorem d4_28 : decode jdk_33_method_22_code 28 = .ok (.invokespecial 199, 3) := by decide +kernel
theorem d4_31 : decode jdk_33_method_22_code 31 = .ok (.areturn, 1) := by decide +kernel
theorem ef_Vo (m : MethodId) (p0 : Int32) : entryFrame m #[(.int p0)] 1 = mkF m 0 #[.val (.int p0)] [] := by first | (simp [entryFrame, mkF, argsToLocals, Value.category, maxLocals]; done) | rfl
def QVo (Z : State) (p0 : Int32) (wc : Addr) (h0 : Heap) (n0 : Nat) (v : Option Value) (h : Heap) (L : List Loc) : Prop := ∃ a, v = some (.ref a) ∧ Fr n0 L ∧ Keep h0 h [] ∧ Exa Z h a "java/lang/Integer"
set_option maxRecDepth 65536 in
set_option maxHeartbeats 40000000 in
theorem rmVo (l : Launch) (Z : State) (aw : Array Value) (hw : ∀ d ∈ tables_1, d.before aw Z = true) (ws : List Jvm.Cond) (p0 : Int32) (wc : Addr) (h0 : Heap) (n0 : Nat) (Z0 : n0 ≤ h0.size) (IC : own_IC Z h0 wc) :
    MetFree l (⟨"java/lang/Integer", "valueOf", "(I)Ljava/lang/Integer;"⟩ : MethodName) (head1 (Jvm.Cond.code (⟨"java/lang/Integer", "valueOf", "(I)Ljava/lang/Integer;"⟩ : MethodName) jdk_33_method_22_code 1 (some (.object "java/lang/Integer")) :: ws) ({ frames := 3, cells := 1, slots := 1, locals := 38 } : Room)) (fun a U => a = #[(.int p0)] ∧ Z.Warmed39 U.vm ∧ U.heap = h0) (fun _ _ _ _ _ => True) (fun _ U o U' => ∃ v L, o = .returned v ∧ QVo Z p0 wc h0 n0 v U'.heap L ∧ FrameEnd U o U' L ({ frames := 3, cells := 1, slots := 1, locals := 38 } : Room).cells ({ frames := 3, cells := 1, slots := 1, locals := 38 } : Room).slots) := by
  refine MetFree.of_bodySF (plainFor_of_name pn_1) hisR ?_
  intro p e s m args below meth c s₁ Bd hml0 hP hK
  obtain ⟨rfl, hZ, hh⟩ := hP
  have hx := Bd.exec
  have hby := Bd.bytes
  have hml : c.maxLocals = 1 := hml0
  have hown : s.vm.findClass "java/lang/Integer" = some m.cls := findClass_of_methodNamed Bd.named
  have hnm := (name_of_methodNamed Bd.named Bd.method).1
  have hlk : meth.locks = false := BodyLoose.notSynchronized Bd
  have X0 : Stand p l e ({ frames := 3, cells := 1, slots := 1, locals := 38 } : Room) s m #[(.int p0)] below meth c s₁ [] 0 0 := Stand.of_body Bd
  have eh0 : s₁.heap = h0 := by rw [← hh, Bd.state]; rfl
  have N0 := Fr.nil n0
  show Rest p.tables e below s (QVo Z p0 wc h0 n0) _ _ (s₁.setTop (entryFrame m #[(.int p0)] 1))
  refine Rest.via (fun t k => castTop (ef_Vo m p0) k) ?_
  have IC0 := IC
  obtain ⟨Sh, Sc, clA, ArA, szA, elA⟩ := IC0
  show Rest p.tables e below s _ _ _ (s₁.setTop (mkF m 0 #[.val (.int p0)] []))
  refine Rest.via (fun t k => XS.iloadN X0.here hx rfl (hb hby d4_0) rfl k) ?_
  show Rest p.tables e below s _ _ _ (s₁.setTop (mkF m 1 #[.val (.int p0)] [(.int p0)]))
  refine Rest.via (fun t k => XS.bipush X0.here hx rfl (hb hby d4_1) k) ?_
  show Rest p.tables e below s _ _ _ (s₁.setTop (mkF m 3 #[.val (.int p0)] [(.int (-128 : Int32)), (.int p0)]))
  by_cases hc3 : p0 < (-128 : Int32)
  · refine Rest.via (fun t k => XS.icmpYes X0.here hx rfl (pc0 := 3) (pc' := 23) rfl (hb hby d4_3) rfl (tlt hc3).1 (by decide) (by decide) k) ?_
    show Rest p.tables e below s _ _ _ (s₁.setTop (mkF m 23 #[.val (.int p0)] []))
    obtain ⟨T1, h1, X1, e1, E1, A1, D1, -, st1⟩ := newO X0 hx hZ hown (hw _ (List.mem_of_getElem? (i := 27) rfl)) (hw _ (List.mem_of_getElem? (i := 28) rfl)) (hw _ (List.mem_of_getElem? (i := 23) rfl)) eh0 (g := (mkF m 23 #[.val (.int p0)] [])) rfl (hb hby d4_23) (by decide) (by decide)
    obtain ⟨b1, gq1⟩ : ∃ z, z = h0.size := ⟨_, rfl⟩
    rw [← gq1] at A1 D1 st1
    have sz_b1 : h0.size ≤ b1 := Nat.le_trans (Keep.refl h0 []).1 (Nat.le_of_eq gq1.symm)
    have g_b1 : n0 ≤ b1 := Nat.le_trans Z0 sz_b1
    have K1 : Keep h0 h1 [] := (Keep.refl h0 []).ext E1
    have E_b1 := A1
    have F_value_b1 : Fld Z h1 b1 "java/lang/Integer" "value" "I" (.int (0 : Int32)) := D1 (Or.inr (hw _ (List.mem_of_getElem? (i := 41) rfl))) (ty := .int) (by decide)
    refine Rest.via (fun t k => st1 t k) ?_
    show Rest p.tables e below s _ _ _ (T1.setTop (mkF m 26 #[.val (.int p0)] [(.ref b1)]))
    refine Rest.via (fun t k => XS.dup X1.here hx rfl (hb hby d4_26) rfl rfl k) ?_
    show Rest p.tables e below s _ _ _ (T1.setTop (mkF m 27 #[.val (.int p0)] [(.ref b1), (.ref b1)]))
    refine Rest.via (fun t k => XS.iloadN X1.here hx rfl (hb hby d4_27) rfl k) ?_
    show Rest p.tables e below s _ _ _ (T1.setTop (mkF m 28 #[.val (.int p0)] [(.int p0), (.ref b1), (.ref b1)]))
    obtain ⟨_, _, ⟨T2, L2, k2, n2⟩, -, X2, ⟨Lc2, hQ2, l2, y2, z2⟩, st2⟩ := X1.specialBack hx (y := (⟨"java/lang/Integer", "<init>", "(I)V"⟩ : MethodName)) rfl hown (mvT hZ (hw _ (List.mem_of_getElem? (i := 29) rfl))) (mvT hZ (hw _ (List.mem_of_getElem? (i := 30) rfl))) (mvT hZ (hw _ (List.mem_of_getElem? (i := 32) rfl))) (by decide) (backOf (W := 1) (rmIn l Z aw hw [] b1 p0  h1 n0 (Nat.le_trans Z0 K1.1) E_b1 F_value_b1 g_b1) hZ (hw _ (List.mem_of_getElem? (i := 32) rfl)) (hw _ (List.mem_of_getElem? (i := 23) rfl)) (by decide) (by decide)) (g := (mkF m 28 #[.val (.int p0)] [(.int p0), (.ref b1), (.ref b1)])) rfl (by rw [hml]; rfl) (Steps.refl _) (a := b1) (argsL := [(.int p0)]) (rest := [(.ref b1)]) (lenOf pd_1 rfl) rfl (by show 2 * 0 + _ ≤ _; exact Nat.le_of_eq rfl) (hb hby d4_28) (fun _ _ => ⟨rfl, e1, (by decide : 1 + 0 ≤ _), (by decide : 1 + 0 ≤ _)⟩)
    dsimp only [Pt.U, Pt.locs, Pt.cells, Pt.slots] at X2 l2 y2 z2 st2 hQ2
    subst l2 y2 z2
    obtain ⟨h2, e2⟩ : ∃ z, T2.heap = z := ⟨_, rfl⟩
    rw [e2] at hQ2
    obtain ⟨rfl, Nq2, Kq2⟩ := hQ2
    have N2 := Fr.app N0 Nq2
    have K2 : Keep h0 h2 [] := K1.trans Kq2 (allS (Or.inr sz_b1) all0)
    refine Rest.via (fun t k => st2.trans k) ?_
    show Rest p.tables e below s _ _ _ (T2.setTop (mkF m 31 #[.val (.int p0)] [(.ref b1)]))
    refine Rest.ret X2 (v := some (.ref b1)) (fun h => by rw [Bd.returns] at h; cases h) hlk (fun fs hr => retOut X2 hx Bd.returns rfl (Or.inr (Or.inr (Or.inr (Or.inr ⟨rfl, rfl, rfl⟩)))) (hb hby d4_31) hr) ?_ (by decide) (by decide)
    rw [e2]
    exact ⟨b1, rfl, N2, K2, (E_b1.keep Kq2)⟩
  · refine Rest.via (fun t k => XS.icmpNo X0.here hx rfl (hb hby d4_3) rfl (flt hc3).1 k) ?_
    show Rest p.tables e below s _ _ _ (s₁.setTop (mkF m 6 #[.val (.int p0)] []))
    refine Rest.via (fun t k => XS.iloadN X0.here hx rfl (hb hby d4_6) rfl k) ?_
    show Rest p.tables e below s _ _ _ (s₁.setTop (mkF m 7 #[.val (.int p0)] [(.int p0)]))
    obtain ⟨T3, X3, e3, st3⟩ := getS2 X0 hx hZ hown (host := "") (Or.inl (hw _ (List.mem_of_getElem? (i := 25) rfl))) Via.refl eh0 Sh (g := (mkF m 7 #[.val (.int p0)] [(.int p0)])) rfl (hb hby d4_7)
    refine Rest.via (fun t k => st3 t k) ?_
    show Rest p.tables e below s _ _ _ (T3.setTop (mkF m 10 #[.val (.int p0)] [(.int (127 : Int32)), (.int p0)]))
    by_cases hc10 : (127 : Int32) < p0
    · refine Rest.via (fun t k => XS.icmpYes X3.here hx rfl (pc0 := 10) (pc' := 23) rfl (hb hby d4_10) rfl (tlt hc10).2.2.1 (by decide) (by decide) k) ?_
      show Rest p.tables e below s _ _ _ (T3.setTop (mkF m 23 #[.val (.int p0)] []))
      obtain ⟨T4, h4, X4, e4, E4, A4, D4, -, st4⟩ := newO X3 hx hZ hown (hw _ (List.mem_of_getElem? (i := 27) rfl)) (hw _ (List.mem_of_getElem? (i := 28) rfl)) (hw _ (List.mem_of_getElem? (i := 23) rfl)) e3 (g := (mkF m 23 #[.val (.int p0)] [])) rfl (hb hby d4_23) (by decide) (by decide)
      obtain ⟨b4, gq4⟩ : ∃ z, z = h0.size := ⟨_, rfl⟩
      rw [← gq4] at A4 D4 st4
      have sz_b4 : h0.size ≤ b4 := Nat.le_trans (Keep.refl h0 []).1 (Nat.le_of_eq gq4.symm)
      have g_b4 : n0 ≤ b4 := Nat.le_trans Z0 sz_b4
      have K4 : Keep h0 h4 [] := (Keep.refl h0 []).ext E4
      have E_b4 := A4
      have F_value_b4 : Fld Z h4 b4 "java/lang/Integer" "value" "I" (.int (0 : Int32)) := D4 (Or.inr (hw _ (List.mem_of_getElem? (i := 41) rfl))) (ty := .int) (by decide)
      refine Rest.via (fun t k => st4 t k) ?_
      show Rest p.tables e below s _ _ _ (T4.setTop (mkF m 26 #[.val (.int p0)] [(.ref b4)]))
      refine Rest.via (fun t k => XS.dup X4.here hx rfl (hb hby d4_26) rfl rfl k) ?_
      show Rest p.tables e below s _ _ _ (T4.setTop (mkF m 27 #[.val (.int p0)] [(.ref b4), (.ref b4)]))
      refine Rest.via (fun t k => XS.iloadN X4.here hx rfl (hb hby d4_27) rfl k) ?_
      show Rest p.tables e below s _ _ _ (T4.setTop (mkF m 28 #[.val (.int p0)] [(.int p0), (.ref b4), (.ref b4)]))
      obtain ⟨_, _, ⟨T5, L5, k5, n5⟩, -, X5, ⟨Lc5, hQ5, l5, y5, z5⟩, st5⟩ := X4.specialBack hx (y := (⟨"java/lang/Integer", "<init>", "(I)V"⟩ : MethodName)) rfl hown (mvT hZ (hw _ (List.mem_of_getElem? (i := 29) rfl))) (mvT hZ (hw _ (List.mem_of_getElem? (i := 30) rfl))) (mvT hZ (hw _ (List.mem_of_getElem? (i := 32) rfl))) (by decide) (backOf (W := 1) (rmIn l Z aw hw [] b4 p0  h4 n0 (Nat.le_trans Z0 K4.1) E_b4 F_value_b4 g_b4) hZ (hw _ (List.mem_of_getElem? (i := 32) rfl)) (hw _ (List.mem_of_getElem? (i := 23) rfl)) (by decide) (by decide)) (g := (mkF m 28 #[.val (.int p0)] [(.int p0), (.ref b4), (.ref b4)])) rfl (by rw [hml]; rfl) (Steps.refl _) (a := b4) (argsL := [(.int p0)]) (rest := [(.ref b4)]) (lenOf pd_1 rfl) rfl (by show 2 * 0 + _ ≤ _; exact Nat.le_of_eq rfl) (hb hby d4_28) (fun _ _ => ⟨rfl, e4, (by decide : 1 + 0 ≤ _), (by decide : 1 + 0 ≤ _)⟩)
      dsimp only [Pt.U, Pt.locs, Pt.cells, Pt.slots] at X5 l5 y5 z5 st5 hQ5
      subst l5 y5 z5
      obtain ⟨h5, e5⟩ : ∃ z, T5.heap = z := ⟨_, rfl⟩
      rw [e5] at hQ5
      obtain ⟨rfl, Nq5, Kq5⟩ := hQ5
      have N5 := Fr.app N0 Nq5
      have K5 : Keep h0 h5 [] := K4.trans Kq5 (allS (Or.inr sz_b4) all0)
      refine Rest.via (fun t k => st5.trans k) ?_
      show Rest p.tables e below s _ _ _ (T5.setTop (mkF m 31 #[.val (.int p0)] [(.ref b4)]))
      refine Rest.ret X5 (v := some (.ref b4)) (fun h => by rw [Bd.returns] at h; cases h) hlk (fun fs hr => retOut X5 hx Bd.returns rfl (Or.inr (Or.inr (Or.inr (Or.inr ⟨rfl, rfl, rfl⟩)))) (hb hby d4_31) hr) ?_ (by decide) (by decide)
      rw [e5]
      exact ⟨b4, rfl, N5, K5, (E_b4.keep Kq5)⟩
    · refine Rest.via (fun t k => XS.icmpNo X3.here hx rfl (hb hby d4_10) rfl (flt hc10).2.2.1 k) ?_
      show Rest p.tables e below s _ _ _ (T3.setTop (mkF m 13 #[.val (.int p0)] []))
      obtain ⟨T6, X6, e6, st6⟩ := getS2 X3 hx hZ hown (host := "") (Or.inl (hw _ (List.mem_of_getElem? (i := 45) rfl))) Via.refl e3 Sc (g := (mkF m 13 #[.val (.int p0)] [])) rfl (hb hby d4_13)
      refine Rest.via (fun t k => st6 t k) ?_
      show Rest p.tables e below s _ _ _ (T6.setTop (mkF m 16 #[.val (.int p0)] [(.ref wc)]))
      refine Rest.via (fun t k => XS.iloadN X6.here hx rfl (hb hby d4_16) rfl k) ?_
      show Rest p.tables e below s _ _ _ (T6.setTop (mkF m 17 #[.val (.int p0)] [(.int p0), (.ref wc)]))
      refine Rest.via (fun t k => XS.sipush X6.here hx rfl (hb hby d4_17) k) ?_
      show Rest p.tables e below s _ _ _ (T6.setTop (mkF m 20 #[.val (.int p0)] [(.int (128 : Int32)), (.int p0), (.ref wc)]))
      refine Rest.via (fun t k => XS.iadd X6.here hx rfl (hb hby d4_20) rfl k) ?_
      show Rest p.tables e below s _ _ _ (T6.setTop (mkF m 21 #[.val (.int p0)] [(.int (p0 + (128 : Int32))), (.ref wc)]))
      have cx := own_cidx hc3 hc10
      obtain ⟨ax, hx1, hx2⟩ := elA _ cx.2
      refine Rest.via (fun t k => X6.aaload hx (j := (p0 + (128 : Int32))) (v := .ref ax) (by rw [e6]; exact ArA.1) (State.isArrayOf_alike hZ.alike ArA.2.1) rfl ArA.2.2 (fun q => q.elim cx.1 (fun q => by omega)) hx1 (g := (mkF m 21 #[.val (.int p0)] [(.int (p0 + (128 : Int32))), (.ref wc)])) rfl rfl (hb hby d4_21) t k) ?_
      show Rest p.tables e below s _ _ _ (T6.setTop (mkF m 22 #[.val (.int p0)] [(.ref ax)]))
      refine Rest.ret X6 (v := some (.ref ax)) (fun h => by rw [Bd.returns] at h; cases h) hlk (fun fs hr => retOut X6 hx Bd.returns rfl (Or.inr (Or.inr (Or.inr (Or.inr ⟨rfl, rfl, rfl⟩)))) (hb hby d4_22) hr) ?_ (by decide) (by decide)
      rw [e6]
      exact ⟨ax, rfl, N0, (Keep.refl h0 []), hx2⟩
theorem d1_0 : decode prog_23_method_1_code 0 = .ok (.aload_n 0, 1) := by decide +kernel
theorem d1_1 : decode prog_23_method_1_code 1 = .ok (.invokespecial 1, 3) := by decide +kernel
theorem d1_4 : decode prog_23_method_1_code 4 = .ok (.iload_n 1, 1) := by decide +kernel
theorem d1_5 : decode prog_23_method_1_code 5 = .ok (.ifCond .lt 7, 3) := by decide +kernel
theorem d1_8 : decode prog_23_method_1_code 8 = .ok (.iload_n 2, 1) := by decide +kernel
theorem d1_9 : decode prog_23_method_1_code 9 = .ok (.ifCond .ge 18, 3) := by decide +kernel
theorem d1_27 : decode prog_23_method_1_code 27 = .ok (.aload_n 0, 1) := by decide +kernel
theorem d1_28 : decode prog_23_method_1_code 28 = .ok (.iload_n 1, 1) := by decide +kernel
theorem d1_29 : decode prog_23_method_1_code 29 = .ok (.putfield 16, 3) := by decide +kernel
theorem d1_32 : decode prog_23_method_1_code 32 = .ok (.aload_n 0, 1) := by decide +kernel
theorem d1_33 : decode prog_23_method_1_code 33 = .ok (.iload_n 2, 1) := by decide +kernel
theorem d1_34 : decode prog_23_method_1_code 34 = .ok (.putfield 22, 3) := by decide +kernel
theorem d1_37 : decode prog_23_method_1_code 37 = .ok (.return_, 1) := by decide +kernel
theorem pn_2 : plainName "com/example/rollcall/rollcall/model/spring/SpringVersion" = true := by first | (simp [plainName, overriddenIn]; done) | decide +kernel
theorem ef_I (m : MethodId) (a0 : Addr) (p1 : Int32) (p2 : Int32) : entryFrame m #[(.ref a0), (.int p1), (.int p2)] 3 = mkF m 0 #[.val (.ref a0), .val (.int p1), .val (.int p2)] [] := by first | (simp [entryFrame, mkF, argsToLocals, Value.category, maxLocals]; done) | rfl
def QI (Z : State) (a0 : Addr) (p1 : Int32) (p2 : Int32) (h0 : Heap) (n0 : Nat) (v : Option Value) (h : Heap) (L : List Loc) : Prop := v = none ∧ Fr n0 L ∧ Keep h0 h [a0] ∧ Fld Z h a0 "com/example/rollcall/rollcall/model/spring/SpringVersion" "major" "I" (.int p1) ∧ Fld Z h a0 "com/example/rollcall/rollcall/model/spring/SpringVersion" "minor" "I" (.int p2)
set_option maxRecDepth 65536 in
set_option maxHeartbeats 40000000 in
theorem rmI (l : Launch) (Z : State) (aw : Array Value) (hw : ∀ d ∈ tables_1, d.before aw Z = true) (ws : List Jvm.Cond) (a0 : Addr) (p1 : Int32) (p2 : Int32) (h0 : Heap) (n0 : Nat) (Z0 : n0 ≤ h0.size) (E_a0 : Exa Z h0 a0 "com/example/rollcall/rollcall/model/spring/SpringVersion") (F_major : Fld Z h0 a0 "com/example/rollcall/rollcall/model/spring/SpringVersion" "major" "I" (.int (0 : Int32))) (F_minor : Fld Z h0 a0 "com/example/rollcall/rollcall/model/spring/SpringVersion" "minor" "I" (.int (0 : Int32))) (g_a0 : n0 ≤ a0) (hp1 : ¬ (p1 < (0 : Int32))) (hp2 : ¬ (p2 < (0 : Int32))) :
    MetFree l (⟨"com/example/rollcall/rollcall/model/spring/SpringVersion", "<init>", "(II)V"⟩ : MethodName) (head1 (Jvm.Cond.code (⟨"com/example/rollcall/rollcall/model/spring/SpringVersion", "<init>", "(II)V"⟩ : MethodName) prog_23_method_1_code 3 none :: ws) ({ frames := 1, cells := 0, slots := 0, locals := 12 } : Room)) (fun a U => a = #[(.ref a0), (.int p1), (.int p2)] ∧ Z.Warmed39 U.vm ∧ U.heap = h0) (fun _ _ _ _ _ => True) (fun _ U o U' => ∃ v L, o = .returned v ∧ QI Z a0 p1 p2 h0 n0 v U'.heap L ∧ FrameEnd U o U' L ({ frames := 1, cells := 0, slots := 0, locals := 12 } : Room).cells ({ frames := 1, cells := 0, slots := 0, locals := 12 } : Room).slots) := by
  refine MetFree.of_bodySF (plainFor_of_name pn_2) hisR ?_
  intro p e s m args below meth c s₁ Bd hml0 hP hK
  obtain ⟨rfl, hZ, hh⟩ := hP
  have hx := Bd.exec
  have hby := Bd.bytes
  have hml : c.maxLocals = 3 := hml0
  have hown : s.vm.findClass "com/example/rollcall/rollcall/model/spring/SpringVersion" = some m.cls := findClass_of_methodNamed Bd.named
  have hnm := (name_of_methodNamed Bd.named Bd.method).1
  have hlk : meth.locks = false := BodyLoose.notSynchronized Bd
  have X0 : Stand p l e ({ frames := 1, cells := 0, slots := 0, locals := 12 } : Room) s m #[(.ref a0), (.int p1), (.int p2)] below meth c s₁ [] 0 0 := Stand.of_body Bd
  have eh0 : s₁.heap = h0 := by rw [← hh, Bd.state]; rfl
  have N0 := Fr.nil n0
  show Rest p.tables e below s (QI Z a0 p1 p2 h0 n0) _ _ (s₁.setTop (entryFrame m #[(.ref a0), (.int p1), (.int p2)] 3))
  refine Rest.via (fun t k => castTop (ef_I m a0 p1 p2) k) ?_
  show Rest p.tables e below s _ _ _ (s₁.setTop (mkF m 0 #[.val (.ref a0), .val (.int p1), .val (.int p2)] []))
  refine Rest.via (fun t k => XS.aloadN X0.here hx rfl (hb hby d1_0) rfl rfl k) ?_
  show Rest p.tables e below s _ _ _ (s₁.setTop (mkF m 1 #[.val (.ref a0), .val (.int p1), .val (.int p2)] [(.ref a0)]))
  obtain ⟨T1, X1, e1, st1⟩ := initO X0 hx hZ hown (hw _ (List.mem_of_getElem? (i := 7) rfl)) (hw _ (List.mem_of_getElem? (i := 8) rfl)) (hw _ (List.mem_of_getElem? (i := 9) rfl)) eh0 (g := (mkF m 1 #[.val (.ref a0), .val (.int p1), .val (.int p2)] [(.ref a0)])) rfl (by rw [hml]; rfl) rfl (hb hby d1_1) (by decide) (W := 0) (by show 2 * 0 + _ ≤ _; exact Nat.le_of_eq rfl) (by decide)
  refine Rest.via (fun t k => st1 t k) ?_
  show Rest p.tables e below s _ _ _ (T1.setTop (mkF m 4 #[.val (.ref a0), .val (.int p1), .val (.int p2)] []))
  refine Rest.via (fun t k => XS.iloadN X1.here hx rfl (hb hby d1_4) rfl k) ?_
  show Rest p.tables e below s _ _ _ (T1.setTop (mkF m 5 #[.val (.ref a0), .val (.int p1), .val (.int p2)] [(.int p1)]))
  refine Rest.via (fun t k => XS.ifNo X1.here hx rfl (hb hby d1_5) rfl ((if0 _ _).trans (flt (hp1 : ¬ (p1 < (0 : Int32)))).1) k) ?_
  show Rest p.tables e below s _ _ _ (T1.setTop (mkF m 8 #[.val (.ref a0), .val (.int p1), .val (.int p2)] []))
  refine Rest.via (fun t k => XS.iloadN X1.here hx rfl (hb hby d1_8) rfl k) ?_
  show Rest p.tables e below s _ _ _ (T1.setTop (mkF m 9 #[.val (.ref a0), .val (.int p1), .val (.int p2)] [(.int p2)]))
  refine Rest.via (fun t k => XS.ifYes X1.here hx rfl (pc0 := 9) (pc' := 27) rfl (hb hby d1_9) rfl ((if0 _ _).trans (flt (hp2 : ¬ (p2 < (0 : Int32)))).2.1) (by decide) (by decide) k) ?_
  show Rest p.tables e below s _ _ _ (T1.setTop (mkF m 27 #[.val (.ref a0), .val (.int p1), .val (.int p2)] []))
  refine Rest.via (fun t k => XS.aloadN X1.here hx rfl (hb hby d1_27) rfl rfl k) ?_
  show Rest p.tables e below s _ _ _ (T1.setTop (mkF m 28 #[.val (.ref a0), .val (.int p1), .val (.int p2)] [(.ref a0)]))
  refine Rest.via (fun t k => XS.iloadN X1.here hx rfl (hb hby d1_28) rfl k) ?_
  show Rest p.tables e below s _ _ _ (T1.setTop (mkF m 29 #[.val (.ref a0), .val (.int p1), .val (.int p2)] [(.int p1), (.ref a0)]))
  have Fo2 := F_major
  obtain ⟨T2, h2, X2, e2, W2, st2⟩ := putF X1 hx hZ hown (host := "") (Or.inl (hw _ (List.mem_of_getElem? (i := 10) rfl))) Via.refl e1 Fo2 E_a0 (Or.inr ⟨(hw _ (List.mem_of_getElem? (i := 11) rfl)), rfl, hnm⟩) (hw _ (List.mem_of_getElem? (i := 2) rfl)) (ty := .int) (by decide) rfl rfl (g := (mkF m 29 #[.val (.ref a0), .val (.int p1), .val (.int p2)] [(.int p1), (.ref a0)])) rfl rfl (hb hby d1_29)
  refine Rest.via (fun t k => st2 t k) ?_
  have N2 := Fr.snoc X2 N0 g_a0
  have K2 : Keep h0 h2 [a0] := (Keep.refl h0 [a0]).wr W2 (Or.inl (List.mem_of_getElem? (i := 0) rfl))
  have Fw2 := Fo2.same W2
  show Rest p.tables e below s _ _ _ (T2.setTop (mkF m 32 #[.val (.ref a0), .val (.int p1), .val (.int p2)] []))
  refine Rest.via (fun t k => XS.aloadN X2.here hx rfl (hb hby d1_32) rfl rfl k) ?_
  show Rest p.tables e below s _ _ _ (T2.setTop (mkF m 33 #[.val (.ref a0), .val (.int p1), .val (.int p2)] [(.ref a0)]))
  refine Rest.via (fun t k => XS.iloadN X2.here hx rfl (hb hby d1_33) rfl k) ?_
  show Rest p.tables e below s _ _ _ (T2.setTop (mkF m 34 #[.val (.ref a0), .val (.int p1), .val (.int p2)] [(.int p2), (.ref a0)]))
  have Fo3 := (F_minor.other W2 (Or.inr (slot_ne (Or.inr (hw _ (List.mem_of_getElem? (i := 13) rfl))) (Or.inr (hw _ (List.mem_of_getElem? (i := 11) rfl))) (by decide) (t := .int) (t' := .int) (by decide) (by decide))))
  obtain ⟨T3, h3, X3, e3, W3, st3⟩ := putF X2 hx hZ hown (host := "") (Or.inl (hw _ (List.mem_of_getElem? (i := 12) rfl))) Via.refl e2 Fo3 (E_a0.wr W2) (Or.inr ⟨(hw _ (List.mem_of_getElem? (i := 13) rfl)), rfl, hnm⟩) (hw _ (List.mem_of_getElem? (i := 2) rfl)) (ty := .int) (by decide) rfl rfl (g := (mkF m 34 #[.val (.ref a0), .val (.int p1), .val (.int p2)] [(.int p2), (.ref a0)])) rfl rfl (hb hby d1_34)
  refine Rest.via (fun t k => st3 t k) ?_
  have N3 := Fr.snoc X3 N2 g_a0
  have K3 : Keep h0 h3 [a0] := K2.wr W3 (Or.inl (List.mem_of_getElem? (i := 0) rfl))
  have Fw3 := Fo3.same W3
  show Rest p.tables e below s _ _ _ (T3.setTop (mkF m 37 #[.val (.ref a0), .val (.int p1), .val (.int p2)] []))
  refine Rest.ret X3 (v := none) (fun _ => rfl) hlk (fun fs hr => X3.returnOut hx Bd.returns (hb hby d1_37) hr) ?_ (by decide) (by decide)
  rw [e3]
  exact ⟨rfl, N3, K3, (Fw2.other W3 (Or.inr (slot_ne (Or.inr (hw _ (List.mem_of_getElem? (i := 11) rfl))) (Or.inr (hw _ (List.mem_of_getElem? (i := 13) rfl))) (by decide) (t := .int) (t' := .int) (by decide) (by decide)))), Fw3⟩
theorem d3_0 : decode prog_23_method_9_code 0 = .ok (.aload_n 1, 1) := by decide +kernel
theorem d3_1 : decode prog_23_method_9_code 1 = .ok (.instanceof 17, 3) := by decide +kernel
theorem d3_4 : decode prog_23_method_9_code 4 = .ok (.ifCond .eq 34, 3) := by decide +kernel
theorem d3_7 : decode prog_23_method_9_code 7 = .ok (.aload_n 1, 1) := by decide +kernel
theorem d3_8 : decode prog_23_method_9_code 8 = .ok (.checkcast 17, 3) := by decide +kernel
theorem d3_11 : decode prog_23_method_9_code 11 = .ok (.astore_n 2, 1) := by decide +kernel
theorem d3_12 : decode prog_23_method_9_code 12 = .ok (.aload_n 0, 1) := by decide +kernel
theorem d3_13 : decode prog_23_method_9_code 13 = .ok (.getfield 16, 3) := by decide +kernel
theorem d3_16 : decode prog_23_method_9_code 16 = .ok (.aload_n 2, 1) := by decide +kernel
theorem d3_17 : decode prog_23_method_9_code 17 = .ok (.getfield 16, 3) := by decide +kernel
theorem d3_20 : decode prog_23_method_9_code 20 = .ok (.if_icmp .ne 18, 3) := by decide +kernel
theorem d3_23 : decode prog_23_method_9_code 23 = .ok (.aload_n 0, 1) := by decide +kernel
theorem d3_24 : decode prog_23_method_9_code 24 = .ok (.getfield 22, 3) := by decide +kernel
theorem d3_27 : decode prog_23_method_9_code 27 = .ok (.aload_n 2, 1) := by decide +kernel
theorem d3_28 : decode prog_23_method_9_code 28 = .ok (.getfield 22, 3) := by decide +kernel
theorem d3_31 : decode prog_23_method_9_code 31 = .ok (.if_icmp .ne 7, 3) := by decide +kernel
theorem d3_34 : decode prog_23_method_9_code 34 = .ok (.iconst 1, 1) := by decide +kernel
theorem d3_35 : decode prog_23_method_9_code 35 = .ok (.goto 4, 3) := by decide +kernel
theorem d3_38 : decode prog_23_method_9_code 38 = .ok (.iconst 0, 1) := by decide +kernel
theorem d3_39 : decode prog_23_method_9_code 39 = .ok (.ireturn, 1) := by decide +kernel
theorem ef_E (m : MethodId) (a0 : Addr) (a1 : Addr) : entryFrame m #[(.ref a0), (.ref a1)] 3 = mkF m 0 #[.val (.ref a0), .val (.ref a1), .unset] [] := by first | (simp [entryFrame, mkF, argsToLocals, Value.category, maxLocals]; done) | rfl
def QE (Z : State) (a0 : Addr) (a1 : Addr) (w1 : Int32) (w2 : Int32) (u1 : Int32) (u2 : Int32) (h0 : Heap) (n0 : Nat) (v : Option Value) (h : Heap) (L : List Loc) : Prop := v = some (.int (own_eq w1 w2 u1 u2)) ∧ Fr n0 L ∧ h = h0
set_option maxRecDepth 65536 in
set_option maxHeartbeats 40000000 in
theorem rmE (l : Launch) (Z : State) (aw : Array Value) (hw : ∀ d ∈ tables_1, d.before aw Z = true) (ws : List Jvm.Cond) (a0 : Addr) (a1 : Addr) (w1 : Int32) (w2 : Int32) (u1 : Int32) (u2 : Int32) (h0 : Heap) (n0 : Nat) (Z0 : n0 ≤ h0.size) (F_major_a0 : Fld Z h0 a0 "com/example/rollcall/rollcall/model/spring/SpringVersion" "major" "I" (.int w1)) (F_minor_a0 : Fld Z h0 a0 "com/example/rollcall/rollcall/model/spring/SpringVersion" "minor" "I" (.int w2)) (E_a1 : Exa Z h0 a1 "com/example/rollcall/rollcall/model/spring/SpringVersion") (F_major_a1 : Fld Z h0 a1 "com/example/rollcall/rollcall/model/spring/SpringVersion" "major" "I" (.int u1)) (F_minor_a1 : Fld Z h0 a1 "com/example/rollcall/rollcall/model/spring/SpringVersion" "minor" "I" (.int u2)) :
    MetFree l (⟨"com/example/rollcall/rollcall/model/spring/SpringVersion", "equals", "(Ljava/lang/Object;)Z"⟩ : MethodName) (head1 (Jvm.Cond.code (⟨"com/example/rollcall/rollcall/model/spring/SpringVersion", "equals", "(Ljava/lang/Object;)Z"⟩ : MethodName) prog_23_method_9_code 3 (some .boolean) :: ws) ({ frames := 0, cells := 0, slots := 0, locals := 0 } : Room)) (fun a U => a = #[(.ref a0), (.ref a1)] ∧ Z.Warmed39 U.vm ∧ U.heap = h0) (fun _ _ _ _ _ => True) (fun _ U o U' => ∃ v L, o = .returned v ∧ QE Z a0 a1 w1 w2 u1 u2 h0 n0 v U'.heap L ∧ FrameEnd U o U' L ({ frames := 0, cells := 0, slots := 0, locals := 0 } : Room).cells ({ frames := 0, cells := 0, slots := 0, locals := 0 } : Room).slots) := by
  refine MetFree.of_bodySF (plainFor_of_name pn_2) hisR ?_
  intro p e s m args below meth c s₁ Bd hml0 hP hK
  obtain ⟨rfl, hZ, hh⟩ := hP
  have hx := Bd.exec
  have hby := Bd.bytes
  have hml : c.maxLocals = 3 := hml0
  have hown : s.vm.findClass "com/example/rollcall/rollcall/model/spring/SpringVersion" = some m.cls := findClass_of_methodNamed Bd.named
  have hnm := (name_of_methodNamed Bd.named Bd.method).1
  have hlk : meth.locks = false := BodyLoose.notSynchronized Bd
  have X0 : Stand p l e ({ frames := 0, cells := 0, slots := 0, locals := 0 } : Room) s m #[(.ref a0), (.ref a1)] below meth c s₁ [] 0 0 := Stand.of_body Bd
  have eh0 : s₁.heap = h0 := by rw [← hh, Bd.state]; rfl
  have N0 := Fr.nil n0
  show Rest p.tables e below s (QE Z a0 a1 w1 w2 u1 u2 h0 n0) _ _ (s₁.setTop (entryFrame m #[(.ref a0), (.ref a1)] 3))
  refine Rest.via (fun t k => castTop (ef_E m a0 a1) k) ?_
  show Rest p.tables e below s _ _ _ (s₁.setTop (mkF m 0 #[.val (.ref a0), .val (.ref a1), .unset] []))
  refine Rest.via (fun t k => XS.aloadN X0.here hx rfl (hb hby d3_0) rfl rfl k) ?_
  show Rest p.tables e below s _ _ _ (s₁.setTop (mkF m 1 #[.val (.ref a0), .val (.ref a1), .unset] [(.ref a1)]))
  obtain ⟨T1, X1, e1, st1⟩ := instY X0 hx hZ hown (hw _ (List.mem_of_getElem? (i := 19) rfl)) eh0 (Ins.self E_a1) (g := (mkF m 1 #[.val (.ref a0), .val (.ref a1), .unset] [(.ref a1)])) rfl rfl (hb hby d3_1)
  refine Rest.via (fun t k => st1 t k) ?_
  show Rest p.tables e below s _ _ _ (T1.setTop (mkF m 4 #[.val (.ref a0), .val (.ref a1), .unset] [(.int (1 : Int32))]))
  refine Rest.via (fun t k => XS.ifNo X1.here hx rfl (hb hby d3_4) rfl ((if0 _ _).trans (feq (by decide : ¬ ((1 : Int32) = (0 : Int32)))).1) k) ?_
  show Rest p.tables e below s _ _ _ (T1.setTop (mkF m 7 #[.val (.ref a0), .val (.ref a1), .unset] []))
  refine Rest.via (fun t k => XS.aloadN X1.here hx rfl (hb hby d3_7) rfl rfl k) ?_
  show Rest p.tables e below s _ _ _ (T1.setTop (mkF m 8 #[.val (.ref a0), .val (.ref a1), .unset] [(.ref a1)]))
  obtain ⟨T2, X2, e2, st2⟩ := castY X1 hx hZ hown (hw _ (List.mem_of_getElem? (i := 19) rfl)) e1 (Ins.self E_a1) (g := (mkF m 8 #[.val (.ref a0), .val (.ref a1), .unset] [(.ref a1)])) rfl rfl (hb hby d3_8)
  refine Rest.via (fun t k => st2 t k) ?_
  show Rest p.tables e below s _ _ _ (T2.setTop (mkF m 11 #[.val (.ref a0), .val (.ref a1), .unset] [(.ref a1)]))
  refine Rest.via (fun t k => XS.astoreN X2.here hx rfl (hb hby d3_11) rfl rfl (l' := #[.val (.ref a0), .val (.ref a1), .val (.ref a1)]) rfl k) ?_
  show Rest p.tables e below s _ _ _ (T2.setTop (mkF m 12 #[.val (.ref a0), .val (.ref a1), .val (.ref a1)] []))
  refine Rest.via (fun t k => XS.aloadN X2.here hx rfl (hb hby d3_12) rfl rfl k) ?_
  show Rest p.tables e below s _ _ _ (T2.setTop (mkF m 13 #[.val (.ref a0), .val (.ref a1), .val (.ref a1)] [(.ref a0)]))
  obtain ⟨T3, X3, e3, st3⟩ := getF X2 hx hZ hown (host := "") (Or.inl (hw _ (List.mem_of_getElem? (i := 10) rfl))) Via.refl e2 F_major_a0 (g := (mkF m 13 #[.val (.ref a0), .val (.ref a1), .val (.ref a1)] [(.ref a0)])) rfl rfl (hb hby d3_13)
  refine Rest.via (fun t k => st3 t k) ?_
  show Rest p.tables e below s _ _ _ (T3.setTop (mkF m 16 #[.val (.ref a0), .val (.ref a1), .val (.ref a1)] [(.int w1)]))
  refine Rest.via (fun t k => XS.aloadN X3.here hx rfl (hb hby d3_16) rfl rfl k) ?_
  show Rest p.tables e below s _ _ _ (T3.setTop (mkF m 17 #[.val (.ref a0), .val (.ref a1), .val (.ref a1)] [(.ref a1), (.int w1)]))
  obtain ⟨T4, X4, e4, st4⟩ := getF X3 hx hZ hown (host := "") (Or.inl (hw _ (List.mem_of_getElem? (i := 10) rfl))) Via.refl e3 F_major_a1 (g := (mkF m 17 #[.val (.ref a0), .val (.ref a1), .val (.ref a1)] [(.ref a1), (.int w1)])) rfl rfl (hb hby d3_17)
  refine Rest.via (fun t k => st4 t k) ?_
  show Rest p.tables e below s _ _ _ (T4.setTop (mkF m 20 #[.val (.ref a0), .val (.ref a1), .val (.ref a1)] [(.int u1), (.int w1)]))
  by_cases hc20 : w1 = u1
  · refine Rest.via (fun t k => XS.icmpNo X4.here hx rfl (hb hby d3_20) rfl (teq hc20).2 k) ?_
    show Rest p.tables e below s _ _ _ (T4.setTop (mkF m 23 #[.val (.ref a0), .val (.ref a1), .val (.ref a1)] []))
    refine Rest.via (fun t k => XS.aloadN X4.here hx rfl (hb hby d3_23) rfl rfl k) ?_
    show Rest p.tables e below s _ _ _ (T4.setTop (mkF m 24 #[.val (.ref a0), .val (.ref a1), .val (.ref a1)] [(.ref a0)]))
    obtain ⟨T5, X5, e5, st5⟩ := getF X4 hx hZ hown (host := "") (Or.inl (hw _ (List.mem_of_getElem? (i := 12) rfl))) Via.refl e4 F_minor_a0 (g := (mkF m 24 #[.val (.ref a0), .val (.ref a1), .val (.ref a1)] [(.ref a0)])) rfl rfl (hb hby d3_24)
    refine Rest.via (fun t k => st5 t k) ?_
    show Rest p.tables e below s _ _ _ (T5.setTop (mkF m 27 #[.val (.ref a0), .val (.ref a1), .val (.ref a1)] [(.int w2)]))
    refine Rest.via (fun t k => XS.aloadN X5.here hx rfl (hb hby d3_27) rfl rfl k) ?_
    show Rest p.tables e below s _ _ _ (T5.setTop (mkF m 28 #[.val (.ref a0), .val (.ref a1), .val (.ref a1)] [(.ref a1), (.int w2)]))
    obtain ⟨T6, X6, e6, st6⟩ := getF X5 hx hZ hown (host := "") (Or.inl (hw _ (List.mem_of_getElem? (i := 12) rfl))) Via.refl e5 F_minor_a1 (g := (mkF m 28 #[.val (.ref a0), .val (.ref a1), .val (.ref a1)] [(.ref a1), (.int w2)])) rfl rfl (hb hby d3_28)
    refine Rest.via (fun t k => st6 t k) ?_
    show Rest p.tables e below s _ _ _ (T6.setTop (mkF m 31 #[.val (.ref a0), .val (.ref a1), .val (.ref a1)] [(.int u2), (.int w2)]))
    by_cases hc31 : w2 = u2
    · refine Rest.via (fun t k => XS.icmpNo X6.here hx rfl (hb hby d3_31) rfl (teq hc31).2 k) ?_
      show Rest p.tables e below s _ _ _ (T6.setTop (mkF m 34 #[.val (.ref a0), .val (.ref a1), .val (.ref a1)] []))
      refine Rest.via (fun t k => XS.iconst X6.here hx rfl (hb hby d3_34) k) ?_
      show Rest p.tables e below s _ _ _ (T6.setTop (mkF m 35 #[.val (.ref a0), .val (.ref a1), .val (.ref a1)] [(.int (1 : Int32))]))
      refine Rest.via (fun t k => XS.goto X6.here hx rfl (pc0 := 35) (pc' := 39) rfl (hb hby d3_35) (by decide) (by decide) k) ?_
      show Rest p.tables e below s _ _ _ (T6.setTop (mkF m 39 #[.val (.ref a0), .val (.ref a1), .val (.ref a1)] [(.int (1 : Int32))]))
      refine Rest.ret X6 (v := some (.int (nar .boolean (1 : Int32)))) (fun h => by rw [Bd.returns] at h; cases h) hlk (fun fs hr => retN X6 hx (t := .boolean) Bd.returns (by simp) (hb hby d3_39) hr) ?_ (by decide) (by decide)
      rw [e6]
      exact ⟨by show some (Value.int (1 : Int32)) = _; rw [own_eq, if_pos hc20, if_pos hc31], N0, rfl⟩
    · refine Rest.via (fun t k => XS.icmpYes X6.here hx rfl (pc0 := 31) (pc' := 38) rfl (hb hby d3_31) rfl (feq hc31).2 (by decide) (by decide) k) ?_
      show Rest p.tables e below s _ _ _ (T6.setTop (mkF m 38 #[.val (.ref a0), .val (.ref a1), .val (.ref a1)] []))
      refine Rest.via (fun t k => XS.iconst X6.here hx rfl (hb hby d3_38) k) ?_
      show Rest p.tables e below s _ _ _ (T6.setTop (mkF m 39 #[.val (.ref a0), .val (.ref a1), .val (.ref a1)] [(.int (0 : Int32))]))
      refine Rest.ret X6 (v := some (.int (nar .boolean (0 : Int32)))) (fun h => by rw [Bd.returns] at h; cases h) hlk (fun fs hr => retN X6 hx (t := .boolean) Bd.returns (by simp) (hb hby d3_39) hr) ?_ (by decide) (by decide)
      rw [e6]
      exact ⟨by show some (Value.int (0 : Int32)) = _; rw [own_eq, if_pos hc20, if_neg hc31], N0, rfl⟩
  · refine Rest.via (fun t k => XS.icmpYes X4.here hx rfl (pc0 := 20) (pc' := 38) rfl (hb hby d3_20) rfl (feq hc20).2 (by decide) (by decide) k) ?_
    show Rest p.tables e below s _ _ _ (T4.setTop (mkF m 38 #[.val (.ref a0), .val (.ref a1), .val (.ref a1)] []))
    refine Rest.via (fun t k => XS.iconst X4.here hx rfl (hb hby d3_38) k) ?_
    show Rest p.tables e below s _ _ _ (T4.setTop (mkF m 39 #[.val (.ref a0), .val (.ref a1), .val (.ref a1)] [(.int (0 : Int32))]))
    refine Rest.ret X4 (v := some (.int (nar .boolean (0 : Int32)))) (fun h => by rw [Bd.returns] at h; cases h) hlk (fun fs hr => retN X4 hx (t := .boolean) Bd.returns (by simp) (hb hby d3_39) hr) ?_ (by decide) (by decide)
    rw [e4]
    exact ⟨by show some (Value.int (0 : Int32)) = _; rw [own_eq, if_neg hc20], N0, rfl⟩
theorem ef_En (m : MethodId) (a0 : Addr) : entryFrame m #[(.ref a0), .null] 3 = mkF m 0 #[.val (.ref a0), .val .null, .unset] [] := by first | (simp [entryFrame, mkF, argsToLocals, Value.category, maxLocals]; done) | rfl
def QEn (Z : State) (a0 : Addr) (h0 : Heap) (n0 : Nat) (v : Option Value) (h : Heap) (L : List Loc) : Prop := v = some (.int (0 : Int32)) ∧ Fr n0 L ∧ h = h0
set_option maxRecDepth 65536 in
set_option maxHeartbeats 40000000 in
theorem rmEn (l : Launch) (Z : State) (aw : Array Value) (hw : ∀ d ∈ tables_1, d.before aw Z = true) (ws : List Jvm.Cond) (a0 : Addr) (h0 : Heap) (n0 : Nat) (Z0 : n0 ≤ h0.size)  :
    MetFree l (⟨"com/example/rollcall/rollcall/model/spring/SpringVersion", "equals", "(Ljava/lang/Object;)Z"⟩ : MethodName) (head1 (Jvm.Cond.code (⟨"com/example/rollcall/rollcall/model/spring/SpringVersion", "equals", "(Ljava/lang/Object;)Z"⟩ : MethodName) prog_23_method_9_code 3 (some .boolean) :: ws) ({ frames := 0, cells := 0, slots := 0, locals := 0 } : Room)) (fun a U => a = #[(.ref a0), .null] ∧ Z.Warmed39 U.vm ∧ U.heap = h0) (fun _ _ _ _ _ => True) (fun _ U o U' => ∃ v L, o = .returned v ∧ QEn Z a0 h0 n0 v U'.heap L ∧ FrameEnd U o U' L ({ frames := 0, cells := 0, slots := 0, locals := 0 } : Room).cells ({ frames := 0, cells := 0, slots := 0, locals := 0 } : Room).slots) := by
  refine MetFree.of_bodySF (plainFor_of_name pn_2) hisR ?_
  intro p e s m args below meth c s₁ Bd hml0 hP hK
  obtain ⟨rfl, hZ, hh⟩ := hP
  have hx := Bd.exec
  have hby := Bd.bytes
  have hml : c.maxLocals = 3 := hml0
  have hown : s.vm.findClass "com/example/rollcall/rollcall/model/spring/SpringVersion" = some m.cls := findClass_of_methodNamed Bd.named
  have hnm := (name_of_methodNamed Bd.named Bd.method).1
  have hlk : meth.locks = false := BodyLoose.notSynchronized Bd
  have X0 : Stand p l e ({ frames := 0, cells := 0, slots := 0, locals := 0 } : Room) s m #[(.ref a0), .null] below meth c s₁ [] 0 0 := Stand.of_body Bd
  have eh0 : s₁.heap = h0 := by rw [← hh, Bd.state]; rfl
  have N0 := Fr.nil n0
  show Rest p.tables e below s (QEn Z a0 h0 n0) _ _ (s₁.setTop (entryFrame m #[(.ref a0), .null] 3))
  refine Rest.via (fun t k => castTop (ef_En m a0) k) ?_
  show Rest p.tables e below s _ _ _ (s₁.setTop (mkF m 0 #[.val (.ref a0), .val .null, .unset] []))
  refine Rest.via (fun t k => XS.aloadN X0.here hx rfl (hb hby d3_0) rfl rfl k) ?_
  show Rest p.tables e below s _ _ _ (s₁.setTop (mkF m 1 #[.val (.ref a0), .val .null, .unset] [.null]))
  refine Rest.via (fun t k => X0.instanceofNull hx (g := (mkF m 1 #[.val (.ref a0), .val .null, .unset] [.null])) rfl rfl (hb hby d3_1) t k) ?_
  show Rest p.tables e below s _ _ _ (s₁.setTop (mkF m 4 #[.val (.ref a0), .val .null, .unset] [(.int (0 : Int32))]))
  refine Rest.via (fun t k => XS.ifYes X0.here hx rfl (pc0 := 4) (pc' := 38) rfl (hb hby d3_4) rfl ((if0 _ _).trans (teq (by decide : (0 : Int32) = (0 : Int32))).1) (by decide) (by decide) k) ?_
  show Rest p.tables e below s _ _ _ (s₁.setTop (mkF m 38 #[.val (.ref a0), .val .null, .unset] []))
  refine Rest.via (fun t k => XS.iconst X0.here hx rfl (hb hby d3_38) k) ?_
  show Rest p.tables e below s _ _ _ (s₁.setTop (mkF m 39 #[.val (.ref a0), .val .null, .unset] [(.int (0 : Int32))]))
  refine Rest.ret X0 (v := some (.int (nar .boolean (0 : Int32)))) (fun h => by rw [Bd.returns] at h; cases h) hlk (fun fs hr => retN X0 hx (t := .boolean) Bd.returns (by simp) (hb hby d3_39) hr) ?_ (by decide) (by decide)
  rw [eh0]
  exact ⟨rfl, N0, rfl⟩
theorem ef_Ei (m : MethodId) (a0 : Addr) (a1 : Addr) : entryFrame m #[(.ref a0), (.ref a1)] 3 = mkF m 0 #[.val (.ref a0), .val (.ref a1), .unset] [] := by first | (simp [entryFrame, mkF, argsToLocals, Value.category, maxLocals]; done) | rfl
def QEi (Z : State) (a0 : Addr) (a1 : Addr) (h0 : Heap) (n0 : Nat) (v : Option Value) (h : Heap) (L : List Loc) : Prop := v = some (.int (0 : Int32)) ∧ Fr n0 L ∧ h = h0
set_option maxRecDepth 65536 in
set_option maxHeartbeats 40000000 in
theorem rmEi (l : Launch) (Z : State) (aw : Array Value) (hw : ∀ d ∈ tables_1, d.before aw Z = true) (ws : List Jvm.Cond) (a0 : Addr) (a1 : Addr) (h0 : Heap) (n0 : Nat) (Z0 : n0 ≤ h0.size) (E_a1 : Exa Z h0 a1 "java/lang/Integer") :
    MetFree l (⟨"com/example/rollcall/rollcall/model/spring/SpringVersion", "equals", "(Ljava/lang/Object;)Z"⟩ : MethodName) (head1 (Jvm.Cond.code (⟨"com/example/rollcall/rollcall/model/spring/SpringVersion", "equals", "(Ljava/lang/Object;)Z"⟩ : MethodName) prog_23_method_9_code 3 (some .boolean) :: ws) ({ frames := 0, cells := 0, slots := 0, locals := 0 } : Room)) (fun a U => a = #[(.ref a0), (.ref a1)] ∧ Z.Warmed39 U.vm ∧ U.heap = h0) (fun _ _ _ _ _ => True) (fun _ U o U' => ∃ v L, o = .returned v ∧ QEi Z a0 a1 h0 n0 v U'.heap L ∧ FrameEnd U o U' L ({ frames := 0, cells := 0, slots := 0, locals := 0 } : Room).cells ({ frames := 0, cells := 0, slots := 0, locals := 0 } : Room).slots) := by
  refine MetFree.of_bodySF (plainFor_of_name pn_2) hisR ?_
  intro p e s m args below meth c s₁ Bd hml0 hP hK
  obtain ⟨rfl, hZ, hh⟩ := hP
  have hx := Bd.exec
  have hby := Bd.bytes
  have hml : c.maxLocals = 3 := hml0
  have hown : s.vm.findClass "com/example/rollcall/rollcall/model/spring/SpringVersion" = some m.cls := findClass_of_methodNamed Bd.named
  have hnm := (name_of_methodNamed Bd.named Bd.method).1
  have hlk : meth.locks = false := BodyLoose.notSynchronized Bd
  have X0 : Stand p l e ({ frames := 0, cells := 0, slots := 0, locals := 0 } : Room) s m #[(.ref a0), (.ref a1)] below meth c s₁ [] 0 0 := Stand.of_body Bd
  have eh0 : s₁.heap = h0 := by rw [← hh, Bd.state]; rfl
  have N0 := Fr.nil n0
  show Rest p.tables e below s (QEi Z a0 a1 h0 n0) _ _ (s₁.setTop (entryFrame m #[(.ref a0), (.ref a1)] 3))
  refine Rest.via (fun t k => castTop (ef_Ei m a0 a1) k) ?_
  show Rest p.tables e below s _ _ _ (s₁.setTop (mkF m 0 #[.val (.ref a0), .val (.ref a1), .unset] []))
  refine Rest.via (fun t k => XS.aloadN X0.here hx rfl (hb hby d3_0) rfl rfl k) ?_
  show Rest p.tables e below s _ _ _ (s₁.setTop (mkF m 1 #[.val (.ref a0), .val (.ref a1), .unset] [(.ref a1)]))
  obtain ⟨T1, X1, e1, st1⟩ := instNo X0 hx hZ hown (hw _ (List.mem_of_getElem? (i := 19) rfl)) eh0 E_a1 (own_nobox (hw _ (List.mem_of_getElem? (i := 42) rfl)) (hw _ (List.mem_of_getElem? (i := 43) rfl)) (hw _ (List.mem_of_getElem? (i := 44) rfl)) (hw _ (List.mem_of_getElem? (i := 2) rfl)) (by decide) (by decide) (by decide)) (g := (mkF m 1 #[.val (.ref a0), .val (.ref a1), .unset] [(.ref a1)])) rfl rfl (hb hby d3_1)
  refine Rest.via (fun t k => st1 t k) ?_
  show Rest p.tables e below s _ _ _ (T1.setTop (mkF m 4 #[.val (.ref a0), .val (.ref a1), .unset] [(.int (0 : Int32))]))
  refine Rest.via (fun t k => XS.ifYes X1.here hx rfl (pc0 := 4) (pc' := 38) rfl (hb hby d3_4) rfl ((if0 _ _).trans (teq (by decide : (0 : Int32) = (0 : Int32))).1) (by decide) (by decide) k) ?_
  show Rest p.tables e below s _ _ _ (T1.setTop (mkF m 38 #[.val (.ref a0), .val (.ref a1), .unset] []))
  refine Rest.via (fun t k => XS.iconst X1.here hx rfl (hb hby d3_38) k) ?_
  show Rest p.tables e below s _ _ _ (T1.setTop (mkF m 39 #[.val (.ref a0), .val (.ref a1), .unset] [(.int (0 : Int32))]))
  refine Rest.ret X1 (v := some (.int (nar .boolean (0 : Int32)))) (fun h => by rw [Bd.returns] at h; cases h) hlk (fun fs hr => retN X1 hx (t := .boolean) Bd.returns (by simp) (hb hby d3_39) hr) ?_ (by decide) (by decide)
  rw [e1]
  exact ⟨rfl, N0, rfl⟩
theorem pd_2 : parseMethodDescriptor "(II)V" = some ⟨[.int, .int], none⟩ := by decide +kernel
theorem pd_3 : parseMethodDescriptor "(Ljava/lang/Object;)Z" = some ⟨[(.object "java/lang/Object")], some .boolean⟩ := by decide +kernel
theorem pd_4 : parseMethodDescriptor "(I)Ljava/lang/Integer;" = some ⟨[.int], some (.object "java/lang/Integer")⟩ := by decide +kernel
theorem pn_3 : plainName "com/example/rollcall/rollcall/model/spring/SpringVersionEqualsPinLaw" = true := by first | (simp [plainName, overriddenIn]; done) | decide +kernel
theorem ef_0 (m : MethodId) (p0 : Int32) (p1 : Int32) (p2 : Int32) (p3 : Int32) (p4 : Int32) : entryFrame m #[(.int p0), (.int p1), (.int p2), (.int p3), (.int p4)] maxLocals = mkF m 0 #[.val (.int p0), .val (.int p1), .val (.int p2), .val (.int p3), .val (.int p4), .unset, .unset, .unset, .unset, .unset, .unset, .unset, .unset, .unset, .unset] [] := by first | (simp [entryFrame, mkF, argsToLocals, Value.category, maxLocals]; done) | rfl
def Q0 (Z : State) (p0 : Int32) (p1 : Int32) (p2 : Int32) (p3 : Int32) (p4 : Int32) (wc : Addr) (h0 : Heap) (n0 : Nat) (v : Option Value) (h : Heap) (L : List Loc) : Prop := v = some (.int 1) ∧ Fr n0 L
set_option maxRecDepth 65536 in
set_option maxHeartbeats 40000000 in
theorem rm0 (l : Launch) (Z : State) (aw : Array Value) (hw : ∀ d ∈ tables_1, d.before aw Z = true) (ws : List Jvm.Cond) (p0 : Int32) (p1 : Int32) (p2 : Int32) (p3 : Int32) (p4 : Int32) (wc : Addr) (h0 : Heap) (n0 : Nat) (Z0 : n0 ≤ h0.size) (IC : own_IC Z h0 wc) :
    MetFree l x (head1 (Jvm.Cond.code x code maxLocals ret :: ws) room_1) (fun a U => a = #[(.int p0), (.int p1), (.int p2), (.int p3), (.int p4)] ∧ Z.Warmed39 U.vm ∧ U.heap = h0) (fun _ _ _ _ _ => True) (fun _ U o U' => ∃ v L, o = .returned v ∧ Q0 Z p0 p1 p2 p3 p4 wc h0 n0 v U'.heap L ∧ FrameEnd U o U' L 2 4) := by
  refine MetFree.of_bodySF (plainFor_of_name pn_3) hisR ?_
  intro p e s m args below meth c s₁ Bd hml0 hP hK
  obtain ⟨rfl, hZ, hh⟩ := hP
  have hx := Bd.exec
  have hby := Bd.bytes
  have hml : c.maxLocals = 15 := hml0
  have hown : s.vm.findClass "com/example/rollcall/rollcall/model/spring/SpringVersionEqualsPinLaw" = some m.cls := findClass_of_methodNamed Bd.named
  have hnm := (name_of_methodNamed Bd.named Bd.method).1
  have hlk : meth.locks = false := BodyLoose.notSynchronized Bd
  have X0 : Stand p l e room_1 s m #[(.int p0), (.int p1), (.int p2), (.int p3), (.int p4)] below meth c s₁ [] 0 0 := Stand.of_body Bd
  have eh0 : s₁.heap = h0 := by rw [← hh, Bd.state]; rfl
  have N0 := Fr.nil n0
  show Rest p.tables e below s (Q0 Z p0 p1 p2 p3 p4 wc h0 n0) _ _ (s₁.setTop (entryFrame m #[(.int p0), (.int p1), (.int p2), (.int p3), (.int p4)] maxLocals))
  refine Rest.via (fun t k => castTop (ef_0 m p0 p1 p2 p3 p4) k) ?_
  show Rest p.tables e below s _ _ _ (s₁.setTop (mkF m 0 #[.val (.int p0), .val (.int p1), .val (.int p2), .val (.int p3), .val (.int p4), .unset, .unset, .unset, .unset, .unset, .unset, .unset, .unset, .unset, .unset] []))
  refine Rest.via (fun t k => XS.iloadN X0.here hx rfl (hb hby at_0) rfl k) ?_
  show Rest p.tables e below s _ _ _ (s₁.setTop (mkF m 1 #[.val (.int p0), .val (.int p1), .val (.int p2), .val (.int p3), .val (.int p4), .unset, .unset, .unset, .unset, .unset, .unset, .unset, .unset, .unset, .unset] [(.int p0)]))
  refine Rest.via (fun t k => X0.ldcInt hx hown (mvT hZ (hw _ (List.mem_of_getElem? (i := 0) rfl))) (g := (mkF m 1 #[.val (.int p0), .val (.int p1), .val (.int p2), .val (.int p3), .val (.int p4), .unset, .unset, .unset, .unset, .unset, .unset, .unset, .unset, .unset, .unset] [(.int p0)])) rfl (hb hby at_1) t k) ?_
  show Rest p.tables e below s _ _ _ (s₁.setTop (mkF m 3 #[.val (.int p0), .val (.int p1), .val (.int p2), .val (.int p3), .val (.int p4), .unset, .unset, .unset, .unset, .unset, .unset, .unset, .unset, .unset, .unset] [(.int (2147483647 : Int32)), (.int p0)]))
  refine Rest.via (fun t k => XS.iand X0.here hx rfl (hb hby at_3) rfl k) ?_
  show Rest p.tables e below s _ _ _ (s₁.setTop (mkF m 4 #[.val (.int p0), .val (.int p1), .val (.int p2), .val (.int p3), .val (.int p4), .unset, .unset, .unset, .unset, .unset, .unset, .unset, .unset, .unset, .unset] [(.int (p0 &&& (2147483647 : Int32)))]))
  refine Rest.via (fun t k => XS.istore X0.here hx rfl (hb hby at_4) rfl (l' := #[.val (.int p0), .val (.int p1), .val (.int p2), .val (.int p3), .val (.int p4), .val (.int (p0 &&& (2147483647 : Int32))), .unset, .unset, .unset, .unset, .unset, .unset, .unset, .unset, .unset]) rfl k) ?_
  show Rest p.tables e below s _ _ _ (s₁.setTop (mkF m 6 #[.val (.int p0), .val (.int p1), .val (.int p2), .val (.int p3), .val (.int p4), .val (.int (p0 &&& (2147483647 : Int32))), .unset, .unset, .unset, .unset, .unset, .unset, .unset, .unset, .unset] []))
  obtain ⟨ma, hv_ma⟩ : ∃ z : Int32, z = (p0 &&& (2147483647 : Int32)) := ⟨_, rfl⟩
  rw [← hv_ma]
  show Rest p.tables e below s _ _ _ (s₁.setTop (mkF m 6 #[.val (.int p0), .val (.int p1), .val (.int p2), .val (.int p3), .val (.int p4), .val (.int ma), .unset, .unset, .unset, .unset, .unset, .unset, .unset, .unset, .unset] []))
  refine Rest.via (fun t k => XS.iloadN X0.here hx rfl (hb hby at_6) rfl k) ?_
  show Rest p.tables e below s _ _ _ (s₁.setTop (mkF m 7 #[.val (.int p0), .val (.int p1), .val (.int p2), .val (.int p3), .val (.int p4), .val (.int ma), .unset, .unset, .unset, .unset, .unset, .unset, .unset, .unset, .unset] [(.int p1)]))
  refine Rest.via (fun t k => X0.ldcInt hx hown (mvT hZ (hw _ (List.mem_of_getElem? (i := 0) rfl))) (g := (mkF m 7 #[.val (.int p0), .val (.int p1), .val (.int p2), .val (.int p3), .val (.int p4), .val (.int ma), .unset, .unset, .unset, .unset, .unset, .unset, .unset, .unset, .unset] [(.int p1)])) rfl (hb hby at_7) t k) ?_
  show Rest p.tables e below s _ _ _ (s₁.setTop (mkF m 9 #[.val (.int p0), .val (.int p1), .val (.int p2), .val (.int p3), .val (.int p4), .val (.int ma), .unset, .unset, .unset, .unset, .unset, .unset, .unset, .unset, .unset] [(.int (2147483647 : Int32)), (.int p1)]))
  refine Rest.via (fun t k => XS.iand X0.here hx rfl (hb hby at_9) rfl k) ?_
  show Rest p.tables e below s _ _ _ (s₁.setTop (mkF m 10 #[.val (.int p0), .val (.int p1), .val (.int p2), .val (.int p3), .val (.int p4), .val (.int ma), .unset, .unset, .unset, .unset, .unset, .unset, .unset, .unset, .unset] [(.int (p1 &&& (2147483647 : Int32)))]))
  refine Rest.via (fun t k => XS.istore X0.here hx rfl (hb hby at_10) rfl (l' := #[.val (.int p0), .val (.int p1), .val (.int p2), .val (.int p3), .val (.int p4), .val (.int ma), .val (.int (p1 &&& (2147483647 : Int32))), .unset, .unset, .unset, .unset, .unset, .unset, .unset, .unset]) rfl k) ?_
  show Rest p.tables e below s _ _ _ (s₁.setTop (mkF m 12 #[.val (.int p0), .val (.int p1), .val (.int p2), .val (.int p3), .val (.int p4), .val (.int ma), .val (.int (p1 &&& (2147483647 : Int32))), .unset, .unset, .unset, .unset, .unset, .unset, .unset, .unset] []))
  obtain ⟨mb, hv_mb⟩ : ∃ z : Int32, z = (p1 &&& (2147483647 : Int32)) := ⟨_, rfl⟩
  rw [← hv_mb]
  show Rest p.tables e below s _ _ _ (s₁.setTop (mkF m 12 #[.val (.int p0), .val (.int p1), .val (.int p2), .val (.int p3), .val (.int p4), .val (.int ma), .val (.int mb), .unset, .unset, .unset, .unset, .unset, .unset, .unset, .unset] []))
  refine Rest.via (fun t k => XS.iloadN X0.here hx rfl (hb hby at_12) rfl k) ?_
  show Rest p.tables e below s _ _ _ (s₁.setTop (mkF m 13 #[.val (.int p0), .val (.int p1), .val (.int p2), .val (.int p3), .val (.int p4), .val (.int ma), .val (.int mb), .unset, .unset, .unset, .unset, .unset, .unset, .unset, .unset] [(.int p2)]))
  refine Rest.via (fun t k => X0.ldcInt hx hown (mvT hZ (hw _ (List.mem_of_getElem? (i := 0) rfl))) (g := (mkF m 13 #[.val (.int p0), .val (.int p1), .val (.int p2), .val (.int p3), .val (.int p4), .val (.int ma), .val (.int mb), .unset, .unset, .unset, .unset, .unset, .unset, .unset, .unset] [(.int p2)])) rfl (hb hby at_13) t k) ?_
  show Rest p.tables e below s _ _ _ (s₁.setTop (mkF m 15 #[.val (.int p0), .val (.int p1), .val (.int p2), .val (.int p3), .val (.int p4), .val (.int ma), .val (.int mb), .unset, .unset, .unset, .unset, .unset, .unset, .unset, .unset] [(.int (2147483647 : Int32)), (.int p2)]))
  refine Rest.via (fun t k => XS.iand X0.here hx rfl (hb hby at_15) rfl k) ?_
  show Rest p.tables e below s _ _ _ (s₁.setTop (mkF m 16 #[.val (.int p0), .val (.int p1), .val (.int p2), .val (.int p3), .val (.int p4), .val (.int ma), .val (.int mb), .unset, .unset, .unset, .unset, .unset, .unset, .unset, .unset] [(.int (p2 &&& (2147483647 : Int32)))]))
  refine Rest.via (fun t k => XS.istore X0.here hx rfl (hb hby at_16) rfl (l' := #[.val (.int p0), .val (.int p1), .val (.int p2), .val (.int p3), .val (.int p4), .val (.int ma), .val (.int mb), .val (.int (p2 &&& (2147483647 : Int32))), .unset, .unset, .unset, .unset, .unset, .unset, .unset]) rfl k) ?_
  show Rest p.tables e below s _ _ _ (s₁.setTop (mkF m 18 #[.val (.int p0), .val (.int p1), .val (.int p2), .val (.int p3), .val (.int p4), .val (.int ma), .val (.int mb), .val (.int (p2 &&& (2147483647 : Int32))), .unset, .unset, .unset, .unset, .unset, .unset, .unset] []))
  obtain ⟨mc, hv_mc⟩ : ∃ z : Int32, z = (p2 &&& (2147483647 : Int32)) := ⟨_, rfl⟩
  rw [← hv_mc]
  show Rest p.tables e below s _ _ _ (s₁.setTop (mkF m 18 #[.val (.int p0), .val (.int p1), .val (.int p2), .val (.int p3), .val (.int p4), .val (.int ma), .val (.int mb), .val (.int mc), .unset, .unset, .unset, .unset, .unset, .unset, .unset] []))
  refine Rest.via (fun t k => XS.iloadN X0.here hx rfl (hb hby at_18) rfl k) ?_
  show Rest p.tables e below s _ _ _ (s₁.setTop (mkF m 19 #[.val (.int p0), .val (.int p1), .val (.int p2), .val (.int p3), .val (.int p4), .val (.int ma), .val (.int mb), .val (.int mc), .unset, .unset, .unset, .unset, .unset, .unset, .unset] [(.int p3)]))
  refine Rest.via (fun t k => X0.ldcInt hx hown (mvT hZ (hw _ (List.mem_of_getElem? (i := 0) rfl))) (g := (mkF m 19 #[.val (.int p0), .val (.int p1), .val (.int p2), .val (.int p3), .val (.int p4), .val (.int ma), .val (.int mb), .val (.int mc), .unset, .unset, .unset, .unset, .unset, .unset, .unset] [(.int p3)])) rfl (hb hby at_19) t k) ?_
  show Rest p.tables e below s _ _ _ (s₁.setTop (mkF m 21 #[.val (.int p0), .val (.int p1), .val (.int p2), .val (.int p3), .val (.int p4), .val (.int ma), .val (.int mb), .val (.int mc), .unset, .unset, .unset, .unset, .unset, .unset, .unset] [(.int (2147483647 : Int32)), (.int p3)]))
  refine Rest.via (fun t k => XS.iand X0.here hx rfl (hb hby at_21) rfl k) ?_
  show Rest p.tables e below s _ _ _ (s₁.setTop (mkF m 22 #[.val (.int p0), .val (.int p1), .val (.int p2), .val (.int p3), .val (.int p4), .val (.int ma), .val (.int mb), .val (.int mc), .unset, .unset, .unset, .unset, .unset, .unset, .unset] [(.int (p3 &&& (2147483647 : Int32)))]))
  refine Rest.via (fun t k => XS.istore X0.here hx rfl (hb hby at_22) rfl (l' := #[.val (.int p0), .val (.int p1), .val (.int p2), .val (.int p3), .val (.int p4), .val (.int ma), .val (.int mb), .val (.int mc), .val (.int (p3 &&& (2147483647 : Int32))), .unset, .unset, .unset, .unset, .unset, .unset]) rfl k) ?_
  show Rest p.tables e below s _ _ _ (s₁.setTop (mkF m 24 #[.val (.int p0), .val (.int p1), .val (.int p2), .val (.int p3), .val (.int p4), .val (.int ma), .val (.int mb), .val (.int mc), .val (.int (p3 &&& (2147483647 : Int32))), .unset, .unset, .unset, .unset, .unset, .unset] []))
  obtain ⟨md, hv_md⟩ : ∃ z : Int32, z = (p3 &&& (2147483647 : Int32)) := ⟨_, rfl⟩
  rw [← hv_md]
  show Rest p.tables e below s _ _ _ (s₁.setTop (mkF m 24 #[.val (.int p0), .val (.int p1), .val (.int p2), .val (.int p3), .val (.int p4), .val (.int ma), .val (.int mb), .val (.int mc), .val (.int md), .unset, .unset, .unset, .unset, .unset, .unset] []))
  have hma : ¬ (ma < (0 : Int32)) := by rw [hv_ma]; exact own_nn _
  have hmb : ¬ (mb < (0 : Int32)) := by rw [hv_mb]; exact own_nn _
  have hmc : ¬ (mc < (0 : Int32)) := by rw [hv_mc]; exact own_nn _
  have hmd : ¬ (md < (0 : Int32)) := by rw [hv_md]; exact own_nn _
  obtain ⟨T1, h1, X1, e1, E1, A1, D1, -, st1⟩ := newO X0 hx hZ hown (hw _ (List.mem_of_getElem? (i := 1) rfl)) (hw _ (List.mem_of_getElem? (i := 2) rfl)) (hw _ (List.mem_of_getElem? (i := 3) rfl)) eh0 (g := (mkF m 24 #[.val (.int p0), .val (.int p1), .val (.int p2), .val (.int p3), .val (.int p4), .val (.int ma), .val (.int mb), .val (.int mc), .val (.int md), .unset, .unset, .unset, .unset, .unset, .unset] [])) rfl (hb hby at_24) (by decide) (by decide)
  obtain ⟨b1, gq1⟩ : ∃ z, z = h0.size := ⟨_, rfl⟩
  rw [← gq1] at A1 D1 st1
  have sz_b1 : h0.size ≤ b1 := Nat.le_trans (Keep.refl h0 []).1 (Nat.le_of_eq gq1.symm)
  have g_b1 : n0 ≤ b1 := Nat.le_trans Z0 sz_b1
  have K1 : Keep h0 h1 [] := (Keep.refl h0 []).ext E1
  have E_b1 := A1
  have F_major_b1 : Fld Z h1 b1 "com/example/rollcall/rollcall/model/spring/SpringVersion" "major" "I" (.int (0 : Int32)) := D1 (Or.inr (hw _ (List.mem_of_getElem? (i := 11) rfl))) (ty := .int) (by decide)
  have F_minor_b1 : Fld Z h1 b1 "com/example/rollcall/rollcall/model/spring/SpringVersion" "minor" "I" (.int (0 : Int32)) := D1 (Or.inr (hw _ (List.mem_of_getElem? (i := 13) rfl))) (ty := .int) (by decide)
  refine Rest.via (fun t k => st1 t k) ?_
  show Rest p.tables e below s _ _ _ (T1.setTop (mkF m 27 #[.val (.int p0), .val (.int p1), .val (.int p2), .val (.int p3), .val (.int p4), .val (.int ma), .val (.int mb), .val (.int mc), .val (.int md), .unset, .unset, .unset, .unset, .unset, .unset] [(.ref b1)]))
  refine Rest.via (fun t k => XS.dup X1.here hx rfl (hb hby at_27) rfl rfl k) ?_
  show Rest p.tables e below s _ _ _ (T1.setTop (mkF m 28 #[.val (.int p0), .val (.int p1), .val (.int p2), .val (.int p3), .val (.int p4), .val (.int ma), .val (.int mb), .val (.int mc), .val (.int md), .unset, .unset, .unset, .unset, .unset, .unset] [(.ref b1), (.ref b1)]))
  refine Rest.via (fun t k => XS.iload X1.here hx rfl (hb hby at_28) rfl k) ?_
  show Rest p.tables e below s _ _ _ (T1.setTop (mkF m 30 #[.val (.int p0), .val (.int p1), .val (.int p2), .val (.int p3), .val (.int p4), .val (.int ma), .val (.int mb), .val (.int mc), .val (.int md), .unset, .unset, .unset, .unset, .unset, .unset] [(.int ma), (.ref b1), (.ref b1)]))
  refine Rest.via (fun t k => XS.iload X1.here hx rfl (hb hby at_30) rfl k) ?_
  show Rest p.tables e below s _ _ _ (T1.setTop (mkF m 32 #[.val (.int p0), .val (.int p1), .val (.int p2), .val (.int p3), .val (.int p4), .val (.int ma), .val (.int mb), .val (.int mc), .val (.int md), .unset, .unset, .unset, .unset, .unset, .unset] [(.int mb), (.int ma), (.ref b1), (.ref b1)]))
  obtain ⟨_, _, ⟨T2, L2, k2, n2⟩, -, X2, ⟨Lc2, hQ2, l2, y2, z2⟩, st2⟩ := X1.specialBack hx (y := (⟨"com/example/rollcall/rollcall/model/spring/SpringVersion", "<init>", "(II)V"⟩ : MethodName)) rfl hown (mvT hZ (hw _ (List.mem_of_getElem? (i := 4) rfl))) (mvT hZ (hw _ (List.mem_of_getElem? (i := 5) rfl))) (mvT hZ (hw _ (List.mem_of_getElem? (i := 6) rfl))) (by decide) (backOf (W := 1) (rmI l Z aw hw [] b1 ma mb  h1 n0 (Nat.le_trans Z0 K1.1) E_b1 F_major_b1 F_minor_b1 g_b1 hma hmb) hZ (hw _ (List.mem_of_getElem? (i := 6) rfl)) (hw _ (List.mem_of_getElem? (i := 3) rfl)) (by decide) (by decide)) (g := (mkF m 32 #[.val (.int p0), .val (.int p1), .val (.int p2), .val (.int p3), .val (.int p4), .val (.int ma), .val (.int mb), .val (.int mc), .val (.int md), .unset, .unset, .unset, .unset, .unset, .unset] [(.int mb), (.int ma), (.ref b1), (.ref b1)])) rfl (by rw [hml]; rfl) (Steps.refl _) (a := b1) (argsL := [(.int ma), (.int mb)]) (rest := [(.ref b1)]) (lenOf pd_2 rfl) rfl (by show 2 * 0 + _ ≤ _; exact Nat.le_of_eq rfl) (hb hby at_32) (fun _ _ => ⟨rfl, e1, (by decide : 1 + 0 ≤ _), (by decide : 2 + 0 ≤ _)⟩)
  dsimp only [Pt.U, Pt.locs, Pt.cells, Pt.slots] at X2 l2 y2 z2 st2 hQ2
  subst l2 y2 z2
  obtain ⟨h2, e2⟩ : ∃ z, T2.heap = z := ⟨_, rfl⟩
  rw [e2] at hQ2
  obtain ⟨rfl, Nq2, Kq2, Fa2, Fb2⟩ := hQ2
  have N2 := Fr.app N0 Nq2
  have K2 : Keep h0 h2 [] := K1.trans Kq2 (allS (Or.inr sz_b1) all0)
  refine Rest.via (fun t k => st2.trans k) ?_
  show Rest p.tables e below s _ _ _ (T2.setTop (mkF m 35 #[.val (.int p0), .val (.int p1), .val (.int p2), .val (.int p3), .val (.int p4), .val (.int ma), .val (.int mb), .val (.int mc), .val (.int md), .unset, .unset, .unset, .unset, .unset, .unset] [(.ref b1)]))
  refine Rest.via (fun t k => XS.astore X2.here hx rfl (hb hby at_35) rfl rfl (l' := #[.val (.int p0), .val (.int p1), .val (.int p2), .val (.int p3), .val (.int p4), .val (.int ma), .val (.int mb), .val (.int mc), .val (.int md), .val (.ref b1), .unset, .unset, .unset, .unset, .unset]) rfl k) ?_
  show Rest p.tables e below s _ _ _ (T2.setTop (mkF m 37 #[.val (.int p0), .val (.int p1), .val (.int p2), .val (.int p3), .val (.int p4), .val (.int ma), .val (.int mb), .val (.int mc), .val (.int md), .val (.ref b1), .unset, .unset, .unset, .unset, .unset] []))
  refine Rest.via (fun t k => XS.iload X2.here hx rfl (hb hby at_37) rfl k) ?_
  show Rest p.tables e below s _ _ _ (T2.setTop (mkF m 39 #[.val (.int p0), .val (.int p1), .val (.int p2), .val (.int p3), .val (.int p4), .val (.int ma), .val (.int mb), .val (.int mc), .val (.int md), .val (.ref b1), .unset, .unset, .unset, .unset, .unset] [(.int p4)]))
  refine Rest.via (fun t k => XS.iconst X2.here hx rfl (hb hby at_39) k) ?_
  show Rest p.tables e below s _ _ _ (T2.setTop (mkF m 40 #[.val (.int p0), .val (.int p1), .val (.int p2), .val (.int p3), .val (.int p4), .val (.int ma), .val (.int mb), .val (.int mc), .val (.int md), .val (.ref b1), .unset, .unset, .unset, .unset, .unset] [(.int (3 : Int32)), (.int p4)]))
  refine Rest.via (fun t k => XS.iand X2.here hx rfl (hb hby at_40) rfl k) ?_
  show Rest p.tables e below s _ _ _ (T2.setTop (mkF m 41 #[.val (.int p0), .val (.int p1), .val (.int p2), .val (.int p3), .val (.int p4), .val (.int ma), .val (.int mb), .val (.int mc), .val (.int md), .val (.ref b1), .unset, .unset, .unset, .unset, .unset] [(.int (p4 &&& (3 : Int32)))]))
  refine Rest.via (fun t k => XS.istore X2.here hx rfl (hb hby at_41) rfl (l' := #[.val (.int p0), .val (.int p1), .val (.int p2), .val (.int p3), .val (.int p4), .val (.int ma), .val (.int mb), .val (.int mc), .val (.int md), .val (.ref b1), .val (.int (p4 &&& (3 : Int32))), .unset, .unset, .unset, .unset]) rfl k) ?_
  show Rest p.tables e below s _ _ _ (T2.setTop (mkF m 43 #[.val (.int p0), .val (.int p1), .val (.int p2), .val (.int p3), .val (.int p4), .val (.int ma), .val (.int mb), .val (.int mc), .val (.int md), .val (.ref b1), .val (.int (p4 &&& (3 : Int32))), .unset, .unset, .unset, .unset] []))
  refine Rest.via (fun t k => XS.iload X2.here hx rfl (hb hby at_43) rfl k) ?_
  show Rest p.tables e below s _ _ _ (T2.setTop (mkF m 45 #[.val (.int p0), .val (.int p1), .val (.int p2), .val (.int p3), .val (.int p4), .val (.int ma), .val (.int mb), .val (.int mc), .val (.int md), .val (.ref b1), .val (.int (p4 &&& (3 : Int32))), .unset, .unset, .unset, .unset] [(.int (p4 &&& (3 : Int32)))]))
  by_cases hc45 : (p4 &&& (3 : Int32)) = (0 : Int32)
  · refine Rest.via (fun t k => XS.ifNo X2.here hx rfl (hb hby at_45) rfl ((if0 _ _).trans (teq hc45).2) k) ?_
    show Rest p.tables e below s _ _ _ (T2.setTop (mkF m 48 #[.val (.int p0), .val (.int p1), .val (.int p2), .val (.int p3), .val (.int p4), .val (.int ma), .val (.int mb), .val (.int mc), .val (.int md), .val (.ref b1), .val (.int (p4 &&& (3 : Int32))), .unset, .unset, .unset, .unset] []))
    refine Rest.via (fun t k => XS.aload X2.here hx rfl (hb hby at_48) rfl rfl k) ?_
    show Rest p.tables e below s _ _ _ (T2.setTop (mkF m 50 #[.val (.int p0), .val (.int p1), .val (.int p2), .val (.int p3), .val (.int p4), .val (.int ma), .val (.int mb), .val (.int mc), .val (.int md), .val (.ref b1), .val (.int (p4 &&& (3 : Int32))), .unset, .unset, .unset, .unset] [(.ref b1)]))
    refine Rest.via (fun t k => XS.aconstNull X2.here hx rfl (hb hby at_50) k) ?_
    show Rest p.tables e below s _ _ _ (T2.setTop (mkF m 51 #[.val (.int p0), .val (.int p1), .val (.int p2), .val (.int p3), .val (.int p4), .val (.int ma), .val (.int mb), .val (.int mc), .val (.int md), .val (.ref b1), .val (.int (p4 &&& (3 : Int32))), .unset, .unset, .unset, .unset] [.null, (.ref b1)]))
    obtain ⟨cq3, kq3, q3a, q3b, q3c⟩ := isOf hZ e2 (E_b1.keep Kq2)
    obtain ⟨_, _, ⟨T3, L3, k3, n3⟩, -, X3, ⟨Lc3, hQ3, l3, y3, z3⟩, st3⟩ := X2.virtualBack hx (y := (⟨"com/example/rollcall/rollcall/model/spring/SpringVersion", "equals", "(Ljava/lang/Object;)Z"⟩ : MethodName)) (z := (⟨"com/example/rollcall/rollcall/model/spring/SpringVersion", "equals", "(Ljava/lang/Object;)Z"⟩ : MethodName)) hown (mvT hZ (hw _ (List.mem_of_getElem? (i := 14) rfl))) (mvT hZ (hw _ (List.mem_of_getElem? (i := 15) rfl))) (notFace_of_selects (args := #[]) (mvT hZ (hw _ (List.mem_of_getElem? (i := 17) rfl)))) (mvT hZ (hw _ (List.mem_of_getElem? (i := 17) rfl))) (mvT hZ (hw _ (List.mem_of_getElem? (i := 16) rfl))) (by decide) (backOf (W := 0) (rmEn l Z aw hw [] b1  h2 n0 (Nat.le_trans Z0 K2.1) ) hZ (hw _ (List.mem_of_getElem? (i := 18) rfl)) (hw _ (List.mem_of_getElem? (i := 3) rfl)) (by decide) (by decide)) q3a q3c (g := (mkF m 51 #[.val (.int p0), .val (.int p1), .val (.int p2), .val (.int p3), .val (.int p4), .val (.int ma), .val (.int mb), .val (.int mc), .val (.int md), .val (.ref b1), .val (.int (p4 &&& (3 : Int32))), .unset, .unset, .unset, .unset] [.null, (.ref b1)])) rfl (by rw [hml]; rfl) (Steps.refl _) (argsL := [.null]) (rest := []) (lenOf pd_3 rfl) rfl (by show 2 * 0 + _ ≤ _; exact Nat.le_of_eq rfl) (hb hby at_51) (fun _ _ => ⟨rfl, e2, (by decide : 1 + 0 ≤ _), (by decide : 2 + 0 ≤ _)⟩)
    dsimp only [Pt.U, Pt.locs, Pt.cells, Pt.slots] at X3 l3 y3 z3 st3 hQ3
    subst l3 y3 z3
    obtain ⟨rfl, Nq3, e3⟩ := hQ3
    have N3 := Fr.app N2 Nq3
    refine Rest.via (fun t k => st3.trans k) ?_
    show Rest p.tables e below s _ _ _ (T3.setTop (mkF m 54 #[.val (.int p0), .val (.int p1), .val (.int p2), .val (.int p3), .val (.int p4), .val (.int ma), .val (.int mb), .val (.int mc), .val (.int md), .val (.ref b1), .val (.int (p4 &&& (3 : Int32))), .unset, .unset, .unset, .unset] [(.int (0 : Int32))]))
    refine Rest.via (fun t k => XS.ifNo X3.here hx rfl (hb hby at_54) rfl ((if0 _ _).trans (teq (by decide : (0 : Int32) = (0 : Int32))).2) k) ?_
    show Rest p.tables e below s _ _ _ (T3.setTop (mkF m 57 #[.val (.int p0), .val (.int p1), .val (.int p2), .val (.int p3), .val (.int p4), .val (.int ma), .val (.int mb), .val (.int mc), .val (.int md), .val (.ref b1), .val (.int (p4 &&& (3 : Int32))), .unset, .unset, .unset, .unset] []))
    refine Rest.via (fun t k => XS.iconst X3.here hx rfl (hb hby at_57) k) ?_
    show Rest p.tables e below s _ _ _ (T3.setTop (mkF m 58 #[.val (.int p0), .val (.int p1), .val (.int p2), .val (.int p3), .val (.int p4), .val (.int ma), .val (.int mb), .val (.int mc), .val (.int md), .val (.ref b1), .val (.int (p4 &&& (3 : Int32))), .unset, .unset, .unset, .unset] [(.int (1 : Int32))]))
    refine Rest.via (fun t k => XS.goto X3.here hx rfl (pc0 := 58) (pc' := 62) rfl (hb hby at_58) (by decide) (by decide) k) ?_
    show Rest p.tables e below s _ _ _ (T3.setTop (mkF m 62 #[.val (.int p0), .val (.int p1), .val (.int p2), .val (.int p3), .val (.int p4), .val (.int ma), .val (.int mb), .val (.int mc), .val (.int md), .val (.ref b1), .val (.int (p4 &&& (3 : Int32))), .unset, .unset, .unset, .unset] [(.int (1 : Int32))]))
    refine Rest.ret X3 (v := some (.int (nar .boolean (1 : Int32)))) (fun h => by rw [Bd.returns] at h; cases h) hlk (fun fs hr => retN X3 hx (t := .boolean) Bd.returns (by simp) (hb hby at_62) hr) ?_ (by decide) (by decide)
    rw [e3]
    exact ⟨rfl, N3⟩
  · refine Rest.via (fun t k => XS.ifYes X2.here hx rfl (pc0 := 45) (pc' := 63) rfl (hb hby at_45) rfl ((if0 _ _).trans (feq hc45).2) (by decide) (by decide) k) ?_
    show Rest p.tables e below s _ _ _ (T2.setTop (mkF m 63 #[.val (.int p0), .val (.int p1), .val (.int p2), .val (.int p3), .val (.int p4), .val (.int ma), .val (.int mb), .val (.int mc), .val (.int md), .val (.ref b1), .val (.int (p4 &&& (3 : Int32))), .unset, .unset, .unset, .unset] []))
    refine Rest.via (fun t k => XS.iload X2.here hx rfl (hb hby at_63) rfl k) ?_
    show Rest p.tables e below s _ _ _ (T2.setTop (mkF m 65 #[.val (.int p0), .val (.int p1), .val (.int p2), .val (.int p3), .val (.int p4), .val (.int ma), .val (.int mb), .val (.int mc), .val (.int md), .val (.ref b1), .val (.int (p4 &&& (3 : Int32))), .unset, .unset, .unset, .unset] [(.int (p4 &&& (3 : Int32)))]))
    refine Rest.via (fun t k => XS.iconst X2.here hx rfl (hb hby at_65) k) ?_
    show Rest p.tables e below s _ _ _ (T2.setTop (mkF m 66 #[.val (.int p0), .val (.int p1), .val (.int p2), .val (.int p3), .val (.int p4), .val (.int ma), .val (.int mb), .val (.int mc), .val (.int md), .val (.ref b1), .val (.int (p4 &&& (3 : Int32))), .unset, .unset, .unset, .unset] [(.int (1 : Int32)), (.int (p4 &&& (3 : Int32)))]))
    by_cases hc66 : (p4 &&& (3 : Int32)) = (1 : Int32)
    · refine Rest.via (fun t k => XS.icmpNo X2.here hx rfl (hb hby at_66) rfl (teq hc66).2 k) ?_
      show Rest p.tables e below s _ _ _ (T2.setTop (mkF m 69 #[.val (.int p0), .val (.int p1), .val (.int p2), .val (.int p3), .val (.int p4), .val (.int ma), .val (.int mb), .val (.int mc), .val (.int md), .val (.ref b1), .val (.int (p4 &&& (3 : Int32))), .unset, .unset, .unset, .unset] []))
      refine Rest.via (fun t k => XS.iload X2.here hx rfl (hb hby at_69) rfl k) ?_
      show Rest p.tables e below s _ _ _ (T2.setTop (mkF m 71 #[.val (.int p0), .val (.int p1), .val (.int p2), .val (.int p3), .val (.int p4), .val (.int ma), .val (.int mb), .val (.int mc), .val (.int md), .val (.ref b1), .val (.int (p4 &&& (3 : Int32))), .unset, .unset, .unset, .unset] [(.int ma)]))
      obtain ⟨_, _, ⟨T4, L4, k4, n4⟩, -, X4, ⟨Lc4, hQ4, l4, y4, z4⟩, st4⟩ := Jvm.LawKit.callS X2 hx (y := (⟨"java/lang/Integer", "valueOf", "(I)Ljava/lang/Integer;"⟩ : MethodName)) hown (mvT hZ (hw _ (List.mem_of_getElem? (i := 21) rfl))) (mvT hZ (hw _ (List.mem_of_getElem? (i := 22) rfl))) (mvT hZ (hw _ (List.mem_of_getElem? (i := 23) rfl))) (mvT hZ (hw _ (List.mem_of_getElem? (i := 24) rfl))) (by decide) (backOf (W := 0) (rmVo l Z aw hw [] ma wc h2 n0 (Nat.le_trans Z0 K2.1) (own_IC_ext (own_kext K2) IC)) hZ (hw _ (List.mem_of_getElem? (i := 24) rfl)) (hw _ (List.mem_of_getElem? (i := 23) rfl)) (by decide) (by decide)) (g := (mkF m 71 #[.val (.int p0), .val (.int p1), .val (.int p2), .val (.int p3), .val (.int p4), .val (.int ma), .val (.int mb), .val (.int mc), .val (.int md), .val (.ref b1), .val (.int (p4 &&& (3 : Int32))), .unset, .unset, .unset, .unset] [(.int ma)])) rfl (by rw [hml]; rfl) (argsL := [(.int ma)]) (rest := []) (lenOf pd_4 rfl) rfl (by show 2 * 0 + _ ≤ _; exact Nat.le_of_eq rfl) (hb hby at_71) (fun _ _ => ⟨rfl, e2, (by decide : 1 + 1 ≤ _), (by decide : 2 + 1 ≤ _)⟩)
      dsimp only [Pt.U, Pt.locs, Pt.cells, Pt.slots] at X4 l4 y4 z4 st4 hQ4
      subst l4 y4 z4
      obtain ⟨h4, e4⟩ : ∃ z, T4.heap = z := ⟨_, rfl⟩
      rw [e4] at hQ4
      obtain ⟨ai4, rfl, Nq4, Kq4, Ei4⟩ := hQ4
      have N4 := Fr.app N2 Nq4
      have K4 : Keep h0 h4 [] := K2.trans Kq4 all0
      refine Rest.via (fun t k => st4 t k) ?_
      show Rest p.tables e below s _ _ _ (T4.setTop (mkF m 74 #[.val (.int p0), .val (.int p1), .val (.int p2), .val (.int p3), .val (.int p4), .val (.int ma), .val (.int mb), .val (.int mc), .val (.int md), .val (.ref b1), .val (.int (p4 &&& (3 : Int32))), .unset, .unset, .unset, .unset] [(.ref ai4)]))
      refine Rest.via (fun t k => XS.astore X4.here hx rfl (hb hby at_74) rfl rfl (l' := #[.val (.int p0), .val (.int p1), .val (.int p2), .val (.int p3), .val (.int p4), .val (.int ma), .val (.int mb), .val (.int mc), .val (.int md), .val (.ref b1), .val (.int (p4 &&& (3 : Int32))), .val (.ref ai4), .unset, .unset, .unset]) rfl k) ?_
      show Rest p.tables e below s _ _ _ (T4.setTop (mkF m 76 #[.val (.int p0), .val (.int p1), .val (.int p2), .val (.int p3), .val (.int p4), .val (.int ma), .val (.int mb), .val (.int mc), .val (.int md), .val (.ref b1), .val (.int (p4 &&& (3 : Int32))), .val (.ref ai4), .unset, .unset, .unset] []))
      refine Rest.via (fun t k => XS.aload X4.here hx rfl (hb hby at_76) rfl rfl k) ?_
      show Rest p.tables e below s _ _ _ (T4.setTop (mkF m 78 #[.val (.int p0), .val (.int p1), .val (.int p2), .val (.int p3), .val (.int p4), .val (.int ma), .val (.int mb), .val (.int mc), .val (.int md), .val (.ref b1), .val (.int (p4 &&& (3 : Int32))), .val (.ref ai4), .unset, .unset, .unset] [(.ref b1)]))
      refine Rest.via (fun t k => XS.aload X4.here hx rfl (hb hby at_78) rfl rfl k) ?_
      show Rest p.tables e below s _ _ _ (T4.setTop (mkF m 80 #[.val (.int p0), .val (.int p1), .val (.int p2), .val (.int p3), .val (.int p4), .val (.int ma), .val (.int mb), .val (.int mc), .val (.int md), .val (.ref b1), .val (.int (p4 &&& (3 : Int32))), .val (.ref ai4), .unset, .unset, .unset] [(.ref ai4), (.ref b1)]))
      obtain ⟨cq5, kq5, q5a, q5b, q5c⟩ := isOf hZ e4 ((E_b1.keep Kq2).keep Kq4)
      obtain ⟨_, _, ⟨T5, L5, k5, n5⟩, -, X5, ⟨Lc5, hQ5, l5, y5, z5⟩, st5⟩ := X4.virtualBack hx (y := (⟨"com/example/rollcall/rollcall/model/spring/SpringVersion", "equals", "(Ljava/lang/Object;)Z"⟩ : MethodName)) (z := (⟨"com/example/rollcall/rollcall/model/spring/SpringVersion", "equals", "(Ljava/lang/Object;)Z"⟩ : MethodName)) hown (mvT hZ (hw _ (List.mem_of_getElem? (i := 14) rfl))) (mvT hZ (hw _ (List.mem_of_getElem? (i := 15) rfl))) (notFace_of_selects (args := #[]) (mvT hZ (hw _ (List.mem_of_getElem? (i := 17) rfl)))) (mvT hZ (hw _ (List.mem_of_getElem? (i := 17) rfl))) (mvT hZ (hw _ (List.mem_of_getElem? (i := 16) rfl))) (by decide) (backOf (W := 0) (rmEi l Z aw hw [] b1 ai4  h4 n0 (Nat.le_trans Z0 K4.1) Ei4) hZ (hw _ (List.mem_of_getElem? (i := 18) rfl)) (hw _ (List.mem_of_getElem? (i := 3) rfl)) (by decide) (by decide)) q5a q5c (g := (mkF m 80 #[.val (.int p0), .val (.int p1), .val (.int p2), .val (.int p3), .val (.int p4), .val (.int ma), .val (.int mb), .val (.int mc), .val (.int md), .val (.ref b1), .val (.int (p4 &&& (3 : Int32))), .val (.ref ai4), .unset, .unset, .unset] [(.ref ai4), (.ref b1)])) rfl (by rw [hml]; rfl) (Steps.refl _) (argsL := [(.ref ai4)]) (rest := []) (lenOf pd_3 rfl) rfl (by show 2 * 0 + _ ≤ _; exact Nat.le_of_eq rfl) (hb hby at_80) (fun _ _ => ⟨rfl, e4, (by decide : 2 + 0 ≤ _), (by decide : 3 + 0 ≤ _)⟩)
      dsimp only [Pt.U, Pt.locs, Pt.cells, Pt.slots] at X5 l5 y5 z5 st5 hQ5
      subst l5 y5 z5
      obtain ⟨rfl, Nq5, e5⟩ := hQ5
      have N5 := Fr.app N4 Nq5
      refine Rest.via (fun t k => st5.trans k) ?_
      show Rest p.tables e below s _ _ _ (T5.setTop (mkF m 83 #[.val (.int p0), .val (.int p1), .val (.int p2), .val (.int p3), .val (.int p4), .val (.int ma), .val (.int mb), .val (.int mc), .val (.int md), .val (.ref b1), .val (.int (p4 &&& (3 : Int32))), .val (.ref ai4), .unset, .unset, .unset] [(.int (0 : Int32))]))
      refine Rest.via (fun t k => XS.ifNo X5.here hx rfl (hb hby at_83) rfl ((if0 _ _).trans (teq (by decide : (0 : Int32) = (0 : Int32))).2) k) ?_
      show Rest p.tables e below s _ _ _ (T5.setTop (mkF m 86 #[.val (.int p0), .val (.int p1), .val (.int p2), .val (.int p3), .val (.int p4), .val (.int ma), .val (.int mb), .val (.int mc), .val (.int md), .val (.ref b1), .val (.int (p4 &&& (3 : Int32))), .val (.ref ai4), .unset, .unset, .unset] []))
      refine Rest.via (fun t k => XS.iconst X5.here hx rfl (hb hby at_86) k) ?_
      show Rest p.tables e below s _ _ _ (T5.setTop (mkF m 87 #[.val (.int p0), .val (.int p1), .val (.int p2), .val (.int p3), .val (.int p4), .val (.int ma), .val (.int mb), .val (.int mc), .val (.int md), .val (.ref b1), .val (.int (p4 &&& (3 : Int32))), .val (.ref ai4), .unset, .unset, .unset] [(.int (1 : Int32))]))
      refine Rest.via (fun t k => XS.goto X5.here hx rfl (pc0 := 87) (pc' := 91) rfl (hb hby at_87) (by decide) (by decide) k) ?_
      show Rest p.tables e below s _ _ _ (T5.setTop (mkF m 91 #[.val (.int p0), .val (.int p1), .val (.int p2), .val (.int p3), .val (.int p4), .val (.int ma), .val (.int mb), .val (.int mc), .val (.int md), .val (.ref b1), .val (.int (p4 &&& (3 : Int32))), .val (.ref ai4), .unset, .unset, .unset] [(.int (1 : Int32))]))
      refine Rest.ret X5 (v := some (.int (nar .boolean (1 : Int32)))) (fun h => by rw [Bd.returns] at h; cases h) hlk (fun fs hr => retN X5 hx (t := .boolean) Bd.returns (by simp) (hb hby at_91) hr) ?_ (by decide) (by decide)
      rw [e5]
      exact ⟨rfl, N5⟩
    · refine Rest.via (fun t k => XS.icmpYes X2.here hx rfl (pc0 := 66) (pc' := 92) rfl (hb hby at_66) rfl (feq hc66).2 (by decide) (by decide) k) ?_
      show Rest p.tables e below s _ _ _ (T2.setTop (mkF m 92 #[.val (.int p0), .val (.int p1), .val (.int p2), .val (.int p3), .val (.int p4), .val (.int ma), .val (.int mb), .val (.int mc), .val (.int md), .val (.ref b1), .val (.int (p4 &&& (3 : Int32))), .unset, .unset, .unset, .unset] []))
      refine Rest.via (fun t k => XS.iload X2.here hx rfl (hb hby at_92) rfl k) ?_
      show Rest p.tables e below s _ _ _ (T2.setTop (mkF m 94 #[.val (.int p0), .val (.int p1), .val (.int p2), .val (.int p3), .val (.int p4), .val (.int ma), .val (.int mb), .val (.int mc), .val (.int md), .val (.ref b1), .val (.int (p4 &&& (3 : Int32))), .unset, .unset, .unset, .unset] [(.int (p4 &&& (3 : Int32)))]))
      refine Rest.via (fun t k => XS.iconst X2.here hx rfl (hb hby at_94) k) ?_
      show Rest p.tables e below s _ _ _ (T2.setTop (mkF m 95 #[.val (.int p0), .val (.int p1), .val (.int p2), .val (.int p3), .val (.int p4), .val (.int ma), .val (.int mb), .val (.int mc), .val (.int md), .val (.ref b1), .val (.int (p4 &&& (3 : Int32))), .unset, .unset, .unset, .unset] [(.int (3 : Int32)), (.int (p4 &&& (3 : Int32)))]))
      by_cases hc95 : (p4 &&& (3 : Int32)) = (3 : Int32)
      · refine Rest.via (fun t k => XS.icmpNo X2.here hx rfl (hb hby at_95) rfl (teq hc95).2 k) ?_
        show Rest p.tables e below s _ _ _ (T2.setTop (mkF m 98 #[.val (.int p0), .val (.int p1), .val (.int p2), .val (.int p3), .val (.int p4), .val (.int ma), .val (.int mb), .val (.int mc), .val (.int md), .val (.ref b1), .val (.int (p4 &&& (3 : Int32))), .unset, .unset, .unset, .unset] []))
        refine Rest.via (fun t k => XS.aload X2.here hx rfl (hb hby at_98) rfl rfl k) ?_
        show Rest p.tables e below s _ _ _ (T2.setTop (mkF m 100 #[.val (.int p0), .val (.int p1), .val (.int p2), .val (.int p3), .val (.int p4), .val (.int ma), .val (.int mb), .val (.int mc), .val (.int md), .val (.ref b1), .val (.int (p4 &&& (3 : Int32))), .unset, .unset, .unset, .unset] [(.ref b1)]))
        refine Rest.via (fun t k => XS.aload X2.here hx rfl (hb hby at_100) rfl rfl k) ?_
        show Rest p.tables e below s _ _ _ (T2.setTop (mkF m 102 #[.val (.int p0), .val (.int p1), .val (.int p2), .val (.int p3), .val (.int p4), .val (.int ma), .val (.int mb), .val (.int mc), .val (.int md), .val (.ref b1), .val (.int (p4 &&& (3 : Int32))), .unset, .unset, .unset, .unset] [(.ref b1), (.ref b1)]))
        obtain ⟨cq6, kq6, q6a, q6b, q6c⟩ := isOf hZ e2 (E_b1.keep Kq2)
        obtain ⟨_, _, ⟨T6, L6, k6, n6⟩, -, X6, ⟨Lc6, hQ6, l6, y6, z6⟩, st6⟩ := X2.virtualBack hx (y := (⟨"com/example/rollcall/rollcall/model/spring/SpringVersion", "equals", "(Ljava/lang/Object;)Z"⟩ : MethodName)) (z := (⟨"com/example/rollcall/rollcall/model/spring/SpringVersion", "equals", "(Ljava/lang/Object;)Z"⟩ : MethodName)) hown (mvT hZ (hw _ (List.mem_of_getElem? (i := 14) rfl))) (mvT hZ (hw _ (List.mem_of_getElem? (i := 15) rfl))) (notFace_of_selects (args := #[]) (mvT hZ (hw _ (List.mem_of_getElem? (i := 17) rfl)))) (mvT hZ (hw _ (List.mem_of_getElem? (i := 17) rfl))) (mvT hZ (hw _ (List.mem_of_getElem? (i := 16) rfl))) (by decide) (backOf (W := 0) (rmE l Z aw hw [] b1 b1 ma mb ma mb h2 n0 (Nat.le_trans Z0 K2.1) Fa2 Fb2 (E_b1.keep Kq2) Fa2 Fb2) hZ (hw _ (List.mem_of_getElem? (i := 18) rfl)) (hw _ (List.mem_of_getElem? (i := 3) rfl)) (by decide) (by decide)) q6a q6c (g := (mkF m 102 #[.val (.int p0), .val (.int p1), .val (.int p2), .val (.int p3), .val (.int p4), .val (.int ma), .val (.int mb), .val (.int mc), .val (.int md), .val (.ref b1), .val (.int (p4 &&& (3 : Int32))), .unset, .unset, .unset, .unset] [(.ref b1), (.ref b1)])) rfl (by rw [hml]; rfl) (Steps.refl _) (argsL := [(.ref b1)]) (rest := []) (lenOf pd_3 rfl) rfl (by show 2 * 0 + _ ≤ _; exact Nat.le_of_eq rfl) (hb hby at_102) (fun _ _ => ⟨rfl, e2, (by decide : 1 + 0 ≤ _), (by decide : 2 + 0 ≤ _)⟩)
        dsimp only [Pt.U, Pt.locs, Pt.cells, Pt.slots] at X6 l6 y6 z6 st6 hQ6
        subst l6 y6 z6
        obtain ⟨rfl, Nq6, e6⟩ := hQ6
        have N6 := Fr.app N2 Nq6
        refine Rest.via (fun t k => st6.trans k) ?_
        show Rest p.tables e below s _ _ _ (T6.setTop (mkF m 105 #[.val (.int p0), .val (.int p1), .val (.int p2), .val (.int p3), .val (.int p4), .val (.int ma), .val (.int mb), .val (.int mc), .val (.int md), .val (.ref b1), .val (.int (p4 &&& (3 : Int32))), .unset, .unset, .unset, .unset] [(.int (own_eq ma mb ma mb))]))
        rw [own_eq_self]
        show Rest p.tables e below s _ _ _ (T6.setTop (mkF m 105 #[.val (.int p0), .val (.int p1), .val (.int p2), .val (.int p3), .val (.int p4), .val (.int ma), .val (.int mb), .val (.int mc), .val (.int md), .val (.ref b1), .val (.int (p4 &&& (3 : Int32))), .unset, .unset, .unset, .unset] [(.int (1 : Int32))]))
        refine Rest.ret X6 (v := some (.int (nar .boolean (1 : Int32)))) (fun h => by rw [Bd.returns] at h; cases h) hlk (fun fs hr => retN X6 hx (t := .boolean) Bd.returns (by simp) (hb hby at_105) hr) ?_ (by decide) (by decide)
        rw [e6]
        exact ⟨rfl, N6⟩
      · refine Rest.via (fun t k => XS.icmpYes X2.here hx rfl (pc0 := 95) (pc' := 106) rfl (hb hby at_95) rfl (feq hc95).2 (by decide) (by decide) k) ?_
        show Rest p.tables e below s _ _ _ (T2.setTop (mkF m 106 #[.val (.int p0), .val (.int p1), .val (.int p2), .val (.int p3), .val (.int p4), .val (.int ma), .val (.int mb), .val (.int mc), .val (.int md), .val (.ref b1), .val (.int (p4 &&& (3 : Int32))), .unset, .unset, .unset, .unset] []))
        have J142 : ∀ (om : Int32), ∀ (on : Int32), (¬ (om < (0 : Int32))) → (¬ (on < (0 : Int32))) → Rest p.tables e below s (Q0 Z p0 p1 p2 p3 p4 wc h0 n0) 2 4 (T2.setTop (mkF m 142 #[.val (.int p0), .val (.int p1), .val (.int p2), .val (.int p3), .val (.int p4), .val (.int ma), .val (.int mb), .val (.int mc), .val (.int md), .val (.ref b1), .val (.int (p4 &&& (3 : Int32))), .val (.int om), .val (.int on), .unset, .unset] [])) := by
          intro om on hom hon
          show Rest p.tables e below s _ _ _ (T2.setTop (mkF m 142 #[.val (.int p0), .val (.int p1), .val (.int p2), .val (.int p3), .val (.int p4), .val (.int ma), .val (.int mb), .val (.int mc), .val (.int md), .val (.ref b1), .val (.int (p4 &&& (3 : Int32))), .val (.int om), .val (.int on), .unset, .unset] []))
          obtain ⟨T7, h7, X7, e7, E7, A7, D7, -, st7⟩ := newO X2 hx hZ hown (hw _ (List.mem_of_getElem? (i := 1) rfl)) (hw _ (List.mem_of_getElem? (i := 2) rfl)) (hw _ (List.mem_of_getElem? (i := 3) rfl)) e2 (g := (mkF m 142 #[.val (.int p0), .val (.int p1), .val (.int p2), .val (.int p3), .val (.int p4), .val (.int ma), .val (.int mb), .val (.int mc), .val (.int md), .val (.ref b1), .val (.int (p4 &&& (3 : Int32))), .val (.int om), .val (.int on), .unset, .unset] [])) rfl (hb hby at_142) (by decide) (by decide)
          obtain ⟨b7, gq7⟩ : ∃ z, z = h2.size := ⟨_, rfl⟩
          rw [← gq7] at A7 D7 st7
          have sz_b7 : h0.size ≤ b7 := Nat.le_trans K2.1 (Nat.le_of_eq gq7.symm)
          have g_b7 : n0 ≤ b7 := Nat.le_trans Z0 sz_b7
          have ne_b1_b7 : b1 ≠ b7 := Nat.ne_of_lt (Nat.lt_of_lt_of_le (E_b1.keep Kq2).lt (Nat.le_of_eq gq7.symm))
          have K7 : Keep h0 h7 [] := K2.ext E7
          have E_b7 := A7
          have F_major_b7 : Fld Z h7 b7 "com/example/rollcall/rollcall/model/spring/SpringVersion" "major" "I" (.int (0 : Int32)) := D7 (Or.inr (hw _ (List.mem_of_getElem? (i := 11) rfl))) (ty := .int) (by decide)
          have F_minor_b7 : Fld Z h7 b7 "com/example/rollcall/rollcall/model/spring/SpringVersion" "minor" "I" (.int (0 : Int32)) := D7 (Or.inr (hw _ (List.mem_of_getElem? (i := 13) rfl))) (ty := .int) (by decide)
          refine Rest.via (fun t k => st7 t k) ?_
          show Rest p.tables e below s _ _ _ (T7.setTop (mkF m 145 #[.val (.int p0), .val (.int p1), .val (.int p2), .val (.int p3), .val (.int p4), .val (.int ma), .val (.int mb), .val (.int mc), .val (.int md), .val (.ref b1), .val (.int (p4 &&& (3 : Int32))), .val (.int om), .val (.int on), .unset, .unset] [(.ref b7)]))
          refine Rest.via (fun t k => XS.dup X7.here hx rfl (hb hby at_145) rfl rfl k) ?_
          show Rest p.tables e below s _ _ _ (T7.setTop (mkF m 146 #[.val (.int p0), .val (.int p1), .val (.int p2), .val (.int p3), .val (.int p4), .val (.int ma), .val (.int mb), .val (.int mc), .val (.int md), .val (.ref b1), .val (.int (p4 &&& (3 : Int32))), .val (.int om), .val (.int on), .unset, .unset] [(.ref b7), (.ref b7)]))
          refine Rest.via (fun t k => XS.iload X7.here hx rfl (hb hby at_146) rfl k) ?_
          show Rest p.tables e below s _ _ _ (T7.setTop (mkF m 148 #[.val (.int p0), .val (.int p1), .val (.int p2), .val (.int p3), .val (.int p4), .val (.int ma), .val (.int mb), .val (.int mc), .val (.int md), .val (.ref b1), .val (.int (p4 &&& (3 : Int32))), .val (.int om), .val (.int on), .unset, .unset] [(.int om), (.ref b7), (.ref b7)]))
          refine Rest.via (fun t k => XS.iload X7.here hx rfl (hb hby at_148) rfl k) ?_
          show Rest p.tables e below s _ _ _ (T7.setTop (mkF m 150 #[.val (.int p0), .val (.int p1), .val (.int p2), .val (.int p3), .val (.int p4), .val (.int ma), .val (.int mb), .val (.int mc), .val (.int md), .val (.ref b1), .val (.int (p4 &&& (3 : Int32))), .val (.int om), .val (.int on), .unset, .unset] [(.int on), (.int om), (.ref b7), (.ref b7)]))
          obtain ⟨_, _, ⟨T8, L8, k8, n8⟩, -, X8, ⟨Lc8, hQ8, l8, y8, z8⟩, st8⟩ := X7.specialBack hx (y := (⟨"com/example/rollcall/rollcall/model/spring/SpringVersion", "<init>", "(II)V"⟩ : MethodName)) rfl hown (mvT hZ (hw _ (List.mem_of_getElem? (i := 4) rfl))) (mvT hZ (hw _ (List.mem_of_getElem? (i := 5) rfl))) (mvT hZ (hw _ (List.mem_of_getElem? (i := 6) rfl))) (by decide) (backOf (W := 1) (rmI l Z aw hw [] b7 om on  h7 n0 (Nat.le_trans Z0 K7.1) E_b7 F_major_b7 F_minor_b7 g_b7 hom hon) hZ (hw _ (List.mem_of_getElem? (i := 6) rfl)) (hw _ (List.mem_of_getElem? (i := 3) rfl)) (by decide) (by decide)) (g := (mkF m 150 #[.val (.int p0), .val (.int p1), .val (.int p2), .val (.int p3), .val (.int p4), .val (.int ma), .val (.int mb), .val (.int mc), .val (.int md), .val (.ref b1), .val (.int (p4 &&& (3 : Int32))), .val (.int om), .val (.int on), .unset, .unset] [(.int on), (.int om), (.ref b7), (.ref b7)])) rfl (by rw [hml]; rfl) (Steps.refl _) (a := b7) (argsL := [(.int om), (.int on)]) (rest := [(.ref b7)]) (lenOf pd_2 rfl) rfl (by show 2 * 0 + _ ≤ _; exact Nat.le_of_eq rfl) (hb hby at_150) (fun _ _ => ⟨rfl, e7, (by decide : 2 + 0 ≤ _), (by decide : 4 + 0 ≤ _)⟩)
          dsimp only [Pt.U, Pt.locs, Pt.cells, Pt.slots] at X8 l8 y8 z8 st8 hQ8
          subst l8 y8 z8
          obtain ⟨h8, e8⟩ : ∃ z, T8.heap = z := ⟨_, rfl⟩
          rw [e8] at hQ8
          obtain ⟨rfl, Nq8, Kq8, Fa8, Fb8⟩ := hQ8
          have N8 := Fr.app N2 Nq8
          have K8 : Keep h0 h8 [] := K7.trans Kq8 (allS (Or.inr sz_b7) all0)
          refine Rest.via (fun t k => st8.trans k) ?_
          show Rest p.tables e below s _ _ _ (T8.setTop (mkF m 153 #[.val (.int p0), .val (.int p1), .val (.int p2), .val (.int p3), .val (.int p4), .val (.int ma), .val (.int mb), .val (.int mc), .val (.int md), .val (.ref b1), .val (.int (p4 &&& (3 : Int32))), .val (.int om), .val (.int on), .unset, .unset] [(.ref b7)]))
          refine Rest.via (fun t k => XS.astore X8.here hx rfl (hb hby at_153) rfl rfl (l' := #[.val (.int p0), .val (.int p1), .val (.int p2), .val (.int p3), .val (.int p4), .val (.int ma), .val (.int mb), .val (.int mc), .val (.int md), .val (.ref b1), .val (.int (p4 &&& (3 : Int32))), .val (.int om), .val (.int on), .val (.ref b7), .unset]) rfl k) ?_
          show Rest p.tables e below s _ _ _ (T8.setTop (mkF m 155 #[.val (.int p0), .val (.int p1), .val (.int p2), .val (.int p3), .val (.int p4), .val (.int ma), .val (.int mb), .val (.int mc), .val (.int md), .val (.ref b1), .val (.int (p4 &&& (3 : Int32))), .val (.int om), .val (.int on), .val (.ref b7), .unset] []))
          refine Rest.via (fun t k => XS.iload X8.here hx rfl (hb hby at_155) rfl k) ?_
          show Rest p.tables e below s _ _ _ (T8.setTop (mkF m 157 #[.val (.int p0), .val (.int p1), .val (.int p2), .val (.int p3), .val (.int p4), .val (.int ma), .val (.int mb), .val (.int mc), .val (.int md), .val (.ref b1), .val (.int (p4 &&& (3 : Int32))), .val (.int om), .val (.int on), .val (.ref b7), .unset] [(.int om)]))
          refine Rest.via (fun t k => XS.iload X8.here hx rfl (hb hby at_157) rfl k) ?_
          show Rest p.tables e below s _ _ _ (T8.setTop (mkF m 159 #[.val (.int p0), .val (.int p1), .val (.int p2), .val (.int p3), .val (.int p4), .val (.int ma), .val (.int mb), .val (.int mc), .val (.int md), .val (.ref b1), .val (.int (p4 &&& (3 : Int32))), .val (.int om), .val (.int on), .val (.ref b7), .unset] [(.int ma), (.int om)]))
          by_cases hc159 : om = ma
          · refine Rest.via (fun t k => XS.icmpNo X8.here hx rfl (hb hby at_159) rfl (teq hc159).2 k) ?_
            show Rest p.tables e below s _ _ _ (T8.setTop (mkF m 162 #[.val (.int p0), .val (.int p1), .val (.int p2), .val (.int p3), .val (.int p4), .val (.int ma), .val (.int mb), .val (.int mc), .val (.int md), .val (.ref b1), .val (.int (p4 &&& (3 : Int32))), .val (.int om), .val (.int on), .val (.ref b7), .unset] []))
            refine Rest.via (fun t k => XS.iload X8.here hx rfl (hb hby at_162) rfl k) ?_
            show Rest p.tables e below s _ _ _ (T8.setTop (mkF m 164 #[.val (.int p0), .val (.int p1), .val (.int p2), .val (.int p3), .val (.int p4), .val (.int ma), .val (.int mb), .val (.int mc), .val (.int md), .val (.ref b1), .val (.int (p4 &&& (3 : Int32))), .val (.int om), .val (.int on), .val (.ref b7), .unset] [(.int on)]))
            refine Rest.via (fun t k => XS.iload X8.here hx rfl (hb hby at_164) rfl k) ?_
            show Rest p.tables e below s _ _ _ (T8.setTop (mkF m 166 #[.val (.int p0), .val (.int p1), .val (.int p2), .val (.int p3), .val (.int p4), .val (.int ma), .val (.int mb), .val (.int mc), .val (.int md), .val (.ref b1), .val (.int (p4 &&& (3 : Int32))), .val (.int om), .val (.int on), .val (.ref b7), .unset] [(.int mb), (.int on)]))
            by_cases hc166 : on = mb
            · refine Rest.via (fun t k => XS.icmpNo X8.here hx rfl (hb hby at_166) rfl (teq hc166).2 k) ?_
              show Rest p.tables e below s _ _ _ (T8.setTop (mkF m 169 #[.val (.int p0), .val (.int p1), .val (.int p2), .val (.int p3), .val (.int p4), .val (.int ma), .val (.int mb), .val (.int mc), .val (.int md), .val (.ref b1), .val (.int (p4 &&& (3 : Int32))), .val (.int om), .val (.int on), .val (.ref b7), .unset] []))
              refine Rest.via (fun t k => XS.iconst X8.here hx rfl (hb hby at_169) k) ?_
              show Rest p.tables e below s _ _ _ (T8.setTop (mkF m 170 #[.val (.int p0), .val (.int p1), .val (.int p2), .val (.int p3), .val (.int p4), .val (.int ma), .val (.int mb), .val (.int mc), .val (.int md), .val (.ref b1), .val (.int (p4 &&& (3 : Int32))), .val (.int om), .val (.int on), .val (.ref b7), .unset] [(.int (1 : Int32))]))
              refine Rest.via (fun t k => XS.goto X8.here hx rfl (pc0 := 170) (pc' := 174) rfl (hb hby at_170) (by decide) (by decide) k) ?_
              show Rest p.tables e below s _ _ _ (T8.setTop (mkF m 174 #[.val (.int p0), .val (.int p1), .val (.int p2), .val (.int p3), .val (.int p4), .val (.int ma), .val (.int mb), .val (.int mc), .val (.int md), .val (.ref b1), .val (.int (p4 &&& (3 : Int32))), .val (.int om), .val (.int on), .val (.ref b7), .unset] [(.int (1 : Int32))]))
              refine Rest.via (fun t k => XS.istore X8.here hx rfl (hb hby at_174) rfl (l' := #[.val (.int p0), .val (.int p1), .val (.int p2), .val (.int p3), .val (.int p4), .val (.int ma), .val (.int mb), .val (.int mc), .val (.int md), .val (.ref b1), .val (.int (p4 &&& (3 : Int32))), .val (.int om), .val (.int on), .val (.ref b7), .val (.int (1 : Int32))]) rfl k) ?_
              show Rest p.tables e below s _ _ _ (T8.setTop (mkF m 176 #[.val (.int p0), .val (.int p1), .val (.int p2), .val (.int p3), .val (.int p4), .val (.int ma), .val (.int mb), .val (.int mc), .val (.int md), .val (.ref b1), .val (.int (p4 &&& (3 : Int32))), .val (.int om), .val (.int on), .val (.ref b7), .val (.int (1 : Int32))] []))
              refine Rest.via (fun t k => XS.aload X8.here hx rfl (hb hby at_176) rfl rfl k) ?_
              show Rest p.tables e below s _ _ _ (T8.setTop (mkF m 178 #[.val (.int p0), .val (.int p1), .val (.int p2), .val (.int p3), .val (.int p4), .val (.int ma), .val (.int mb), .val (.int mc), .val (.int md), .val (.ref b1), .val (.int (p4 &&& (3 : Int32))), .val (.int om), .val (.int on), .val (.ref b7), .val (.int (1 : Int32))] [(.ref b1)]))
              refine Rest.via (fun t k => XS.aload X8.here hx rfl (hb hby at_178) rfl rfl k) ?_
              show Rest p.tables e below s _ _ _ (T8.setTop (mkF m 180 #[.val (.int p0), .val (.int p1), .val (.int p2), .val (.int p3), .val (.int p4), .val (.int ma), .val (.int mb), .val (.int mc), .val (.int md), .val (.ref b1), .val (.int (p4 &&& (3 : Int32))), .val (.int om), .val (.int on), .val (.ref b7), .val (.int (1 : Int32))] [(.ref b7), (.ref b1)]))
              obtain ⟨cq9, kq9, q9a, q9b, q9c⟩ := isOf hZ e8 (((E_b1.keep Kq2).ext E7).keep Kq8)
              obtain ⟨_, _, ⟨T9, L9, k9, n9⟩, -, X9, ⟨Lc9, hQ9, l9, y9, z9⟩, st9⟩ := X8.virtualBack hx (y := (⟨"com/example/rollcall/rollcall/model/spring/SpringVersion", "equals", "(Ljava/lang/Object;)Z"⟩ : MethodName)) (z := (⟨"com/example/rollcall/rollcall/model/spring/SpringVersion", "equals", "(Ljava/lang/Object;)Z"⟩ : MethodName)) hown (mvT hZ (hw _ (List.mem_of_getElem? (i := 14) rfl))) (mvT hZ (hw _ (List.mem_of_getElem? (i := 15) rfl))) (notFace_of_selects (args := #[]) (mvT hZ (hw _ (List.mem_of_getElem? (i := 17) rfl)))) (mvT hZ (hw _ (List.mem_of_getElem? (i := 17) rfl))) (mvT hZ (hw _ (List.mem_of_getElem? (i := 16) rfl))) (by decide) (backOf (W := 0) (rmE l Z aw hw [] b1 b7 ma mb om on h8 n0 (Nat.le_trans Z0 K8.1) ((Fa2.ext E7).keep Kq8 (ninS ne_b1_b7 nin0)) ((Fb2.ext E7).keep Kq8 (ninS ne_b1_b7 nin0)) (E_b7.keep Kq8) Fa8 Fb8) hZ (hw _ (List.mem_of_getElem? (i := 18) rfl)) (hw _ (List.mem_of_getElem? (i := 3) rfl)) (by decide) (by decide)) q9a q9c (g := (mkF m 180 #[.val (.int p0), .val (.int p1), .val (.int p2), .val (.int p3), .val (.int p4), .val (.int ma), .val (.int mb), .val (.int mc), .val (.int md), .val (.ref b1), .val (.int (p4 &&& (3 : Int32))), .val (.int om), .val (.int on), .val (.ref b7), .val (.int (1 : Int32))] [(.ref b7), (.ref b1)])) rfl (by rw [hml]; rfl) (Steps.refl _) (argsL := [(.ref b7)]) (rest := []) (lenOf pd_3 rfl) rfl (by show 2 * 0 + _ ≤ _; exact Nat.le_of_eq rfl) (hb hby at_180) (fun _ _ => ⟨rfl, e8, (by decide : 2 + 0 ≤ _), (by decide : 4 + 0 ≤ _)⟩)
              dsimp only [Pt.U, Pt.locs, Pt.cells, Pt.slots] at X9 l9 y9 z9 st9 hQ9
              subst l9 y9 z9
              obtain ⟨rfl, Nq9, e9⟩ := hQ9
              have N9 := Fr.app N8 Nq9
              refine Rest.via (fun t k => st9.trans k) ?_
              show Rest p.tables e below s _ _ _ (T9.setTop (mkF m 183 #[.val (.int p0), .val (.int p1), .val (.int p2), .val (.int p3), .val (.int p4), .val (.int ma), .val (.int mb), .val (.int mc), .val (.int md), .val (.ref b1), .val (.int (p4 &&& (3 : Int32))), .val (.int om), .val (.int on), .val (.ref b7), .val (.int (1 : Int32))] [(.int (own_eq ma mb om on))]))
              rw [(own_e11 hc159 hc166).1]
              show Rest p.tables e below s _ _ _ (T9.setTop (mkF m 183 #[.val (.int p0), .val (.int p1), .val (.int p2), .val (.int p3), .val (.int p4), .val (.int ma), .val (.int mb), .val (.int mc), .val (.int md), .val (.ref b1), .val (.int (p4 &&& (3 : Int32))), .val (.int om), .val (.int on), .val (.ref b7), .val (.int (1 : Int32))] [(.int (1 : Int32))]))
              refine Rest.via (fun t k => XS.iload X9.here hx rfl (hb hby at_183) rfl k) ?_
              show Rest p.tables e below s _ _ _ (T9.setTop (mkF m 185 #[.val (.int p0), .val (.int p1), .val (.int p2), .val (.int p3), .val (.int p4), .val (.int ma), .val (.int mb), .val (.int mc), .val (.int md), .val (.ref b1), .val (.int (p4 &&& (3 : Int32))), .val (.int om), .val (.int on), .val (.ref b7), .val (.int (1 : Int32))] [(.int (1 : Int32)), (.int (1 : Int32))]))
              refine Rest.via (fun t k => XS.icmpNo X9.here hx rfl (hb hby at_185) rfl (teq (by decide : (1 : Int32) = (1 : Int32))).2 k) ?_
              show Rest p.tables e below s _ _ _ (T9.setTop (mkF m 188 #[.val (.int p0), .val (.int p1), .val (.int p2), .val (.int p3), .val (.int p4), .val (.int ma), .val (.int mb), .val (.int mc), .val (.int md), .val (.ref b1), .val (.int (p4 &&& (3 : Int32))), .val (.int om), .val (.int on), .val (.ref b7), .val (.int (1 : Int32))] []))
              refine Rest.via (fun t k => XS.aload X9.here hx rfl (hb hby at_188) rfl rfl k) ?_
              show Rest p.tables e below s _ _ _ (T9.setTop (mkF m 190 #[.val (.int p0), .val (.int p1), .val (.int p2), .val (.int p3), .val (.int p4), .val (.int ma), .val (.int mb), .val (.int mc), .val (.int md), .val (.ref b1), .val (.int (p4 &&& (3 : Int32))), .val (.int om), .val (.int on), .val (.ref b7), .val (.int (1 : Int32))] [(.ref b7)]))
              refine Rest.via (fun t k => XS.aload X9.here hx rfl (hb hby at_190) rfl rfl k) ?_
              show Rest p.tables e below s _ _ _ (T9.setTop (mkF m 192 #[.val (.int p0), .val (.int p1), .val (.int p2), .val (.int p3), .val (.int p4), .val (.int ma), .val (.int mb), .val (.int mc), .val (.int md), .val (.ref b1), .val (.int (p4 &&& (3 : Int32))), .val (.int om), .val (.int on), .val (.ref b7), .val (.int (1 : Int32))] [(.ref b1), (.ref b7)]))
              obtain ⟨cq10, kq10, q10a, q10b, q10c⟩ := isOf hZ e9 (E_b7.keep Kq8)
              obtain ⟨_, _, ⟨T10, L10, k10, n10⟩, -, X10, ⟨Lc10, hQ10, l10, y10, z10⟩, st10⟩ := X9.virtualBack hx (y := (⟨"com/example/rollcall/rollcall/model/spring/SpringVersion", "equals", "(Ljava/lang/Object;)Z"⟩ : MethodName)) (z := (⟨"com/example/rollcall/rollcall/model/spring/SpringVersion", "equals", "(Ljava/lang/Object;)Z"⟩ : MethodName)) hown (mvT hZ (hw _ (List.mem_of_getElem? (i := 14) rfl))) (mvT hZ (hw _ (List.mem_of_getElem? (i := 15) rfl))) (notFace_of_selects (args := #[]) (mvT hZ (hw _ (List.mem_of_getElem? (i := 17) rfl)))) (mvT hZ (hw _ (List.mem_of_getElem? (i := 17) rfl))) (mvT hZ (hw _ (List.mem_of_getElem? (i := 16) rfl))) (by decide) (backOf (W := 0) (rmE l Z aw hw [] b7 b1 om on ma mb h8 n0 (Nat.le_trans Z0 K8.1) Fa8 Fb8 (((E_b1.keep Kq2).ext E7).keep Kq8) ((Fa2.ext E7).keep Kq8 (ninS ne_b1_b7 nin0)) ((Fb2.ext E7).keep Kq8 (ninS ne_b1_b7 nin0))) hZ (hw _ (List.mem_of_getElem? (i := 18) rfl)) (hw _ (List.mem_of_getElem? (i := 3) rfl)) (by decide) (by decide)) q10a q10c (g := (mkF m 192 #[.val (.int p0), .val (.int p1), .val (.int p2), .val (.int p3), .val (.int p4), .val (.int ma), .val (.int mb), .val (.int mc), .val (.int md), .val (.ref b1), .val (.int (p4 &&& (3 : Int32))), .val (.int om), .val (.int on), .val (.ref b7), .val (.int (1 : Int32))] [(.ref b1), (.ref b7)])) rfl (by rw [hml]; rfl) (Steps.refl _) (argsL := [(.ref b1)]) (rest := []) (lenOf pd_3 rfl) rfl (by show 2 * 0 + _ ≤ _; exact Nat.le_of_eq rfl) (hb hby at_192) (fun _ _ => ⟨rfl, e9, (by decide : 2 + 0 ≤ _), (by decide : 4 + 0 ≤ _)⟩)
              dsimp only [Pt.U, Pt.locs, Pt.cells, Pt.slots] at X10 l10 y10 z10 st10 hQ10
              subst l10 y10 z10
              obtain ⟨rfl, Nq10, e10⟩ := hQ10
              have N10 := Fr.app N9 Nq10
              refine Rest.via (fun t k => st10.trans k) ?_
              show Rest p.tables e below s _ _ _ (T10.setTop (mkF m 195 #[.val (.int p0), .val (.int p1), .val (.int p2), .val (.int p3), .val (.int p4), .val (.int ma), .val (.int mb), .val (.int mc), .val (.int md), .val (.ref b1), .val (.int (p4 &&& (3 : Int32))), .val (.int om), .val (.int on), .val (.ref b7), .val (.int (1 : Int32))] [(.int (own_eq om on ma mb))]))
              rw [(own_e11 hc159 hc166).2]
              show Rest p.tables e below s _ _ _ (T10.setTop (mkF m 195 #[.val (.int p0), .val (.int p1), .val (.int p2), .val (.int p3), .val (.int p4), .val (.int ma), .val (.int mb), .val (.int mc), .val (.int md), .val (.ref b1), .val (.int (p4 &&& (3 : Int32))), .val (.int om), .val (.int on), .val (.ref b7), .val (.int (1 : Int32))] [(.int (1 : Int32))]))
              refine Rest.via (fun t k => XS.iload X10.here hx rfl (hb hby at_195) rfl k) ?_
              show Rest p.tables e below s _ _ _ (T10.setTop (mkF m 197 #[.val (.int p0), .val (.int p1), .val (.int p2), .val (.int p3), .val (.int p4), .val (.int ma), .val (.int mb), .val (.int mc), .val (.int md), .val (.ref b1), .val (.int (p4 &&& (3 : Int32))), .val (.int om), .val (.int on), .val (.ref b7), .val (.int (1 : Int32))] [(.int (1 : Int32)), (.int (1 : Int32))]))
              refine Rest.via (fun t k => XS.icmpNo X10.here hx rfl (hb hby at_197) rfl (teq (by decide : (1 : Int32) = (1 : Int32))).2 k) ?_
              show Rest p.tables e below s _ _ _ (T10.setTop (mkF m 200 #[.val (.int p0), .val (.int p1), .val (.int p2), .val (.int p3), .val (.int p4), .val (.int ma), .val (.int mb), .val (.int mc), .val (.int md), .val (.ref b1), .val (.int (p4 &&& (3 : Int32))), .val (.int om), .val (.int on), .val (.ref b7), .val (.int (1 : Int32))] []))
              refine Rest.via (fun t k => XS.iconst X10.here hx rfl (hb hby at_200) k) ?_
              show Rest p.tables e below s _ _ _ (T10.setTop (mkF m 201 #[.val (.int p0), .val (.int p1), .val (.int p2), .val (.int p3), .val (.int p4), .val (.int ma), .val (.int mb), .val (.int mc), .val (.int md), .val (.ref b1), .val (.int (p4 &&& (3 : Int32))), .val (.int om), .val (.int on), .val (.ref b7), .val (.int (1 : Int32))] [(.int (1 : Int32))]))
              refine Rest.via (fun t k => XS.goto X10.here hx rfl (pc0 := 201) (pc' := 205) rfl (hb hby at_201) (by decide) (by decide) k) ?_
              show Rest p.tables e below s _ _ _ (T10.setTop (mkF m 205 #[.val (.int p0), .val (.int p1), .val (.int p2), .val (.int p3), .val (.int p4), .val (.int ma), .val (.int mb), .val (.int mc), .val (.int md), .val (.ref b1), .val (.int (p4 &&& (3 : Int32))), .val (.int om), .val (.int on), .val (.ref b7), .val (.int (1 : Int32))] [(.int (1 : Int32))]))
              refine Rest.ret X10 (v := some (.int (nar .boolean (1 : Int32)))) (fun h => by rw [Bd.returns] at h; cases h) hlk (fun fs hr => retN X10 hx (t := .boolean) Bd.returns (by simp) (hb hby at_205) hr) ?_ (by decide) (by decide)
              rw [e10]
              exact ⟨rfl, N10⟩
            · refine Rest.via (fun t k => XS.icmpYes X8.here hx rfl (pc0 := 166) (pc' := 173) rfl (hb hby at_166) rfl (feq hc166).2 (by decide) (by decide) k) ?_
              show Rest p.tables e below s _ _ _ (T8.setTop (mkF m 173 #[.val (.int p0), .val (.int p1), .val (.int p2), .val (.int p3), .val (.int p4), .val (.int ma), .val (.int mb), .val (.int mc), .val (.int md), .val (.ref b1), .val (.int (p4 &&& (3 : Int32))), .val (.int om), .val (.int on), .val (.ref b7), .unset] []))
              refine Rest.via (fun t k => XS.iconst X8.here hx rfl (hb hby at_173) k) ?_
              show Rest p.tables e below s _ _ _ (T8.setTop (mkF m 174 #[.val (.int p0), .val (.int p1), .val (.int p2), .val (.int p3), .val (.int p4), .val (.int ma), .val (.int mb), .val (.int mc), .val (.int md), .val (.ref b1), .val (.int (p4 &&& (3 : Int32))), .val (.int om), .val (.int on), .val (.ref b7), .unset] [(.int (0 : Int32))]))
              refine Rest.via (fun t k => XS.istore X8.here hx rfl (hb hby at_174) rfl (l' := #[.val (.int p0), .val (.int p1), .val (.int p2), .val (.int p3), .val (.int p4), .val (.int ma), .val (.int mb), .val (.int mc), .val (.int md), .val (.ref b1), .val (.int (p4 &&& (3 : Int32))), .val (.int om), .val (.int on), .val (.ref b7), .val (.int (0 : Int32))]) rfl k) ?_
              show Rest p.tables e below s _ _ _ (T8.setTop (mkF m 176 #[.val (.int p0), .val (.int p1), .val (.int p2), .val (.int p3), .val (.int p4), .val (.int ma), .val (.int mb), .val (.int mc), .val (.int md), .val (.ref b1), .val (.int (p4 &&& (3 : Int32))), .val (.int om), .val (.int on), .val (.ref b7), .val (.int (0 : Int32))] []))
              refine Rest.via (fun t k => XS.aload X8.here hx rfl (hb hby at_176) rfl rfl k) ?_
              show Rest p.tables e below s _ _ _ (T8.setTop (mkF m 178 #[.val (.int p0), .val (.int p1), .val (.int p2), .val (.int p3), .val (.int p4), .val (.int ma), .val (.int mb), .val (.int mc), .val (.int md), .val (.ref b1), .val (.int (p4 &&& (3 : Int32))), .val (.int om), .val (.int on), .val (.ref b7), .val (.int (0 : Int32))] [(.ref b1)]))
              refine Rest.via (fun t k => XS.aload X8.here hx rfl (hb hby at_178) rfl rfl k) ?_
              show Rest p.tables e below s _ _ _ (T8.setTop (mkF m 180 #[.val (.int p0), .val (.int p1), .val (.int p2), .val (.int p3), .val (.int p4), .val (.int ma), .val (.int mb), .val (.int mc), .val (.int md), .val (.ref b1), .val (.int (p4 &&& (3 : Int32))), .val (.int om), .val (.int on), .val (.ref b7), .val (.int (0 : Int32))] [(.ref b7), (.ref b1)]))
              obtain ⟨cq11, kq11, q11a, q11b, q11c⟩ := isOf hZ e8 (((E_b1.keep Kq2).ext E7).keep Kq8)
              obtain ⟨_, _, ⟨T11, L11, k11, n11⟩, -, X11, ⟨Lc11, hQ11, l11, y11, z11⟩, st11⟩ := X8.virtualBack hx (y := (⟨"com/example/rollcall/rollcall/model/spring/SpringVersion", "equals", "(Ljava/lang/Object;)Z"⟩ : MethodName)) (z := (⟨"com/example/rollcall/rollcall/model/spring/SpringVersion", "equals", "(Ljava/lang/Object;)Z"⟩ : MethodName)) hown (mvT hZ (hw _ (List.mem_of_getElem? (i := 14) rfl))) (mvT hZ (hw _ (List.mem_of_getElem? (i := 15) rfl))) (notFace_of_selects (args := #[]) (mvT hZ (hw _ (List.mem_of_getElem? (i := 17) rfl)))) (mvT hZ (hw _ (List.mem_of_getElem? (i := 17) rfl))) (mvT hZ (hw _ (List.mem_of_getElem? (i := 16) rfl))) (by decide) (backOf (W := 0) (rmE l Z aw hw [] b1 b7 ma mb om on h8 n0 (Nat.le_trans Z0 K8.1) ((Fa2.ext E7).keep Kq8 (ninS ne_b1_b7 nin0)) ((Fb2.ext E7).keep Kq8 (ninS ne_b1_b7 nin0)) (E_b7.keep Kq8) Fa8 Fb8) hZ (hw _ (List.mem_of_getElem? (i := 18) rfl)) (hw _ (List.mem_of_getElem? (i := 3) rfl)) (by decide) (by decide)) q11a q11c (g := (mkF m 180 #[.val (.int p0), .val (.int p1), .val (.int p2), .val (.int p3), .val (.int p4), .val (.int ma), .val (.int mb), .val (.int mc), .val (.int md), .val (.ref b1), .val (.int (p4 &&& (3 : Int32))), .val (.int om), .val (.int on), .val (.ref b7), .val (.int (0 : Int32))] [(.ref b7), (.ref b1)])) rfl (by rw [hml]; rfl) (Steps.refl _) (argsL := [(.ref b7)]) (rest := []) (lenOf pd_3 rfl) rfl (by show 2 * 0 + _ ≤ _; exact Nat.le_of_eq rfl) (hb hby at_180) (fun _ _ => ⟨rfl, e8, (by decide : 2 + 0 ≤ _), (by decide : 4 + 0 ≤ _)⟩)
              dsimp only [Pt.U, Pt.locs, Pt.cells, Pt.slots] at X11 l11 y11 z11 st11 hQ11
              subst l11 y11 z11
              obtain ⟨rfl, Nq11, e11⟩ := hQ11
              have N11 := Fr.app N8 Nq11
              refine Rest.via (fun t k => st11.trans k) ?_
              show Rest p.tables e below s _ _ _ (T11.setTop (mkF m 183 #[.val (.int p0), .val (.int p1), .val (.int p2), .val (.int p3), .val (.int p4), .val (.int ma), .val (.int mb), .val (.int mc), .val (.int md), .val (.ref b1), .val (.int (p4 &&& (3 : Int32))), .val (.int om), .val (.int on), .val (.ref b7), .val (.int (0 : Int32))] [(.int (own_eq ma mb om on))]))
              rw [(own_e10 hc159 hc166).1]
              show Rest p.tables e below s _ _ _ (T11.setTop (mkF m 183 #[.val (.int p0), .val (.int p1), .val (.int p2), .val (.int p3), .val (.int p4), .val (.int ma), .val (.int mb), .val (.int mc), .val (.int md), .val (.ref b1), .val (.int (p4 &&& (3 : Int32))), .val (.int om), .val (.int on), .val (.ref b7), .val (.int (0 : Int32))] [(.int (0 : Int32))]))
              refine Rest.via (fun t k => XS.iload X11.here hx rfl (hb hby at_183) rfl k) ?_
              show Rest p.tables e below s _ _ _ (T11.setTop (mkF m 185 #[.val (.int p0), .val (.int p1), .val (.int p2), .val (.int p3), .val (.int p4), .val (.int ma), .val (.int mb), .val (.int mc), .val (.int md), .val (.ref b1), .val (.int (p4 &&& (3 : Int32))), .val (.int om), .val (.int on), .val (.ref b7), .val (.int (0 : Int32))] [(.int (0 : Int32)), (.int (0 : Int32))]))
              refine Rest.via (fun t k => XS.icmpNo X11.here hx rfl (hb hby at_185) rfl (teq (by decide : (0 : Int32) = (0 : Int32))).2 k) ?_
              show Rest p.tables e below s _ _ _ (T11.setTop (mkF m 188 #[.val (.int p0), .val (.int p1), .val (.int p2), .val (.int p3), .val (.int p4), .val (.int ma), .val (.int mb), .val (.int mc), .val (.int md), .val (.ref b1), .val (.int (p4 &&& (3 : Int32))), .val (.int om), .val (.int on), .val (.ref b7), .val (.int (0 : Int32))] []))
              refine Rest.via (fun t k => XS.aload X11.here hx rfl (hb hby at_188) rfl rfl k) ?_
              show Rest p.tables e below s _ _ _ (T11.setTop (mkF m 190 #[.val (.int p0), .val (.int p1), .val (.int p2), .val (.int p3), .val (.int p4), .val (.int ma), .val (.int mb), .val (.int mc), .val (.int md), .val (.ref b1), .val (.int (p4 &&& (3 : Int32))), .val (.int om), .val (.int on), .val (.ref b7), .val (.int (0 : Int32))] [(.ref b7)]))
              refine Rest.via (fun t k => XS.aload X11.here hx rfl (hb hby at_190) rfl rfl k) ?_
              show Rest p.tables e below s _ _ _ (T11.setTop (mkF m 192 #[.val (.int p0), .val (.int p1), .val (.int p2), .val (.int p3), .val (.int p4), .val (.int ma), .val (.int mb), .val (.int mc), .val (.int md), .val (.ref b1), .val (.int (p4 &&& (3 : Int32))), .val (.int om), .val (.int on), .val (.ref b7), .val (.int (0 : Int32))] [(.ref b1), (.ref b7)]))
              obtain ⟨cq12, kq12, q12a, q12b, q12c⟩ := isOf hZ e11 (E_b7.keep Kq8)
              obtain ⟨_, _, ⟨T12, L12, k12, n12⟩, -, X12, ⟨Lc12, hQ12, l12, y12, z12⟩, st12⟩ := X11.virtualBack hx (y := (⟨"com/example/rollcall/rollcall/model/spring/SpringVersion", "equals", "(Ljava/lang/Object;)Z"⟩ : MethodName)) (z := (⟨"com/example/rollcall/rollcall/model/spring/SpringVersion", "equals", "(Ljava/lang/Object;)Z"⟩ : MethodName)) hown (mvT hZ (hw _ (List.mem_of_getElem? (i := 14) rfl))) (mvT hZ (hw _ (List.mem_of_getElem? (i := 15) rfl))) (notFace_of_selects (args := #[]) (mvT hZ (hw _ (List.mem_of_getElem? (i := 17) rfl)))) (mvT hZ (hw _ (List.mem_of_getElem? (i := 17) rfl))) (mvT hZ (hw _ (List.mem_of_getElem? (i := 16) rfl))) (by decide) (backOf (W := 0) (rmE l Z aw hw [] b7 b1 om on ma mb h8 n0 (Nat.le_trans Z0 K8.1) Fa8 Fb8 (((E_b1.keep Kq2).ext E7).keep Kq8) ((Fa2.ext E7).keep Kq8 (ninS ne_b1_b7 nin0)) ((Fb2.ext E7).keep Kq8 (ninS ne_b1_b7 nin0))) hZ (hw _ (List.mem_of_getElem? (i := 18) rfl)) (hw _ (List.mem_of_getElem? (i := 3) rfl)) (by decide) (by decide)) q12a q12c (g := (mkF m 192 #[.val (.int p0), .val (.int p1), .val (.int p2), .val (.int p3), .val (.int p4), .val (.int ma), .val (.int mb), .val (.int mc), .val (.int md), .val (.ref b1), .val (.int (p4 &&& (3 : Int32))), .val (.int om), .val (.int on), .val (.ref b7), .val (.int (0 : Int32))] [(.ref b1), (.ref b7)])) rfl (by rw [hml]; rfl) (Steps.refl _) (argsL := [(.ref b1)]) (rest := []) (lenOf pd_3 rfl) rfl (by show 2 * 0 + _ ≤ _; exact Nat.le_of_eq rfl) (hb hby at_192) (fun _ _ => ⟨rfl, e11, (by decide : 2 + 0 ≤ _), (by decide : 4 + 0 ≤ _)⟩)
              dsimp only [Pt.U, Pt.locs, Pt.cells, Pt.slots] at X12 l12 y12 z12 st12 hQ12
              subst l12 y12 z12
              obtain ⟨rfl, Nq12, e12⟩ := hQ12
              have N12 := Fr.app N11 Nq12
              refine Rest.via (fun t k => st12.trans k) ?_
              show Rest p.tables e below s _ _ _ (T12.setTop (mkF m 195 #[.val (.int p0), .val (.int p1), .val (.int p2), .val (.int p3), .val (.int p4), .val (.int ma), .val (.int mb), .val (.int mc), .val (.int md), .val (.ref b1), .val (.int (p4 &&& (3 : Int32))), .val (.int om), .val (.int on), .val (.ref b7), .val (.int (0 : Int32))] [(.int (own_eq om on ma mb))]))
              rw [(own_e10 hc159 hc166).2]
              show Rest p.tables e below s _ _ _ (T12.setTop (mkF m 195 #[.val (.int p0), .val (.int p1), .val (.int p2), .val (.int p3), .val (.int p4), .val (.int ma), .val (.int mb), .val (.int mc), .val (.int md), .val (.ref b1), .val (.int (p4 &&& (3 : Int32))), .val (.int om), .val (.int on), .val (.ref b7), .val (.int (0 : Int32))] [(.int (0 : Int32))]))
              refine Rest.via (fun t k => XS.iload X12.here hx rfl (hb hby at_195) rfl k) ?_
              show Rest p.tables e below s _ _ _ (T12.setTop (mkF m 197 #[.val (.int p0), .val (.int p1), .val (.int p2), .val (.int p3), .val (.int p4), .val (.int ma), .val (.int mb), .val (.int mc), .val (.int md), .val (.ref b1), .val (.int (p4 &&& (3 : Int32))), .val (.int om), .val (.int on), .val (.ref b7), .val (.int (0 : Int32))] [(.int (0 : Int32)), (.int (0 : Int32))]))
              refine Rest.via (fun t k => XS.icmpNo X12.here hx rfl (hb hby at_197) rfl (teq (by decide : (0 : Int32) = (0 : Int32))).2 k) ?_
              show Rest p.tables e below s _ _ _ (T12.setTop (mkF m 200 #[.val (.int p0), .val (.int p1), .val (.int p2), .val (.int p3), .val (.int p4), .val (.int ma), .val (.int mb), .val (.int mc), .val (.int md), .val (.ref b1), .val (.int (p4 &&& (3 : Int32))), .val (.int om), .val (.int on), .val (.ref b7), .val (.int (0 : Int32))] []))
              refine Rest.via (fun t k => XS.iconst X12.here hx rfl (hb hby at_200) k) ?_
              show Rest p.tables e below s _ _ _ (T12.setTop (mkF m 201 #[.val (.int p0), .val (.int p1), .val (.int p2), .val (.int p3), .val (.int p4), .val (.int ma), .val (.int mb), .val (.int mc), .val (.int md), .val (.ref b1), .val (.int (p4 &&& (3 : Int32))), .val (.int om), .val (.int on), .val (.ref b7), .val (.int (0 : Int32))] [(.int (1 : Int32))]))
              refine Rest.via (fun t k => XS.goto X12.here hx rfl (pc0 := 201) (pc' := 205) rfl (hb hby at_201) (by decide) (by decide) k) ?_
              show Rest p.tables e below s _ _ _ (T12.setTop (mkF m 205 #[.val (.int p0), .val (.int p1), .val (.int p2), .val (.int p3), .val (.int p4), .val (.int ma), .val (.int mb), .val (.int mc), .val (.int md), .val (.ref b1), .val (.int (p4 &&& (3 : Int32))), .val (.int om), .val (.int on), .val (.ref b7), .val (.int (0 : Int32))] [(.int (1 : Int32))]))
              refine Rest.ret X12 (v := some (.int (nar .boolean (1 : Int32)))) (fun h => by rw [Bd.returns] at h; cases h) hlk (fun fs hr => retN X12 hx (t := .boolean) Bd.returns (by simp) (hb hby at_205) hr) ?_ (by decide) (by decide)
              rw [e12]
              exact ⟨rfl, N12⟩
          · refine Rest.via (fun t k => XS.icmpYes X8.here hx rfl (pc0 := 159) (pc' := 173) rfl (hb hby at_159) rfl (feq hc159).2 (by decide) (by decide) k) ?_
            show Rest p.tables e below s _ _ _ (T8.setTop (mkF m 173 #[.val (.int p0), .val (.int p1), .val (.int p2), .val (.int p3), .val (.int p4), .val (.int ma), .val (.int mb), .val (.int mc), .val (.int md), .val (.ref b1), .val (.int (p4 &&& (3 : Int32))), .val (.int om), .val (.int on), .val (.ref b7), .unset] []))
            refine Rest.via (fun t k => XS.iconst X8.here hx rfl (hb hby at_173) k) ?_
            show Rest p.tables e below s _ _ _ (T8.setTop (mkF m 174 #[.val (.int p0), .val (.int p1), .val (.int p2), .val (.int p3), .val (.int p4), .val (.int ma), .val (.int mb), .val (.int mc), .val (.int md), .val (.ref b1), .val (.int (p4 &&& (3 : Int32))), .val (.int om), .val (.int on), .val (.ref b7), .unset] [(.int (0 : Int32))]))
            refine Rest.via (fun t k => XS.istore X8.here hx rfl (hb hby at_174) rfl (l' := #[.val (.int p0), .val (.int p1), .val (.int p2), .val (.int p3), .val (.int p4), .val (.int ma), .val (.int mb), .val (.int mc), .val (.int md), .val (.ref b1), .val (.int (p4 &&& (3 : Int32))), .val (.int om), .val (.int on), .val (.ref b7), .val (.int (0 : Int32))]) rfl k) ?_
            show Rest p.tables e below s _ _ _ (T8.setTop (mkF m 176 #[.val (.int p0), .val (.int p1), .val (.int p2), .val (.int p3), .val (.int p4), .val (.int ma), .val (.int mb), .val (.int mc), .val (.int md), .val (.ref b1), .val (.int (p4 &&& (3 : Int32))), .val (.int om), .val (.int on), .val (.ref b7), .val (.int (0 : Int32))] []))
            refine Rest.via (fun t k => XS.aload X8.here hx rfl (hb hby at_176) rfl rfl k) ?_
            show Rest p.tables e below s _ _ _ (T8.setTop (mkF m 178 #[.val (.int p0), .val (.int p1), .val (.int p2), .val (.int p3), .val (.int p4), .val (.int ma), .val (.int mb), .val (.int mc), .val (.int md), .val (.ref b1), .val (.int (p4 &&& (3 : Int32))), .val (.int om), .val (.int on), .val (.ref b7), .val (.int (0 : Int32))] [(.ref b1)]))
            refine Rest.via (fun t k => XS.aload X8.here hx rfl (hb hby at_178) rfl rfl k) ?_
            show Rest p.tables e below s _ _ _ (T8.setTop (mkF m 180 #[.val (.int p0), .val (.int p1), .val (.int p2), .val (.int p3), .val (.int p4), .val (.int ma), .val (.int mb), .val (.int mc), .val (.int md), .val (.ref b1), .val (.int (p4 &&& (3 : Int32))), .val (.int om), .val (.int on), .val (.ref b7), .val (.int (0 : Int32))] [(.ref b7), (.ref b1)]))
            obtain ⟨cq13, kq13, q13a, q13b, q13c⟩ := isOf hZ e8 (((E_b1.keep Kq2).ext E7).keep Kq8)
            obtain ⟨_, _, ⟨T13, L13, k13, n13⟩, -, X13, ⟨Lc13, hQ13, l13, y13, z13⟩, st13⟩ := X8.virtualBack hx (y := (⟨"com/example/rollcall/rollcall/model/spring/SpringVersion", "equals", "(Ljava/lang/Object;)Z"⟩ : MethodName)) (z := (⟨"com/example/rollcall/rollcall/model/spring/SpringVersion", "equals", "(Ljava/lang/Object;)Z"⟩ : MethodName)) hown (mvT hZ (hw _ (List.mem_of_getElem? (i := 14) rfl))) (mvT hZ (hw _ (List.mem_of_getElem? (i := 15) rfl))) (notFace_of_selects (args := #[]) (mvT hZ (hw _ (List.mem_of_getElem? (i := 17) rfl)))) (mvT hZ (hw _ (List.mem_of_getElem? (i := 17) rfl))) (mvT hZ (hw _ (List.mem_of_getElem? (i := 16) rfl))) (by decide) (backOf (W := 0) (rmE l Z aw hw [] b1 b7 ma mb om on h8 n0 (Nat.le_trans Z0 K8.1) ((Fa2.ext E7).keep Kq8 (ninS ne_b1_b7 nin0)) ((Fb2.ext E7).keep Kq8 (ninS ne_b1_b7 nin0)) (E_b7.keep Kq8) Fa8 Fb8) hZ (hw _ (List.mem_of_getElem? (i := 18) rfl)) (hw _ (List.mem_of_getElem? (i := 3) rfl)) (by decide) (by decide)) q13a q13c (g := (mkF m 180 #[.val (.int p0), .val (.int p1), .val (.int p2), .val (.int p3), .val (.int p4), .val (.int ma), .val (.int mb), .val (.int mc), .val (.int md), .val (.ref b1), .val (.int (p4 &&& (3 : Int32))), .val (.int om), .val (.int on), .val (.ref b7), .val (.int (0 : Int32))] [(.ref b7), (.ref b1)])) rfl (by rw [hml]; rfl) (Steps.refl _) (argsL := [(.ref b7)]) (rest := []) (lenOf pd_3 rfl) rfl (by show 2 * 0 + _ ≤ _; exact Nat.le_of_eq rfl) (hb hby at_180) (fun _ _ => ⟨rfl, e8, (by decide : 2 + 0 ≤ _), (by decide : 4 + 0 ≤ _)⟩)
            dsimp only [Pt.U, Pt.locs, Pt.cells, Pt.slots] at X13 l13 y13 z13 st13 hQ13
            subst l13 y13 z13
            obtain ⟨rfl, Nq13, e13⟩ := hQ13
            have N13 := Fr.app N8 Nq13
            refine Rest.via (fun t k => st13.trans k) ?_
            show Rest p.tables e below s _ _ _ (T13.setTop (mkF m 183 #[.val (.int p0), .val (.int p1), .val (.int p2), .val (.int p3), .val (.int p4), .val (.int ma), .val (.int mb), .val (.int mc), .val (.int md), .val (.ref b1), .val (.int (p4 &&& (3 : Int32))), .val (.int om), .val (.int on), .val (.ref b7), .val (.int (0 : Int32))] [(.int (own_eq ma mb om on))]))
            rw [(own_e0 hc159).1]
            show Rest p.tables e below s _ _ _ (T13.setTop (mkF m 183 #[.val (.int p0), .val (.int p1), .val (.int p2), .val (.int p3), .val (.int p4), .val (.int ma), .val (.int mb), .val (.int mc), .val (.int md), .val (.ref b1), .val (.int (p4 &&& (3 : Int32))), .val (.int om), .val (.int on), .val (.ref b7), .val (.int (0 : Int32))] [(.int (0 : Int32))]))
            refine Rest.via (fun t k => XS.iload X13.here hx rfl (hb hby at_183) rfl k) ?_
            show Rest p.tables e below s _ _ _ (T13.setTop (mkF m 185 #[.val (.int p0), .val (.int p1), .val (.int p2), .val (.int p3), .val (.int p4), .val (.int ma), .val (.int mb), .val (.int mc), .val (.int md), .val (.ref b1), .val (.int (p4 &&& (3 : Int32))), .val (.int om), .val (.int on), .val (.ref b7), .val (.int (0 : Int32))] [(.int (0 : Int32)), (.int (0 : Int32))]))
            refine Rest.via (fun t k => XS.icmpNo X13.here hx rfl (hb hby at_185) rfl (teq (by decide : (0 : Int32) = (0 : Int32))).2 k) ?_
            show Rest p.tables e below s _ _ _ (T13.setTop (mkF m 188 #[.val (.int p0), .val (.int p1), .val (.int p2), .val (.int p3), .val (.int p4), .val (.int ma), .val (.int mb), .val (.int mc), .val (.int md), .val (.ref b1), .val (.int (p4 &&& (3 : Int32))), .val (.int om), .val (.int on), .val (.ref b7), .val (.int (0 : Int32))] []))
            refine Rest.via (fun t k => XS.aload X13.here hx rfl (hb hby at_188) rfl rfl k) ?_
            show Rest p.tables e below s _ _ _ (T13.setTop (mkF m 190 #[.val (.int p0), .val (.int p1), .val (.int p2), .val (.int p3), .val (.int p4), .val (.int ma), .val (.int mb), .val (.int mc), .val (.int md), .val (.ref b1), .val (.int (p4 &&& (3 : Int32))), .val (.int om), .val (.int on), .val (.ref b7), .val (.int (0 : Int32))] [(.ref b7)]))
            refine Rest.via (fun t k => XS.aload X13.here hx rfl (hb hby at_190) rfl rfl k) ?_
            show Rest p.tables e below s _ _ _ (T13.setTop (mkF m 192 #[.val (.int p0), .val (.int p1), .val (.int p2), .val (.int p3), .val (.int p4), .val (.int ma), .val (.int mb), .val (.int mc), .val (.int md), .val (.ref b1), .val (.int (p4 &&& (3 : Int32))), .val (.int om), .val (.int on), .val (.ref b7), .val (.int (0 : Int32))] [(.ref b1), (.ref b7)]))
            obtain ⟨cq14, kq14, q14a, q14b, q14c⟩ := isOf hZ e13 (E_b7.keep Kq8)
            obtain ⟨_, _, ⟨T14, L14, k14, n14⟩, -, X14, ⟨Lc14, hQ14, l14, y14, z14⟩, st14⟩ := X13.virtualBack hx (y := (⟨"com/example/rollcall/rollcall/model/spring/SpringVersion", "equals", "(Ljava/lang/Object;)Z"⟩ : MethodName)) (z := (⟨"com/example/rollcall/rollcall/model/spring/SpringVersion", "equals", "(Ljava/lang/Object;)Z"⟩ : MethodName)) hown (mvT hZ (hw _ (List.mem_of_getElem? (i := 14) rfl))) (mvT hZ (hw _ (List.mem_of_getElem? (i := 15) rfl))) (notFace_of_selects (args := #[]) (mvT hZ (hw _ (List.mem_of_getElem? (i := 17) rfl)))) (mvT hZ (hw _ (List.mem_of_getElem? (i := 17) rfl))) (mvT hZ (hw _ (List.mem_of_getElem? (i := 16) rfl))) (by decide) (backOf (W := 0) (rmE l Z aw hw [] b7 b1 om on ma mb h8 n0 (Nat.le_trans Z0 K8.1) Fa8 Fb8 (((E_b1.keep Kq2).ext E7).keep Kq8) ((Fa2.ext E7).keep Kq8 (ninS ne_b1_b7 nin0)) ((Fb2.ext E7).keep Kq8 (ninS ne_b1_b7 nin0))) hZ (hw _ (List.mem_of_getElem? (i := 18) rfl)) (hw _ (List.mem_of_getElem? (i := 3) rfl)) (by decide) (by decide)) q14a q14c (g := (mkF m 192 #[.val (.int p0), .val (.int p1), .val (.int p2), .val (.int p3), .val (.int p4), .val (.int ma), .val (.int mb), .val (.int mc), .val (.int md), .val (.ref b1), .val (.int (p4 &&& (3 : Int32))), .val (.int om), .val (.int on), .val (.ref b7), .val (.int (0 : Int32))] [(.ref b1), (.ref b7)])) rfl (by rw [hml]; rfl) (Steps.refl _) (argsL := [(.ref b1)]) (rest := []) (lenOf pd_3 rfl) rfl (by show 2 * 0 + _ ≤ _; exact Nat.le_of_eq rfl) (hb hby at_192) (fun _ _ => ⟨rfl, e13, (by decide : 2 + 0 ≤ _), (by decide : 4 + 0 ≤ _)⟩)
            dsimp only [Pt.U, Pt.locs, Pt.cells, Pt.slots] at X14 l14 y14 z14 st14 hQ14
            subst l14 y14 z14
            obtain ⟨rfl, Nq14, e14⟩ := hQ14
            have N14 := Fr.app N13 Nq14
            refine Rest.via (fun t k => st14.trans k) ?_
            show Rest p.tables e below s _ _ _ (T14.setTop (mkF m 195 #[.val (.int p0), .val (.int p1), .val (.int p2), .val (.int p3), .val (.int p4), .val (.int ma), .val (.int mb), .val (.int mc), .val (.int md), .val (.ref b1), .val (.int (p4 &&& (3 : Int32))), .val (.int om), .val (.int on), .val (.ref b7), .val (.int (0 : Int32))] [(.int (own_eq om on ma mb))]))
            rw [(own_e0 hc159).2]
            show Rest p.tables e below s _ _ _ (T14.setTop (mkF m 195 #[.val (.int p0), .val (.int p1), .val (.int p2), .val (.int p3), .val (.int p4), .val (.int ma), .val (.int mb), .val (.int mc), .val (.int md), .val (.ref b1), .val (.int (p4 &&& (3 : Int32))), .val (.int om), .val (.int on), .val (.ref b7), .val (.int (0 : Int32))] [(.int (0 : Int32))]))
            refine Rest.via (fun t k => XS.iload X14.here hx rfl (hb hby at_195) rfl k) ?_
            show Rest p.tables e below s _ _ _ (T14.setTop (mkF m 197 #[.val (.int p0), .val (.int p1), .val (.int p2), .val (.int p3), .val (.int p4), .val (.int ma), .val (.int mb), .val (.int mc), .val (.int md), .val (.ref b1), .val (.int (p4 &&& (3 : Int32))), .val (.int om), .val (.int on), .val (.ref b7), .val (.int (0 : Int32))] [(.int (0 : Int32)), (.int (0 : Int32))]))
            refine Rest.via (fun t k => XS.icmpNo X14.here hx rfl (hb hby at_197) rfl (teq (by decide : (0 : Int32) = (0 : Int32))).2 k) ?_
            show Rest p.tables e below s _ _ _ (T14.setTop (mkF m 200 #[.val (.int p0), .val (.int p1), .val (.int p2), .val (.int p3), .val (.int p4), .val (.int ma), .val (.int mb), .val (.int mc), .val (.int md), .val (.ref b1), .val (.int (p4 &&& (3 : Int32))), .val (.int om), .val (.int on), .val (.ref b7), .val (.int (0 : Int32))] []))
            refine Rest.via (fun t k => XS.iconst X14.here hx rfl (hb hby at_200) k) ?_
            show Rest p.tables e below s _ _ _ (T14.setTop (mkF m 201 #[.val (.int p0), .val (.int p1), .val (.int p2), .val (.int p3), .val (.int p4), .val (.int ma), .val (.int mb), .val (.int mc), .val (.int md), .val (.ref b1), .val (.int (p4 &&& (3 : Int32))), .val (.int om), .val (.int on), .val (.ref b7), .val (.int (0 : Int32))] [(.int (1 : Int32))]))
            refine Rest.via (fun t k => XS.goto X14.here hx rfl (pc0 := 201) (pc' := 205) rfl (hb hby at_201) (by decide) (by decide) k) ?_
            show Rest p.tables e below s _ _ _ (T14.setTop (mkF m 205 #[.val (.int p0), .val (.int p1), .val (.int p2), .val (.int p3), .val (.int p4), .val (.int ma), .val (.int mb), .val (.int mc), .val (.int md), .val (.ref b1), .val (.int (p4 &&& (3 : Int32))), .val (.int om), .val (.int on), .val (.ref b7), .val (.int (0 : Int32))] [(.int (1 : Int32))]))
            refine Rest.ret X14 (v := some (.int (nar .boolean (1 : Int32)))) (fun h => by rw [Bd.returns] at h; cases h) hlk (fun fs hr => retN X14 hx (t := .boolean) Bd.returns (by simp) (hb hby at_205) hr) ?_ (by decide) (by decide)
            rw [e14]
            exact ⟨rfl, N14⟩
        show Rest p.tables e below s _ _ _ (T2.setTop (mkF m 106 #[.val (.int p0), .val (.int p1), .val (.int p2), .val (.int p3), .val (.int p4), .val (.int ma), .val (.int mb), .val (.int mc), .val (.int md), .val (.ref b1), .val (.int (p4 &&& (3 : Int32))), .unset, .unset, .unset, .unset] []))
        refine Rest.via (fun t k => XS.iload X2.here hx rfl (hb hby at_106) rfl k) ?_
        show Rest p.tables e below s _ _ _ (T2.setTop (mkF m 108 #[.val (.int p0), .val (.int p1), .val (.int p2), .val (.int p3), .val (.int p4), .val (.int ma), .val (.int mb), .val (.int mc), .val (.int md), .val (.ref b1), .val (.int (p4 &&& (3 : Int32))), .unset, .unset, .unset, .unset] [(.int p4)]))
        refine Rest.via (fun t k => XS.iconst X2.here hx rfl (hb hby at_108) k) ?_
        show Rest p.tables e below s _ _ _ (T2.setTop (mkF m 109 #[.val (.int p0), .val (.int p1), .val (.int p2), .val (.int p3), .val (.int p4), .val (.int ma), .val (.int mb), .val (.int mc), .val (.int md), .val (.ref b1), .val (.int (p4 &&& (3 : Int32))), .unset, .unset, .unset, .unset] [(.int (2 : Int32)), (.int p4)]))
        refine Rest.via (fun t k => XS.ishr X2.here hx rfl (hb hby at_109) rfl k) ?_
        show Rest p.tables e below s _ _ _ (T2.setTop (mkF m 110 #[.val (.int p0), .val (.int p1), .val (.int p2), .val (.int p3), .val (.int p4), .val (.int ma), .val (.int mb), .val (.int mc), .val (.int md), .val (.ref b1), .val (.int (p4 &&& (3 : Int32))), .unset, .unset, .unset, .unset] [(.int (p4 >>> ((2 : Int32) &&& 31)))]))
        refine Rest.via (fun t k => XS.iconst X2.here hx rfl (hb hby at_110) k) ?_
        show Rest p.tables e below s _ _ _ (T2.setTop (mkF m 111 #[.val (.int p0), .val (.int p1), .val (.int p2), .val (.int p3), .val (.int p4), .val (.int ma), .val (.int mb), .val (.int mc), .val (.int md), .val (.ref b1), .val (.int (p4 &&& (3 : Int32))), .unset, .unset, .unset, .unset] [(.int (1 : Int32)), (.int (p4 >>> ((2 : Int32) &&& 31)))]))
        refine Rest.via (fun t k => XS.iand X2.here hx rfl (hb hby at_111) rfl k) ?_
        show Rest p.tables e below s _ _ _ (T2.setTop (mkF m 112 #[.val (.int p0), .val (.int p1), .val (.int p2), .val (.int p3), .val (.int p4), .val (.int ma), .val (.int mb), .val (.int mc), .val (.int md), .val (.ref b1), .val (.int (p4 &&& (3 : Int32))), .unset, .unset, .unset, .unset] [(.int ((p4 >>> ((2 : Int32) &&& 31)) &&& (1 : Int32)))]))
        by_cases hc112 : ((p4 >>> ((2 : Int32) &&& 31)) &&& (1 : Int32)) = (0 : Int32)
        · refine Rest.via (fun t k => XS.ifYes X2.here hx rfl (pc0 := 112) (pc' := 120) rfl (hb hby at_112) rfl ((if0 _ _).trans (teq hc112).1) (by decide) (by decide) k) ?_
          show Rest p.tables e below s _ _ _ (T2.setTop (mkF m 120 #[.val (.int p0), .val (.int p1), .val (.int p2), .val (.int p3), .val (.int p4), .val (.int ma), .val (.int mb), .val (.int mc), .val (.int md), .val (.ref b1), .val (.int (p4 &&& (3 : Int32))), .unset, .unset, .unset, .unset] []))
          refine Rest.via (fun t k => XS.iload X2.here hx rfl (hb hby at_120) rfl k) ?_
          show Rest p.tables e below s _ _ _ (T2.setTop (mkF m 122 #[.val (.int p0), .val (.int p1), .val (.int p2), .val (.int p3), .val (.int p4), .val (.int ma), .val (.int mb), .val (.int mc), .val (.int md), .val (.ref b1), .val (.int (p4 &&& (3 : Int32))), .unset, .unset, .unset, .unset] [(.int mc)]))
          refine Rest.via (fun t k => XS.istore X2.here hx rfl (hb hby at_122) rfl (l' := #[.val (.int p0), .val (.int p1), .val (.int p2), .val (.int p3), .val (.int p4), .val (.int ma), .val (.int mb), .val (.int mc), .val (.int md), .val (.ref b1), .val (.int (p4 &&& (3 : Int32))), .val (.int mc), .unset, .unset, .unset]) rfl k) ?_
          show Rest p.tables e below s _ _ _ (T2.setTop (mkF m 124 #[.val (.int p0), .val (.int p1), .val (.int p2), .val (.int p3), .val (.int p4), .val (.int ma), .val (.int mb), .val (.int mc), .val (.int md), .val (.ref b1), .val (.int (p4 &&& (3 : Int32))), .val (.int mc), .unset, .unset, .unset] []))
          refine Rest.via (fun t k => XS.iload X2.here hx rfl (hb hby at_124) rfl k) ?_
          show Rest p.tables e below s _ _ _ (T2.setTop (mkF m 126 #[.val (.int p0), .val (.int p1), .val (.int p2), .val (.int p3), .val (.int p4), .val (.int ma), .val (.int mb), .val (.int mc), .val (.int md), .val (.ref b1), .val (.int (p4 &&& (3 : Int32))), .val (.int mc), .unset, .unset, .unset] [(.int p4)]))
          refine Rest.via (fun t k => XS.iconst X2.here hx rfl (hb hby at_126) k) ?_
          show Rest p.tables e below s _ _ _ (T2.setTop (mkF m 127 #[.val (.int p0), .val (.int p1), .val (.int p2), .val (.int p3), .val (.int p4), .val (.int ma), .val (.int mb), .val (.int mc), .val (.int md), .val (.ref b1), .val (.int (p4 &&& (3 : Int32))), .val (.int mc), .unset, .unset, .unset] [(.int (3 : Int32)), (.int p4)]))
          refine Rest.via (fun t k => XS.ishr X2.here hx rfl (hb hby at_127) rfl k) ?_
          show Rest p.tables e below s _ _ _ (T2.setTop (mkF m 128 #[.val (.int p0), .val (.int p1), .val (.int p2), .val (.int p3), .val (.int p4), .val (.int ma), .val (.int mb), .val (.int mc), .val (.int md), .val (.ref b1), .val (.int (p4 &&& (3 : Int32))), .val (.int mc), .unset, .unset, .unset] [(.int (p4 >>> ((3 : Int32) &&& 31)))]))
          refine Rest.via (fun t k => XS.iconst X2.here hx rfl (hb hby at_128) k) ?_
          show Rest p.tables e below s _ _ _ (T2.setTop (mkF m 129 #[.val (.int p0), .val (.int p1), .val (.int p2), .val (.int p3), .val (.int p4), .val (.int ma), .val (.int mb), .val (.int mc), .val (.int md), .val (.ref b1), .val (.int (p4 &&& (3 : Int32))), .val (.int mc), .unset, .unset, .unset] [(.int (1 : Int32)), (.int (p4 >>> ((3 : Int32) &&& 31)))]))
          refine Rest.via (fun t k => XS.iand X2.here hx rfl (hb hby at_129) rfl k) ?_
          show Rest p.tables e below s _ _ _ (T2.setTop (mkF m 130 #[.val (.int p0), .val (.int p1), .val (.int p2), .val (.int p3), .val (.int p4), .val (.int ma), .val (.int mb), .val (.int mc), .val (.int md), .val (.ref b1), .val (.int (p4 &&& (3 : Int32))), .val (.int mc), .unset, .unset, .unset] [(.int ((p4 >>> ((3 : Int32) &&& 31)) &&& (1 : Int32)))]))
          by_cases hc130 : ((p4 >>> ((3 : Int32) &&& 31)) &&& (1 : Int32)) = (0 : Int32)
          · refine Rest.via (fun t k => XS.ifYes X2.here hx rfl (pc0 := 130) (pc' := 138) rfl (hb hby at_130) rfl ((if0 _ _).trans (teq hc130).1) (by decide) (by decide) k) ?_
            show Rest p.tables e below s _ _ _ (T2.setTop (mkF m 138 #[.val (.int p0), .val (.int p1), .val (.int p2), .val (.int p3), .val (.int p4), .val (.int ma), .val (.int mb), .val (.int mc), .val (.int md), .val (.ref b1), .val (.int (p4 &&& (3 : Int32))), .val (.int mc), .unset, .unset, .unset] []))
            refine Rest.via (fun t k => XS.iload X2.here hx rfl (hb hby at_138) rfl k) ?_
            show Rest p.tables e below s _ _ _ (T2.setTop (mkF m 140 #[.val (.int p0), .val (.int p1), .val (.int p2), .val (.int p3), .val (.int p4), .val (.int ma), .val (.int mb), .val (.int mc), .val (.int md), .val (.ref b1), .val (.int (p4 &&& (3 : Int32))), .val (.int mc), .unset, .unset, .unset] [(.int md)]))
            refine Rest.via (fun t k => XS.istore X2.here hx rfl (hb hby at_140) rfl (l' := #[.val (.int p0), .val (.int p1), .val (.int p2), .val (.int p3), .val (.int p4), .val (.int ma), .val (.int mb), .val (.int mc), .val (.int md), .val (.ref b1), .val (.int (p4 &&& (3 : Int32))), .val (.int mc), .val (.int md), .unset, .unset]) rfl k) ?_
            show Rest p.tables e below s _ _ _ (T2.setTop (mkF m 142 #[.val (.int p0), .val (.int p1), .val (.int p2), .val (.int p3), .val (.int p4), .val (.int ma), .val (.int mb), .val (.int mc), .val (.int md), .val (.ref b1), .val (.int (p4 &&& (3 : Int32))), .val (.int mc), .val (.int md), .unset, .unset] []))
            exact J142 _ _ hmc hmd
          · refine Rest.via (fun t k => XS.ifNo X2.here hx rfl (hb hby at_130) rfl ((if0 _ _).trans (feq hc130).1) k) ?_
            show Rest p.tables e below s _ _ _ (T2.setTop (mkF m 133 #[.val (.int p0), .val (.int p1), .val (.int p2), .val (.int p3), .val (.int p4), .val (.int ma), .val (.int mb), .val (.int mc), .val (.int md), .val (.ref b1), .val (.int (p4 &&& (3 : Int32))), .val (.int mc), .unset, .unset, .unset] []))
            refine Rest.via (fun t k => XS.iload X2.here hx rfl (hb hby at_133) rfl k) ?_
            show Rest p.tables e below s _ _ _ (T2.setTop (mkF m 135 #[.val (.int p0), .val (.int p1), .val (.int p2), .val (.int p3), .val (.int p4), .val (.int ma), .val (.int mb), .val (.int mc), .val (.int md), .val (.ref b1), .val (.int (p4 &&& (3 : Int32))), .val (.int mc), .unset, .unset, .unset] [(.int mb)]))
            refine Rest.via (fun t k => XS.goto X2.here hx rfl (pc0 := 135) (pc' := 140) rfl (hb hby at_135) (by decide) (by decide) k) ?_
            show Rest p.tables e below s _ _ _ (T2.setTop (mkF m 140 #[.val (.int p0), .val (.int p1), .val (.int p2), .val (.int p3), .val (.int p4), .val (.int ma), .val (.int mb), .val (.int mc), .val (.int md), .val (.ref b1), .val (.int (p4 &&& (3 : Int32))), .val (.int mc), .unset, .unset, .unset] [(.int mb)]))
            refine Rest.via (fun t k => XS.istore X2.here hx rfl (hb hby at_140) rfl (l' := #[.val (.int p0), .val (.int p1), .val (.int p2), .val (.int p3), .val (.int p4), .val (.int ma), .val (.int mb), .val (.int mc), .val (.int md), .val (.ref b1), .val (.int (p4 &&& (3 : Int32))), .val (.int mc), .val (.int mb), .unset, .unset]) rfl k) ?_
            show Rest p.tables e below s _ _ _ (T2.setTop (mkF m 142 #[.val (.int p0), .val (.int p1), .val (.int p2), .val (.int p3), .val (.int p4), .val (.int ma), .val (.int mb), .val (.int mc), .val (.int md), .val (.ref b1), .val (.int (p4 &&& (3 : Int32))), .val (.int mc), .val (.int mb), .unset, .unset] []))
            exact J142 _ _ hmc hmb
        · refine Rest.via (fun t k => XS.ifNo X2.here hx rfl (hb hby at_112) rfl ((if0 _ _).trans (feq hc112).1) k) ?_
          show Rest p.tables e below s _ _ _ (T2.setTop (mkF m 115 #[.val (.int p0), .val (.int p1), .val (.int p2), .val (.int p3), .val (.int p4), .val (.int ma), .val (.int mb), .val (.int mc), .val (.int md), .val (.ref b1), .val (.int (p4 &&& (3 : Int32))), .unset, .unset, .unset, .unset] []))
          refine Rest.via (fun t k => XS.iload X2.here hx rfl (hb hby at_115) rfl k) ?_
          show Rest p.tables e below s _ _ _ (T2.setTop (mkF m 117 #[.val (.int p0), .val (.int p1), .val (.int p2), .val (.int p3), .val (.int p4), .val (.int ma), .val (.int mb), .val (.int mc), .val (.int md), .val (.ref b1), .val (.int (p4 &&& (3 : Int32))), .unset, .unset, .unset, .unset] [(.int ma)]))
          refine Rest.via (fun t k => XS.goto X2.here hx rfl (pc0 := 117) (pc' := 122) rfl (hb hby at_117) (by decide) (by decide) k) ?_
          show Rest p.tables e below s _ _ _ (T2.setTop (mkF m 122 #[.val (.int p0), .val (.int p1), .val (.int p2), .val (.int p3), .val (.int p4), .val (.int ma), .val (.int mb), .val (.int mc), .val (.int md), .val (.ref b1), .val (.int (p4 &&& (3 : Int32))), .unset, .unset, .unset, .unset] [(.int ma)]))
          refine Rest.via (fun t k => XS.istore X2.here hx rfl (hb hby at_122) rfl (l' := #[.val (.int p0), .val (.int p1), .val (.int p2), .val (.int p3), .val (.int p4), .val (.int ma), .val (.int mb), .val (.int mc), .val (.int md), .val (.ref b1), .val (.int (p4 &&& (3 : Int32))), .val (.int ma), .unset, .unset, .unset]) rfl k) ?_
          show Rest p.tables e below s _ _ _ (T2.setTop (mkF m 124 #[.val (.int p0), .val (.int p1), .val (.int p2), .val (.int p3), .val (.int p4), .val (.int ma), .val (.int mb), .val (.int mc), .val (.int md), .val (.ref b1), .val (.int (p4 &&& (3 : Int32))), .val (.int ma), .unset, .unset, .unset] []))
          refine Rest.via (fun t k => XS.iload X2.here hx rfl (hb hby at_124) rfl k) ?_
          show Rest p.tables e below s _ _ _ (T2.setTop (mkF m 126 #[.val (.int p0), .val (.int p1), .val (.int p2), .val (.int p3), .val (.int p4), .val (.int ma), .val (.int mb), .val (.int mc), .val (.int md), .val (.ref b1), .val (.int (p4 &&& (3 : Int32))), .val (.int ma), .unset, .unset, .unset] [(.int p4)]))
          refine Rest.via (fun t k => XS.iconst X2.here hx rfl (hb hby at_126) k) ?_
          show Rest p.tables e below s _ _ _ (T2.setTop (mkF m 127 #[.val (.int p0), .val (.int p1), .val (.int p2), .val (.int p3), .val (.int p4), .val (.int ma), .val (.int mb), .val (.int mc), .val (.int md), .val (.ref b1), .val (.int (p4 &&& (3 : Int32))), .val (.int ma), .unset, .unset, .unset] [(.int (3 : Int32)), (.int p4)]))
          refine Rest.via (fun t k => XS.ishr X2.here hx rfl (hb hby at_127) rfl k) ?_
          show Rest p.tables e below s _ _ _ (T2.setTop (mkF m 128 #[.val (.int p0), .val (.int p1), .val (.int p2), .val (.int p3), .val (.int p4), .val (.int ma), .val (.int mb), .val (.int mc), .val (.int md), .val (.ref b1), .val (.int (p4 &&& (3 : Int32))), .val (.int ma), .unset, .unset, .unset] [(.int (p4 >>> ((3 : Int32) &&& 31)))]))
          refine Rest.via (fun t k => XS.iconst X2.here hx rfl (hb hby at_128) k) ?_
          show Rest p.tables e below s _ _ _ (T2.setTop (mkF m 129 #[.val (.int p0), .val (.int p1), .val (.int p2), .val (.int p3), .val (.int p4), .val (.int ma), .val (.int mb), .val (.int mc), .val (.int md), .val (.ref b1), .val (.int (p4 &&& (3 : Int32))), .val (.int ma), .unset, .unset, .unset] [(.int (1 : Int32)), (.int (p4 >>> ((3 : Int32) &&& 31)))]))
          refine Rest.via (fun t k => XS.iand X2.here hx rfl (hb hby at_129) rfl k) ?_
          show Rest p.tables e below s _ _ _ (T2.setTop (mkF m 130 #[.val (.int p0), .val (.int p1), .val (.int p2), .val (.int p3), .val (.int p4), .val (.int ma), .val (.int mb), .val (.int mc), .val (.int md), .val (.ref b1), .val (.int (p4 &&& (3 : Int32))), .val (.int ma), .unset, .unset, .unset] [(.int ((p4 >>> ((3 : Int32) &&& 31)) &&& (1 : Int32)))]))
          by_cases hc130 : ((p4 >>> ((3 : Int32) &&& 31)) &&& (1 : Int32)) = (0 : Int32)
          · refine Rest.via (fun t k => XS.ifYes X2.here hx rfl (pc0 := 130) (pc' := 138) rfl (hb hby at_130) rfl ((if0 _ _).trans (teq hc130).1) (by decide) (by decide) k) ?_
            show Rest p.tables e below s _ _ _ (T2.setTop (mkF m 138 #[.val (.int p0), .val (.int p1), .val (.int p2), .val (.int p3), .val (.int p4), .val (.int ma), .val (.int mb), .val (.int mc), .val (.int md), .val (.ref b1), .val (.int (p4 &&& (3 : Int32))), .val (.int ma), .unset, .unset, .unset] []))
            refine Rest.via (fun t k => XS.iload X2.here hx rfl (hb hby at_138) rfl k) ?_
            show Rest p.tables e below s _ _ _ (T2.setTop (mkF m 140 #[.val (.int p0), .val (.int p1), .val (.int p2), .val (.int p3), .val (.int p4), .val (.int ma), .val (.int mb), .val (.int mc), .val (.int md), .val (.ref b1), .val (.int (p4 &&& (3 : Int32))), .val (.int ma), .unset, .unset, .unset] [(.int md)]))
            refine Rest.via (fun t k => XS.istore X2.here hx rfl (hb hby at_140) rfl (l' := #[.val (.int p0), .val (.int p1), .val (.int p2), .val (.int p3), .val (.int p4), .val (.int ma), .val (.int mb), .val (.int mc), .val (.int md), .val (.ref b1), .val (.int (p4 &&& (3 : Int32))), .val (.int ma), .val (.int md), .unset, .unset]) rfl k) ?_
            show Rest p.tables e below s _ _ _ (T2.setTop (mkF m 142 #[.val (.int p0), .val (.int p1), .val (.int p2), .val (.int p3), .val (.int p4), .val (.int ma), .val (.int mb), .val (.int mc), .val (.int md), .val (.ref b1), .val (.int (p4 &&& (3 : Int32))), .val (.int ma), .val (.int md), .unset, .unset] []))
            exact J142 _ _ hma hmd
          · refine Rest.via (fun t k => XS.ifNo X2.here hx rfl (hb hby at_130) rfl ((if0 _ _).trans (feq hc130).1) k) ?_
            show Rest p.tables e below s _ _ _ (T2.setTop (mkF m 133 #[.val (.int p0), .val (.int p1), .val (.int p2), .val (.int p3), .val (.int p4), .val (.int ma), .val (.int mb), .val (.int mc), .val (.int md), .val (.ref b1), .val (.int (p4 &&& (3 : Int32))), .val (.int ma), .unset, .unset, .unset] []))
            refine Rest.via (fun t k => XS.iload X2.here hx rfl (hb hby at_133) rfl k) ?_
            show Rest p.tables e below s _ _ _ (T2.setTop (mkF m 135 #[.val (.int p0), .val (.int p1), .val (.int p2), .val (.int p3), .val (.int p4), .val (.int ma), .val (.int mb), .val (.int mc), .val (.int md), .val (.ref b1), .val (.int (p4 &&& (3 : Int32))), .val (.int ma), .unset, .unset, .unset] [(.int mb)]))
            refine Rest.via (fun t k => XS.goto X2.here hx rfl (pc0 := 135) (pc' := 140) rfl (hb hby at_135) (by decide) (by decide) k) ?_
            show Rest p.tables e below s _ _ _ (T2.setTop (mkF m 140 #[.val (.int p0), .val (.int p1), .val (.int p2), .val (.int p3), .val (.int p4), .val (.int ma), .val (.int mb), .val (.int mc), .val (.int md), .val (.ref b1), .val (.int (p4 &&& (3 : Int32))), .val (.int ma), .unset, .unset, .unset] [(.int mb)]))
            refine Rest.via (fun t k => XS.istore X2.here hx rfl (hb hby at_140) rfl (l' := #[.val (.int p0), .val (.int p1), .val (.int p2), .val (.int p3), .val (.int p4), .val (.int ma), .val (.int mb), .val (.int mc), .val (.int md), .val (.ref b1), .val (.int (p4 &&& (3 : Int32))), .val (.int ma), .val (.int mb), .unset, .unset]) rfl k) ?_
            show Rest p.tables e below s _ _ _ (T2.setTop (mkF m 142 #[.val (.int p0), .val (.int p1), .val (.int p2), .val (.int p3), .val (.int p4), .val (.int ma), .val (.int mb), .val (.int mc), .val (.int md), .val (.ref b1), .val (.int (p4 &&& (3 : Int32))), .val (.int ma), .val (.int mb), .unset, .unset] []))
            exact J142 _ _ hma hmb
set_option maxRecDepth 65536 in
set_option maxHeartbeats 40000000 in
theorem comes_1 {Post : Tables → Env → Array Value → State → Outcome → State → Prop} (hpost : ∀ tb e args s v u, (limb_1_1.after args s (.returned v) u = true ∧ limb_1_2.after args s (.returned v) u = true ∧ True) → FrameEnd s (.returned v) u (Jvm.fieldLocs frame_1_writes args s ++ Jvm.arrayLocs frame_1_arrays args s ++ Jvm.staticLocs frame_1_statics s) 16 128 → Post tb e args s (.returned v) u) :
    ArmFor flags0 classFile x code maxLocals ret World_1 tables_1 room_1 Calls_1 rest_1 Pre_1 Post := by
  intro l hfl _ _ p e ha hc hk s m args below hf hA hF happ hP
  obtain ⟨hcalls, hrest, hpre⟩ := hP
  obtain ⟨-, -, -, hnamed, -, -, -, hat⟩ := (Spec.applies_iff hf).mp happ
  obtain ⟨hg, hn⟩ := and_e (Cond.before_iff.mp (show (Jvm.Cond.and given_1 narrow_1).before args s = true from hpre))
  obtain ⟨hcnt, hg0⟩ := and_e hg
  obtain ⟨ha0, hg1⟩ := and_e hg0
  obtain ⟨ha1, hg2⟩ := and_e hg1
  obtain ⟨ha2, hg3⟩ := and_e hg2
  obtain ⟨ha3, hg4⟩ := and_e hg3
  have ha4 := hg4
  obtain ⟨w0, w1, w2, w3, w4, rfl⟩ : ∃ w0 w1 w2 w3 w4 : Value, args = #[w0, w1, w2, w3, w4] := by
    have hs : args.size = 5 := by simpa [Cond.value, given_1] using hcnt
    obtain ⟨L⟩ := args
    match L, hs with
    | [w0, w1, w2, w3, w4], _ => exact ⟨w0, w1, w2, w3, w4, rfl⟩
  have hw := fun d (hd : d ∈ tables_1) => atoms_spec (ws := Jvm.Cond.code x code maxLocals ret :: tables_1) hat d (List.mem_cons_of_mem _ hd)
  obtain ⟨hsets, hown0⟩ := atoms_of _ (rest_1_c_eq ▸ (show rest_1_c.before _ s = true from hrest))
  have hr0 := Cond.before_iff.mp hown0
  have hfit : Fit s := fun {y c} hc i hi => by
    obtain ⟨ha, rfl⟩ := Array.getElem?_eq_some_iff.mp hc
    have q := List.all_eq_true.mp ((Array.all_eq_true_iff_forall_mem.mp hF) _ (Array.getElem_mem ha)) i (List.mem_range.mpr hi)
    simpa [Array.getElem?_eq_getElem hi] using q
  obtain ⟨i0, ei0⟩ := is_v ha0
  obtain rfl : w0 = (.int i0) := Option.some.inj ei0
  obtain ⟨i1, ei1⟩ := is_v ha1
  obtain rfl : w1 = (.int i1) := Option.some.inj ei1
  obtain ⟨i2, ei2⟩ := is_v ha2
  obtain rfl : w2 = (.int i2) := Option.some.inj ei2
  obtain ⟨i3, ei3⟩ := is_v ha3
  obtain rfl : w3 = (.int i3) := Option.some.inj ei3
  obtain ⟨i4, ei4⟩ := is_v ha4
  obtain rfl : w4 = (.int i4) := Option.some.inj ei4
  obtain ⟨wc, IC⟩ := own_IC_start (Cond.before_iff.mp (hsets _ (List.mem_of_getElem? (i := 3) rfl))) (hsets _ (List.mem_of_getElem? (i := 1) rfl)) (Cond.before_iff.mp (hsets _ (List.mem_of_getElem? (i := 4) rfl))) (hsets _ (List.mem_of_getElem? (i := 2) rfl)) (hw _ (List.mem_of_getElem? (i := 26) rfl)) (Cond.before_iff.mp (hsets _ (List.mem_of_getElem? (i := 6) rfl))) (Cond.before_iff.mp (hsets _ (List.mem_of_getElem? (i := 7) rfl)))
  obtain ⟨n, o, h1, h2, h3, _, L, rfl, ⟨rfl, N⟩, hq⟩ := rm0 l s _ hw tables_1 i0 i1 i2 i3 i4 wc s.heap s.heap.size (Nat.le_refl _) IC p e ha hc hk s m _ below hf ((Spec.applies_iff_loose hf).mp happ).1 ⟨rfl, State.Warmed39.refl s, rfl⟩ trivial
  refine ⟨n, _, h1, h2, h3, hpost _ _ _ _ _ _ ⟨Cond.after_iff.mpr rfl, Cond.after_iff.mpr (eq_i res_at (Term.int_eval (1)) rfl), trivial⟩ ⟨hq.1, hq.2.1, (hq.2.2.sift fun y hy => Or.inr (N y hy)).mono (by decide) (by decide)⟩⟩
theorem main_1_1 : Claimed_1_1 := comes_1 fun _ _ _ _ _ _ h hF => ⟨h.1, hF⟩
theorem main_1_2 : Claimed_1_2 := comes_1 fun _ _ _ _ _ _ h hF => ⟨h.2.1, hF⟩
end Jvm.Pilot.@@N@@
namespace Jvm.Pilot.@@N@@
open Jvm Jvm.ClassFile Sem Op Lib Jvm.Free Jvm.Stand Jvm.Pilot.@@N@@.Jvm.D
/-! MADE BY PROGRAM (witnessworld.py) out of the Statement's table words and the real class files: 16 classes; the members and pool entries that the words name. The judged class is class 1, her method 1. -/
namespace start1
open Jvm.ClassFile
def u (s : String) : CpInfo := .utf8 (stringToUtf16 s)
/-- a pool by its gaps: so many unusable entries, then the entry; so many at the end -/
def gap : Nat → List CpInfo → List CpInfo
  | 0, r => r
  | n + 1, r => .unusable :: gap n r
def poolList (es : List (Nat × CpInfo)) (last : Nat) : List CpInfo := es.foldr (fun e r => gap e.1 (e.2 :: r)) (gap last [])
def pool (es : List (Nat × CpInfo)) (last : Nat) : Array CpInfo := ⟨poolList es last⟩
def fileOf (pool : Array CpInfo) (this : Nat) (attrs : Array Attribute := #[]) (ms : Array MethodInfo := #[]) (fl : Nat := 33) (sup : Nat := 0) (ifs : Array Nat := #[]) (fds : Array FieldInfo := #[]) : ClassFile where
  minorVersion := 0
  majorVersion := 65
  constantPool := pool
  accessFlags := fl
  thisClass := this
  superClass := sup
  interfaces := ifs
  fields := fds
  methods := ms
  attributes := attrs
def plain (name : String) (sup : Option ClassId) : Class where
  name := name
  kind := .ordinary
  loader := none
  accessFlags := 33
  super := sup
  interfaces := #[]
  cf := none
  fields := #[]
  methods := #[]
  instanceTypes := #[]
  staticTypes := #[]
  resolved := #[]
  callSites := []
  init := .initialized
  statics := none
  mirror := none

def pool0 : Array CpInfo := pool [(5, u "<init>"), (0, u "()V"), (1, .class_ 10), (1, u "java/lang/Object")] 113

def k0c0 : Code := { maxStack := 0, maxLocals := 1, code := object_method_1_code, exceptionTable := #[], attributes := #[] }
def k0m0 : Method := { name := "<init>", desc := "()V", sig := { parameters := [], returnType := none }, accessFlags := 1, code := some k0c0 }
/-- java/lang/Object -/
def k0 : Class := { plain "java/lang/Object" none with
  accessFlags := 33
  interfaces := #[]
  cf := some (fileOf pool0 8 #[] #[{ accessFlags := 1, nameIndex := 5, descriptorIndex := 6, attributes := #[] }] 33 0 #[] #[])
  fields := #[]
  methods := #[k0m0]
  instanceTypes := #[]
  staticTypes := #[]
  resolved := Array.replicate 124 none
  statics := none }

def pool1 : Array CpInfo := pool [(2, .class_ 4), (1, u "java/lang/Object"), (0, u "<init>"), (0, u "()V"), (0, .integer 2147483647), (0, .class_ 9), (0, u "com/example/rollcall/rollcall/model/spring/SpringVersion"), (0, .methodref 8 11), (0, .nameAndType 5 12), (0, u "(II)V"), (0, .methodref 8 14), (0, .nameAndType 15 16), (0, u "equals"), (0, u "(Ljava/lang/Object;)Z"), (0, .methodref 18 19), (0, .class_ 20), (0, .nameAndType 21 22), (0, u "java/lang/Integer"), (0, u "valueOf"), (0, u "(I)Ljava/lang/Integer;"), (0, .class_ 24), (0, u "com/example/rollcall/rollcall/model/spring/SpringVersionEqualsPinLaw"), (2, u "law"), (0, u "(IIIII)Z")] 3

def k1m0 : Method := { name := "<init>", desc := "()V", sig := { parameters := [], returnType := none }, accessFlags := 1, code := none }
def k1c1 : Code := { maxStack := 4, maxLocals := 15, code := code, exceptionTable := #[], attributes := #[] }
def k1m1 : Method := { name := "law", desc := "(IIIII)Z", sig := { parameters := [.int, .int, .int, .int, .int], returnType := some .boolean }, accessFlags := 9, code := some k1c1 }
/-- com/example/rollcall/rollcall/model/spring/SpringVersionEqualsPinLaw -/
def k1 : Class := { plain "com/example/rollcall/rollcall/model/spring/SpringVersionEqualsPinLaw" (some 0) with
  accessFlags := 49
  interfaces := #[]
  cf := some (fileOf pool1 23 #[] #[{ accessFlags := 1, nameIndex := 5, descriptorIndex := 6, attributes := #[] }, { accessFlags := 9, nameIndex := 27, descriptorIndex := 28, attributes := #[] }] 49 2 #[] #[])
  fields := #[]
  methods := #[k1m0, k1m1]
  instanceTypes := #[]
  staticTypes := #[]
  resolved := Array.replicate 32 none
  statics := none }

def pool2 : Array CpInfo := pool [(1, .class_ 2), (0, u "java/lang/Comparable"), (0, .class_ 4), (0, u "java/lang/Object")] 7

/-- java/lang/Comparable -/
def k2 : Class := { plain "java/lang/Comparable" (some 0) with
  accessFlags := 1537
  interfaces := #[]
  cf := some (fileOf pool2 1 #[] #[] 1537 3 #[] #[])
  fields := #[]
  methods := #[]
  instanceTypes := #[]
  staticTypes := #[]
  resolved := Array.replicate 12 none
  statics := none }

def pool3 : Array CpInfo := pool [(1, .methodref 2 3), (0, .class_ 4), (0, .nameAndType 5 6), (0, u "java/lang/Object"), (0, u "<init>"), (0, u "()V"), (9, .fieldref 17 18), (0, .class_ 19), (0, .nameAndType 20 21), (0, u "com/example/rollcall/rollcall/model/spring/SpringVersion"), (0, u "major"), (0, u "I"), (0, .fieldref 17 23), (0, .nameAndType 24 21), (0, u "minor"), (2, u "LINE"), (0, u "Ljava/util/regex/Pattern;"), (12, u "RELEASE"), (30, u "(II)V"), (9, u "ORDER"), (0, u "Ljava/util/Comparator;"), (9, u "NEWEST"), (0, u "Lcom/example/rollcall/rollcall/model/spring/SpringVersion;"), (20, .class_ 116), (0, u "java/lang/Comparable"), (15, u "equals"), (0, u "(Ljava/lang/Object;)Z")] 40

def k3c0 : Code := { maxStack := 4, maxLocals := 3, code := prog_23_method_1_code, exceptionTable := #[], attributes := #[] }
def k3m0 : Method := { name := "<init>", desc := "(II)V", sig := { parameters := [.int, .int], returnType := none }, accessFlags := 1, code := some k3c0 }
def k3c1 : Code := { maxStack := 2, maxLocals := 3, code := prog_23_method_9_code, exceptionTable := #[], attributes := #[] }
def k3m1 : Method := { name := "equals", desc := "(Ljava/lang/Object;)Z", sig := { parameters := [(.object "java/lang/Object")], returnType := some .boolean }, accessFlags := 1, code := some k3c1 }
/-- com/example/rollcall/rollcall/model/spring/SpringVersion -/
def k3 : Class := { plain "com/example/rollcall/rollcall/model/spring/SpringVersion" (some 0) with
  accessFlags := 33
  interfaces := #[2]
  cf := some (fileOf pool3 17 #[] #[{ accessFlags := 1, nameIndex := 5, descriptorIndex := 72, attributes := #[] }, { accessFlags := 1, nameIndex := 132, descriptorIndex := 133, attributes := #[] }] 33 2 #[115] #[{ accessFlags := 25, nameIndex := 93, descriptorIndex := 94, attributes := #[] }, { accessFlags := 26, nameIndex := 82, descriptorIndex := 83, attributes := #[] }, { accessFlags := 26, nameIndex := 27, descriptorIndex := 28, attributes := #[] }, { accessFlags := 26, nameIndex := 41, descriptorIndex := 28, attributes := #[] }, { accessFlags := 18, nameIndex := 20, descriptorIndex := 21, attributes := #[] }, { accessFlags := 18, nameIndex := 24, descriptorIndex := 21, attributes := #[] }])
  fields := #[{ name := "NEWEST", type := (.object "com/example/rollcall/rollcall/model/spring/SpringVersion"), accessFlags := 25, slot := 0, constantValue := 0 }, { name := "ORDER", type := (.object "java/util/Comparator"), accessFlags := 26, slot := 1, constantValue := 0 }, { name := "LINE", type := (.object "java/util/regex/Pattern"), accessFlags := 26, slot := 2, constantValue := 0 }, { name := "RELEASE", type := (.object "java/util/regex/Pattern"), accessFlags := 26, slot := 3, constantValue := 0 }, { name := "major", type := .int, accessFlags := 18, slot := 0, constantValue := 0 }, { name := "minor", type := .int, accessFlags := 18, slot := 1, constantValue := 0 }]
  methods := #[k3m0, k3m1]
  instanceTypes := #[.int, .int]
  staticTypes := #[(.object "com/example/rollcall/rollcall/model/spring/SpringVersion"), (.object "java/util/Comparator"), (.object "java/util/regex/Pattern"), (.object "java/util/regex/Pattern")]
  resolved := Array.replicate 174 none
  statics := none }

def pool4 : Array CpInfo := pool [(1, .class_ 2), (0, u "java/io/Serializable"), (0, .class_ 4), (0, u "java/lang/Object")] 2

/-- java/io/Serializable -/
def k4 : Class := { plain "java/io/Serializable" (some 0) with
  accessFlags := 1537
  interfaces := #[]
  cf := some (fileOf pool4 1 #[] #[] 1537 3 #[] #[])
  fields := #[]
  methods := #[]
  instanceTypes := #[]
  staticTypes := #[]
  resolved := Array.replicate 7 none
  statics := none }

def pool5 : Array CpInfo := pool [(1, .methodref 2 3), (0, .class_ 4), (0, .nameAndType 5 6), (0, u "java/lang/Object"), (0, u "<init>"), (0, u "()V"), (1, .class_ 10), (1, u "java/lang/Number"), (2, .class_ 14), (0, u "java/io/Serializable"), (0, u "serialVersionUID"), (0, u "J")] 20

def k5c0 : Code := { maxStack := 1, maxLocals := 1, code := jdk_18_method_1_code, exceptionTable := #[], attributes := #[] }
def k5m0 : Method := { name := "<init>", desc := "()V", sig := { parameters := [], returnType := none }, accessFlags := 1, code := some k5c0 }
/-- java/lang/Number -/
def k5 : Class := { plain "java/lang/Number" (some 0) with
  accessFlags := 1057
  interfaces := #[4]
  cf := some (fileOf pool5 8 #[] #[{ accessFlags := 1, nameIndex := 5, descriptorIndex := 6, attributes := #[] }] 1057 2 #[13] #[{ accessFlags := 26, nameIndex := 15, descriptorIndex := 16, attributes := #[] }])
  fields := #[{ name := "serialVersionUID", type := .long, accessFlags := 26, slot := 0, constantValue := 0 }]
  methods := #[k5m0]
  instanceTypes := #[]
  staticTypes := #[.long]
  resolved := Array.replicate 37 none
  statics := none }

def pool6 : Array CpInfo := pool [(1, .class_ 2), (0, u "java/lang/constant/Constable"), (0, .class_ 4), (0, u "java/lang/Object")] 6

/-- java/lang/constant/Constable -/
def k6 : Class := { plain "java/lang/constant/Constable" (some 0) with
  accessFlags := 1537
  interfaces := #[]
  cf := some (fileOf pool6 1 #[] #[] 1537 3 #[] #[])
  fields := #[]
  methods := #[]
  instanceTypes := #[]
  staticTypes := #[]
  resolved := Array.replicate 11 none
  statics := none }

def pool7 : Array CpInfo := pool [(1, .class_ 2), (0, u "java/lang/constant/ConstantDesc"), (0, .class_ 4), (0, u "java/lang/Object")] 32

/-- java/lang/constant/ConstantDesc -/
def k7 : Class := { plain "java/lang/constant/ConstantDesc" (some 0) with
  accessFlags := 1537
  interfaces := #[]
  cf := some (fileOf pool7 1 #[] #[] 1537 3 #[] #[])
  fields := #[]
  methods := #[]
  instanceTypes := #[]
  staticTypes := #[]
  resolved := Array.replicate 37 none
  statics := none }

def pool8 : Array CpInfo := pool [(1, .class_ 2), (0, u "java/lang/Integer"), (16, u "digits"), (0, u "[C"), (46, u "<init>"), (17, u "DigitOnes"), (0, u "[B"), (2, u "DigitTens"), (10, .nameAndType 67 101), (0, u "()V"), (85, u "valueOf"), (0, u "(I)Ljava/lang/Integer;"), (0, .class_ 190), (0, u "java/lang/Integer$IntegerCache"), (0, .fieldref 189 192), (0, .nameAndType 193 194), (0, u "high"), (0, u "I"), (0, .fieldref 189 196), (0, .nameAndType 197 198), (0, u "cache"), (0, u "[Ljava/lang/Integer;"), (0, .methodref 1 200), (0, .nameAndType 67 201), (0, u "(I)V"), (0, .methodref 203 100), (0, .class_ 204), (0, u "java/lang/Number"), (0, .fieldref 1 206), (0, .nameAndType 207 194), (0, u "value"), (94, u "TYPE"), (0, u "Ljava/lang/Class;"), (0, .class_ 305), (0, u "java/lang/Comparable"), (0, .class_ 307), (0, u "java/lang/constant/Constable"), (0, .class_ 309), (0, u "java/lang/constant/ConstantDesc"), (0, u "MIN_VALUE"), (1, u "MAX_VALUE"), (3, u "SIZE"), (1, u "BYTES"), (1, u "serialVersionUID"), (0, u "J")] 131

def k8c0 : Code := { maxStack := 3, maxLocals := 1, code := jdk_33_method_22_code, exceptionTable := #[], attributes := #[] }
def k8m0 : Method := { name := "valueOf", desc := "(I)Ljava/lang/Integer;", sig := { parameters := [.int], returnType := some (.object "java/lang/Integer") }, accessFlags := 9, code := some k8c0 }
def k8c1 : Code := { maxStack := 2, maxLocals := 2, code := jdk_33_method_23_code, exceptionTable := #[], attributes := #[] }
def k8m1 : Method := { name := "<init>", desc := "(I)V", sig := { parameters := [.int], returnType := none }, accessFlags := 1, code := some k8c1 }
/-- java/lang/Integer -/
def k8 : Class := { plain "java/lang/Integer" (some 5) with
  accessFlags := 49
  interfaces := #[2, 6, 7]
  cf := some (fileOf pool8 1 #[.nestMembers #[189]] #[{ accessFlags := 9, nameIndex := 187, descriptorIndex := 188, attributes := #[] }, { accessFlags := 1, nameIndex := 67, descriptorIndex := 201, attributes := #[] }] 49 203 #[304, 306, 308] #[{ accessFlags := 25, nameIndex := 310, descriptorIndex := 194, attributes := #[] }, { accessFlags := 25, nameIndex := 312, descriptorIndex := 194, attributes := #[] }, { accessFlags := 25, nameIndex := 302, descriptorIndex := 303, attributes := #[] }, { accessFlags := 24, nameIndex := 19, descriptorIndex := 20, attributes := #[] }, { accessFlags := 24, nameIndex := 89, descriptorIndex := 86, attributes := #[] }, { accessFlags := 24, nameIndex := 85, descriptorIndex := 86, attributes := #[] }, { accessFlags := 18, nameIndex := 207, descriptorIndex := 194, attributes := #[] }, { accessFlags := 25, nameIndex := 316, descriptorIndex := 194, attributes := #[] }, { accessFlags := 25, nameIndex := 318, descriptorIndex := 194, attributes := #[] }, { accessFlags := 26, nameIndex := 320, descriptorIndex := 321, attributes := #[] }])
  fields := #[{ name := "MIN_VALUE", type := .int, accessFlags := 25, slot := 0, constantValue := 0 }, { name := "MAX_VALUE", type := .int, accessFlags := 25, slot := 1, constantValue := 0 }, { name := "TYPE", type := (.object "java/lang/Class"), accessFlags := 25, slot := 2, constantValue := 0 }, { name := "digits", type := (.array .char), accessFlags := 24, slot := 3, constantValue := 0 }, { name := "DigitTens", type := (.array .byte), accessFlags := 24, slot := 4, constantValue := 0 }, { name := "DigitOnes", type := (.array .byte), accessFlags := 24, slot := 5, constantValue := 0 }, { name := "value", type := .int, accessFlags := 18, slot := 0, constantValue := 0 }, { name := "SIZE", type := .int, accessFlags := 25, slot := 6, constantValue := 0 }, { name := "BYTES", type := .int, accessFlags := 25, slot := 7, constantValue := 0 }, { name := "serialVersionUID", type := .long, accessFlags := 26, slot := 8, constantValue := 0 }]
  methods := #[k8m0, k8m1]
  instanceTypes := #[.int]
  staticTypes := #[.int, .int, (.object "java/lang/Class"), (.array .char), (.array .byte), (.array .byte), .int, .int, .long]
  resolved := Array.replicate 453 none
  statics := none }

def pool9 : Array CpInfo := pool [(2, .class_ 4), (1, u "java/lang/Object"), (0, u "<init>"), (0, u "()V"), (0, .class_ 8), (0, u "java/lang/Integer"), (7, .class_ 18), (1, u "java/lang/Integer$IntegerCache"), (0, u "$assertionsDisabled"), (0, u "Z"), (26, u "high"), (0, u "I"), (8, u "archivedCache"), (0, u "[Ljava/lang/Integer;"), (12, u "cache"), (0, u "low")] 27

def k9m0 : Method := { name := "<init>", desc := "()V", sig := { parameters := [], returnType := none }, accessFlags := 2, code := none }
/-- java/lang/Integer$IntegerCache -/
def k9 : Class := { plain "java/lang/Integer$IntegerCache" (some 0) with
  accessFlags := 48
  interfaces := #[]
  cf := some (fileOf pool9 16 #[.nestHost 7] #[{ accessFlags := 2, nameIndex := 5, descriptorIndex := 6, attributes := #[] }] 48 2 #[] #[{ accessFlags := 24, nameIndex := 72, descriptorIndex := 48, attributes := #[] }, { accessFlags := 24, nameIndex := 47, descriptorIndex := 48, attributes := #[] }, { accessFlags := 24, nameIndex := 71, descriptorIndex := 58, attributes := #[] }, { accessFlags := 8, nameIndex := 57, descriptorIndex := 58, attributes := #[] }, { accessFlags := 4120, nameIndex := 19, descriptorIndex := 20, attributes := #[] }])
  fields := #[{ name := "low", type := .int, accessFlags := 24, slot := 0, constantValue := 0 }, { name := "high", type := .int, accessFlags := 24, slot := 1, constantValue := 0 }, { name := "cache", type := (.array (.object "java/lang/Integer")), accessFlags := 24, slot := 2, constantValue := 0 }, { name := "archivedCache", type := (.array (.object "java/lang/Integer")), accessFlags := 8, slot := 3, constantValue := 0 }, { name := "$assertionsDisabled", type := .boolean, accessFlags := 4120, slot := 4, constantValue := 0 }]
  methods := #[k9m0]
  instanceTypes := #[]
  staticTypes := #[.int, .int, (.array (.object "java/lang/Integer")), (.array (.object "java/lang/Integer")), .boolean]
  resolved := Array.replicate 100 none
  statics := some 0 }

def pool10 : Array CpInfo := pool [(1, u "java/lang/Cloneable"), (0, .class_ 1), (0, u "java/lang/Object"), (0, .class_ 3)] 3

/-- java/lang/Cloneable -/
def k10 : Class := { plain "java/lang/Cloneable" (some 0) with
  accessFlags := 1537
  interfaces := #[]
  cf := some (fileOf pool10 2 #[] #[] 1537 4 #[] #[])
  fields := #[]
  methods := #[]
  instanceTypes := #[]
  staticTypes := #[]
  resolved := Array.replicate 8 none
  statics := none }

/-- the primitive byte -/
def k11 : Class := { plain "byte" none with kind := .primitive 'B', accessFlags := 0x411 }
/-- [B -/
def k12 : Class := { plain "[B" (some 0) with kind := .array 11 .byte, interfaces := #[10, 4], accessFlags := 1041 }

/-- the primitive int -/
def k13 : Class := { plain "int" none with kind := .primitive 'I', accessFlags := 0x411 }
/-- [I -/
def k14 : Class := { plain "[I" (some 0) with kind := .array 13 .int, interfaces := #[10, 4], accessFlags := 1041 }

/-- [Ljava/lang/Integer; -/
def k15 : Class := { plain "[Ljava/lang/Integer;" (some 0) with kind := .array 8 (.object "java/lang/Integer"), interfaces := #[10, 4], accessFlags := 1041 }

def heap : Heap := #[{ cls := 9, slots := #[.int 0, .int 127, .ref 1, .null, .int 0], vm := .statics 9 },
  { cls := 15, slots := #[.ref 2, .ref 3, .ref 4, .ref 5, .ref 6, .ref 7, .ref 8, .ref 9, .ref 10, .ref 11, .ref 12, .ref 13, .ref 14, .ref 15, .ref 16, .ref 17, .ref 18, .ref 19, .ref 20, .ref 21, .ref 22, .ref 23, .ref 24, .ref 25, .ref 26, .ref 27, .ref 28, .ref 29, .ref 30, .ref 31, .ref 32, .ref 33, .ref 34, .ref 35, .ref 36, .ref 37, .ref 38, .ref 39, .ref 40, .ref 41, .ref 42, .ref 43, .ref 44, .ref 45, .ref 46, .ref 47, .ref 48, .ref 49, .ref 50, .ref 51, .ref 52, .ref 53, .ref 54, .ref 55, .ref 56, .ref 57, .ref 58, .ref 59, .ref 60, .ref 61, .ref 62, .ref 63, .ref 64, .ref 65, .ref 66, .ref 67, .ref 68, .ref 69, .ref 70, .ref 71, .ref 72, .ref 73, .ref 74, .ref 75, .ref 76, .ref 77, .ref 78, .ref 79, .ref 80, .ref 81, .ref 82, .ref 83, .ref 84, .ref 85, .ref 86, .ref 87, .ref 88, .ref 89, .ref 90, .ref 91, .ref 92, .ref 93, .ref 94, .ref 95, .ref 96, .ref 97, .ref 98, .ref 99, .ref 100, .ref 101, .ref 102, .ref 103, .ref 104, .ref 105, .ref 106, .ref 107, .ref 108, .ref 109, .ref 110, .ref 111, .ref 112, .ref 113, .ref 114, .ref 115, .ref 116, .ref 117, .ref 118, .ref 119, .ref 120, .ref 121, .ref 122, .ref 123, .ref 124, .ref 125, .ref 126, .ref 127, .ref 128, .ref 129, .ref 130, .ref 131, .ref 132, .ref 133, .ref 134, .ref 135, .ref 136, .ref 137, .ref 138, .ref 139, .ref 140, .ref 141, .ref 142, .ref 143, .ref 144, .ref 145, .ref 146, .ref 147, .ref 148, .ref 149, .ref 150, .ref 151, .ref 152, .ref 153, .ref 154, .ref 155, .ref 156, .ref 157, .ref 158, .ref 159, .ref 160, .ref 161, .ref 162, .ref 163, .ref 164, .ref 165, .ref 166, .ref 167, .ref 168, .ref 169, .ref 170, .ref 171, .ref 172, .ref 173, .ref 174, .ref 175, .ref 176, .ref 177, .ref 178, .ref 179, .ref 180, .ref 181, .ref 182, .ref 183, .ref 184, .ref 185, .ref 186, .ref 187, .ref 188, .ref 189, .ref 190, .ref 191, .ref 192, .ref 193, .ref 194, .ref 195, .ref 196, .ref 197, .ref 198, .ref 199, .ref 200, .ref 201, .ref 202, .ref 203, .ref 204, .ref 205, .ref 206, .ref 207, .ref 208, .ref 209, .ref 210, .ref 211, .ref 212, .ref 213, .ref 214, .ref 215, .ref 216, .ref 217, .ref 218, .ref 219, .ref 220, .ref 221, .ref 222, .ref 223, .ref 224, .ref 225, .ref 226, .ref 227, .ref 228, .ref 229, .ref 230, .ref 231, .ref 232, .ref 233, .ref 234, .ref 235, .ref 236, .ref 237, .ref 238, .ref 239, .ref 240, .ref 241, .ref 242, .ref 243, .ref 244, .ref 245, .ref 246, .ref 247, .ref 248, .ref 249, .ref 250, .ref 251, .ref 252, .ref 253, .ref 254, .ref 255, .ref 256, .ref 257], vm := .none },
  { cls := 8, slots := #[.int (-128)], vm := .none },
  { cls := 8, slots := #[.int (-127)], vm := .none },
  { cls := 8, slots := #[.int (-126)], vm := .none },
  { cls := 8, slots := #[.int (-125)], vm := .none },
  { cls := 8, slots := #[.int (-124)], vm := .none },
  { cls := 8, slots := #[.int (-123)], vm := .none },
  { cls := 8, slots := #[.int (-122)], vm := .none },
  { cls := 8, slots := #[.int (-121)], vm := .none },
  { cls := 8, slots := #[.int (-120)], vm := .none },
  { cls := 8, slots := #[.int (-119)], vm := .none },
  { cls := 8, slots := #[.int (-118)], vm := .none },
  { cls := 8, slots := #[.int (-117)], vm := .none },
  { cls := 8, slots := #[.int (-116)], vm := .none },
  { cls := 8, slots := #[.int (-115)], vm := .none },
  { cls := 8, slots := #[.int (-114)], vm := .none },
  { cls := 8, slots := #[.int (-113)], vm := .none },
  { cls := 8, slots := #[.int (-112)], vm := .none },
  { cls := 8, slots := #[.int (-111)], vm := .none },
  { cls := 8, slots := #[.int (-110)], vm := .none },
  { cls := 8, slots := #[.int (-109)], vm := .none },
  { cls := 8, slots := #[.int (-108)], vm := .none },
  { cls := 8, slots := #[.int (-107)], vm := .none },
  { cls := 8, slots := #[.int (-106)], vm := .none },
  { cls := 8, slots := #[.int (-105)], vm := .none },
  { cls := 8, slots := #[.int (-104)], vm := .none },
  { cls := 8, slots := #[.int (-103)], vm := .none },
  { cls := 8, slots := #[.int (-102)], vm := .none },
  { cls := 8, slots := #[.int (-101)], vm := .none },
  { cls := 8, slots := #[.int (-100)], vm := .none },
  { cls := 8, slots := #[.int (-99)], vm := .none },
  { cls := 8, slots := #[.int (-98)], vm := .none },
  { cls := 8, slots := #[.int (-97)], vm := .none },
  { cls := 8, slots := #[.int (-96)], vm := .none },
  { cls := 8, slots := #[.int (-95)], vm := .none },
  { cls := 8, slots := #[.int (-94)], vm := .none },
  { cls := 8, slots := #[.int (-93)], vm := .none },
  { cls := 8, slots := #[.int (-92)], vm := .none },
  { cls := 8, slots := #[.int (-91)], vm := .none },
  { cls := 8, slots := #[.int (-90)], vm := .none },
  { cls := 8, slots := #[.int (-89)], vm := .none },
  { cls := 8, slots := #[.int (-88)], vm := .none },
  { cls := 8, slots := #[.int (-87)], vm := .none },
  { cls := 8, slots := #[.int (-86)], vm := .none },
  { cls := 8, slots := #[.int (-85)], vm := .none },
  { cls := 8, slots := #[.int (-84)], vm := .none },
  { cls := 8, slots := #[.int (-83)], vm := .none },
  { cls := 8, slots := #[.int (-82)], vm := .none },
  { cls := 8, slots := #[.int (-81)], vm := .none },
  { cls := 8, slots := #[.int (-80)], vm := .none },
  { cls := 8, slots := #[.int (-79)], vm := .none },
  { cls := 8, slots := #[.int (-78)], vm := .none },
  { cls := 8, slots := #[.int (-77)], vm := .none },
  { cls := 8, slots := #[.int (-76)], vm := .none },
  { cls := 8, slots := #[.int (-75)], vm := .none },
  { cls := 8, slots := #[.int (-74)], vm := .none },
  { cls := 8, slots := #[.int (-73)], vm := .none },
  { cls := 8, slots := #[.int (-72)], vm := .none },
  { cls := 8, slots := #[.int (-71)], vm := .none },
  { cls := 8, slots := #[.int (-70)], vm := .none },
  { cls := 8, slots := #[.int (-69)], vm := .none },
  { cls := 8, slots := #[.int (-68)], vm := .none },
  { cls := 8, slots := #[.int (-67)], vm := .none },
  { cls := 8, slots := #[.int (-66)], vm := .none },
  { cls := 8, slots := #[.int (-65)], vm := .none },
  { cls := 8, slots := #[.int (-64)], vm := .none },
  { cls := 8, slots := #[.int (-63)], vm := .none },
  { cls := 8, slots := #[.int (-62)], vm := .none },
  { cls := 8, slots := #[.int (-61)], vm := .none },
  { cls := 8, slots := #[.int (-60)], vm := .none },
  { cls := 8, slots := #[.int (-59)], vm := .none },
  { cls := 8, slots := #[.int (-58)], vm := .none },
  { cls := 8, slots := #[.int (-57)], vm := .none },
  { cls := 8, slots := #[.int (-56)], vm := .none },
  { cls := 8, slots := #[.int (-55)], vm := .none },
  { cls := 8, slots := #[.int (-54)], vm := .none },
  { cls := 8, slots := #[.int (-53)], vm := .none },
  { cls := 8, slots := #[.int (-52)], vm := .none },
  { cls := 8, slots := #[.int (-51)], vm := .none },
  { cls := 8, slots := #[.int (-50)], vm := .none },
  { cls := 8, slots := #[.int (-49)], vm := .none },
  { cls := 8, slots := #[.int (-48)], vm := .none },
  { cls := 8, slots := #[.int (-47)], vm := .none },
  { cls := 8, slots := #[.int (-46)], vm := .none },
  { cls := 8, slots := #[.int (-45)], vm := .none },
  { cls := 8, slots := #[.int (-44)], vm := .none },
  { cls := 8, slots := #[.int (-43)], vm := .none },
  { cls := 8, slots := #[.int (-42)], vm := .none },
  { cls := 8, slots := #[.int (-41)], vm := .none },
  { cls := 8, slots := #[.int (-40)], vm := .none },
  { cls := 8, slots := #[.int (-39)], vm := .none },
  { cls := 8, slots := #[.int (-38)], vm := .none },
  { cls := 8, slots := #[.int (-37)], vm := .none },
  { cls := 8, slots := #[.int (-36)], vm := .none },
  { cls := 8, slots := #[.int (-35)], vm := .none },
  { cls := 8, slots := #[.int (-34)], vm := .none },
  { cls := 8, slots := #[.int (-33)], vm := .none },
  { cls := 8, slots := #[.int (-32)], vm := .none },
  { cls := 8, slots := #[.int (-31)], vm := .none },
  { cls := 8, slots := #[.int (-30)], vm := .none },
  { cls := 8, slots := #[.int (-29)], vm := .none },
  { cls := 8, slots := #[.int (-28)], vm := .none },
  { cls := 8, slots := #[.int (-27)], vm := .none },
  { cls := 8, slots := #[.int (-26)], vm := .none },
  { cls := 8, slots := #[.int (-25)], vm := .none },
  { cls := 8, slots := #[.int (-24)], vm := .none },
  { cls := 8, slots := #[.int (-23)], vm := .none },
  { cls := 8, slots := #[.int (-22)], vm := .none },
  { cls := 8, slots := #[.int (-21)], vm := .none },
  { cls := 8, slots := #[.int (-20)], vm := .none },
  { cls := 8, slots := #[.int (-19)], vm := .none },
  { cls := 8, slots := #[.int (-18)], vm := .none },
  { cls := 8, slots := #[.int (-17)], vm := .none },
  { cls := 8, slots := #[.int (-16)], vm := .none },
  { cls := 8, slots := #[.int (-15)], vm := .none },
  { cls := 8, slots := #[.int (-14)], vm := .none },
  { cls := 8, slots := #[.int (-13)], vm := .none },
  { cls := 8, slots := #[.int (-12)], vm := .none },
  { cls := 8, slots := #[.int (-11)], vm := .none },
  { cls := 8, slots := #[.int (-10)], vm := .none },
  { cls := 8, slots := #[.int (-9)], vm := .none },
  { cls := 8, slots := #[.int (-8)], vm := .none },
  { cls := 8, slots := #[.int (-7)], vm := .none },
  { cls := 8, slots := #[.int (-6)], vm := .none },
  { cls := 8, slots := #[.int (-5)], vm := .none },
  { cls := 8, slots := #[.int (-4)], vm := .none },
  { cls := 8, slots := #[.int (-3)], vm := .none },
  { cls := 8, slots := #[.int (-2)], vm := .none },
  { cls := 8, slots := #[.int (-1)], vm := .none },
  { cls := 8, slots := #[.int (0)], vm := .none },
  { cls := 8, slots := #[.int (1)], vm := .none },
  { cls := 8, slots := #[.int (2)], vm := .none },
  { cls := 8, slots := #[.int (3)], vm := .none },
  { cls := 8, slots := #[.int (4)], vm := .none },
  { cls := 8, slots := #[.int (5)], vm := .none },
  { cls := 8, slots := #[.int (6)], vm := .none },
  { cls := 8, slots := #[.int (7)], vm := .none },
  { cls := 8, slots := #[.int (8)], vm := .none },
  { cls := 8, slots := #[.int (9)], vm := .none },
  { cls := 8, slots := #[.int (10)], vm := .none },
  { cls := 8, slots := #[.int (11)], vm := .none },
  { cls := 8, slots := #[.int (12)], vm := .none },
  { cls := 8, slots := #[.int (13)], vm := .none },
  { cls := 8, slots := #[.int (14)], vm := .none },
  { cls := 8, slots := #[.int (15)], vm := .none },
  { cls := 8, slots := #[.int (16)], vm := .none },
  { cls := 8, slots := #[.int (17)], vm := .none },
  { cls := 8, slots := #[.int (18)], vm := .none },
  { cls := 8, slots := #[.int (19)], vm := .none },
  { cls := 8, slots := #[.int (20)], vm := .none },
  { cls := 8, slots := #[.int (21)], vm := .none },
  { cls := 8, slots := #[.int (22)], vm := .none },
  { cls := 8, slots := #[.int (23)], vm := .none },
  { cls := 8, slots := #[.int (24)], vm := .none },
  { cls := 8, slots := #[.int (25)], vm := .none },
  { cls := 8, slots := #[.int (26)], vm := .none },
  { cls := 8, slots := #[.int (27)], vm := .none },
  { cls := 8, slots := #[.int (28)], vm := .none },
  { cls := 8, slots := #[.int (29)], vm := .none },
  { cls := 8, slots := #[.int (30)], vm := .none },
  { cls := 8, slots := #[.int (31)], vm := .none },
  { cls := 8, slots := #[.int (32)], vm := .none },
  { cls := 8, slots := #[.int (33)], vm := .none },
  { cls := 8, slots := #[.int (34)], vm := .none },
  { cls := 8, slots := #[.int (35)], vm := .none },
  { cls := 8, slots := #[.int (36)], vm := .none },
  { cls := 8, slots := #[.int (37)], vm := .none },
  { cls := 8, slots := #[.int (38)], vm := .none },
  { cls := 8, slots := #[.int (39)], vm := .none },
  { cls := 8, slots := #[.int (40)], vm := .none },
  { cls := 8, slots := #[.int (41)], vm := .none },
  { cls := 8, slots := #[.int (42)], vm := .none },
  { cls := 8, slots := #[.int (43)], vm := .none },
  { cls := 8, slots := #[.int (44)], vm := .none },
  { cls := 8, slots := #[.int (45)], vm := .none },
  { cls := 8, slots := #[.int (46)], vm := .none },
  { cls := 8, slots := #[.int (47)], vm := .none },
  { cls := 8, slots := #[.int (48)], vm := .none },
  { cls := 8, slots := #[.int (49)], vm := .none },
  { cls := 8, slots := #[.int (50)], vm := .none },
  { cls := 8, slots := #[.int (51)], vm := .none },
  { cls := 8, slots := #[.int (52)], vm := .none },
  { cls := 8, slots := #[.int (53)], vm := .none },
  { cls := 8, slots := #[.int (54)], vm := .none },
  { cls := 8, slots := #[.int (55)], vm := .none },
  { cls := 8, slots := #[.int (56)], vm := .none },
  { cls := 8, slots := #[.int (57)], vm := .none },
  { cls := 8, slots := #[.int (58)], vm := .none },
  { cls := 8, slots := #[.int (59)], vm := .none },
  { cls := 8, slots := #[.int (60)], vm := .none },
  { cls := 8, slots := #[.int (61)], vm := .none },
  { cls := 8, slots := #[.int (62)], vm := .none },
  { cls := 8, slots := #[.int (63)], vm := .none },
  { cls := 8, slots := #[.int (64)], vm := .none },
  { cls := 8, slots := #[.int (65)], vm := .none },
  { cls := 8, slots := #[.int (66)], vm := .none },
  { cls := 8, slots := #[.int (67)], vm := .none },
  { cls := 8, slots := #[.int (68)], vm := .none },
  { cls := 8, slots := #[.int (69)], vm := .none },
  { cls := 8, slots := #[.int (70)], vm := .none },
  { cls := 8, slots := #[.int (71)], vm := .none },
  { cls := 8, slots := #[.int (72)], vm := .none },
  { cls := 8, slots := #[.int (73)], vm := .none },
  { cls := 8, slots := #[.int (74)], vm := .none },
  { cls := 8, slots := #[.int (75)], vm := .none },
  { cls := 8, slots := #[.int (76)], vm := .none },
  { cls := 8, slots := #[.int (77)], vm := .none },
  { cls := 8, slots := #[.int (78)], vm := .none },
  { cls := 8, slots := #[.int (79)], vm := .none },
  { cls := 8, slots := #[.int (80)], vm := .none },
  { cls := 8, slots := #[.int (81)], vm := .none },
  { cls := 8, slots := #[.int (82)], vm := .none },
  { cls := 8, slots := #[.int (83)], vm := .none },
  { cls := 8, slots := #[.int (84)], vm := .none },
  { cls := 8, slots := #[.int (85)], vm := .none },
  { cls := 8, slots := #[.int (86)], vm := .none },
  { cls := 8, slots := #[.int (87)], vm := .none },
  { cls := 8, slots := #[.int (88)], vm := .none },
  { cls := 8, slots := #[.int (89)], vm := .none },
  { cls := 8, slots := #[.int (90)], vm := .none },
  { cls := 8, slots := #[.int (91)], vm := .none },
  { cls := 8, slots := #[.int (92)], vm := .none },
  { cls := 8, slots := #[.int (93)], vm := .none },
  { cls := 8, slots := #[.int (94)], vm := .none },
  { cls := 8, slots := #[.int (95)], vm := .none },
  { cls := 8, slots := #[.int (96)], vm := .none },
  { cls := 8, slots := #[.int (97)], vm := .none },
  { cls := 8, slots := #[.int (98)], vm := .none },
  { cls := 8, slots := #[.int (99)], vm := .none },
  { cls := 8, slots := #[.int (100)], vm := .none },
  { cls := 8, slots := #[.int (101)], vm := .none },
  { cls := 8, slots := #[.int (102)], vm := .none },
  { cls := 8, slots := #[.int (103)], vm := .none },
  { cls := 8, slots := #[.int (104)], vm := .none },
  { cls := 8, slots := #[.int (105)], vm := .none },
  { cls := 8, slots := #[.int (106)], vm := .none },
  { cls := 8, slots := #[.int (107)], vm := .none },
  { cls := 8, slots := #[.int (108)], vm := .none },
  { cls := 8, slots := #[.int (109)], vm := .none },
  { cls := 8, slots := #[.int (110)], vm := .none },
  { cls := 8, slots := #[.int (111)], vm := .none },
  { cls := 8, slots := #[.int (112)], vm := .none },
  { cls := 8, slots := #[.int (113)], vm := .none },
  { cls := 8, slots := #[.int (114)], vm := .none },
  { cls := 8, slots := #[.int (115)], vm := .none },
  { cls := 8, slots := #[.int (116)], vm := .none },
  { cls := 8, slots := #[.int (117)], vm := .none },
  { cls := 8, slots := #[.int (118)], vm := .none },
  { cls := 8, slots := #[.int (119)], vm := .none },
  { cls := 8, slots := #[.int (120)], vm := .none },
  { cls := 8, slots := #[.int (121)], vm := .none },
  { cls := 8, slots := #[.int (122)], vm := .none },
  { cls := 8, slots := #[.int (123)], vm := .none },
  { cls := 8, slots := #[.int (124)], vm := .none },
  { cls := 8, slots := #[.int (125)], vm := .none },
  { cls := 8, slots := #[.int (126)], vm := .none },
  { cls := 8, slots := #[.int (127)], vm := .none }]
def classes : Array Class := #[k0, k1, k2, k3, k4, k5, k6, k7, k8, k9, k10, k11, k12, k13, k14, k15]
def interned : List (Array UInt16 × Addr) := []
def slotsUsed : Nat := 517
def theMethod : MethodId := ⟨1, 1⟩
def args0 : Array Value := #[.int 500, .int 6, .int 1, .int 3, .int 1]
def aboutOver (below : List Frame) : State where
  vm := { classes := classes, interned := interned.toArray }
  heap := heap
  slotsUsed := slotsUsed
  threads := #[{ frames := .invoking theMethod args0 :: below }]
def below0 : List Frame := [.native { method := ⟨0, 0⟩, args := #[] }]
def about1 : State := aboutOver below0
def p0 : Program := .bare "" "" ""
def e0 : Env := launch0.env 0 0 0
theorem w_frames : about1.frames = Frame.invoking theMethod args0 :: below0 := rfl
set_option maxRecDepth 65536 in
theorem w_args : argsFit about1.vm theMethod args0 = true := by decide +kernel
set_option maxRecDepth 65536 in
theorem w_heap : heapFits about1 = true := by decide +kernel
set_option maxRecDepth 65536 in
theorem w_runnable : about1.curStatus? = some .runnable := by decide +kernel
set_option maxRecDepth 65536 in
theorem w_alone : about1.alone = true := by decide +kernel
set_option maxRecDepth 65536 in
theorem w_named : about1.methodNamed? x = some theMethod := by decide +kernel
set_option maxRecDepth 65536 in
theorem w_hears : about1.hears theMethod below0 = true := by decide +kernel
set_option maxRecDepth 65536 in
theorem w_ripe : about1.ripe theMethod args0 below0 = true := by decide +kernel
theorem w_running : about1.status = .running := rfl
set_option maxRecDepth 65536 in
theorem w_room : about1.hasRoom e0.platform room_1 = true :=
  launch0.hasRoom_least _ room_1 (by decide +kernel) (by decide +kernel) (by decide +kernel) (by decide +kernel) (by decide +kernel) (by decide +kernel)
theorem allAtoms_all (ts : List Jvm.Cond) (a : Array Jvm.Value) (st : Jvm.State) : (allAtoms ts).before a st = ts.all (fun c => c.before a st) := by
  induction ts with
  | nil => rfl
  | cons c t ih =>
    show (Jvm.Cond.and c (allAtoms t)).before a st = _
    rw [Jvm.Cond.before_and, ih, List.all_cons]
def words1 : List Jvm.Cond := Jvm.Cond.code x code maxLocals ret :: tables_1
/-- a 'code' word, met by the world's own term for the bytes: nothing is compared byte by byte -/
theorem code_word {y : MethodName} {bytes : ByteArray} {mx : Nat} {rt : Option FieldType} {a : Array Value} {s : State} {m : MethodId} {meth : Method} {c : Code} (h1 : s.methodNamed? y = some m) (h2 : s.vm.method? m = some meth) (h3 : meth.code = some c) (h4 : c.code = bytes)
    (h5 : (c.maxLocals == mx && c.exceptionTable.isEmpty && decide (c.maxStack ≤ mostOperands) && decide (meth.sig.returnType = rt) && !meth.locks && decide (parseMethodDescriptor y.desc = some meth.sig)) = true) : (Jvm.Cond.code y bytes mx rt).before a s = true := by
  simp only [Bool.and_eq_true, beq_iff_eq, Bool.not_eq_true', decide_eq_true_eq] at h5
  obtain ⟨⟨⟨⟨⟨g1, g2⟩, g3⟩, g4⟩, g5⟩, g6⟩ := h5
  simp [Cond.before, Cond.holds, Cond.value, h1, h2, h3, h4, g1, g2, g3, g4, g5, g6]
def isCode : Jvm.Cond → Bool
  | .code _ _ _ _ => true
  | _ => false
theorem all_split {L : List Jvm.Cond} {P : Jvm.Cond → Bool} (h1 : L.all (fun c => isCode c || P c) = true) (h2 : ∀ c ∈ L.filter isCode, P c = true) : L.all P = true := by
  refine List.all_eq_true.mpr fun c hc => ?_
  have h := List.all_eq_true.mp h1 c hc
  rcases Bool.eq_false_or_eq_true (isCode c) with hi | hi
  · exact h2 c (List.mem_filter.mpr ⟨hc, hi⟩)
  · simpa [hi] using h
set_option maxRecDepth 65536 in
theorem w_c0 : (Jvm.Cond.code x code maxLocals ret).before args0 about1 = true := code_word (m := ⟨1, 1⟩) (meth := k1m1) (c := k1c1) (by decide +kernel) rfl rfl rfl (by decide +kernel)
set_option maxRecDepth 65536 in
theorem w_c1 : (Jvm.Cond.code ({ cls := "com/example/rollcall/rollcall/model/spring/SpringVersion", name := "<init>", desc := "(II)V" } : Jvm.MethodName) prog_23_method_1_code (3 : Nat) (Option.none : Option Jvm.ClassFile.FieldType)).before args0 about1 = true := code_word (m := ⟨3, 0⟩) (meth := k3m0) (c := k3c0) (by decide +kernel) rfl rfl rfl (by decide +kernel)
set_option maxRecDepth 65536 in
theorem w_c2 : (Jvm.Cond.code ({ cls := "java/lang/Object", name := "<init>", desc := "()V" } : Jvm.MethodName) object_method_1_code (1 : Nat) (Option.none : Option Jvm.ClassFile.FieldType)).before args0 about1 = true := code_word (m := ⟨0, 0⟩) (meth := k0m0) (c := k0c0) (by decide +kernel) rfl rfl rfl (by decide +kernel)
set_option maxRecDepth 65536 in
theorem w_c3 : (Jvm.Cond.code ({ cls := "com/example/rollcall/rollcall/model/spring/SpringVersion", name := "equals", desc := "(Ljava/lang/Object;)Z" } : Jvm.MethodName) prog_23_method_9_code (3 : Nat) (Option.some Jvm.ClassFile.FieldType.boolean)).before args0 about1 = true := code_word (m := ⟨3, 1⟩) (meth := k3m1) (c := k3c1) (by decide +kernel) rfl rfl rfl (by decide +kernel)
set_option maxRecDepth 65536 in
theorem w_c4 : (Jvm.Cond.code ({ cls := "java/lang/Integer", name := "valueOf", desc := "(I)Ljava/lang/Integer;" } : Jvm.MethodName) jdk_33_method_22_code (1 : Nat) (Option.some (Jvm.ClassFile.FieldType.object "java/lang/Integer"))).before args0 about1 = true := code_word (m := ⟨8, 0⟩) (meth := k8m0) (c := k8c0) (by decide +kernel) rfl rfl rfl (by decide +kernel)
set_option maxRecDepth 65536 in
theorem w_c5 : (Jvm.Cond.code ({ cls := "java/lang/Integer", name := "<init>", desc := "(I)V" } : Jvm.MethodName) jdk_33_method_23_code (2 : Nat) (Option.none : Option Jvm.ClassFile.FieldType)).before args0 about1 = true := code_word (m := ⟨8, 1⟩) (meth := k8m1) (c := k8c1) (by decide +kernel) rfl rfl rfl (by decide +kernel)
set_option maxRecDepth 65536 in
theorem w_c6 : (Jvm.Cond.code ({ cls := "java/lang/Number", name := "<init>", desc := "()V" } : Jvm.MethodName) jdk_18_method_1_code (1 : Nat) (Option.none : Option Jvm.ClassFile.FieldType)).before args0 about1 = true := code_word (m := ⟨5, 0⟩) (meth := k5m0) (c := k5c0) (by decide +kernel) rfl rfl rfl (by decide +kernel)
def codes1 : List Jvm.Cond := [Jvm.Cond.code x code maxLocals ret, Jvm.Cond.code ({ cls := "com/example/rollcall/rollcall/model/spring/SpringVersion", name := "<init>", desc := "(II)V" } : Jvm.MethodName) prog_23_method_1_code (3 : Nat) (Option.none : Option Jvm.ClassFile.FieldType), Jvm.Cond.code ({ cls := "java/lang/Object", name := "<init>", desc := "()V" } : Jvm.MethodName) object_method_1_code (1 : Nat) (Option.none : Option Jvm.ClassFile.FieldType), Jvm.Cond.code ({ cls := "com/example/rollcall/rollcall/model/spring/SpringVersion", name := "equals", desc := "(Ljava/lang/Object;)Z" } : Jvm.MethodName) prog_23_method_9_code (3 : Nat) (Option.some Jvm.ClassFile.FieldType.boolean), Jvm.Cond.code ({ cls := "java/lang/Integer", name := "valueOf", desc := "(I)Ljava/lang/Integer;" } : Jvm.MethodName) jdk_33_method_22_code (1 : Nat) (Option.some (Jvm.ClassFile.FieldType.object "java/lang/Integer")), Jvm.Cond.code ({ cls := "java/lang/Integer", name := "<init>", desc := "(I)V" } : Jvm.MethodName) jdk_33_method_23_code (2 : Nat) (Option.none : Option Jvm.ClassFile.FieldType), Jvm.Cond.code ({ cls := "java/lang/Number", name := "<init>", desc := "()V" } : Jvm.MethodName) jdk_18_method_1_code (1 : Nat) (Option.none : Option Jvm.ClassFile.FieldType)]
set_option maxRecDepth 65536 in
theorem codes_eq : words1.filter isCode = codes1 := rfl
theorem w_codes : ∀ c ∈ words1.filter isCode, c.before args0 about1 = true := by
  rw [codes_eq]
  intro c hc
  simp only [codes1, List.mem_cons, List.not_mem_nil, or_false] at hc
  rcases hc with rfl | rfl | rfl | rfl | rfl | rfl | rfl
  · exact w_c0
  · exact w_c1
  · exact w_c2
  · exact w_c3
  · exact w_c4
  · exact w_c5
  · exact w_c6
set_option maxRecDepth 65536 in
theorem w_t1 : (words1.take 24).all (fun c => isCode c || c.before args0 about1) = true := by decide +kernel
set_option maxRecDepth 65536 in
theorem w_t2 : (words1.drop 24).all (fun c => isCode c || c.before args0 about1) = true := by decide +kernel
theorem w_tables : (allAtoms (Jvm.Cond.code x code maxLocals ret :: tables_1)).before args0 about1 = true := by
  rw [allAtoms_all]
  show words1.all (fun c => c.before args0 about1) = true
  refine all_split ?_ w_codes
  rw [← List.take_append_drop 24 words1, List.all_append, w_t1, w_t2]
  rfl
set_option maxRecDepth 65536 in
theorem w_rest : rest_1_c.before args0 about1 = true := by decide +kernel
set_option maxRecDepth 65536 in
theorem w_case : (Jvm.Cond.and given_1 narrow_1).before args0 about1 = true := by decide +kernel
theorem w_applies : (headSpec (Jvm.Cond.code x code maxLocals ret :: tables_1) room_1).applies x e0.platform about1 = true :=
  (Spec.applies_iff w_frames).mpr ⟨w_running, w_runnable, w_alone, w_named, w_hears, w_ripe, w_room, w_tables⟩
theorem atStart : AtStart classFile x code maxLocals ret World_1 tables_1 room_1 Calls_1 rest_1 Pre_1 launch0 p0 e0 about1 theMethod args0 below0 :=
  ⟨lists_1, trivial, launch0.admits_env _ _ _, launch0.least_env, fairChoices_fair.cas, fairChoices_fair.clock, w_frames, w_args, w_heap, w_applies, trivial, w_rest, w_case⟩
end start1
theorem witness_1 : WitnessClaimed_1 := ⟨start1.p0, start1.e0, start1.about1, start1.theMethod, start1.args0, start1.below0, start1.atStart⟩
end Jvm.Pilot.@@N@@
