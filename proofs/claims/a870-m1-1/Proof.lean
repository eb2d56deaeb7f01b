import JvmDerived
import JvmDerived.Pilot.@@N@@Statement
import JvmDerived.Pilot.@@N@@Code
set_option linter.unusedVariables false
set_option linter.unusedSimpArgs false
namespace Jvm.Pilot.@@N@@
open Jvm Jvm.ClassFile Sem Op Lib Jvm.Free Jvm.Stand Jvm.LawKit Jvm.RoadKit Bundle Jvm.Pilot.@@N@@.Jvm.D
/-- from S the method comes to its end, and what it leaves answers Q -/
def Rest (tb : Tables) (e : Env) (below : List Frame) (s : State) (Q : Option Value → Heap → List Loc → Prop) (k n : Nat) (S : State) : Prop :=
  ∃ t o, Steps tb e below S t ∧ t.status = .running ∧ Ended t below o ∧ ∃ v L, o = .returned v ∧ Q v t.heap L ∧ FrameEnd s o t L k n
theorem Rest.via {tb : Tables} {e : Env} {below : List Frame} {s : State} {Q : Option Value → Heap → List Loc → Prop} {k n : Nat} {S S' : State} (h : ∀ t, Steps tb e below S' t → Steps tb e below S t) (r : Rest tb e below s Q k n S') : Rest tb e below s Q k n S := by
  obtain ⟨t, o, h1, h2⟩ := r; exact ⟨t, o, h t h1, h2⟩
theorem Rest.ret {p : Program} {l : Launch} {e : Env} {R : Room} {s : State} {m : MethodId} {args : Array Value} {below : List Frame} {meth : Method} {c : Code} {T : State} {locs : List Loc} {cells slots : Nat} {Q : Option Value → Heap → List Loc → Prop} {k n : Nat} {S : State} {v : Option Value}
    (X : Stand p l e R s m args below meth c T locs cells slots) (hv : meth.sig.returnType = none → v = none) (hlocks : meth.locks = false)
    (st : ∀ fs, (∀ (f : JFrame) (acts : List Action), f.method = m → f.locked = none → f.entered = [] → (doReturn e (T.setTop f) acts v).1 = T.setFrames fs) → Steps p.tables e below S (T.setFrames fs))
    (hq : Q v T.heap locs) (hk : cells ≤ k) (hn : slots ≤ n) : Rest p.tables e below s Q k n S := by
  obtain ⟨fs, hr, hrun, hended, hW, hsame⟩ := X.leave (v := v) hv hlocks
  exact ⟨_, _, st fs hr, hrun, hended, _, _, rfl, hq, ⟨_, rfl⟩, hW, hsame.mono hk hn⟩
def own_sh (x : Int64) (k : Int32) : Int64 := ((x.toUInt64 >>> (k &&& 0x3f).toInt64.toUInt64).toInt64)
def own_nw (p i : Int64) : Int64 := i * ((2 : Int64) - p * i)
def own_inv (p : Int64) : Int64 := own_nw p (own_nw p (own_nw p (own_nw p (own_nw p p))))
def own_hash1 (v : Int32) : Int64 := ((v + (1 : Int32)).toInt64) * (-7046029254386353131 : Int64)
def own_hash2 (v : Int32) : Int64 := (own_hash1 v ^^^ own_sh (own_hash1 v) 31) * (-2960836687051489901 : Int64)
def own_hash (v : Int32) : Int64 := own_hash2 v ^^^ own_sh (own_hash2 v) 32
def own_un1 (h : Int64) : Int64 := h ^^^ own_sh h 32
def own_un3 (m : Int64) : Int64 := (m ^^^ own_sh m 31) ^^^ own_sh m 62
def own_unmix (h : Int64) : Int64 := own_un3 (own_un1 h * own_inv (-2960836687051489901 : Int64)) * own_inv (-7046029254386353131 : Int64)
theorem own_shb (x : Int64) (k : Int32) (n : Nat) (hk : (k &&& 0x3f).toInt64.toUInt64.toBitVec = BitVec.ofNat 64 n) (hn : n < 64) : (own_sh x k).toBitVec = x.toBitVec >>> n := by
  show x.toBitVec >>> ((k &&& 0x3f).toInt64.toUInt64.toBitVec % (64#64)) = _
  rw [hk]
  apply BitVec.eq_of_toNat_eq
  simp [BitVec.toNat_ushiftRight, Nat.mod_eq_of_lt hn, Nat.mod_eq_of_lt (Nat.lt_trans hn (by decide : 64 < 2 ^ 64))]
theorem own_x32 (x : BitVec 64) : (x ^^^ x >>> 32) ^^^ ((x ^^^ x >>> 32) >>> 32) = x := by
  apply BitVec.eq_of_getLsbD_eq
  intro i hi
  have h : x.getLsbD (32 + (32 + i)) = false := BitVec.getLsbD_of_ge _ _ (by omega)
  simp only [BitVec.getLsbD_xor, BitVec.getLsbD_ushiftRight, h]
  cases x.getLsbD i <;> cases x.getLsbD (32 + i) <;> rfl
theorem own_x31 (x : BitVec 64) : ((x ^^^ x >>> 31) ^^^ ((x ^^^ x >>> 31) >>> 31)) ^^^ ((x ^^^ x >>> 31) >>> 62) = x := by
  apply BitVec.eq_of_getLsbD_eq
  intro i hi
  have h : x.getLsbD (31 + (62 + i)) = false := BitVec.getLsbD_of_ge _ _ (by omega)
  have h' : x.getLsbD (31 + (31 + i)) = x.getLsbD (62 + i) := by congr 1; omega
  simp only [BitVec.getLsbD_xor, BitVec.getLsbD_ushiftRight, h, h']
  cases x.getLsbD i <;> cases x.getLsbD (31 + i) <;> cases x.getLsbD (62 + i) <;> rfl
theorem own_un1_eq (x : Int64) : own_un1 (x ^^^ own_sh x 32) = x := by
  apply Int64.toBitVec_inj.mp
  have e1 := own_shb x 32 32 (by decide) (by decide)
  have e2 := own_shb (x ^^^ own_sh x 32) 32 32 (by decide) (by decide)
  show (x.toBitVec ^^^ (own_sh x 32).toBitVec) ^^^ (own_sh (x ^^^ own_sh x 32) 32).toBitVec = _
  rw [e2]
  show (x.toBitVec ^^^ (own_sh x 32).toBitVec) ^^^ ((x.toBitVec ^^^ (own_sh x 32).toBitVec) >>> 32) = _
  rw [e1]
  exact own_x32 _
theorem own_un3_eq (x : Int64) : own_un3 (x ^^^ own_sh x 31) = x := by
  apply Int64.toBitVec_inj.mp
  have e1 := own_shb x 31 31 (by decide) (by decide)
  have e2 := own_shb (x ^^^ own_sh x 31) 31 31 (by decide) (by decide)
  have e3 := own_shb (x ^^^ own_sh x 31) 62 62 (by decide) (by decide)
  show ((x.toBitVec ^^^ (own_sh x 31).toBitVec) ^^^ (own_sh (x ^^^ own_sh x 31) 31).toBitVec) ^^^ (own_sh (x ^^^ own_sh x 31) 62).toBitVec = _
  rw [e2, e3]
  show ((x.toBitVec ^^^ (own_sh x 31).toBitVec) ^^^ ((x.toBitVec ^^^ (own_sh x 31).toBitVec) >>> 31)) ^^^ ((x.toBitVec ^^^ (own_sh x 31).toBitVec) >>> 62) = _
  rw [e1]
  exact own_x31 _
theorem own_invB : (-2960836687051489901 : Int64) * own_inv (-2960836687051489901 : Int64) = 1 := by decide +kernel
theorem own_invA : (-7046029254386353131 : Int64) * own_inv (-7046029254386353131 : Int64) = 1 := by decide +kernel
theorem own_back (v : Int32) : own_unmix (own_hash v) = (v + (1 : Int32)).toInt64 := by
  unfold own_unmix own_hash
  rw [own_un1_eq]
  unfold own_hash2
  rw [Int64.mul_assoc, own_invB, Int64.mul_one, own_un3_eq]
  unfold own_hash1
  rw [Int64.mul_assoc, own_invA, Int64.mul_one]
theorem own_main (v : Int32) : (own_unmix (own_hash v)).toInt32 = v + (1 : Int32) := by
  rw [own_back]
  simp
theorem d3_0 : decode method_2_code 0 = .ok (.lload_n 0, 1) := by decide +kernel
theorem d3_1 : decode method_2_code 1 = .ok (.lstore_n 2, 1) := by decide +kernel
theorem d3_2 : decode method_2_code 2 = .ok (.lload_n 2, 1) := by decide +kernel
theorem d3_3 : decode method_2_code 3 = .ok (.ldc2_w 7, 3) := by decide +kernel
theorem d3_6 : decode method_2_code 6 = .ok (.lload_n 0, 1) := by decide +kernel
theorem d3_7 : decode method_2_code 7 = .ok (.lload_n 2, 1) := by decide +kernel
theorem d3_8 : decode method_2_code 8 = .ok (.lmul, 1) := by decide +kernel
theorem d3_9 : decode method_2_code 9 = .ok (.lsub, 1) := by decide +kernel
theorem d3_10 : decode method_2_code 10 = .ok (.lmul, 1) := by decide +kernel
theorem d3_11 : decode method_2_code 11 = .ok (.lstore_n 2, 1) := by decide +kernel
theorem d3_12 : decode method_2_code 12 = .ok (.lload_n 2, 1) := by decide +kernel
theorem d3_13 : decode method_2_code 13 = .ok (.ldc2_w 7, 3) := by decide +kernel
theorem d3_16 : decode method_2_code 16 = .ok (.lload_n 0, 1) := by decide +kernel
theorem d3_17 : decode method_2_code 17 = .ok (.lload_n 2, 1) := by decide +kernel
theorem d3_18 : decode method_2_code 18 = .ok (.lmul, 1) := by decide +kernel
theorem d3_19 : decode method_2_code 19 = .ok (.lsub, 1) := by decide +kernel
theorem d3_20 : decode method_2_code 20 = .ok (.lmul, 1) := by decide +kernel
theorem d3_21 : decode method_2_code 21 = .ok (.lstore_n 2, 1) := by decide +kernel
theorem d3_22 : decode method_2_code 22 = .ok (.lload_n 2, 1) := by decide +kernel
theorem d3_23 : decode method_2_code 23 = .ok (.ldc2_w 7, 3) := by decide +kernel
theorem d3_26 : decode method_2_code 26 = .ok (.lload_n 0, 1) := by decide +kernel
theorem d3_27 : decode method_2_code 27 = .ok (.lload_n 2, 1) := by decide +kernel
theorem d3_28 : decode method_2_code 28 = .ok (.lmul, 1) := by decide +kernel
theorem d3_29 : decode method_2_code 29 = .ok (.lsub, 1) := by decide +kernel
theorem d3_30 : decode method_2_code 30 = .ok (.lmul, 1) := by decide +kernel
theorem d3_31 : decode method_2_code 31 = .ok (.lstore_n 2, 1) := by decide +kernel
theorem d3_32 : decode method_2_code 32 = .ok (.lload_n 2, 1) := by decide +kernel
theorem d3_33 : decode method_2_code 33 = .ok (.ldc2_w 7, 3) := by decide +kernel
theorem d3_36 : decode method_2_code 36 = .ok (.lload_n 0, 1) := by decide +kernel
theorem d3_37 : decode method_2_code 37 = .ok (.lload_n 2, 1) := by decide +kernel
theorem d3_38 : decode method_2_code 38 = .ok (.lmul, 1) := by decide +kernel
theorem d3_39 : decode method_2_code 39 = .ok (.lsub, 1) := by decide +kernel
theorem d3_40 : decode method_2_code 40 = .ok (.lmul, 1) := by decide +kernel
theorem d3_41 : decode method_2_code 41 = .ok (.lstore_n 2, 1) := by decide +kernel
theorem d3_42 : decode method_2_code 42 = .ok (.lload_n 2, 1) := by decide +kernel
theorem d3_43 : decode method_2_code 43 = .ok (.ldc2_w 7, 3) := by decide +kernel
theorem d3_46 : decode method_2_code 46 = .ok (.lload_n 0, 1) := by decide +kernel
theorem d3_47 : decode method_2_code 47 = .ok (.lload_n 2, 1) := by decide +kernel
theorem d3_48 : decode method_2_code 48 = .ok (.lmul, 1) := by decide +kernel
theorem d3_49 : decode method_2_code 49 = .ok (.lsub, 1) := by decide +kernel
theorem d3_50 : decode method_2_code 50 = .ok (.lmul, 1) := by decide +kernel
theorem d3_51 : decode method_2_code 51 = .ok (.lstore_n 2, 1) := by decide +kernel
theorem d3_52 : decode method_2_code 52 = .ok (.lload_n 2, 1) := by decide +kernel
theorem d3_53 : decode method_2_code 53 = .ok (.lreturn, 1) := by decide +kernel
theorem pn_0 : plainName "com/example/surnia/surnia/owl/ElementHashPinLaw" = true := by first | (simp [plainName, overriddenIn]; done) | decide +kernel
theorem ef_I (m : MethodId) (q0 : Int64) : entryFrame m #[(.long q0)] 4 = mkF m 0 #[.val (.long q0), .second, .unset, .unset] [] := by first | (simp [entryFrame, mkF, argsToLocals, Value.category, maxLocals]; done) | rfl
def QI (Z : State) (q0 : Int64) (h0 : Heap) (n0 : Nat) (v : Option Value) (h : Heap) (L : List Loc) : Prop := v = some (.long (own_inv q0)) ∧ Fr n0 L ∧ h = h0
set_option maxRecDepth 65536 in
set_option maxHeartbeats 40000000 in
theorem rmI (l : Launch) (Z : State) (aw : Array Value) (hw : ∀ d ∈ tables_1, d.before aw Z = true) (ws : List Jvm.Cond) (q0 : Int64) (h0 : Heap) (n0 : Nat) (Z0 : n0 ≤ h0.size)  :
    MetFree l (⟨"com/example/surnia/surnia/owl/ElementHashPinLaw", "inverseOf", "(J)J"⟩ : MethodName) (head1 (Jvm.Cond.code (⟨"com/example/surnia/surnia/owl/ElementHashPinLaw", "inverseOf", "(J)J"⟩ : MethodName) method_2_code 4 (some .long) :: ws) ({ frames := 0, cells := 0, slots := 0, locals := 0 } : Room)) (fun a U => a = #[(.long q0)] ∧ Z.Warmed39 U.vm ∧ U.heap = h0) (fun _ _ _ _ _ => True) (fun _ U o U' => ∃ v L, o = .returned v ∧ QI Z q0 h0 n0 v U'.heap L ∧ FrameEnd U o U' L ({ frames := 0, cells := 0, slots := 0, locals := 0 } : Room).cells ({ frames := 0, cells := 0, slots := 0, locals := 0 } : Room).slots) := by
  refine MetFree.of_bodySF (plainFor_of_name pn_0) hisR ?_
  intro p e s m args below meth c s₁ Bd hml0 hP hK
  obtain ⟨rfl, hZ, hh⟩ := hP
  have hx := Bd.exec
  have hby := Bd.bytes
  have hml : c.maxLocals = 4 := hml0
  have hown : s.vm.findClass "com/example/surnia/surnia/owl/ElementHashPinLaw" = some m.cls := findClass_of_methodNamed Bd.named
  have hnm := (name_of_methodNamed Bd.named Bd.method).1
  have hlk : meth.locks = false := BodyLoose.notSynchronized Bd
  have X0 : Stand p l e ({ frames := 0, cells := 0, slots := 0, locals := 0 } : Room) s m #[(.long q0)] below meth c s₁ [] 0 0 := Stand.of_body Bd
  have eh0 : s₁.heap = h0 := by rw [← hh, Bd.state]; rfl
  have N0 := Fr.nil n0
  show Rest p.tables e below s (QI Z q0 h0 n0) _ _ (s₁.setTop (entryFrame m #[(.long q0)] 4))
  refine Rest.via (fun t k => castTop (ef_I m q0) k) ?_
  show Rest p.tables e below s _ _ _ (s₁.setTop (mkF m 0 #[.val (.long q0), .second, .unset, .unset] []))
  refine Rest.via (fun t k => XS.lloadN X0.here hx rfl (hb hby d3_0) rfl k) ?_
  show Rest p.tables e below s _ _ _ (s₁.setTop (mkF m 1 #[.val (.long q0), .second, .unset, .unset] [(.long q0)]))
  refine Rest.via (fun t k => XS.lstoreN X0.here hx rfl (hb hby d3_1) rfl (l' := #[.val (.long q0), .second, .val (.long q0), .second]) rfl k) ?_
  show Rest p.tables e below s _ _ _ (s₁.setTop (mkF m 2 #[.val (.long q0), .second, .val (.long q0), .second] []))
  refine Rest.via (fun t k => XS.lloadN X0.here hx rfl (hb hby d3_2) rfl k) ?_
  show Rest p.tables e below s _ _ _ (s₁.setTop (mkF m 3 #[.val (.long q0), .second, .val (.long q0), .second] [(.long q0)]))
  refine Rest.via (fun t k => X0.ldc2Long hx hown (mvT hZ (hw _ (List.mem_of_getElem? (i := 14) rfl))) (g := (mkF m 3 #[.val (.long q0), .second, .val (.long q0), .second] [(.long q0)])) rfl (hb hby d3_3) t k) ?_
  show Rest p.tables e below s _ _ _ (s₁.setTop (mkF m 6 #[.val (.long q0), .second, .val (.long q0), .second] [(.long (2 : Int64)), (.long q0)]))
  refine Rest.via (fun t k => XS.lloadN X0.here hx rfl (hb hby d3_6) rfl k) ?_
  show Rest p.tables e below s _ _ _ (s₁.setTop (mkF m 7 #[.val (.long q0), .second, .val (.long q0), .second] [(.long q0), (.long (2 : Int64)), (.long q0)]))
  refine Rest.via (fun t k => XS.lloadN X0.here hx rfl (hb hby d3_7) rfl k) ?_
  show Rest p.tables e below s _ _ _ (s₁.setTop (mkF m 8 #[.val (.long q0), .second, .val (.long q0), .second] [(.long q0), (.long q0), (.long (2 : Int64)), (.long q0)]))
  refine Rest.via (fun t k => XS.lmul X0.here hx rfl (hb hby d3_8) rfl k) ?_
  show Rest p.tables e below s _ _ _ (s₁.setTop (mkF m 9 #[.val (.long q0), .second, .val (.long q0), .second] [(.long (q0 * q0)), (.long (2 : Int64)), (.long q0)]))
  refine Rest.via (fun t k => XS.lsub X0.here hx rfl (hb hby d3_9) rfl k) ?_
  show Rest p.tables e below s _ _ _ (s₁.setTop (mkF m 10 #[.val (.long q0), .second, .val (.long q0), .second] [(.long ((2 : Int64) - (q0 * q0))), (.long q0)]))
  refine Rest.via (fun t k => XS.lmul X0.here hx rfl (hb hby d3_10) rfl k) ?_
  show Rest p.tables e below s _ _ _ (s₁.setTop (mkF m 11 #[.val (.long q0), .second, .val (.long q0), .second] [(.long (q0 * ((2 : Int64) - (q0 * q0))))]))
  refine Rest.via (fun t k => XS.lstoreN X0.here hx rfl (hb hby d3_11) rfl (l' := #[.val (.long q0), .second, .val (.long (q0 * ((2 : Int64) - (q0 * q0)))), .second]) rfl k) ?_
  show Rest p.tables e below s _ _ _ (s₁.setTop (mkF m 12 #[.val (.long q0), .second, .val (.long (q0 * ((2 : Int64) - (q0 * q0)))), .second] []))
  obtain ⟨i1, hv_i1⟩ : ∃ z : Int64, z = (q0 * ((2 : Int64) - (q0 * q0))) := ⟨_, rfl⟩
  rw [← hv_i1]
  show Rest p.tables e below s _ _ _ (s₁.setTop (mkF m 12 #[.val (.long q0), .second, .val (.long i1), .second] []))
  refine Rest.via (fun t k => XS.lloadN X0.here hx rfl (hb hby d3_12) rfl k) ?_
  show Rest p.tables e below s _ _ _ (s₁.setTop (mkF m 13 #[.val (.long q0), .second, .val (.long i1), .second] [(.long i1)]))
  refine Rest.via (fun t k => X0.ldc2Long hx hown (mvT hZ (hw _ (List.mem_of_getElem? (i := 14) rfl))) (g := (mkF m 13 #[.val (.long q0), .second, .val (.long i1), .second] [(.long i1)])) rfl (hb hby d3_13) t k) ?_
  show Rest p.tables e below s _ _ _ (s₁.setTop (mkF m 16 #[.val (.long q0), .second, .val (.long i1), .second] [(.long (2 : Int64)), (.long i1)]))
  refine Rest.via (fun t k => XS.lloadN X0.here hx rfl (hb hby d3_16) rfl k) ?_
  show Rest p.tables e below s _ _ _ (s₁.setTop (mkF m 17 #[.val (.long q0), .second, .val (.long i1), .second] [(.long q0), (.long (2 : Int64)), (.long i1)]))
  refine Rest.via (fun t k => XS.lloadN X0.here hx rfl (hb hby d3_17) rfl k) ?_
  show Rest p.tables e below s _ _ _ (s₁.setTop (mkF m 18 #[.val (.long q0), .second, .val (.long i1), .second] [(.long i1), (.long q0), (.long (2 : Int64)), (.long i1)]))
  refine Rest.via (fun t k => XS.lmul X0.here hx rfl (hb hby d3_18) rfl k) ?_
  show Rest p.tables e below s _ _ _ (s₁.setTop (mkF m 19 #[.val (.long q0), .second, .val (.long i1), .second] [(.long (q0 * i1)), (.long (2 : Int64)), (.long i1)]))
  refine Rest.via (fun t k => XS.lsub X0.here hx rfl (hb hby d3_19) rfl k) ?_
  show Rest p.tables e below s _ _ _ (s₁.setTop (mkF m 20 #[.val (.long q0), .second, .val (.long i1), .second] [(.long ((2 : Int64) - (q0 * i1))), (.long i1)]))
  refine Rest.via (fun t k => XS.lmul X0.here hx rfl (hb hby d3_20) rfl k) ?_
  show Rest p.tables e below s _ _ _ (s₁.setTop (mkF m 21 #[.val (.long q0), .second, .val (.long i1), .second] [(.long (i1 * ((2 : Int64) - (q0 * i1))))]))
  refine Rest.via (fun t k => XS.lstoreN X0.here hx rfl (hb hby d3_21) rfl (l' := #[.val (.long q0), .second, .val (.long (i1 * ((2 : Int64) - (q0 * i1)))), .second]) rfl k) ?_
  show Rest p.tables e below s _ _ _ (s₁.setTop (mkF m 22 #[.val (.long q0), .second, .val (.long (i1 * ((2 : Int64) - (q0 * i1)))), .second] []))
  obtain ⟨i2, hv_i2⟩ : ∃ z : Int64, z = (i1 * ((2 : Int64) - (q0 * i1))) := ⟨_, rfl⟩
  rw [← hv_i2]
  show Rest p.tables e below s _ _ _ (s₁.setTop (mkF m 22 #[.val (.long q0), .second, .val (.long i2), .second] []))
  refine Rest.via (fun t k => XS.lloadN X0.here hx rfl (hb hby d3_22) rfl k) ?_
  show Rest p.tables e below s _ _ _ (s₁.setTop (mkF m 23 #[.val (.long q0), .second, .val (.long i2), .second] [(.long i2)]))
  refine Rest.via (fun t k => X0.ldc2Long hx hown (mvT hZ (hw _ (List.mem_of_getElem? (i := 14) rfl))) (g := (mkF m 23 #[.val (.long q0), .second, .val (.long i2), .second] [(.long i2)])) rfl (hb hby d3_23) t k) ?_
  show Rest p.tables e below s _ _ _ (s₁.setTop (mkF m 26 #[.val (.long q0), .second, .val (.long i2), .second] [(.long (2 : Int64)), (.long i2)]))
  refine Rest.via (fun t k => XS.lloadN X0.here hx rfl (hb hby d3_26) rfl k) ?_
  show Rest p.tables e below s _ _ _ (s₁.setTop (mkF m 27 #[.val (.long q0), .second, .val (.long i2), .second] [(.long q0), (.long (2 : Int64)), (.long i2)]))
  refine Rest.via (fun t k => XS.lloadN X0.here hx rfl (hb hby d3_27) rfl k) ?_
  show Rest p.tables e below s _ _ _ (s₁.setTop (mkF m 28 #[.val (.long q0), .second, .val (.long i2), .second] [(.long i2), (.long q0), (.long (2 : Int64)), (.long i2)]))
  refine Rest.via (fun t k => XS.lmul X0.here hx rfl (hb hby d3_28) rfl k) ?_
  show Rest p.tables e below s _ _ _ (s₁.setTop (mkF m 29 #[.val (.long q0), .second, .val (.long i2), .second] [(.long (q0 * i2)), (.long (2 : Int64)), (.long i2)]))
  refine Rest.via (fun t k => XS.lsub X0.here hx rfl (hb hby d3_29) rfl k) ?_
  show Rest p.tables e below s _ _ _ (s₁.setTop (mkF m 30 #[.val (.long q0), .second, .val (.long i2), .second] [(.long ((2 : Int64) - (q0 * i2))), (.long i2)]))
  refine Rest.via (fun t k => XS.lmul X0.here hx rfl (hb hby d3_30) rfl k) ?_
  show Rest p.tables e below s _ _ _ (s₁.setTop (mkF m 31 #[.val (.long q0), .second, .val (.long i2), .second] [(.long (i2 * ((2 : Int64) - (q0 * i2))))]))
  refine Rest.via (fun t k => XS.lstoreN X0.here hx rfl (hb hby d3_31) rfl (l' := #[.val (.long q0), .second, .val (.long (i2 * ((2 : Int64) - (q0 * i2)))), .second]) rfl k) ?_
  show Rest p.tables e below s _ _ _ (s₁.setTop (mkF m 32 #[.val (.long q0), .second, .val (.long (i2 * ((2 : Int64) - (q0 * i2)))), .second] []))
  obtain ⟨i3, hv_i3⟩ : ∃ z : Int64, z = (i2 * ((2 : Int64) - (q0 * i2))) := ⟨_, rfl⟩
  rw [← hv_i3]
  show Rest p.tables e below s _ _ _ (s₁.setTop (mkF m 32 #[.val (.long q0), .second, .val (.long i3), .second] []))
  refine Rest.via (fun t k => XS.lloadN X0.here hx rfl (hb hby d3_32) rfl k) ?_
  show Rest p.tables e below s _ _ _ (s₁.setTop (mkF m 33 #[.val (.long q0), .second, .val (.long i3), .second] [(.long i3)]))
  refine Rest.via (fun t k => X0.ldc2Long hx hown (mvT hZ (hw _ (List.mem_of_getElem? (i := 14) rfl))) (g := (mkF m 33 #[.val (.long q0), .second, .val (.long i3), .second] [(.long i3)])) rfl (hb hby d3_33) t k) ?_
  show Rest p.tables e below s _ _ _ (s₁.setTop (mkF m 36 #[.val (.long q0), .second, .val (.long i3), .second] [(.long (2 : Int64)), (.long i3)]))
  refine Rest.via (fun t k => XS.lloadN X0.here hx rfl (hb hby d3_36) rfl k) ?_
  show Rest p.tables e below s _ _ _ (s₁.setTop (mkF m 37 #[.val (.long q0), .second, .val (.long i3), .second] [(.long q0), (.long (2 : Int64)), (.long i3)]))
  refine Rest.via (fun t k => XS.lloadN X0.here hx rfl (hb hby d3_37) rfl k) ?_
  show Rest p.tables e below s _ _ _ (s₁.setTop (mkF m 38 #[.val (.long q0), .second, .val (.long i3), .second] [(.long i3), (.long q0), (.long (2 : Int64)), (.long i3)]))
  refine Rest.via (fun t k => XS.lmul X0.here hx rfl (hb hby d3_38) rfl k) ?_
  show Rest p.tables e below s _ _ _ (s₁.setTop (mkF m 39 #[.val (.long q0), .second, .val (.long i3), .second] [(.long (q0 * i3)), (.long (2 : Int64)), (.long i3)]))
  refine Rest.via (fun t k => XS.lsub X0.here hx rfl (hb hby d3_39) rfl k) ?_
  show Rest p.tables e below s _ _ _ (s₁.setTop (mkF m 40 #[.val (.long q0), .second, .val (.long i3), .second] [(.long ((2 : Int64) - (q0 * i3))), (.long i3)]))
  refine Rest.via (fun t k => XS.lmul X0.here hx rfl (hb hby d3_40) rfl k) ?_
  show Rest p.tables e below s _ _ _ (s₁.setTop (mkF m 41 #[.val (.long q0), .second, .val (.long i3), .second] [(.long (i3 * ((2 : Int64) - (q0 * i3))))]))
  refine Rest.via (fun t k => XS.lstoreN X0.here hx rfl (hb hby d3_41) rfl (l' := #[.val (.long q0), .second, .val (.long (i3 * ((2 : Int64) - (q0 * i3)))), .second]) rfl k) ?_
  show Rest p.tables e below s _ _ _ (s₁.setTop (mkF m 42 #[.val (.long q0), .second, .val (.long (i3 * ((2 : Int64) - (q0 * i3)))), .second] []))
  obtain ⟨i4, hv_i4⟩ : ∃ z : Int64, z = (i3 * ((2 : Int64) - (q0 * i3))) := ⟨_, rfl⟩
  rw [← hv_i4]
  show Rest p.tables e below s _ _ _ (s₁.setTop (mkF m 42 #[.val (.long q0), .second, .val (.long i4), .second] []))
  refine Rest.via (fun t k => XS.lloadN X0.here hx rfl (hb hby d3_42) rfl k) ?_
  show Rest p.tables e below s _ _ _ (s₁.setTop (mkF m 43 #[.val (.long q0), .second, .val (.long i4), .second] [(.long i4)]))
  refine Rest.via (fun t k => X0.ldc2Long hx hown (mvT hZ (hw _ (List.mem_of_getElem? (i := 14) rfl))) (g := (mkF m 43 #[.val (.long q0), .second, .val (.long i4), .second] [(.long i4)])) rfl (hb hby d3_43) t k) ?_
  show Rest p.tables e below s _ _ _ (s₁.setTop (mkF m 46 #[.val (.long q0), .second, .val (.long i4), .second] [(.long (2 : Int64)), (.long i4)]))
  refine Rest.via (fun t k => XS.lloadN X0.here hx rfl (hb hby d3_46) rfl k) ?_
  show Rest p.tables e below s _ _ _ (s₁.setTop (mkF m 47 #[.val (.long q0), .second, .val (.long i4), .second] [(.long q0), (.long (2 : Int64)), (.long i4)]))
  refine Rest.via (fun t k => XS.lloadN X0.here hx rfl (hb hby d3_47) rfl k) ?_
  show Rest p.tables e below s _ _ _ (s₁.setTop (mkF m 48 #[.val (.long q0), .second, .val (.long i4), .second] [(.long i4), (.long q0), (.long (2 : Int64)), (.long i4)]))
  refine Rest.via (fun t k => XS.lmul X0.here hx rfl (hb hby d3_48) rfl k) ?_
  show Rest p.tables e below s _ _ _ (s₁.setTop (mkF m 49 #[.val (.long q0), .second, .val (.long i4), .second] [(.long (q0 * i4)), (.long (2 : Int64)), (.long i4)]))
  refine Rest.via (fun t k => XS.lsub X0.here hx rfl (hb hby d3_49) rfl k) ?_
  show Rest p.tables e below s _ _ _ (s₁.setTop (mkF m 50 #[.val (.long q0), .second, .val (.long i4), .second] [(.long ((2 : Int64) - (q0 * i4))), (.long i4)]))
  refine Rest.via (fun t k => XS.lmul X0.here hx rfl (hb hby d3_50) rfl k) ?_
  show Rest p.tables e below s _ _ _ (s₁.setTop (mkF m 51 #[.val (.long q0), .second, .val (.long i4), .second] [(.long (i4 * ((2 : Int64) - (q0 * i4))))]))
  refine Rest.via (fun t k => XS.lstoreN X0.here hx rfl (hb hby d3_51) rfl (l' := #[.val (.long q0), .second, .val (.long (i4 * ((2 : Int64) - (q0 * i4)))), .second]) rfl k) ?_
  show Rest p.tables e below s _ _ _ (s₁.setTop (mkF m 52 #[.val (.long q0), .second, .val (.long (i4 * ((2 : Int64) - (q0 * i4)))), .second] []))
  obtain ⟨i5, hv_i5⟩ : ∃ z : Int64, z = (i4 * ((2 : Int64) - (q0 * i4))) := ⟨_, rfl⟩
  rw [← hv_i5]
  show Rest p.tables e below s _ _ _ (s₁.setTop (mkF m 52 #[.val (.long q0), .second, .val (.long i5), .second] []))
  refine Rest.via (fun t k => XS.lloadN X0.here hx rfl (hb hby d3_52) rfl k) ?_
  show Rest p.tables e below s _ _ _ (s₁.setTop (mkF m 53 #[.val (.long q0), .second, .val (.long i5), .second] [(.long i5)]))
  refine Rest.ret X0 (v := some (.long i5)) (fun h => by rw [Bd.returns] at h; cases h) hlk (fun fs hr => retOut X0 hx Bd.returns rfl (Or.inr (Or.inl ⟨rfl, rfl, _, rfl⟩)) (hb hby d3_53) hr) ?_ (by decide) (by decide)
  rw [eh0]
  exact ⟨by subst hv_i1 hv_i2 hv_i3 hv_i4 hv_i5; rfl, N0, rfl⟩
theorem d1_0 : decode prog_38_method_14_code 0 = .ok (.iload_n 0, 1) := by decide +kernel
theorem d1_1 : decode prog_38_method_14_code 1 = .ok (.iconst 1, 1) := by decide +kernel
theorem d1_2 : decode prog_38_method_14_code 2 = .ok (.iadd, 1) := by decide +kernel
theorem d1_3 : decode prog_38_method_14_code 3 = .ok (.i2l, 1) := by decide +kernel
theorem d1_4 : decode prog_38_method_14_code 4 = .ok (.ldc2_w 101, 3) := by decide +kernel
theorem d1_7 : decode prog_38_method_14_code 7 = .ok (.lmul, 1) := by decide +kernel
theorem d1_8 : decode prog_38_method_14_code 8 = .ok (.lstore_n 1, 1) := by decide +kernel
theorem d1_9 : decode prog_38_method_14_code 9 = .ok (.lload_n 1, 1) := by decide +kernel
theorem d1_10 : decode prog_38_method_14_code 10 = .ok (.lload_n 1, 1) := by decide +kernel
theorem d1_11 : decode prog_38_method_14_code 11 = .ok (.bipush 31, 2) := by decide +kernel
theorem d1_13 : decode prog_38_method_14_code 13 = .ok (.lushr, 1) := by decide +kernel
theorem d1_14 : decode prog_38_method_14_code 14 = .ok (.lxor, 1) := by decide +kernel
theorem d1_15 : decode prog_38_method_14_code 15 = .ok (.ldc2_w 103, 3) := by decide +kernel
theorem d1_18 : decode prog_38_method_14_code 18 = .ok (.lmul, 1) := by decide +kernel
theorem d1_19 : decode prog_38_method_14_code 19 = .ok (.lstore_n 1, 1) := by decide +kernel
theorem d1_20 : decode prog_38_method_14_code 20 = .ok (.lload_n 1, 1) := by decide +kernel
theorem d1_21 : decode prog_38_method_14_code 21 = .ok (.lload_n 1, 1) := by decide +kernel
theorem d1_22 : decode prog_38_method_14_code 22 = .ok (.bipush 32, 2) := by decide +kernel
theorem d1_24 : decode prog_38_method_14_code 24 = .ok (.lushr, 1) := by decide +kernel
theorem d1_25 : decode prog_38_method_14_code 25 = .ok (.lxor, 1) := by decide +kernel
theorem d1_26 : decode prog_38_method_14_code 26 = .ok (.lreturn, 1) := by decide +kernel
theorem pn_1 : plainName "com/example/surnia/surnia/owl/CompletionGraph$Element" = true := by first | (simp [plainName, overriddenIn]; done) | decide +kernel
theorem ef_H (m : MethodId) (p0 : Int32) : entryFrame m #[(.int p0)] 3 = mkF m 0 #[.val (.int p0), .unset, .unset] [] := by first | (simp [entryFrame, mkF, argsToLocals, Value.category, maxLocals]; done) | rfl
def QH (Z : State) (p0 : Int32) (h0 : Heap) (n0 : Nat) (v : Option Value) (h : Heap) (L : List Loc) : Prop := v = some (.long (own_hash p0)) ∧ Fr n0 L ∧ h = h0
set_option maxRecDepth 65536 in
set_option maxHeartbeats 40000000 in
theorem rmH (l : Launch) (Z : State) (aw : Array Value) (hw : ∀ d ∈ tables_1, d.before aw Z = true) (ws : List Jvm.Cond) (p0 : Int32) (h0 : Heap) (n0 : Nat) (Z0 : n0 ≤ h0.size)  :
    MetFree l (⟨"com/example/surnia/surnia/owl/CompletionGraph$Element", "hash", "(I)J"⟩ : MethodName) (head1 (Jvm.Cond.code (⟨"com/example/surnia/surnia/owl/CompletionGraph$Element", "hash", "(I)J"⟩ : MethodName) prog_38_method_14_code 3 (some .long) :: ws) ({ frames := 0, cells := 0, slots := 0, locals := 0 } : Room)) (fun a U => a = #[(.int p0)] ∧ Z.Warmed39 U.vm ∧ U.heap = h0) (fun _ _ _ _ _ => True) (fun _ U o U' => ∃ v L, o = .returned v ∧ QH Z p0 h0 n0 v U'.heap L ∧ FrameEnd U o U' L ({ frames := 0, cells := 0, slots := 0, locals := 0 } : Room).cells ({ frames := 0, cells := 0, slots := 0, locals := 0 } : Room).slots) := by
  refine MetFree.of_bodySF (plainFor_of_name pn_1) hisR ?_
  intro p e s m args below meth c s₁ Bd hml0 hP hK
  obtain ⟨rfl, hZ, hh⟩ := hP
  have hx := Bd.exec
  have hby := Bd.bytes
  have hml : c.maxLocals = 3 := hml0
  have hown : s.vm.findClass "com/example/surnia/surnia/owl/CompletionGraph$Element" = some m.cls := findClass_of_methodNamed Bd.named
  have hnm := (name_of_methodNamed Bd.named Bd.method).1
  have hlk : meth.locks = false := BodyLoose.notSynchronized Bd
  have X0 : Stand p l e ({ frames := 0, cells := 0, slots := 0, locals := 0 } : Room) s m #[(.int p0)] below meth c s₁ [] 0 0 := Stand.of_body Bd
  have eh0 : s₁.heap = h0 := by rw [← hh, Bd.state]; rfl
  have N0 := Fr.nil n0
  show Rest p.tables e below s (QH Z p0 h0 n0) _ _ (s₁.setTop (entryFrame m #[(.int p0)] 3))
  refine Rest.via (fun t k => castTop (ef_H m p0) k) ?_
  show Rest p.tables e below s _ _ _ (s₁.setTop (mkF m 0 #[.val (.int p0), .unset, .unset] []))
  refine Rest.via (fun t k => XS.iloadN X0.here hx rfl (hb hby d1_0) rfl k) ?_
  show Rest p.tables e below s _ _ _ (s₁.setTop (mkF m 1 #[.val (.int p0), .unset, .unset] [(.int p0)]))
  refine Rest.via (fun t k => XS.iconst X0.here hx rfl (hb hby d1_1) k) ?_
  show Rest p.tables e below s _ _ _ (s₁.setTop (mkF m 2 #[.val (.int p0), .unset, .unset] [(.int (1 : Int32)), (.int p0)]))
  refine Rest.via (fun t k => XS.iadd X0.here hx rfl (hb hby d1_2) rfl k) ?_
  show Rest p.tables e below s _ _ _ (s₁.setTop (mkF m 3 #[.val (.int p0), .unset, .unset] [(.int (p0 + (1 : Int32)))]))
  refine Rest.via (fun t k => XS.i2l X0.here hx rfl (hb hby d1_3) rfl k) ?_
  show Rest p.tables e below s _ _ _ (s₁.setTop (mkF m 4 #[.val (.int p0), .unset, .unset] [(.long ((p0 + (1 : Int32)).toInt64))]))
  refine Rest.via (fun t k => X0.ldc2Long hx hown (mvT hZ (hw _ (List.mem_of_getElem? (i := 4) rfl))) (g := (mkF m 4 #[.val (.int p0), .unset, .unset] [(.long ((p0 + (1 : Int32)).toInt64))])) rfl (hb hby d1_4) t k) ?_
  show Rest p.tables e below s _ _ _ (s₁.setTop (mkF m 7 #[.val (.int p0), .unset, .unset] [(.long (-7046029254386353131 : Int64)), (.long ((p0 + (1 : Int32)).toInt64))]))
  refine Rest.via (fun t k => XS.lmul X0.here hx rfl (hb hby d1_7) rfl k) ?_
  show Rest p.tables e below s _ _ _ (s₁.setTop (mkF m 8 #[.val (.int p0), .unset, .unset] [(.long (((p0 + (1 : Int32)).toInt64) * (-7046029254386353131 : Int64)))]))
  refine Rest.via (fun t k => XS.lstoreN X0.here hx rfl (hb hby d1_8) rfl (l' := #[.val (.int p0), .val (.long (((p0 + (1 : Int32)).toInt64) * (-7046029254386353131 : Int64))), .second]) rfl k) ?_
  show Rest p.tables e below s _ _ _ (s₁.setTop (mkF m 9 #[.val (.int p0), .val (.long (((p0 + (1 : Int32)).toInt64) * (-7046029254386353131 : Int64))), .second] []))
  obtain ⟨m1, hv_m1⟩ : ∃ z : Int64, z = (((p0 + (1 : Int32)).toInt64) * (-7046029254386353131 : Int64)) := ⟨_, rfl⟩
  rw [← hv_m1]
  show Rest p.tables e below s _ _ _ (s₁.setTop (mkF m 9 #[.val (.int p0), .val (.long m1), .second] []))
  refine Rest.via (fun t k => XS.lloadN X0.here hx rfl (hb hby d1_9) rfl k) ?_
  show Rest p.tables e below s _ _ _ (s₁.setTop (mkF m 10 #[.val (.int p0), .val (.long m1), .second] [(.long m1)]))
  refine Rest.via (fun t k => XS.lloadN X0.here hx rfl (hb hby d1_10) rfl k) ?_
  show Rest p.tables e below s _ _ _ (s₁.setTop (mkF m 11 #[.val (.int p0), .val (.long m1), .second] [(.long m1), (.long m1)]))
  refine Rest.via (fun t k => XS.bipush X0.here hx rfl (hb hby d1_11) k) ?_
  show Rest p.tables e below s _ _ _ (s₁.setTop (mkF m 13 #[.val (.int p0), .val (.long m1), .second] [(.int (31 : Int32)), (.long m1), (.long m1)]))
  refine Rest.via (fun t k => XS.lushr X0.here hx rfl (hb hby d1_13) rfl k) ?_
  show Rest p.tables e below s _ _ _ (s₁.setTop (mkF m 14 #[.val (.int p0), .val (.long m1), .second] [(.long ((m1.toUInt64 >>> ((31 : Int32) &&& 0x3f).toInt64.toUInt64).toInt64)), (.long m1)]))
  refine Rest.via (fun t k => XS.lxor X0.here hx rfl (hb hby d1_14) rfl k) ?_
  show Rest p.tables e below s _ _ _ (s₁.setTop (mkF m 15 #[.val (.int p0), .val (.long m1), .second] [(.long (m1 ^^^ ((m1.toUInt64 >>> ((31 : Int32) &&& 0x3f).toInt64.toUInt64).toInt64)))]))
  refine Rest.via (fun t k => X0.ldc2Long hx hown (mvT hZ (hw _ (List.mem_of_getElem? (i := 5) rfl))) (g := (mkF m 15 #[.val (.int p0), .val (.long m1), .second] [(.long (m1 ^^^ ((m1.toUInt64 >>> ((31 : Int32) &&& 0x3f).toInt64.toUInt64).toInt64)))])) rfl (hb hby d1_15) t k) ?_
  show Rest p.tables e below s _ _ _ (s₁.setTop (mkF m 18 #[.val (.int p0), .val (.long m1), .second] [(.long (-2960836687051489901 : Int64)), (.long (m1 ^^^ ((m1.toUInt64 >>> ((31 : Int32) &&& 0x3f).toInt64.toUInt64).toInt64)))]))
  refine Rest.via (fun t k => XS.lmul X0.here hx rfl (hb hby d1_18) rfl k) ?_
  show Rest p.tables e below s _ _ _ (s₁.setTop (mkF m 19 #[.val (.int p0), .val (.long m1), .second] [(.long ((m1 ^^^ ((m1.toUInt64 >>> ((31 : Int32) &&& 0x3f).toInt64.toUInt64).toInt64)) * (-2960836687051489901 : Int64)))]))
  refine Rest.via (fun t k => XS.lstoreN X0.here hx rfl (hb hby d1_19) rfl (l' := #[.val (.int p0), .val (.long ((m1 ^^^ ((m1.toUInt64 >>> ((31 : Int32) &&& 0x3f).toInt64.toUInt64).toInt64)) * (-2960836687051489901 : Int64))), .second]) rfl k) ?_
  show Rest p.tables e below s _ _ _ (s₁.setTop (mkF m 20 #[.val (.int p0), .val (.long ((m1 ^^^ ((m1.toUInt64 >>> ((31 : Int32) &&& 0x3f).toInt64.toUInt64).toInt64)) * (-2960836687051489901 : Int64))), .second] []))
  obtain ⟨m2, hv_m2⟩ : ∃ z : Int64, z = ((m1 ^^^ ((m1.toUInt64 >>> ((31 : Int32) &&& 0x3f).toInt64.toUInt64).toInt64)) * (-2960836687051489901 : Int64)) := ⟨_, rfl⟩
  rw [← hv_m2]
  show Rest p.tables e below s _ _ _ (s₁.setTop (mkF m 20 #[.val (.int p0), .val (.long m2), .second] []))
  refine Rest.via (fun t k => XS.lloadN X0.here hx rfl (hb hby d1_20) rfl k) ?_
  show Rest p.tables e below s _ _ _ (s₁.setTop (mkF m 21 #[.val (.int p0), .val (.long m2), .second] [(.long m2)]))
  refine Rest.via (fun t k => XS.lloadN X0.here hx rfl (hb hby d1_21) rfl k) ?_
  show Rest p.tables e below s _ _ _ (s₁.setTop (mkF m 22 #[.val (.int p0), .val (.long m2), .second] [(.long m2), (.long m2)]))
  refine Rest.via (fun t k => XS.bipush X0.here hx rfl (hb hby d1_22) k) ?_
  show Rest p.tables e below s _ _ _ (s₁.setTop (mkF m 24 #[.val (.int p0), .val (.long m2), .second] [(.int (32 : Int32)), (.long m2), (.long m2)]))
  refine Rest.via (fun t k => XS.lushr X0.here hx rfl (hb hby d1_24) rfl k) ?_
  show Rest p.tables e below s _ _ _ (s₁.setTop (mkF m 25 #[.val (.int p0), .val (.long m2), .second] [(.long ((m2.toUInt64 >>> ((32 : Int32) &&& 0x3f).toInt64.toUInt64).toInt64)), (.long m2)]))
  refine Rest.via (fun t k => XS.lxor X0.here hx rfl (hb hby d1_25) rfl k) ?_
  show Rest p.tables e below s _ _ _ (s₁.setTop (mkF m 26 #[.val (.int p0), .val (.long m2), .second] [(.long (m2 ^^^ ((m2.toUInt64 >>> ((32 : Int32) &&& 0x3f).toInt64.toUInt64).toInt64)))]))
  refine Rest.ret X0 (v := some (.long (m2 ^^^ ((m2.toUInt64 >>> ((32 : Int32) &&& 0x3f).toInt64.toUInt64).toInt64)))) (fun h => by rw [Bd.returns] at h; cases h) hlk (fun fs hr => retOut X0 hx Bd.returns rfl (Or.inr (Or.inl ⟨rfl, rfl, _, rfl⟩)) (hb hby d1_26) hr) ?_ (by decide) (by decide)
  rw [eh0]
  exact ⟨by subst hv_m1 hv_m2; rfl, N0, rfl⟩
theorem pd_0 : parseMethodDescriptor "(J)J" = some ⟨[.long], some .long⟩ := by decide +kernel
theorem d2_0 : decode method_3_code 0 = .ok (.lload_n 0, 1) := by decide +kernel
theorem d2_1 : decode method_3_code 1 = .ok (.lload_n 0, 1) := by decide +kernel
theorem d2_2 : decode method_3_code 2 = .ok (.bipush 32, 2) := by decide +kernel
theorem d2_4 : decode method_3_code 4 = .ok (.lushr, 1) := by decide +kernel
theorem d2_5 : decode method_3_code 5 = .ok (.lxor, 1) := by decide +kernel
theorem d2_6 : decode method_3_code 6 = .ok (.lstore_n 2, 1) := by decide +kernel
theorem d2_7 : decode method_3_code 7 = .ok (.lload_n 2, 1) := by decide +kernel
theorem d2_8 : decode method_3_code 8 = .ok (.ldc2_w 9, 3) := by decide +kernel
theorem d2_11 : decode method_3_code 11 = .ok (.invokestatic 11, 3) := by decide +kernel
theorem d2_14 : decode method_3_code 14 = .ok (.lmul, 1) := by decide +kernel
theorem d2_15 : decode method_3_code 15 = .ok (.lstore_n 2, 1) := by decide +kernel
theorem d2_16 : decode method_3_code 16 = .ok (.lload_n 2, 1) := by decide +kernel
theorem d2_17 : decode method_3_code 17 = .ok (.lload_n 2, 1) := by decide +kernel
theorem d2_18 : decode method_3_code 18 = .ok (.bipush 31, 2) := by decide +kernel
theorem d2_20 : decode method_3_code 20 = .ok (.lushr, 1) := by decide +kernel
theorem d2_21 : decode method_3_code 21 = .ok (.lxor, 1) := by decide +kernel
theorem d2_22 : decode method_3_code 22 = .ok (.lload_n 2, 1) := by decide +kernel
theorem d2_23 : decode method_3_code 23 = .ok (.bipush 62, 2) := by decide +kernel
theorem d2_25 : decode method_3_code 25 = .ok (.lushr, 1) := by decide +kernel
theorem d2_26 : decode method_3_code 26 = .ok (.lxor, 1) := by decide +kernel
theorem d2_27 : decode method_3_code 27 = .ok (.lstore_n 2, 1) := by decide +kernel
theorem d2_28 : decode method_3_code 28 = .ok (.lload_n 2, 1) := by decide +kernel
theorem d2_29 : decode method_3_code 29 = .ok (.ldc2_w 17, 3) := by decide +kernel
theorem d2_32 : decode method_3_code 32 = .ok (.invokestatic 11, 3) := by decide +kernel
theorem d2_35 : decode method_3_code 35 = .ok (.lmul, 1) := by decide +kernel
theorem d2_36 : decode method_3_code 36 = .ok (.lstore_n 2, 1) := by decide +kernel
theorem d2_37 : decode method_3_code 37 = .ok (.lload_n 2, 1) := by decide +kernel
theorem d2_38 : decode method_3_code 38 = .ok (.lreturn, 1) := by decide +kernel
theorem ef_U (m : MethodId) (q0 : Int64) : entryFrame m #[(.long q0)] 4 = mkF m 0 #[.val (.long q0), .second, .unset, .unset] [] := by first | (simp [entryFrame, mkF, argsToLocals, Value.category, maxLocals]; done) | rfl
def QU (Z : State) (q0 : Int64) (h0 : Heap) (n0 : Nat) (v : Option Value) (h : Heap) (L : List Loc) : Prop := v = some (.long (own_unmix q0)) ∧ Fr n0 L ∧ h = h0
set_option maxRecDepth 65536 in
set_option maxHeartbeats 40000000 in
theorem rmU (l : Launch) (Z : State) (aw : Array Value) (hw : ∀ d ∈ tables_1, d.before aw Z = true) (ws : List Jvm.Cond) (q0 : Int64) (h0 : Heap) (n0 : Nat) (Z0 : n0 ≤ h0.size)  :
    MetFree l (⟨"com/example/surnia/surnia/owl/ElementHashPinLaw", "unmix", "(J)J"⟩ : MethodName) (head1 (Jvm.Cond.code (⟨"com/example/surnia/surnia/owl/ElementHashPinLaw", "unmix", "(J)J"⟩ : MethodName) method_3_code 4 (some .long) :: ws) ({ frames := 1, cells := 0, slots := 0, locals := 17 } : Room)) (fun a U => a = #[(.long q0)] ∧ Z.Warmed39 U.vm ∧ U.heap = h0) (fun _ _ _ _ _ => True) (fun _ U o U' => ∃ v L, o = .returned v ∧ QU Z q0 h0 n0 v U'.heap L ∧ FrameEnd U o U' L ({ frames := 1, cells := 0, slots := 0, locals := 17 } : Room).cells ({ frames := 1, cells := 0, slots := 0, locals := 17 } : Room).slots) := by
  refine MetFree.of_bodySF (plainFor_of_name pn_0) hisR ?_
  intro p e s m args below meth c s₁ Bd hml0 hP hK
  obtain ⟨rfl, hZ, hh⟩ := hP
  have hx := Bd.exec
  have hby := Bd.bytes
  have hml : c.maxLocals = 4 := hml0
  have hown : s.vm.findClass "com/example/surnia/surnia/owl/ElementHashPinLaw" = some m.cls := findClass_of_methodNamed Bd.named
  have hnm := (name_of_methodNamed Bd.named Bd.method).1
  have hlk : meth.locks = false := BodyLoose.notSynchronized Bd
  have X0 : Stand p l e ({ frames := 1, cells := 0, slots := 0, locals := 17 } : Room) s m #[(.long q0)] below meth c s₁ [] 0 0 := Stand.of_body Bd
  have eh0 : s₁.heap = h0 := by rw [← hh, Bd.state]; rfl
  have N0 := Fr.nil n0
  show Rest p.tables e below s (QU Z q0 h0 n0) _ _ (s₁.setTop (entryFrame m #[(.long q0)] 4))
  refine Rest.via (fun t k => castTop (ef_U m q0) k) ?_
  show Rest p.tables e below s _ _ _ (s₁.setTop (mkF m 0 #[.val (.long q0), .second, .unset, .unset] []))
  refine Rest.via (fun t k => XS.lloadN X0.here hx rfl (hb hby d2_0) rfl k) ?_
  show Rest p.tables e below s _ _ _ (s₁.setTop (mkF m 1 #[.val (.long q0), .second, .unset, .unset] [(.long q0)]))
  refine Rest.via (fun t k => XS.lloadN X0.here hx rfl (hb hby d2_1) rfl k) ?_
  show Rest p.tables e below s _ _ _ (s₁.setTop (mkF m 2 #[.val (.long q0), .second, .unset, .unset] [(.long q0), (.long q0)]))
  refine Rest.via (fun t k => XS.bipush X0.here hx rfl (hb hby d2_2) k) ?_
  show Rest p.tables e below s _ _ _ (s₁.setTop (mkF m 4 #[.val (.long q0), .second, .unset, .unset] [(.int (32 : Int32)), (.long q0), (.long q0)]))
  refine Rest.via (fun t k => XS.lushr X0.here hx rfl (hb hby d2_4) rfl k) ?_
  show Rest p.tables e below s _ _ _ (s₁.setTop (mkF m 5 #[.val (.long q0), .second, .unset, .unset] [(.long ((q0.toUInt64 >>> ((32 : Int32) &&& 0x3f).toInt64.toUInt64).toInt64)), (.long q0)]))
  refine Rest.via (fun t k => XS.lxor X0.here hx rfl (hb hby d2_5) rfl k) ?_
  show Rest p.tables e below s _ _ _ (s₁.setTop (mkF m 6 #[.val (.long q0), .second, .unset, .unset] [(.long (q0 ^^^ ((q0.toUInt64 >>> ((32 : Int32) &&& 0x3f).toInt64.toUInt64).toInt64)))]))
  refine Rest.via (fun t k => XS.lstoreN X0.here hx rfl (hb hby d2_6) rfl (l' := #[.val (.long q0), .second, .val (.long (q0 ^^^ ((q0.toUInt64 >>> ((32 : Int32) &&& 0x3f).toInt64.toUInt64).toInt64))), .second]) rfl k) ?_
  show Rest p.tables e below s _ _ _ (s₁.setTop (mkF m 7 #[.val (.long q0), .second, .val (.long (q0 ^^^ ((q0.toUInt64 >>> ((32 : Int32) &&& 0x3f).toInt64.toUInt64).toInt64))), .second] []))
  obtain ⟨m1, hv_m1⟩ : ∃ z : Int64, z = (q0 ^^^ ((q0.toUInt64 >>> ((32 : Int32) &&& 0x3f).toInt64.toUInt64).toInt64)) := ⟨_, rfl⟩
  rw [← hv_m1]
  show Rest p.tables e below s _ _ _ (s₁.setTop (mkF m 7 #[.val (.long q0), .second, .val (.long m1), .second] []))
  refine Rest.via (fun t k => XS.lloadN X0.here hx rfl (hb hby d2_7) rfl k) ?_
  show Rest p.tables e below s _ _ _ (s₁.setTop (mkF m 8 #[.val (.long q0), .second, .val (.long m1), .second] [(.long m1)]))
  refine Rest.via (fun t k => X0.ldc2Long hx hown (mvT hZ (hw _ (List.mem_of_getElem? (i := 10) rfl))) (g := (mkF m 8 #[.val (.long q0), .second, .val (.long m1), .second] [(.long m1)])) rfl (hb hby d2_8) t k) ?_
  show Rest p.tables e below s _ _ _ (s₁.setTop (mkF m 11 #[.val (.long q0), .second, .val (.long m1), .second] [(.long (-2960836687051489901 : Int64)), (.long m1)]))
  obtain ⟨_, _, ⟨T1, L1, k1, n1⟩, -, X1, ⟨Lc1, hQ1, l1, y1, z1⟩, st1⟩ := Jvm.LawKit.callS X0 hx (y := (⟨"com/example/surnia/surnia/owl/ElementHashPinLaw", "inverseOf", "(J)J"⟩ : MethodName)) hown (mvT hZ (hw _ (List.mem_of_getElem? (i := 11) rfl))) (mvT hZ (hw _ (List.mem_of_getElem? (i := 12) rfl))) (mvT hZ (hw _ (List.mem_of_getElem? (i := 8) rfl))) (mvT hZ (hw _ (List.mem_of_getElem? (i := 13) rfl))) (by decide) (backOf (W := 2) (rmI l Z aw hw [] (-2960836687051489901 : Int64)  h0 n0 (Nat.le_trans Z0 (Keep.refl h0 []).1) ) hZ (hw _ (List.mem_of_getElem? (i := 13) rfl)) (hw _ (List.mem_of_getElem? (i := 8) rfl)) (by decide) (by decide)) (g := (mkF m 11 #[.val (.long q0), .second, .val (.long m1), .second] [(.long (-2960836687051489901 : Int64)), (.long m1)])) rfl (by rw [hml]; rfl) (argsL := [(.long (-2960836687051489901 : Int64))]) (rest := [(.long m1)]) (lenOf pd_0 rfl) rfl (by show 2 * 0 + _ ≤ _; exact Nat.le_of_eq rfl) (hb hby d2_11) (fun _ _ => ⟨rfl, eh0, (by decide : 0 + 0 ≤ _), (by decide : 0 + 0 ≤ _)⟩)
  dsimp only [Pt.U, Pt.locs, Pt.cells, Pt.slots] at X1 l1 y1 z1 st1 hQ1
  subst l1 y1 z1
  obtain ⟨rfl, Nq1, e1⟩ := hQ1
  have N1 := Fr.app N0 Nq1
  refine Rest.via (fun t k => st1 t k) ?_
  show Rest p.tables e below s _ _ _ (T1.setTop (mkF m 14 #[.val (.long q0), .second, .val (.long m1), .second] [(.long (own_inv (-2960836687051489901 : Int64))), (.long m1)]))
  refine Rest.via (fun t k => XS.lmul X1.here hx rfl (hb hby d2_14) rfl k) ?_
  show Rest p.tables e below s _ _ _ (T1.setTop (mkF m 15 #[.val (.long q0), .second, .val (.long m1), .second] [(.long (m1 * (own_inv (-2960836687051489901 : Int64))))]))
  refine Rest.via (fun t k => XS.lstoreN X1.here hx rfl (hb hby d2_15) rfl (l' := #[.val (.long q0), .second, .val (.long (m1 * (own_inv (-2960836687051489901 : Int64)))), .second]) rfl k) ?_
  show Rest p.tables e below s _ _ _ (T1.setTop (mkF m 16 #[.val (.long q0), .second, .val (.long (m1 * (own_inv (-2960836687051489901 : Int64)))), .second] []))
  obtain ⟨m2, hv_m2⟩ : ∃ z : Int64, z = (m1 * (own_inv (-2960836687051489901 : Int64))) := ⟨_, rfl⟩
  rw [← hv_m2]
  show Rest p.tables e below s _ _ _ (T1.setTop (mkF m 16 #[.val (.long q0), .second, .val (.long m2), .second] []))
  refine Rest.via (fun t k => XS.lloadN X1.here hx rfl (hb hby d2_16) rfl k) ?_
  show Rest p.tables e below s _ _ _ (T1.setTop (mkF m 17 #[.val (.long q0), .second, .val (.long m2), .second] [(.long m2)]))
  refine Rest.via (fun t k => XS.lloadN X1.here hx rfl (hb hby d2_17) rfl k) ?_
  show Rest p.tables e below s _ _ _ (T1.setTop (mkF m 18 #[.val (.long q0), .second, .val (.long m2), .second] [(.long m2), (.long m2)]))
  refine Rest.via (fun t k => XS.bipush X1.here hx rfl (hb hby d2_18) k) ?_
  show Rest p.tables e below s _ _ _ (T1.setTop (mkF m 20 #[.val (.long q0), .second, .val (.long m2), .second] [(.int (31 : Int32)), (.long m2), (.long m2)]))
  refine Rest.via (fun t k => XS.lushr X1.here hx rfl (hb hby d2_20) rfl k) ?_
  show Rest p.tables e below s _ _ _ (T1.setTop (mkF m 21 #[.val (.long q0), .second, .val (.long m2), .second] [(.long ((m2.toUInt64 >>> ((31 : Int32) &&& 0x3f).toInt64.toUInt64).toInt64)), (.long m2)]))
  refine Rest.via (fun t k => XS.lxor X1.here hx rfl (hb hby d2_21) rfl k) ?_
  show Rest p.tables e below s _ _ _ (T1.setTop (mkF m 22 #[.val (.long q0), .second, .val (.long m2), .second] [(.long (m2 ^^^ ((m2.toUInt64 >>> ((31 : Int32) &&& 0x3f).toInt64.toUInt64).toInt64)))]))
  refine Rest.via (fun t k => XS.lloadN X1.here hx rfl (hb hby d2_22) rfl k) ?_
  show Rest p.tables e below s _ _ _ (T1.setTop (mkF m 23 #[.val (.long q0), .second, .val (.long m2), .second] [(.long m2), (.long (m2 ^^^ ((m2.toUInt64 >>> ((31 : Int32) &&& 0x3f).toInt64.toUInt64).toInt64)))]))
  refine Rest.via (fun t k => XS.bipush X1.here hx rfl (hb hby d2_23) k) ?_
  show Rest p.tables e below s _ _ _ (T1.setTop (mkF m 25 #[.val (.long q0), .second, .val (.long m2), .second] [(.int (62 : Int32)), (.long m2), (.long (m2 ^^^ ((m2.toUInt64 >>> ((31 : Int32) &&& 0x3f).toInt64.toUInt64).toInt64)))]))
  refine Rest.via (fun t k => XS.lushr X1.here hx rfl (hb hby d2_25) rfl k) ?_
  show Rest p.tables e below s _ _ _ (T1.setTop (mkF m 26 #[.val (.long q0), .second, .val (.long m2), .second] [(.long ((m2.toUInt64 >>> ((62 : Int32) &&& 0x3f).toInt64.toUInt64).toInt64)), (.long (m2 ^^^ ((m2.toUInt64 >>> ((31 : Int32) &&& 0x3f).toInt64.toUInt64).toInt64)))]))
  refine Rest.via (fun t k => XS.lxor X1.here hx rfl (hb hby d2_26) rfl k) ?_
  show Rest p.tables e below s _ _ _ (T1.setTop (mkF m 27 #[.val (.long q0), .second, .val (.long m2), .second] [(.long ((m2 ^^^ ((m2.toUInt64 >>> ((31 : Int32) &&& 0x3f).toInt64.toUInt64).toInt64)) ^^^ ((m2.toUInt64 >>> ((62 : Int32) &&& 0x3f).toInt64.toUInt64).toInt64)))]))
  refine Rest.via (fun t k => XS.lstoreN X1.here hx rfl (hb hby d2_27) rfl (l' := #[.val (.long q0), .second, .val (.long ((m2 ^^^ ((m2.toUInt64 >>> ((31 : Int32) &&& 0x3f).toInt64.toUInt64).toInt64)) ^^^ ((m2.toUInt64 >>> ((62 : Int32) &&& 0x3f).toInt64.toUInt64).toInt64))), .second]) rfl k) ?_
  show Rest p.tables e below s _ _ _ (T1.setTop (mkF m 28 #[.val (.long q0), .second, .val (.long ((m2 ^^^ ((m2.toUInt64 >>> ((31 : Int32) &&& 0x3f).toInt64.toUInt64).toInt64)) ^^^ ((m2.toUInt64 >>> ((62 : Int32) &&& 0x3f).toInt64.toUInt64).toInt64))), .second] []))
  obtain ⟨m3, hv_m3⟩ : ∃ z : Int64, z = ((m2 ^^^ ((m2.toUInt64 >>> ((31 : Int32) &&& 0x3f).toInt64.toUInt64).toInt64)) ^^^ ((m2.toUInt64 >>> ((62 : Int32) &&& 0x3f).toInt64.toUInt64).toInt64)) := ⟨_, rfl⟩
  rw [← hv_m3]
  show Rest p.tables e below s _ _ _ (T1.setTop (mkF m 28 #[.val (.long q0), .second, .val (.long m3), .second] []))
  refine Rest.via (fun t k => XS.lloadN X1.here hx rfl (hb hby d2_28) rfl k) ?_
  show Rest p.tables e below s _ _ _ (T1.setTop (mkF m 29 #[.val (.long q0), .second, .val (.long m3), .second] [(.long m3)]))
  refine Rest.via (fun t k => X1.ldc2Long hx hown (mvT hZ (hw _ (List.mem_of_getElem? (i := 15) rfl))) (g := (mkF m 29 #[.val (.long q0), .second, .val (.long m3), .second] [(.long m3)])) rfl (hb hby d2_29) t k) ?_
  show Rest p.tables e below s _ _ _ (T1.setTop (mkF m 32 #[.val (.long q0), .second, .val (.long m3), .second] [(.long (-7046029254386353131 : Int64)), (.long m3)]))
  obtain ⟨_, _, ⟨T2, L2, k2, n2⟩, -, X2, ⟨Lc2, hQ2, l2, y2, z2⟩, st2⟩ := Jvm.LawKit.callS X1 hx (y := (⟨"com/example/surnia/surnia/owl/ElementHashPinLaw", "inverseOf", "(J)J"⟩ : MethodName)) hown (mvT hZ (hw _ (List.mem_of_getElem? (i := 11) rfl))) (mvT hZ (hw _ (List.mem_of_getElem? (i := 12) rfl))) (mvT hZ (hw _ (List.mem_of_getElem? (i := 8) rfl))) (mvT hZ (hw _ (List.mem_of_getElem? (i := 13) rfl))) (by decide) (backOf (W := 2) (rmI l Z aw hw [] (-7046029254386353131 : Int64)  h0 n0 (Nat.le_trans Z0 (Keep.refl h0 []).1) ) hZ (hw _ (List.mem_of_getElem? (i := 13) rfl)) (hw _ (List.mem_of_getElem? (i := 8) rfl)) (by decide) (by decide)) (g := (mkF m 32 #[.val (.long q0), .second, .val (.long m3), .second] [(.long (-7046029254386353131 : Int64)), (.long m3)])) rfl (by rw [hml]; rfl) (argsL := [(.long (-7046029254386353131 : Int64))]) (rest := [(.long m3)]) (lenOf pd_0 rfl) rfl (by show 2 * 0 + _ ≤ _; exact Nat.le_of_eq rfl) (hb hby d2_32) (fun _ _ => ⟨rfl, e1, (by decide : 0 + 0 ≤ _), (by decide : 0 + 0 ≤ _)⟩)
  dsimp only [Pt.U, Pt.locs, Pt.cells, Pt.slots] at X2 l2 y2 z2 st2 hQ2
  subst l2 y2 z2
  obtain ⟨rfl, Nq2, e2⟩ := hQ2
  have N2 := Fr.app N1 Nq2
  refine Rest.via (fun t k => st2 t k) ?_
  show Rest p.tables e below s _ _ _ (T2.setTop (mkF m 35 #[.val (.long q0), .second, .val (.long m3), .second] [(.long (own_inv (-7046029254386353131 : Int64))), (.long m3)]))
  refine Rest.via (fun t k => XS.lmul X2.here hx rfl (hb hby d2_35) rfl k) ?_
  show Rest p.tables e below s _ _ _ (T2.setTop (mkF m 36 #[.val (.long q0), .second, .val (.long m3), .second] [(.long (m3 * (own_inv (-7046029254386353131 : Int64))))]))
  refine Rest.via (fun t k => XS.lstoreN X2.here hx rfl (hb hby d2_36) rfl (l' := #[.val (.long q0), .second, .val (.long (m3 * (own_inv (-7046029254386353131 : Int64)))), .second]) rfl k) ?_
  show Rest p.tables e below s _ _ _ (T2.setTop (mkF m 37 #[.val (.long q0), .second, .val (.long (m3 * (own_inv (-7046029254386353131 : Int64)))), .second] []))
  obtain ⟨m4, hv_m4⟩ : ∃ z : Int64, z = (m3 * (own_inv (-7046029254386353131 : Int64))) := ⟨_, rfl⟩
  rw [← hv_m4]
  show Rest p.tables e below s _ _ _ (T2.setTop (mkF m 37 #[.val (.long q0), .second, .val (.long m4), .second] []))
  refine Rest.via (fun t k => XS.lloadN X2.here hx rfl (hb hby d2_37) rfl k) ?_
  show Rest p.tables e below s _ _ _ (T2.setTop (mkF m 38 #[.val (.long q0), .second, .val (.long m4), .second] [(.long m4)]))
  refine Rest.ret X2 (v := some (.long m4)) (fun h => by rw [Bd.returns] at h; cases h) hlk (fun fs hr => retOut X2 hx Bd.returns rfl (Or.inr (Or.inl ⟨rfl, rfl, _, rfl⟩)) (hb hby d2_38) hr) ?_ (by decide) (by decide)
  rw [e2]
  exact ⟨by subst hv_m1 hv_m2 hv_m3 hv_m4; rfl, N2, rfl⟩
theorem pd_1 : parseMethodDescriptor "(I)J" = some ⟨[.int], some .long⟩ := by decide +kernel
theorem ef_0 (m : MethodId) (p0 : Int32) : entryFrame m #[(.int p0)] maxLocals = mkF m 0 #[.val (.int p0), .unset, .unset, .unset, .unset] [] := by first | (simp [entryFrame, mkF, argsToLocals, Value.category, maxLocals]; done) | rfl
def Q0 (Z : State) (p0 : Int32) (h0 : Heap) (n0 : Nat) (v : Option Value) (h : Heap) (L : List Loc) : Prop := v = some (.int 1) ∧ Fr n0 L
set_option maxRecDepth 65536 in
set_option maxHeartbeats 40000000 in
theorem rm0 (l : Launch) (Z : State) (aw : Array Value) (hw : ∀ d ∈ tables_1, d.before aw Z = true) (ws : List Jvm.Cond) (p0 : Int32) (h0 : Heap) (n0 : Nat) (Z0 : n0 ≤ h0.size)  :
    MetFree l x (head1 (Jvm.Cond.code x code maxLocals ret :: ws) room_1) (fun a U => a = #[(.int p0)] ∧ Z.Warmed39 U.vm ∧ U.heap = h0) (fun _ _ _ _ _ => True) (fun _ U o U' => ∃ v L, o = .returned v ∧ Q0 Z p0 h0 n0 v U'.heap L ∧ FrameEnd U o U' L 0 0) := by
  refine MetFree.of_bodySF (plainFor_of_name pn_0) hisR ?_
  intro p e s m args below meth c s₁ Bd hml0 hP hK
  obtain ⟨rfl, hZ, hh⟩ := hP
  have hx := Bd.exec
  have hby := Bd.bytes
  have hml : c.maxLocals = 5 := hml0
  have hown : s.vm.findClass "com/example/surnia/surnia/owl/ElementHashPinLaw" = some m.cls := findClass_of_methodNamed Bd.named
  have hnm := (name_of_methodNamed Bd.named Bd.method).1
  have hlk : meth.locks = false := BodyLoose.notSynchronized Bd
  have X0 : Stand p l e room_1 s m #[(.int p0)] below meth c s₁ [] 0 0 := Stand.of_body Bd
  have eh0 : s₁.heap = h0 := by rw [← hh, Bd.state]; rfl
  have N0 := Fr.nil n0
  show Rest p.tables e below s (Q0 Z p0 h0 n0) _ _ (s₁.setTop (entryFrame m #[(.int p0)] maxLocals))
  refine Rest.via (fun t k => castTop (ef_0 m p0) k) ?_
  show Rest p.tables e below s _ _ _ (s₁.setTop (mkF m 0 #[.val (.int p0), .unset, .unset, .unset, .unset] []))
  refine Rest.via (fun t k => XS.iloadN X0.here hx rfl (hb hby at_0) rfl k) ?_
  show Rest p.tables e below s _ _ _ (s₁.setTop (mkF m 1 #[.val (.int p0), .unset, .unset, .unset, .unset] [(.int p0)]))
  obtain ⟨_, _, ⟨T1, L1, k1, n1⟩, -, X1, ⟨Lc1, hQ1, l1, y1, z1⟩, st1⟩ := Jvm.LawKit.callS X0 hx (y := (⟨"com/example/surnia/surnia/owl/CompletionGraph$Element", "hash", "(I)J"⟩ : MethodName)) hown (mvT hZ (hw _ (List.mem_of_getElem? (i := 0) rfl))) (mvT hZ (hw _ (List.mem_of_getElem? (i := 1) rfl))) (mvT hZ (hw _ (List.mem_of_getElem? (i := 2) rfl))) (mvT hZ (hw _ (List.mem_of_getElem? (i := 3) rfl))) (by decide) (backOf (W := 0) (rmH l Z aw hw [] p0  h0 n0 (Nat.le_trans Z0 (Keep.refl h0 []).1) ) hZ (hw _ (List.mem_of_getElem? (i := 3) rfl)) (hw _ (List.mem_of_getElem? (i := 2) rfl)) (by decide) (by decide)) (g := (mkF m 1 #[.val (.int p0), .unset, .unset, .unset, .unset] [(.int p0)])) rfl (by rw [hml]; rfl) (argsL := [(.int p0)]) (rest := []) (lenOf pd_1 rfl) rfl (by show 2 * 0 + _ ≤ _; exact Nat.le_of_eq rfl) (hb hby at_1) (fun _ _ => ⟨rfl, eh0, (by decide : 0 + 0 ≤ _), (by decide : 0 + 0 ≤ _)⟩)
  dsimp only [Pt.U, Pt.locs, Pt.cells, Pt.slots] at X1 l1 y1 z1 st1 hQ1
  subst l1 y1 z1
  obtain ⟨rfl, Nq1, e1⟩ := hQ1
  have N1 := Fr.app N0 Nq1
  refine Rest.via (fun t k => st1 t k) ?_
  show Rest p.tables e below s _ _ _ (T1.setTop (mkF m 4 #[.val (.int p0), .unset, .unset, .unset, .unset] [(.long (own_hash p0))]))
  refine Rest.via (fun t k => XS.lstoreN X1.here hx rfl (hb hby at_4) rfl (l' := #[.val (.int p0), .val (.long (own_hash p0)), .second, .unset, .unset]) rfl k) ?_
  show Rest p.tables e below s _ _ _ (T1.setTop (mkF m 5 #[.val (.int p0), .val (.long (own_hash p0)), .second, .unset, .unset] []))
  refine Rest.via (fun t k => XS.lloadN X1.here hx rfl (hb hby at_5) rfl k) ?_
  show Rest p.tables e below s _ _ _ (T1.setTop (mkF m 6 #[.val (.int p0), .val (.long (own_hash p0)), .second, .unset, .unset] [(.long (own_hash p0))]))
  obtain ⟨_, _, ⟨T2, L2, k2, n2⟩, -, X2, ⟨Lc2, hQ2, l2, y2, z2⟩, st2⟩ := Jvm.LawKit.callS X1 hx (y := (⟨"com/example/surnia/surnia/owl/ElementHashPinLaw", "unmix", "(J)J"⟩ : MethodName)) hown (mvT hZ (hw _ (List.mem_of_getElem? (i := 6) rfl))) (mvT hZ (hw _ (List.mem_of_getElem? (i := 7) rfl))) (mvT hZ (hw _ (List.mem_of_getElem? (i := 8) rfl))) (mvT hZ (hw _ (List.mem_of_getElem? (i := 9) rfl))) (by decide) (backOf (W := 0) (rmU l Z aw hw [] (own_hash p0)  h0 n0 (Nat.le_trans Z0 (Keep.refl h0 []).1) ) hZ (hw _ (List.mem_of_getElem? (i := 9) rfl)) (hw _ (List.mem_of_getElem? (i := 8) rfl)) (by decide) (by decide)) (g := (mkF m 6 #[.val (.int p0), .val (.long (own_hash p0)), .second, .unset, .unset] [(.long (own_hash p0))])) rfl (by rw [hml]; rfl) (argsL := [(.long (own_hash p0))]) (rest := []) (lenOf pd_0 rfl) rfl (by show 2 * 0 + _ ≤ _; exact Nat.le_of_eq rfl) (hb hby at_6) (fun _ _ => ⟨rfl, e1, (by decide : 0 + 0 ≤ _), (by decide : 0 + 0 ≤ _)⟩)
  dsimp only [Pt.U, Pt.locs, Pt.cells, Pt.slots] at X2 l2 y2 z2 st2 hQ2
  subst l2 y2 z2
  obtain ⟨rfl, Nq2, e2⟩ := hQ2
  have N2 := Fr.app N1 Nq2
  refine Rest.via (fun t k => st2 t k) ?_
  show Rest p.tables e below s _ _ _ (T2.setTop (mkF m 9 #[.val (.int p0), .val (.long (own_hash p0)), .second, .unset, .unset] [(.long (own_unmix (own_hash p0)))]))
  refine Rest.via (fun t k => XS.lstoreN X2.here hx rfl (hb hby at_9) rfl (l' := #[.val (.int p0), .val (.long (own_hash p0)), .second, .val (.long (own_unmix (own_hash p0))), .second]) rfl k) ?_
  show Rest p.tables e below s _ _ _ (T2.setTop (mkF m 10 #[.val (.int p0), .val (.long (own_hash p0)), .second, .val (.long (own_unmix (own_hash p0))), .second] []))
  refine Rest.via (fun t k => XS.lloadN X2.here hx rfl (hb hby at_10) rfl k) ?_
  show Rest p.tables e below s _ _ _ (T2.setTop (mkF m 11 #[.val (.int p0), .val (.long (own_hash p0)), .second, .val (.long (own_unmix (own_hash p0))), .second] [(.long (own_unmix (own_hash p0)))]))
  refine Rest.via (fun t k => XS.l2i X2.here hx rfl (hb hby at_11) rfl k) ?_
  show Rest p.tables e below s _ _ _ (T2.setTop (mkF m 12 #[.val (.int p0), .val (.long (own_hash p0)), .second, .val (.long (own_unmix (own_hash p0))), .second] [(.int ((own_unmix (own_hash p0)).toInt32))]))
  refine Rest.via (fun t k => XS.iloadN X2.here hx rfl (hb hby at_12) rfl k) ?_
  show Rest p.tables e below s _ _ _ (T2.setTop (mkF m 13 #[.val (.int p0), .val (.long (own_hash p0)), .second, .val (.long (own_unmix (own_hash p0))), .second] [(.int p0), (.int ((own_unmix (own_hash p0)).toInt32))]))
  refine Rest.via (fun t k => XS.iconst X2.here hx rfl (hb hby at_13) k) ?_
  show Rest p.tables e below s _ _ _ (T2.setTop (mkF m 14 #[.val (.int p0), .val (.long (own_hash p0)), .second, .val (.long (own_unmix (own_hash p0))), .second] [(.int (1 : Int32)), (.int p0), (.int ((own_unmix (own_hash p0)).toInt32))]))
  refine Rest.via (fun t k => XS.iadd X2.here hx rfl (hb hby at_14) rfl k) ?_
  show Rest p.tables e below s _ _ _ (T2.setTop (mkF m 15 #[.val (.int p0), .val (.long (own_hash p0)), .second, .val (.long (own_unmix (own_hash p0))), .second] [(.int (p0 + (1 : Int32))), (.int ((own_unmix (own_hash p0)).toInt32))]))
  refine Rest.via (fun t k => XS.icmpNo X2.here hx rfl (hb hby at_15) rfl (teq (own_main _ : ((own_unmix (own_hash p0)).toInt32) = (p0 + (1 : Int32)))).2 k) ?_
  show Rest p.tables e below s _ _ _ (T2.setTop (mkF m 18 #[.val (.int p0), .val (.long (own_hash p0)), .second, .val (.long (own_unmix (own_hash p0))), .second] []))
  refine Rest.via (fun t k => XS.iconst X2.here hx rfl (hb hby at_18) k) ?_
  show Rest p.tables e below s _ _ _ (T2.setTop (mkF m 19 #[.val (.int p0), .val (.long (own_hash p0)), .second, .val (.long (own_unmix (own_hash p0))), .second] [(.int (1 : Int32))]))
  refine Rest.via (fun t k => XS.goto X2.here hx rfl (pc0 := 19) (pc' := 23) rfl (hb hby at_19) (by decide) (by decide) k) ?_
  show Rest p.tables e below s _ _ _ (T2.setTop (mkF m 23 #[.val (.int p0), .val (.long (own_hash p0)), .second, .val (.long (own_unmix (own_hash p0))), .second] [(.int (1 : Int32))]))
  refine Rest.ret X2 (v := some (.int (nar .boolean (1 : Int32)))) (fun h => by rw [Bd.returns] at h; cases h) hlk (fun fs hr => retN X2 hx (t := .boolean) Bd.returns (by simp) (hb hby at_23) hr) ?_ (by decide) (by decide)
  rw [e2]
  exact ⟨rfl, N2⟩
set_option maxRecDepth 65536 in
set_option maxHeartbeats 40000000 in
theorem comes_1 {Post : Tables → Env → Array Value → State → Outcome → State → Prop} (hpost : ∀ tb e args s v u, (limb_1_1.after args s (.returned v) u = true ∧ limb_1_2.after args s (.returned v) u = true ∧ True) → FrameEnd s (.returned v) u (Jvm.fieldLocs frame_1_writes args s ++ Jvm.arrayLocs frame_1_arrays args s ++ Jvm.staticLocs frame_1_statics s) 0 0 → Post tb e args s (.returned v) u) :
    ArmFor flags0 classFile x code maxLocals ret World_1 tables_1 room_1 Calls_1 rest_1 Pre_1 Post := by
  intro l hfl _ _ p e ha hc hk s m args below hf hA hF happ hP
  obtain ⟨hcalls, hrest, hpre⟩ := hP
  obtain ⟨-, -, -, hnamed, -, -, -, hat⟩ := (Spec.applies_iff hf).mp happ
  obtain ⟨hg, hn⟩ := and_e (Cond.before_iff.mp (show (Jvm.Cond.and given_1 narrow_1).before args s = true from hpre))
  obtain ⟨hcnt, hg0⟩ := and_e hg
  have ha0 := hg0
  obtain ⟨w0, rfl⟩ : ∃ w0 : Value, args = #[w0] := by
    have hs : args.size = 1 := by simpa [Cond.value, given_1] using hcnt
    obtain ⟨L⟩ := args
    match L, hs with
    | [w0], _ => exact ⟨w0, rfl⟩
  have hw := fun d (hd : d ∈ tables_1) => atoms_spec (ws := Jvm.Cond.code x code maxLocals ret :: tables_1) hat d (List.mem_cons_of_mem _ hd)
  have hfit : Fit s := fun {y c} hc i hi => by
    obtain ⟨ha, rfl⟩ := Array.getElem?_eq_some_iff.mp hc
    have q := List.all_eq_true.mp ((Array.all_eq_true_iff_forall_mem.mp hF) _ (Array.getElem_mem ha)) i (List.mem_range.mpr hi)
    simpa [Array.getElem?_eq_getElem hi] using q
  obtain ⟨i0, ei0⟩ := is_v ha0
  obtain rfl : w0 = (.int i0) := Option.some.inj ei0
  obtain ⟨n, o, h1, h2, h3, _, L, rfl, ⟨rfl, N⟩, hq⟩ := rm0 l s _ hw tables_1 i0  s.heap s.heap.size (Nat.le_refl _)  p e ha hc hk s m _ below hf ((Spec.applies_iff_loose hf).mp happ).1 ⟨rfl, State.Warmed39.refl s, rfl⟩ trivial
  refine ⟨n, _, h1, h2, h3, hpost _ _ _ _ _ _ ⟨Cond.after_iff.mpr rfl, Cond.after_iff.mpr (eq_i res_at (Term.int_eval (1)) rfl), trivial⟩ ⟨hq.1, hq.2.1, (hq.2.2.sift fun y hy => Or.inr (N y hy)).mono (by decide) (by decide)⟩⟩
theorem main_1_1 : Claimed_1_1 := comes_1 fun _ _ _ _ _ _ h hF => ⟨h.1, hF⟩
theorem main_1_2 : Claimed_1_2 := comes_1 fun _ _ _ _ _ _ h hF => ⟨h.2.1, hF⟩
end Jvm.Pilot.@@N@@
namespace Jvm.Pilot.@@N@@
open Jvm Jvm.ClassFile Sem Op Lib Jvm.Free Jvm.Stand Jvm.Pilot.@@N@@.Jvm.D
/-! MADE BY PROGRAM (witnessworld.py) out of the Statement's table words and the real class files: 9 classes; the members and pool entries that the words name. The judged class is class 1, her method 3. -/
namespace start1
open Jvm.ClassFile
def u (s : String) : CpInfo := .utf8 (stringToUtf16 s)
/-- a pool by its gaps: so many unusable entries, then the entry; so many at the end -/
def gap : Nat → List CpInfo → List CpInfo
  | 0, r => r
  | n + 1, r => .unusable :: gap n r
def poolList (es : List (Nat × CpInfo)) (last : Nat) : List CpInfo := es.foldr (fun e r => gap e.1 (e.2 :: r)) (gap last [])
def pool (es : List (Nat × CpInfo)) (last : Nat) : Array CpInfo := ⟨poolList es last⟩
def fileOf (pool : Array CpInfo) (this : Nat) (attrs : Array Attribute := #[]) (ms : Array MethodInfo := #[]) (fl : Nat := 33) (sup : Nat := 0) (ifs : Array Nat := #[]) (fds : Array FieldInfo := #[]) : ClassFile where
  minorVersion := 0
  majorVersion := 65
  constantPool := pool
  accessFlags := fl
  thisClass := this
  superClass := sup
  interfaces := ifs
  fields := fds
  methods := ms
  attributes := attrs
def plain (name : String) (sup : Option ClassId) : Class where
  name := name
  kind := .ordinary
  loader := none
  accessFlags := 33
  super := sup
  interfaces := #[]
  cf := none
  fields := #[]
  methods := #[]
  instanceTypes := #[]
  staticTypes := #[]
  resolved := #[]
  callSites := []
  init := .initialized
  statics := none
  mirror := none

def pool0 : Array CpInfo := pool [(5, u "<init>"), (0, u "()V"), (1, .class_ 10), (1, u "java/lang/Object")] 113

def k0m0 : Method := { name := "<init>", desc := "()V", sig := { parameters := [], returnType := none }, accessFlags := 1, code := none }
/-- java/lang/Object -/
def k0 : Class := { plain "java/lang/Object" none with
  accessFlags := 33
  interfaces := #[]
  cf := some (fileOf pool0 8 #[] #[{ accessFlags := 1, nameIndex := 5, descriptorIndex := 6, attributes := #[] }] 33 0 #[] #[])
  fields := #[]
  methods := #[k0m0]
  instanceTypes := #[]
  staticTypes := #[]
  resolved := Array.replicate 124 none
  statics := none }

def pool1 : Array CpInfo := pool [(2, .class_ 4), (1, u "java/lang/Object"), (0, u "<init>"), (0, u "()V"), (0, .long 2), (1, .long 15485907386658061715), (1, .methodref 12 13), (0, .class_ 14), (0, .nameAndType 15 16), (0, u "com/example/surnia/surnia/owl/ElementHashPinLaw"), (0, u "inverseOf"), (0, u "(J)J"), (0, .long 11400714819323198485), (1, .methodref 20 21), (0, .class_ 22), (0, .nameAndType 23 24), (0, u "com/example/surnia/surnia/owl/CompletionGraph$Element"), (0, u "hash"), (0, u "(I)J"), (0, .methodref 12 26), (0, .nameAndType 27 16), (0, u "unmix"), (2, u "law"), (0, u "(I)Z")] 7

def k1m0 : Method := { name := "<init>", desc := "()V", sig := { parameters := [], returnType := none }, accessFlags := 2, code := none }
def k1c1 : Code := { maxStack := 8, maxLocals := 4, code := method_2_code, exceptionTable := #[], attributes := #[] }
def k1m1 : Method := { name := "inverseOf", desc := "(J)J", sig := { parameters := [.long], returnType := some .long }, accessFlags := 10, code := some k1c1 }
def k1c2 : Code := { maxStack := 5, maxLocals := 4, code := method_3_code, exceptionTable := #[], attributes := #[] }
def k1m2 : Method := { name := "unmix", desc := "(J)J", sig := { parameters := [.long], returnType := some .long }, accessFlags := 10, code := some k1c2 }
def k1c3 : Code := { maxStack := 3, maxLocals := 5, code := code, exceptionTable := #[], attributes := #[] }
def k1m3 : Method := { name := "law", desc := "(I)Z", sig := { parameters := [.int], returnType := some .boolean }, accessFlags := 9, code := some k1c3 }
/-- com/example/surnia/surnia/owl/ElementHashPinLaw -/
def k1 : Class := { plain "com/example/surnia/surnia/owl/ElementHashPinLaw" (some 0) with
  accessFlags := 49
  interfaces := #[]
  cf := some (fileOf pool1 12 #[] #[{ accessFlags := 2, nameIndex := 5, descriptorIndex := 6, attributes := #[] }, { accessFlags := 10, nameIndex := 15, descriptorIndex := 16, attributes := #[] }, { accessFlags := 10, nameIndex := 27, descriptorIndex := 16, attributes := #[] }, { accessFlags := 9, nameIndex := 30, descriptorIndex := 31, attributes := #[] }] 49 2 #[] #[])
  fields := #[]
  methods := #[k1m0, k1m1, k1m2, k1m3]
  instanceTypes := #[]
  staticTypes := #[]
  resolved := Array.replicate 39 none
  statics := none }

def pool2 : Array CpInfo := pool [(2, .class_ 4), (1, u "java/lang/Object"), (9, .class_ 16), (1, u "com/example/surnia/surnia/owl/CompletionGraph$Element"), (0, u "label"), (0, u "Ljava/util/Map;"), (7, u "edges"), (2, u "restrictions"), (5, u "blocking"), (0, u "Lcom/example/surnia/surnia/owl/Blocking$State;"), (2, u "parent"), (0, u "Lcom/example/surnia/surnia/owl/CompletionGraph$Element;"), (2, u "depth"), (0, u "I"), (2, u "value"), (0, u "Z"), (2, u "signature"), (0, u "J"), (2, u "labelHash"), (2, u "differences"), (2, u "pruned"), (39, .long 11400714819323198485), (1, .long 15485907386658061715), (6, u "mergedInto"), (17, u "hash"), (0, u "(I)J"), (3, .class_ 134), (0, u "com/example/surnia/surnia/owl/CompletionGraph")] 8

def k2c0 : Code := { maxStack := 5, maxLocals := 3, code := prog_38_method_14_code, exceptionTable := #[], attributes := #[] }
def k2m0 : Method := { name := "hash", desc := "(I)J", sig := { parameters := [.int], returnType := some .long }, accessFlags := 8, code := some k2c0 }
/-- com/example/surnia/surnia/owl/CompletionGraph$Element -/
def k2 : Class := { plain "com/example/surnia/surnia/owl/CompletionGraph$Element" (some 0) with
  accessFlags := 48
  interfaces := #[]
  cf := some (fileOf pool2 14 #[.nestHost 133] #[{ accessFlags := 8, nameIndex := 128, descriptorIndex := 129, attributes := #[] }] 48 2 #[] #[{ accessFlags := 18, nameIndex := 39, descriptorIndex := 40, attributes := #[] }, { accessFlags := 18, nameIndex := 43, descriptorIndex := 44, attributes := #[] }, { accessFlags := 18, nameIndex := 47, descriptorIndex := 48, attributes := #[] }, { accessFlags := 2, nameIndex := 17, descriptorIndex := 18, attributes := #[] }, { accessFlags := 2, nameIndex := 51, descriptorIndex := 52, attributes := #[] }, { accessFlags := 2, nameIndex := 55, descriptorIndex := 52, attributes := #[] }, { accessFlags := 18, nameIndex := 26, descriptorIndex := 18, attributes := #[] }, { accessFlags := 2, nameIndex := 29, descriptorIndex := 18, attributes := #[] }, { accessFlags := 2, nameIndex := 58, descriptorIndex := 18, attributes := #[] }, { accessFlags := 2, nameIndex := 61, descriptorIndex := 48, attributes := #[] }, { accessFlags := 2, nameIndex := 110, descriptorIndex := 40, attributes := #[] }, { accessFlags := 18, nameIndex := 35, descriptorIndex := 36, attributes := #[] }])
  fields := #[{ name := "parent", type := (.object "com/example/surnia/surnia/owl/CompletionGraph$Element"), accessFlags := 18, slot := 0, constantValue := 0 }, { name := "depth", type := .int, accessFlags := 18, slot := 1, constantValue := 0 }, { name := "value", type := .boolean, accessFlags := 18, slot := 2, constantValue := 0 }, { name := "label", type := (.object "java/util/Map"), accessFlags := 2, slot := 3, constantValue := 0 }, { name := "signature", type := .long, accessFlags := 2, slot := 4, constantValue := 0 }, { name := "labelHash", type := .long, accessFlags := 2, slot := 5, constantValue := 0 }, { name := "edges", type := (.object "java/util/Map"), accessFlags := 18, slot := 6, constantValue := 0 }, { name := "restrictions", type := (.object "java/util/Map"), accessFlags := 2, slot := 7, constantValue := 0 }, { name := "differences", type := (.object "java/util/Map"), accessFlags := 2, slot := 8, constantValue := 0 }, { name := "pruned", type := .boolean, accessFlags := 2, slot := 9, constantValue := 0 }, { name := "mergedInto", type := (.object "com/example/surnia/surnia/owl/CompletionGraph$Element"), accessFlags := 2, slot := 10, constantValue := 0 }, { name := "blocking", type := (.object "com/example/surnia/surnia/owl/Blocking$State"), accessFlags := 18, slot := 11, constantValue := 0 }]
  methods := #[k2m0]
  instanceTypes := #[(.object "com/example/surnia/surnia/owl/CompletionGraph$Element"), .int, .boolean, (.object "java/util/Map"), .long, .long, (.object "java/util/Map"), (.object "java/util/Map"), (.object "java/util/Map"), .boolean, (.object "com/example/surnia/surnia/owl/CompletionGraph$Element"), (.object "com/example/surnia/surnia/owl/Blocking$State")]
  staticTypes := #[]
  resolved := Array.replicate 143 none
  statics := none }

def pool3 : Array CpInfo := pool [(1, u "java/lang/Cloneable"), (0, .class_ 1), (0, u "java/lang/Object"), (0, .class_ 3)] 3

/-- java/lang/Cloneable -/
def k3 : Class := { plain "java/lang/Cloneable" (some 0) with
  accessFlags := 1537
  interfaces := #[]
  cf := some (fileOf pool3 2 #[] #[] 1537 4 #[] #[])
  fields := #[]
  methods := #[]
  instanceTypes := #[]
  staticTypes := #[]
  resolved := Array.replicate 8 none
  statics := none }

def pool4 : Array CpInfo := pool [(1, u "java/io/Serializable"), (0, .class_ 1), (0, u "java/lang/Object"), (0, .class_ 3)] 3

/-- java/io/Serializable -/
def k4 : Class := { plain "java/io/Serializable" (some 0) with
  accessFlags := 1537
  interfaces := #[]
  cf := some (fileOf pool4 2 #[] #[] 1537 4 #[] #[])
  fields := #[]
  methods := #[]
  instanceTypes := #[]
  staticTypes := #[]
  resolved := Array.replicate 8 none
  statics := none }

/-- the primitive byte -/
def k5 : Class := { plain "byte" none with kind := .primitive 'B', accessFlags := 0x411 }
/-- [B -/
def k6 : Class := { plain "[B" (some 0) with kind := .array 5 .byte, interfaces := #[3, 4], accessFlags := 1041 }

/-- the primitive int -/
def k7 : Class := { plain "int" none with kind := .primitive 'I', accessFlags := 0x411 }
/-- [I -/
def k8 : Class := { plain "[I" (some 0) with kind := .array 7 .int, interfaces := #[3, 4], accessFlags := 1041 }

def heap : Heap := #[]
def classes : Array Class := #[k0, k1, k2, k3, k4, k5, k6, k7, k8]
def interned : List (Array UInt16 × Addr) := []
def slotsUsed : Nat := 0
def theMethod : MethodId := ⟨1, 3⟩
def args0 : Array Value := #[.int 5]
def aboutOver (below : List Frame) : State where
  vm := { classes := classes, interned := interned.toArray }
  heap := heap
  slotsUsed := slotsUsed
  threads := #[{ frames := .invoking theMethod args0 :: below }]
def below0 : List Frame := [.native { method := ⟨0, 0⟩, args := #[] }]
def about1 : State := aboutOver below0
def p0 : Program := .bare "" "" ""
def e0 : Env := launch0.env 0 0 0
theorem w_frames : about1.frames = Frame.invoking theMethod args0 :: below0 := rfl
set_option maxRecDepth 65536 in
theorem w_args : argsFit about1.vm theMethod args0 = true := by decide +kernel
set_option maxRecDepth 65536 in
theorem w_heap : heapFits about1 = true := by decide +kernel
set_option maxRecDepth 65536 in
theorem w_runnable : about1.curStatus? = some .runnable := by decide +kernel
set_option maxRecDepth 65536 in
theorem w_alone : about1.alone = true := by decide +kernel
set_option maxRecDepth 65536 in
theorem w_named : about1.methodNamed? x = some theMethod := by decide +kernel
set_option maxRecDepth 65536 in
theorem w_hears : about1.hears theMethod below0 = true := by decide +kernel
set_option maxRecDepth 65536 in
theorem w_ripe : about1.ripe theMethod args0 below0 = true := by decide +kernel
theorem w_running : about1.status = .running := rfl
set_option maxRecDepth 65536 in
theorem w_room : about1.hasRoom e0.platform room_1 = true :=
  launch0.hasRoom_least _ room_1 (by decide +kernel) (by decide +kernel) (by decide +kernel) (by decide +kernel) (by decide +kernel) (by decide +kernel)
theorem allAtoms_all (ts : List Jvm.Cond) (a : Array Jvm.Value) (st : Jvm.State) : (allAtoms ts).before a st = ts.all (fun c => c.before a st) := by
  induction ts with
  | nil => rfl
  | cons c t ih =>
    show (Jvm.Cond.and c (allAtoms t)).before a st = _
    rw [Jvm.Cond.before_and, ih, List.all_cons]
def words1 : List Jvm.Cond := Jvm.Cond.code x code maxLocals ret :: tables_1
/-- a 'code' word, met by the world's own term for the bytes: nothing is compared byte by byte -/
theorem code_word {y : MethodName} {bytes : ByteArray} {mx : Nat} {rt : Option FieldType} {a : Array Value} {s : State} {m : MethodId} {meth : Method} {c : Code} (h1 : s.methodNamed? y = some m) (h2 : s.vm.method? m = some meth) (h3 : meth.code = some c) (h4 : c.code = bytes)
    (h5 : (c.maxLocals == mx && c.exceptionTable.isEmpty && decide (c.maxStack ≤ mostOperands) && decide (meth.sig.returnType = rt) && !meth.locks && decide (parseMethodDescriptor y.desc = some meth.sig)) = true) : (Jvm.Cond.code y bytes mx rt).before a s = true := by
  simp only [Bool.and_eq_true, beq_iff_eq, Bool.not_eq_true', decide_eq_true_eq] at h5
  obtain ⟨⟨⟨⟨⟨g1, g2⟩, g3⟩, g4⟩, g5⟩, g6⟩ := h5
  simp [Cond.before, Cond.holds, Cond.value, h1, h2, h3, h4, g1, g2, g3, g4, g5, g6]
def isCode : Jvm.Cond → Bool
  | .code _ _ _ _ => true
  | _ => false
theorem all_split {L : List Jvm.Cond} {P : Jvm.Cond → Bool} (h1 : L.all (fun c => isCode c || P c) = true) (h2 : ∀ c ∈ L.filter isCode, P c = true) : L.all P = true := by
  refine List.all_eq_true.mpr fun c hc => ?_
  have h := List.all_eq_true.mp h1 c hc
  rcases Bool.eq_false_or_eq_true (isCode c) with hi | hi
  · exact h2 c (List.mem_filter.mpr ⟨hc, hi⟩)
  · simpa [hi] using h
set_option maxRecDepth 65536 in
theorem w_c0 : (Jvm.Cond.code x code maxLocals ret).before args0 about1 = true := code_word (m := ⟨1, 3⟩) (meth := k1m3) (c := k1c3) (by decide +kernel) rfl rfl rfl (by decide +kernel)
set_option maxRecDepth 65536 in
theorem w_c1 : (Jvm.Cond.code ({ cls := "com/example/surnia/surnia/owl/CompletionGraph$Element", name := "hash", desc := "(I)J" } : Jvm.MethodName) prog_38_method_14_code (3 : Nat) (Option.some Jvm.ClassFile.FieldType.long)).before args0 about1 = true := code_word (m := ⟨2, 0⟩) (meth := k2m0) (c := k2c0) (by decide +kernel) rfl rfl rfl (by decide +kernel)
set_option maxRecDepth 65536 in
theorem w_c2 : (Jvm.Cond.code ({ cls := "com/example/surnia/surnia/owl/ElementHashPinLaw", name := "unmix", desc := "(J)J" } : Jvm.MethodName) method_3_code (4 : Nat) (Option.some Jvm.ClassFile.FieldType.long)).before args0 about1 = true := code_word (m := ⟨1, 2⟩) (meth := k1m2) (c := k1c2) (by decide +kernel) rfl rfl rfl (by decide +kernel)
set_option maxRecDepth 65536 in
theorem w_c3 : (Jvm.Cond.code ({ cls := "com/example/surnia/surnia/owl/ElementHashPinLaw", name := "inverseOf", desc := "(J)J" } : Jvm.MethodName) method_2_code (4 : Nat) (Option.some Jvm.ClassFile.FieldType.long)).before args0 about1 = true := code_word (m := ⟨1, 1⟩) (meth := k1m1) (c := k1c1) (by decide +kernel) rfl rfl rfl (by decide +kernel)
def codes1 : List Jvm.Cond := [Jvm.Cond.code x code maxLocals ret, Jvm.Cond.code ({ cls := "com/example/surnia/surnia/owl/CompletionGraph$Element", name := "hash", desc := "(I)J" } : Jvm.MethodName) prog_38_method_14_code (3 : Nat) (Option.some Jvm.ClassFile.FieldType.long), Jvm.Cond.code ({ cls := "com/example/surnia/surnia/owl/ElementHashPinLaw", name := "unmix", desc := "(J)J" } : Jvm.MethodName) method_3_code (4 : Nat) (Option.some Jvm.ClassFile.FieldType.long), Jvm.Cond.code ({ cls := "com/example/surnia/surnia/owl/ElementHashPinLaw", name := "inverseOf", desc := "(J)J" } : Jvm.MethodName) method_2_code (4 : Nat) (Option.some Jvm.ClassFile.FieldType.long)]
set_option maxRecDepth 65536 in
theorem codes_eq : words1.filter isCode = codes1 := rfl
theorem w_codes : ∀ c ∈ words1.filter isCode, c.before args0 about1 = true := by
  rw [codes_eq]
  intro c hc
  simp only [codes1, List.mem_cons, List.not_mem_nil, or_false] at hc
  rcases hc with rfl | rfl | rfl | rfl
  · exact w_c0
  · exact w_c1
  · exact w_c2
  · exact w_c3
set_option maxRecDepth 65536 in
theorem w_t1 : words1.all (fun c => isCode c || c.before args0 about1) = true := by decide +kernel
theorem w_tables : (allAtoms (Jvm.Cond.code x code maxLocals ret :: tables_1)).before args0 about1 = true := by
  rw [allAtoms_all]
  show words1.all (fun c => c.before args0 about1) = true
  refine all_split ?_ w_codes
  rw [w_t1]
set_option maxRecDepth 65536 in
theorem w_case : (Jvm.Cond.and given_1 narrow_1).before args0 about1 = true := by decide +kernel
theorem w_applies : (headSpec (Jvm.Cond.code x code maxLocals ret :: tables_1) room_1).applies x e0.platform about1 = true :=
  (Spec.applies_iff w_frames).mpr ⟨w_running, w_runnable, w_alone, w_named, w_hears, w_ripe, w_room, w_tables⟩
theorem atStart : AtStart classFile x code maxLocals ret World_1 tables_1 room_1 Calls_1 rest_1 Pre_1 launch0 p0 e0 about1 theMethod args0 below0 :=
  ⟨lists_1, trivial, launch0.admits_env _ _ _, launch0.least_env, fairChoices_fair.cas, fairChoices_fair.clock, w_frames, w_args, w_heap, w_applies, trivial, trivial, w_case⟩
end start1
theorem witness_1 : WitnessClaimed_1 := ⟨start1.p0, start1.e0, start1.about1, start1.theMethod, start1.args0, start1.below0, start1.atStart⟩
end Jvm.Pilot.@@N@@
