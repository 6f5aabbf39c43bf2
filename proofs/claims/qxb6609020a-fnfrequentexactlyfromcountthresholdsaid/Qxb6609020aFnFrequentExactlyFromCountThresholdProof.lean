/-
  The proof of 'Rows.FnFrequentExactlyFromCountThresholdSaid': the walk by the contract of layout.Frequent (Qxb6609020aFreq), then the row's step.
-/
import Derived.Test.Qxb6609020aRows
import Derived.Test.Qxb6609020aFreq
import Derived.WalkKit
import Derived.ProofKit
import Derived.OpenShut
import Derived.ShutString
namespace Go.Proofs.Qxb6609020a.fnFrequentExactlyFromCountThreshold
open Go.ChangeShapes Go.WideShapes Go.ChangeAt Go.RowKit
open Go.ChangeMaps (open_string shut_string)
set_option linter.unusedVariables false      -- a walk need not use every 'w<i>' (that an integer argument fits its kind)

theorem own : ownKnob Try.prog.godebug = none := by kernel_rfl

/-! ### plain facts -/
theorem k_pos (s : Int) (hs : 2 ≤ s) : 0 < 20 * s := by omega
theorem div_le (f k : Int) : f / k * k ≤ f ∨ k = 0 := by
  by_cases h : k = 0
  · exact Or.inr h
  · exact Or.inl (Int.ediv_mul_le f h)
/-- the arm in which the quotient passes 256 -/
theorem big (c f s : Int) (hs : 2 ≤ s) (hf : 0 ≤ f) (h : 256 < f / (20 * s) + 1) :
    freqB c f s = decide (f / (20 * s) + 1 ≤ c) ∧ freqB (f / (20 * s) + 1) f s = true ∧ freqB (f / (20 * s)) f s = false := by
  have hk : 0 < 20 * s := by omega
  have h1 : f / (20 * s) * (20 * s) ≤ f := Int.ediv_mul_le f (by omega)
  have h2 : f < (f / (20 * s) + 1) * (20 * s) := Int.lt_ediv_add_one_mul_self f hk
  generalize hq : f / (20 * s) = qq at *
  have e (a : Int) : a * 20 * s = a * (20 * s) := Int.mul_assoc ..
  refine ⟨?_, ?_, ?_⟩
  · by_cases hc : qq + 1 ≤ c
    · have : (qq + 1) * (20 * s) ≤ c * (20 * s) := Int.mul_le_mul_of_nonneg_right hc (by omega)
      rw [freq_true c f s (by omega) (by omega) (by rw [e]; omega)]; simp [hc]
    · have : c * (20 * s) ≤ qq * (20 * s) := Int.mul_le_mul_of_nonneg_right (by omega) (by omega)
      rw [freq_false3 c f s (by rw [e]; omega)]; simp [hc]
  · exact freq_true _ f s (by omega) (by omega) (by rw [e]; omega)
  · exact freq_false3 _ f s (by rw [e]; omega)
/-- the arm in which it does not, or the number of files is negative -/
theorem small (c f s : Int) (hs : 2 ≤ s) (h : f < 0 ∨ f / (20 * s) + 1 ≤ 256) :
    freqB c f s = decide (256 ≤ c) ∧ freqB 256 f s = true ∧ freqB 255 f s = false := by
  have hk : 0 < 20 * s := by omega
  have hlt : f < 256 * (20 * s) := by
    rcases h with h | h
    · omega
    · have h2 : f < (f / (20 * s) + 1) * (20 * s) := Int.lt_ediv_add_one_mul_self f hk
      have := Int.mul_le_mul_of_nonneg_right h (Int.le_of_lt hk)
      omega
  have e (a : Int) : a * 20 * s = a * (20 * s) := Int.mul_assoc ..
  refine ⟨?_, ?_, ?_⟩
  · by_cases hc : 256 ≤ c
    · have : 256 * (20 * s) ≤ c * (20 * s) := Int.mul_le_mul_of_nonneg_right hc (by omega)
      rw [freq_true c f s (by omega) (by omega) (by rw [e]; omega)]; simp [hc]
    · rw [freq_false2 c f s (by omega)]; simp [hc]
  · exact freq_true _ f s (by omega) (by omega) (by rw [e]; omega)
  · exact freq_false2 _ f s (by omega)

/-! ### THE WALK, a theorem a way -/
def Gives (a0 a1 a2 : Int) (w : World) : Prop := Calls Try.prog 3 #[.int .i64 a0, .int .i64 a1, .int .i64 a2] w fun e w' => e = .returned (.bool true) ∧ Grown w w'

set_option maxHeartbeats 400000 in
theorem out1 (a0 a1 a2 : Int) (w : World) (h : 1125899906842624 < a0) : Gives a0 a1 a2 w := by
  unfold Gives
  go_enter Try.func3, Try.ntmps3
  go_wp2
  go_ret
  exact ⟨rfl, Grown.refl _⟩
set_option maxHeartbeats 400000 in
theorem out2 (a0 a1 a2 : Int) (w : World) (g : a0 ≤ 1125899906842624) (h : 1152921504606846976 < a1) : Gives a0 a1 a2 w := by
  unfold Gives
  go_enter Try.func3, Try.ntmps3
  go_wp2
  go_ret
  exact ⟨rfl, Grown.refl _⟩
set_option maxHeartbeats 400000 in
theorem out3 (a0 a1 a2 : Int) (w : World) (g : a0 ≤ 1125899906842624) (g2 : a1 ≤ 1152921504606846976) (h : a1 < -1152921504606846976) : Gives a0 a1 a2 w := by
  unfold Gives
  go_enter Try.func3, Try.ntmps3
  go_wp2
  go_ret
  exact ⟨rfl, Grown.refl _⟩
set_option maxHeartbeats 400000 in
theorem out4 (a0 a1 a2 : Int) (w : World) (g : a0 ≤ 1125899906842624) (g2 : a1 ≤ 1152921504606846976) (g3 : -1152921504606846976 ≤ a1) (h : 255 < a2) : Gives a0 a1 a2 w := by
  unfold Gives
  go_enter Try.func3, Try.ntmps3
  go_wp2
  go_ret
  exact ⟨rfl, Grown.refl _⟩
set_option maxHeartbeats 400000 in
theorem few (a0 a1 a2 : Int) (w : World) (g : a0 ≤ 1125899906842624) (g2 : a1 ≤ 1152921504606846976) (g3 : -1152921504606846976 ≤ a1) (h : a2 < 2) : Gives a0 a1 a2 w := by
  have hf := freq_false1 a0 a1 a2 (by omega)
  unfold Gives
  go_enter Try.func3, Try.ntmps3
  go_wp2_with fail
  refine (freq_any _ _ _ _ (by omega) (by omega)).mono ?_
  rintro e w' ⟨rfl, rfl⟩
  go_wp2
  go_ret
  exact ⟨rfl, Grown.refl _⟩

set_option maxHeartbeats 400000 in
theorem manyBig (a0 a1 a2 : Int) (w : World) (g : a0 ≤ 1125899906842624) (g2 : a1 ≤ 1152921504606846976) (g3 : 0 ≤ a1) (h : 2 ≤ a2) (g4 : a2 ≤ 255) (hq : 256 < a1 / (20 * a2) + 1) : Gives a0 a1 a2 w := by
  obtain ⟨f1, f2, f3⟩ := big a0 a1 a2 h g3 hq
  have q1 : a1 / (20 * a2) ≤ 28823037615171174 := by
    have h1 : a1 / (20 * a2) * (20 * a2) ≤ a1 := Int.ediv_mul_le a1 (by omega)
    have h2 : a1 / (20 * a2) * 40 ≤ a1 / (20 * a2) * (20 * a2) := Int.mul_le_mul_of_nonneg_left (by omega) (by omega)
    omega
  have p1 : (a1 / (20 * a2) + 1) * 20 * a2 ≤ 9000000000000000000 := by
    have h1 : a1 / (20 * a2) * (20 * a2) ≤ a1 := Int.ediv_mul_le a1 (by omega)
    rw [Int.mul_assoc, Int.add_mul]; omega
  have p2 : a1 / (20 * a2) * 20 * a2 ≤ 9000000000000000000 := by
    have h1 : a1 / (20 * a2) * (20 * a2) ≤ a1 := Int.ediv_mul_le a1 (by omega)
    rw [Int.mul_assoc]; omega
  have P1 : Hid ((a1 / (20 * a2) + 1) * 20 * a2 ≤ 9000000000000000000) := p1
  have P2 : Hid (a1 / (20 * a2) * 20 * a2 ≤ 9000000000000000000) := p2
  clear p1 p2
  unfold Gives
  go_enter Try.func3, Try.ntmps3
  go_wp2_with fail
  refine (freq_any _ _ _ _ (by omega) (by omega)).mono ?_
  rintro e w' ⟨rfl, rfl⟩
  go_wp2_with fail
  refine (freq_le _ _ _ _ (fun _ _ => P1.out)).mono ?_
  rintro e w' ⟨rfl, rfl⟩
  go_wp2_with fail
  refine (freq_le _ _ _ _ (fun _ _ => P2.out)).mono ?_
  rintro e w' ⟨rfl, rfl⟩
  go_wp2
  go_ret
  exact ⟨rfl, Grown.refl _⟩

set_option maxHeartbeats 400000 in
theorem manySmall (a0 a1 a2 : Int) (w : World) (g : a0 ≤ 1125899906842624) (g2 : a1 ≤ 1152921504606846976) (g3 : 0 ≤ a1) (h : 2 ≤ a2) (g4 : a2 ≤ 255) (hq : a1 / (20 * a2) + 1 ≤ 256) : Gives a0 a1 a2 w := by
  obtain ⟨f1, f2, f3⟩ := small a0 a1 a2 h (Or.inr hq)
  have q0 : 0 ≤ a1 / (20 * a2) := Int.ediv_nonneg g3 (by omega)
  unfold Gives
  go_enter Try.func3, Try.ntmps3
  go_wp2_with fail
  refine (freq_any _ _ _ _ (by omega) (by omega)).mono ?_
  rintro e w' ⟨rfl, rfl⟩
  go_wp2_with fail
  refine (freq_any _ _ _ _ (by omega) (by omega)).mono ?_
  rintro e w' ⟨rfl, rfl⟩
  go_wp2_with fail
  refine (freq_any _ _ _ _ (by omega) (by omega)).mono ?_
  rintro e w' ⟨rfl, rfl⟩
  go_wp2
  go_ret
  exact ⟨rfl, Grown.refl _⟩
set_option maxHeartbeats 400000 in
theorem manyNeg (a0 a1 a2 : Int) (w : World) (g : a0 ≤ 1125899906842624) (g2 : a1 < 0) (g3 : -1152921504606846976 ≤ a1) (h : 2 ≤ a2) (g4 : a2 ≤ 255) : Gives a0 a1 a2 w := by
  obtain ⟨f1, f2, f3⟩ := small a0 a1 a2 h (Or.inl g2)
  unfold Gives
  go_enter Try.func3, Try.ntmps3
  go_wp2_with fail
  refine (freq_any _ _ _ _ (by omega) (by omega)).mono ?_
  rintro e w' ⟨rfl, rfl⟩
  go_wp2_with fail
  refine (freq_any _ _ _ _ (by omega) (by omega)).mono ?_
  rintro e w' ⟨rfl, rfl⟩
  go_wp2_with fail
  refine (freq_any _ _ _ _ (by omega) (by omega)).mono ?_
  rintro e w' ⟨rfl, rfl⟩
  go_wp2
  go_ret
  exact ⟨rfl, Grown.refl _⟩

theorem walk (a0 : Int) (a1 : Int) (a2 : Int) (w0 : (Lit.int .i64 a0).wf = true) (w1 : (Lit.int .i64 a1).wf = true) (w2 : (Lit.int .i64 a2).wf = true) (w : World) :
    Calls Try.prog 3 #[.int .i64 a0, .int .i64 a1, .int .i64 a2] w fun e w' => e = .returned (.bool true) ∧ Grown w w' := by
  show Gives a0 a1 a2 w
  by_cases h1 : 1125899906842624 < a0
  · exact out1 a0 a1 a2 w h1
  by_cases h2 : 1152921504606846976 < a1
  · exact out2 a0 a1 a2 w (by omega) h2
  by_cases h3 : a1 < -1152921504606846976
  · exact out3 a0 a1 a2 w (by omega) (by omega) h3
  by_cases h4 : 255 < a2
  · exact out4 a0 a1 a2 w (by omega) (by omega) (by omega) h4
  by_cases h5 : a2 < 2
  · exact few a0 a1 a2 w (by omega) (by omega) (by omega) h5
  by_cases h6 : a1 < 0
  · exact manyNeg a0 a1 a2 w (by omega) h6 (by omega) (by omega) (by omega)
  by_cases h7 : 256 < a1 / (20 * a2) + 1
  · exact manyBig a0 a1 a2 w (by omega) (by omega) (by omega) (by omega) (by omega) h7
  · exact manySmall a0 a1 a2 w (by omega) (by omega) (by omega) (by omega) (by omega) (by omega)

/-! ### THE ROW's STEP: WRITTEN OUT: LEAVE IT -/
set_option maxRecDepth 100000 in
theorem lifted (os : Os) (started : os.Started) (H : Type) (enc : TypeId × Value → H) :
    ReturnsInHanded {} Try.checked os 3 .any (Rows.fnFrequentExactlyFromCountThresholdSpec.pre6 enc Try.prog Try.f3 Rows.fnFrequentExactlyFromCountThresholdRow.domain false) (Rows.fnFrequentExactlyFromCountThresholdSpec.post enc Try.prog Try.f3 false true false false) := by
  refine returnsInHanded_of_change (C := Try.checked) own started (by kernel_rfl) Try.func3
    (ChangeSpec.witness6 (enc := enc) (C := Try.checked) false ⟨#[], #[.int .i64 0, .int .i64 0, .int .i64 0], []⟩ 8 (by kernel_rfl) (by kernel_rfl) (by kernel_rfl) (by kernel_rfl)) ?_
  intro W base args ds gs before hval0 hW hcnd _
  have hval : ∀ (j : Nat) t v, Try.f3.params[j]? = some t → args[j]? = some v → Value.okWide Try.prog W .any base t v := hval0
  have hW' := hW
  obtain ⟨p, q, hA0, hV, rfl, hfz, hnd⟩ := hW
  have hA : DataW.TrodAll enc Try.prog W 0 (fun _ => true) true Try.f3.params.toList args.toList ds p := hA0
  rw [Try.params3] at hA hval
  obtain ⟨v0, vs0, d0, ds0, p0, q0, hargs, rfl, rfl, h0, r0⟩ := trodAll_cons hA
  obtain ⟨v1, vs1, d1, ds1, p1, q1, rfl, rfl, rfl, h1, r1⟩ := trodAll_cons r0
  obtain ⟨v2, vs2, d2, ds2, p2, q2, rfl, rfl, rfl, h2, r2⟩ := trodAll_cons r1
  obtain ⟨rfl, rfl, rfl⟩ := trodAll_nil r2
  obtain rfl : args = #[v0, v1, v2] := by cases args; simp_all
  obtain ⟨rfl, rfl⟩ := trodVars_none hV
  obtain ⟨a0, rfl, rfl, rfl, w0⟩ := open_int Try.underlying2 (hval 0 2 v0 rfl rfl) h0
  obtain ⟨a1, rfl, rfl, rfl, w1⟩ := open_int Try.underlying2 (hval 1 2 v1 rfl rfl) h1
  obtain ⟨a2, rfl, rfl, rfl, w2⟩ := open_int Try.underlying3 (hval 2 3 v2 rfl rfl) h2
  clear hA0 hval0
  simp only [List.append_nil] at hW'
  refine (walk a0 a1 a2 w0 w1 w2 W).mono fun e W' ⟨he, hg⟩ => ?_
  subst he
  exact ⟨_, rfl, post_of_same (pa := []) (pv := []) hW' (fun _ _ _ => (trodAll_cons_mk (shut_bool Try.underlying4 _) trodAll_mk0)) (fun sp _ => (trodAll_cons_mk (shut_int Try.underlying2 w0) (trodAll_cons_mk (shut_int Try.underlying2 w1) (trodAll_cons_mk (shut_int Try.underlying3 w2) trodAll_mk0)))) (fun _ _ => rfl) rfl
    (hg.frame _) hg.2.1 (ok_one (by kernel_rfl) rfl (okWide_bool_mk Try.underlying4 _))⟩

theorem over : Rows.fnFrequentExactlyFromCountThresholdRow.holds Try.pinned (OpenSpec.ofChange Rows.fnFrequentExactlyFromCountThresholdSpec) :=
  OpenClaim.holds_of_wide 3 Try.f3 rfl rfl rfl rfl rfl rfl rfl ⟨rfl, rfl, rfl, rfl, rfl⟩ rfl rfl rfl rfl rfl (by kernel_rfl) Try.func3 (by kernel_rfl)
    (of_decide_eq_true (by kernel_rfl)) (by unfold Func.isWrapper; first | (rw [if_pos (by decide +kernel)]; kernel_rfl) | (rw [if_neg (by decide +kernel)]; exact ⟨rfl, rfl⟩))
    (fun os started H enc _ => lifted os started H enc)

/-- ████ THE STATEMENT ████ -/
theorem proved : Rows.FnFrequentExactlyFromCountThresholdSaid :=
  over
end Go.Proofs.Qxb6609020a.fnFrequentExactlyFromCountThreshold
namespace Go.Proofs.Qxb6609020a
theorem fnFrequentExactlyFromCountThreshold_proved : Rows.FnFrequentExactlyFromCountThresholdSaid := fnFrequentExactlyFromCountThreshold.proved
end Go.Proofs.Qxb6609020a
