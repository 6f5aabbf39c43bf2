/-
  The proof of 'Rows.FnFrequentExactlyBelowFilesBoundSaid': the walk by the contract of layout.Frequent (Qxb6609020aFreq), then the row's step.
-/
import Derived.Test.Qxb6609020aRows
import Derived.Test.Qxb6609020aFreq
import Derived.WalkKit
import Derived.ProofKit
import Derived.OpenShut
import Derived.ShutString
namespace Go.Proofs.Qxb6609020a.fnFrequentExactlyBelowFilesBound
open Go.ChangeShapes Go.WideShapes Go.ChangeAt Go.RowKit
open Go.ChangeMaps (open_string shut_string)
set_option linter.unusedVariables false      -- a walk need not use every 'w<i>' (that an integer argument fits its kind)

theorem own : ownKnob Try.prog.godebug = none := by kernel_rfl

/-! ### plain facts -/
theorem kprod (c s : Int) (hs : 2 ≤ s) (hS : s ≤ 255) (h1 : 256 ≤ c) (hc : c ≤ 1125899906842624) : 0 ≤ c * 20 * s ∧ c * 20 * s ≤ 6000000000000000000 :=
  ⟨Int.mul_nonneg (by omega) (by omega), Int.le_trans (Int.mul_le_mul (c := 1125899906842624 * 20) (d := 255) (by omega) hS (by omega) (by omega)) (by omega)⟩
theorem up (c f s : Int) (hs : 2 ≤ s) (hc : 256 ≤ c) (h : f < c * 20 * s) :
    freqB c f s = true ∧ freqB (c + 1) f s = true ∧ freqB c (f - 1) s = true ∧ freqB c f (s + 1) = true := by
  have e1 : (c + 1) * 20 * s = c * 20 * s + 20 * s := by rw [Int.add_mul, Int.add_mul]; omega
  have e2 : c * 20 * (s + 1) = c * 20 * s + c * 20 := by rw [Int.mul_add]; omega
  exact ⟨freq_true _ _ _ (by omega) hc h, freq_true _ _ _ (by omega) (by omega) (by omega), freq_true _ _ _ (by omega) hc (by omega), freq_true _ _ _ (by omega) hc (by omega)⟩
theorem atg (c s : Int) (hs : 2 ≤ s) (hc : 256 ≤ c) : freqB c (c * 20 * s - 1) s = true ∧ freqB c (c * 20 * s) s = false :=
  ⟨freq_true _ _ _ (by omega) hc (by omega), freq_false3 _ _ _ (by omega)⟩

/-! ### THE WALK, a theorem a way -/
def Gives (a0 a1 a2 : Int) (w : World) : Prop := Calls Try.prog 4 #[.int .i64 a0, .int .i64 a1, .int .i64 a2] w fun e w' => e = .returned (.bool true) ∧ Grown w w'

set_option maxHeartbeats 400000 in
theorem out1 (a0 a1 a2 : Int) (w : World) (h : 1125899906842624 < a0) : Gives a0 a1 a2 w := by
  unfold Gives
  go_enter Try.func4, Try.ntmps4
  go_wp2
  go_ret
  exact ⟨rfl, Grown.refl _⟩
set_option maxHeartbeats 400000 in
theorem out2 (a0 a1 a2 : Int) (w : World) (g : a0 ≤ 1125899906842624) (h : 1152921504606846976 < a1) : Gives a0 a1 a2 w := by
  unfold Gives
  go_enter Try.func4, Try.ntmps4
  go_wp2
  go_ret
  exact ⟨rfl, Grown.refl _⟩
set_option maxHeartbeats 400000 in
theorem out3 (a0 a1 a2 : Int) (w : World) (g : a0 ≤ 1125899906842624) (g2 : a1 ≤ 1152921504606846976) (h : a1 < -1152921504606846976) : Gives a0 a1 a2 w := by
  unfold Gives
  go_enter Try.func4, Try.ntmps4
  go_wp2
  go_ret
  exact ⟨rfl, Grown.refl _⟩
set_option maxHeartbeats 400000 in
theorem out4 (a0 a1 a2 : Int) (w : World) (g : a0 ≤ 1125899906842624) (g2 : a1 ≤ 1152921504606846976) (g3 : -1152921504606846976 ≤ a1) (h : 255 < a2) : Gives a0 a1 a2 w := by
  unfold Gives
  go_enter Try.func4, Try.ntmps4
  go_wp2
  go_ret
  exact ⟨rfl, Grown.refl _⟩

set_option maxHeartbeats 400000 in
theorem few (a0 a1 a2 : Int) (w : World) (g : a0 ≤ 1125899906842624) (g2 : a1 ≤ 1152921504606846976) (g3 : -1152921504606846976 ≤ a1) (g4 : a2 ≤ 255) (h : a2 < 2) : Gives a0 a1 a2 w := by
  have hf := freq_false1 a0 a1 a2 (by omega)
  unfold Gives
  go_enter Try.func4, Try.ntmps4
  go_wp2_with fail
  refine (freq_any _ _ _ _ (by omega) (by omega)).mono ?_
  rintro e w' ⟨rfl, rfl⟩
  go_wp2
  go_ret
  exact ⟨rfl, Grown.refl _⟩
set_option maxHeartbeats 400000 in
theorem rare (a0 a1 a2 : Int) (w : World) (g : a0 ≤ 1125899906842624) (g2 : a1 ≤ 1152921504606846976) (g3 : -1152921504606846976 ≤ a1) (g4 : a2 ≤ 255) (h : 2 ≤ a2) (h2 : a0 < 256) : Gives a0 a1 a2 w := by
  have hf := freq_false2 a0 a1 a2 (by omega)
  unfold Gives
  go_enter Try.func4, Try.ntmps4
  go_wp2_with fail
  refine (freq_any _ _ _ _ (by omega) (by omega)).mono ?_
  rintro e w' ⟨rfl, rfl⟩
  go_wp2
  go_ret
  exact ⟨rfl, Grown.refl _⟩
set_option maxHeartbeats 400000 in
theorem not (a0 a1 a2 : Int) (w : World) (g : a0 ≤ 1125899906842624) (g2 : a1 ≤ 1152921504606846976) (g3 : -1152921504606846976 ≤ a1) (g4 : a2 ≤ 255) (h : 2 ≤ a2) (h2 : 256 ≤ a0) (h3 : a0 * 20 * a2 ≤ a1) : Gives a0 a1 a2 w := by
  have hf := freq_false3 a0 a1 a2 h3
  obtain ⟨k0, k1⟩ := kprod a0 a2 h g4 h2 g
  obtain ⟨f5, f6⟩ := atg a0 a2 h h2
  have h4 : decide (a1 ≤ a0 * 20 * a2 - 1) = false := by simp; omega
  unfold Gives
  go_enter Try.func4, Try.ntmps4
  go_wp2_with fail
  refine (freq_any _ _ _ _ (by omega) (by omega)).mono ?_
  rintro e w' ⟨rfl, rfl⟩
  go_wp2_with fail
  refine (freq_any _ _ _ _ (by omega) (by omega)).mono ?_
  rintro e w' ⟨rfl, rfl⟩
  go_wp2_with fail
  refine (freq_any _ _ _ _ (by omega) (by omega)).mono ?_
  rintro e w' ⟨rfl, rfl⟩
  go_wp2
  go_ret
  exact ⟨rfl, Grown.refl _⟩
set_option maxHeartbeats 400000 in
theorem yes (a0 a1 a2 : Int) (w : World) (g : a0 ≤ 1125899906842624) (g2 : a1 ≤ 1152921504606846976) (g3 : -1152921504606846976 ≤ a1) (g4 : a2 ≤ 255) (h : 2 ≤ a2) (h2 : 256 ≤ a0) (h3 : a1 < a0 * 20 * a2) : Gives a0 a1 a2 w := by
  obtain ⟨f1, f2, f3, f4⟩ := up a0 a1 a2 h h2 h3
  obtain ⟨k0, k1⟩ := kprod a0 a2 h g4 h2 g
  obtain ⟨f5, f6⟩ := atg a0 a2 h h2
  unfold Gives
  go_enter Try.func4, Try.ntmps4
  go_wp2_with fail
  refine (freq_any _ _ _ _ (by omega) (by omega)).mono ?_
  rintro e w' ⟨rfl, rfl⟩
  go_wp2_with fail
  refine (freq_any _ _ _ _ (by omega) (by omega)).mono ?_
  rintro e w' ⟨rfl, rfl⟩
  go_wp2_with fail
  refine (freq_any _ _ _ _ (by omega) (by omega)).mono ?_
  rintro e w' ⟨rfl, rfl⟩
  go_wp2_with fail
  refine (freq_any _ _ _ _ (by omega) (by omega)).mono ?_
  rintro e w' ⟨rfl, rfl⟩
  go_wp2_with fail
  refine (freq_any _ _ _ _ (by omega) (by omega)).mono ?_
  rintro e w' ⟨rfl, rfl⟩
  go_wp2_with fail
  refine (freq_any _ _ _ _ (by omega) (by omega)).mono ?_
  rintro e w' ⟨rfl, rfl⟩
  go_wp2
  go_ret
  exact ⟨rfl, Grown.refl _⟩

theorem walk (a0 : Int) (a1 : Int) (a2 : Int) (w0 : (Lit.int .i64 a0).wf = true) (w1 : (Lit.int .i64 a1).wf = true) (w2 : (Lit.int .i64 a2).wf = true) (w : World) :
    Calls Try.prog 4 #[.int .i64 a0, .int .i64 a1, .int .i64 a2] w fun e w' => e = .returned (.bool true) ∧ Grown w w' := by
  show Gives a0 a1 a2 w
  by_cases h1 : 1125899906842624 < a0
  · exact out1 a0 a1 a2 w h1
  by_cases h2 : 1152921504606846976 < a1
  · exact out2 a0 a1 a2 w (by omega) h2
  by_cases h3 : a1 < -1152921504606846976
  · exact out3 a0 a1 a2 w (by omega) (by omega) h3
  by_cases h4 : 255 < a2
  · exact out4 a0 a1 a2 w (by omega) (by omega) (by omega) h4
  by_cases h5 : a2 < 2
  · exact few a0 a1 a2 w (by omega) (by omega) (by omega) (by omega) h5
  by_cases h6 : a0 < 256
  · exact rare a0 a1 a2 w (by omega) (by omega) (by omega) (by omega) (by omega) h6
  by_cases h7 : a1 < a0 * 20 * a2
  · exact yes a0 a1 a2 w (by omega) (by omega) (by omega) (by omega) (by omega) (by omega) h7
  · exact not a0 a1 a2 w (by omega) (by omega) (by omega) (by omega) (by omega) (by omega) (by omega)

/-! ### THE ROW's STEP: WRITTEN OUT: LEAVE IT -/
set_option maxRecDepth 100000 in
theorem lifted (os : Os) (started : os.Started) (H : Type) (enc : TypeId × Value → H) :
    ReturnsInHanded {} Try.checked os 4 .any (Rows.fnFrequentExactlyBelowFilesBoundSpec.pre6 enc Try.prog Try.f4 Rows.fnFrequentExactlyBelowFilesBoundRow.domain false) (Rows.fnFrequentExactlyBelowFilesBoundSpec.post enc Try.prog Try.f4 false true false false) := by
  refine returnsInHanded_of_change (C := Try.checked) own started (by kernel_rfl) Try.func4
    (ChangeSpec.witness6 (enc := enc) (C := Try.checked) false ⟨#[], #[.int .i64 0, .int .i64 0, .int .i64 0], []⟩ 8 (by kernel_rfl) (by kernel_rfl) (by kernel_rfl) (by kernel_rfl)) ?_
  intro W base args ds gs before hval0 hW hcnd _
  have hval : ∀ (j : Nat) t v, Try.f4.params[j]? = some t → args[j]? = some v → Value.okWide Try.prog W .any base t v := hval0
  have hW' := hW
  obtain ⟨p, q, hA0, hV, rfl, hfz, hnd⟩ := hW
  have hA : DataW.TrodAll enc Try.prog W 0 (fun _ => true) true Try.f4.params.toList args.toList ds p := hA0
  rw [Try.params4] at hA hval
  obtain ⟨v0, vs0, d0, ds0, p0, q0, hargs, rfl, rfl, h0, r0⟩ := trodAll_cons hA
  obtain ⟨v1, vs1, d1, ds1, p1, q1, rfl, rfl, rfl, h1, r1⟩ := trodAll_cons r0
  obtain ⟨v2, vs2, d2, ds2, p2, q2, rfl, rfl, rfl, h2, r2⟩ := trodAll_cons r1
  obtain ⟨rfl, rfl, rfl⟩ := trodAll_nil r2
  obtain rfl : args = #[v0, v1, v2] := by cases args; simp_all
  obtain ⟨rfl, rfl⟩ := trodVars_none hV
  obtain ⟨a0, rfl, rfl, rfl, w0⟩ := open_int Try.underlying2 (hval 0 2 v0 rfl rfl) h0
  obtain ⟨a1, rfl, rfl, rfl, w1⟩ := open_int Try.underlying2 (hval 1 2 v1 rfl rfl) h1
  obtain ⟨a2, rfl, rfl, rfl, w2⟩ := open_int Try.underlying3 (hval 2 3 v2 rfl rfl) h2
  clear hA0 hval0
  simp only [List.append_nil] at hW'
  refine (walk a0 a1 a2 w0 w1 w2 W).mono fun e W' ⟨he, hg⟩ => ?_
  subst he
  exact ⟨_, rfl, post_of_same (pa := []) (pv := []) hW' (fun _ _ _ => (trodAll_cons_mk (shut_bool Try.underlying4 _) trodAll_mk0)) (fun sp _ => (trodAll_cons_mk (shut_int Try.underlying2 w0) (trodAll_cons_mk (shut_int Try.underlying2 w1) (trodAll_cons_mk (shut_int Try.underlying3 w2) trodAll_mk0)))) (fun _ _ => rfl) rfl
    (hg.frame _) hg.2.1 (ok_one (by kernel_rfl) rfl (okWide_bool_mk Try.underlying4 _))⟩

theorem over : Rows.fnFrequentExactlyBelowFilesBoundRow.holds Try.pinned (OpenSpec.ofChange Rows.fnFrequentExactlyBelowFilesBoundSpec) :=
  OpenClaim.holds_of_wide 4 Try.f4 rfl rfl rfl rfl rfl rfl rfl ⟨rfl, rfl, rfl, rfl, rfl⟩ rfl rfl rfl rfl rfl (by kernel_rfl) Try.func4 (by kernel_rfl)
    (of_decide_eq_true (by kernel_rfl)) (by unfold Func.isWrapper; first | (rw [if_pos (by decide +kernel)]; kernel_rfl) | (rw [if_neg (by decide +kernel)]; exact ⟨rfl, rfl⟩))
    (fun os started H enc _ => lifted os started H enc)

/-- ████ THE STATEMENT ████ -/
theorem proved : Rows.FnFrequentExactlyBelowFilesBoundSaid :=
  over
end Go.Proofs.Qxb6609020a.fnFrequentExactlyBelowFilesBound
namespace Go.Proofs.Qxb6609020a
theorem fnFrequentExactlyBelowFilesBound_proved : Rows.FnFrequentExactlyBelowFilesBoundSaid := fnFrequentExactlyBelowFilesBound.proved
end Go.Proofs.Qxb6609020a
