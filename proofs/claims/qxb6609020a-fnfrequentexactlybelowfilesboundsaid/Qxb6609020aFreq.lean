import Derived.Test.Qxb6609020aRows
import Derived.WalkKit
import Derived.WalkSpells
import Derived.WalkLawsBesides
namespace Go.Proofs.Qxb6609020a
open Go.RowKit

/-- what layout.Frequent answers, where nothing overflows -/
def freqB (c f s : Int) : Bool := decide (1 < s) && decide (256 ≤ c) && decide (f < c * 20 * s)

theorem freq_false1 (c f s : Int) (h : s ≤ 1) : freqB c f s = false := by have := h; simp [freqB]; omega
theorem freq_false2 (c f s : Int) (h : c < 256) : freqB c f s = false := by have := h; simp [freqB]; omega
theorem freq_true (c f s : Int) (h1 : 1 < s) (h2 : 256 ≤ c) (h3 : f < c * 20 * s) : freqB c f s = true := by simp [freqB, h1, h2, h3]
theorem freq_false3 (c f s : Int) (h3 : c * 20 * s ≤ f) : freqB c f s = false := by simp [freqB, Int.not_lt.mpr h3]
theorem ret_bool {a b : Bool} (h : a = b) : Ending.returned (.bool a) = .returned (.bool b) := by rw [h]

set_option maxHeartbeats 400000 in
theorem freq_le (c f s : Int) (w : World) (hM : 1 < s → 256 ≤ c → c * 20 * s ≤ 9000000000000000000) :
    Calls Try.prog 8 #[.int .i64 c, .int .i64 f, .int .i64 s] w fun e w' => e = .returned (.bool (freqB c f s)) ∧ w' = w := by
  by_cases h1 : 1 < s
  · by_cases h2 : 256 ≤ c
    · have hM := hM h1 h2
      have hm : 0 ≤ c * 20 * s := Int.mul_nonneg (by omega) (by omega)
      have hn : c * 20 ≤ c * 20 * s := by
        have := Int.mul_le_mul_of_nonneg_left (a := 1) (b := s) (c := c * 20) (by omega) (by omega)
        omega
      by_cases h3 : f < c * 20 * s
      · go_enter Try.func8, Try.ntmps8
        go_wp2
        go_ret
        exact ⟨ret_bool (freq_true c f s h1 h2 h3).symm, rfl⟩
      · go_enter Try.func8, Try.ntmps8
        go_wp2
        go_ret
        exact ⟨ret_bool (freq_false3 c f s h3).symm, rfl⟩
    · clear hM
      go_enter Try.func8, Try.ntmps8
      go_wp2
      go_ret
      exact ⟨ret_bool (freq_false2 c f s h2).symm, rfl⟩
  · clear hM
    go_enter Try.func8, Try.ntmps8
    go_wp2
    go_ret
    exact ⟨ret_bool (freq_false1 c f s h1).symm, rfl⟩

theorem freq_any (c f s : Int) (w : World) (hc : c ≤ 1125899906842625) (hs : s ≤ 256) :
    Calls Try.prog 8 #[.int .i64 c, .int .i64 f, .int .i64 s] w fun e w' => e = .returned (.bool (freqB c f s)) ∧ w' = w :=
  freq_le c f s w (fun h1 h2 => by
    have hM : c * 20 * s ≤ 1125899906842625 * 20 * 256 := Int.mul_le_mul (by omega) hs (by omega) (by omega)
    omega)
end Go.Proofs.Qxb6609020a
