/-
  The functions that count characters, by their contracts.
-/
import Derived.Test.Qxb6613513aFmtRunes
import Derived.Test.Qxb6613513aFmtBase
import Derived.Laws.RangeString
import Derived.Laws.RangeAny
import Derived.LoopTactic
import Derived.BigQuiet
import Derived.Deep.QuietTactic
import Derived.Deep.RegionWith
namespace Go.Proofs.Qxb6613513aFmt
open Go.RowKit

theorem iter_below (w : World) (s : ByteArray) (pos : Nat) : Below w.heap.size w (w.iter s pos) := (Below.refl _ _).alloc (Nat.le_refl _) _

/-- the count of characters comes back -/
def Counted (s : ByteArray) (w : World) (e : Ending) (w' : World) : Prop := ∃ n : Nat, IsCnt s n ∧ e = .returned (.int .i64 n) ∧ Below w.heap.size w w'

set_option maxHeartbeats 1000000 in
theorem count29 (s : ByteArray) (w : World) (hs : s.size ≤ 1048576) : Calls Tryf.prog 29 #[.string s] w (Counted s w) := by
  go_enter Tryf.func29, Tryf.ntmps29
  go_wp2
  go_loopw [2] (fun n w' => ∃ k : Nat, k ≤ adv s k ∧ w' = w.iter s (adv s k) ∧ n = .int .i64 k ∧ Hid (∀ j, j < k → adv s j < s.size)) (fun _ w' => s.size - w'.iterPos w.heap.size)
  case atStart => exact ⟨0, Nat.zero_le _, rfl, rfl, fun j h => absurd h (by omega)⟩
  case round =>
    obtain ⟨k, hk, rfl, rfl, H⟩ := hrel
    have hle := adv_le s k
    by_cases hp : adv s k < s.size
    · have hnx : ∀ ty, (Instr.next (.pointer (some ⟨w.heap.size, 0, none⟩)) true ty).run Tryf.prog (w.iter s (adv s k)) = _ := fun ty => run_next_any w s (adv s k) ty hp
      have HW : Hid (adv s (k + 1) = adv s k + (Utf8.decode s (adv s k)).2) := adv_succ s k hp
      have hwd := wd_pos s _ hp
      unfold wd at hwd
      go_wp2
      go_roundw
      case rel => exact ⟨k + 1, by rw [HW.out]; omega, by rw [HW.out], by go_num, fun j hj => by
        by_cases e : j = k
        · subst e; exact hp
        · exact H.out j (by omega)⟩
      case measure => simp; omega
    · have hnx : ∀ ty, (Instr.next (.pointer (some ⟨w.heap.size, 0, none⟩)) true ty).run Tryf.prog (w.iter s (adv s k)) = _ := fun ty => run_next_end w s (adv s k) ty hp
      go_wp2
      go_ret
      exact ⟨k, ⟨by omega, H.out⟩, rfl, iter_below _ _ _⟩

/-- the place behind the first forty characters, or the end -/
def endOf (s : ByteArray) (k : Nat) : Nat := if 40 < k then adv s 40 else s.size
theorem endOf_le (s : ByteArray) (k : Nat) : endOf s k ≤ s.size := by
  unfold endOf
  have := adv_le s 40
  split <;> omega
theorem endOf_41 (s : ByteArray) : endOf s (40 + 1) = adv s 40 := by unfold endOf; rw [if_pos (by omega)]
theorem endOf_succ (s : ByteArray) (k : Nat) (h : k ≠ 40) : endOf s (k + 1) = endOf s k := by
  unfold endOf
  by_cases h1 : 40 < k
  · rw [if_pos h1, if_pos (by omega)]
  · rw [if_neg h1, if_neg (by omega)]

/-- what zzCharsAndHead hands back -/
def HeadCounted (s : ByteArray) (w : World) (e : Ending) (w' : World) : Prop := ∃ n : Nat, IsCnt s n ∧ e = .returned (.tuple #[.int .i64 n, .string (s.extract 0 (endOf s n))]) ∧ Below w.heap.size w w'

set_option maxHeartbeats 1000000 in
theorem head20 (s : ByteArray) (w : World) (hs : s.size ≤ 1048576) : Calls Tryf.prog 20 #[.string s] w (HeadCounted s w) := by
  go_enter Tryf.func20, Tryf.ntmps20
  go_wp2
  go_loopw [4, 5] (fun n en w' => ∃ k : Nat, k ≤ adv s k ∧ w' = w.iter s (adv s k) ∧ n = .int .i64 k ∧ en = .int .i64 (endOf s k : Nat) ∧ Hid (∀ j, j < k → adv s j < s.size)) (fun _ _ w' => s.size - w'.iterPos w.heap.size)
  case atStart => exact ⟨0, Nat.zero_le _, rfl, rfl, rfl, fun j h => absurd h (by omega)⟩
  case round =>
    obtain ⟨k, hk, rfl, rfl, rfl, H⟩ := hrel
    have hle := adv_le s k
    have hen := endOf_le s k
    by_cases hp : adv s k < s.size
    · have hnx : ∀ ty, (Instr.next (.pointer (some ⟨w.heap.size, 0, none⟩)) true ty).run Tryf.prog (w.iter s (adv s k)) = _ := fun ty => run_next_any w s (adv s k) ty hp
      have HW : Hid (adv s (k + 1) = adv s k + (Utf8.decode s (adv s k)).2) := adv_succ s k hp
      have hwd := wd_pos s _ hp
      unfold wd at hwd
      by_cases h40 : k = 40
      · subst h40
        go_wp2
        go_roundw
        case rel => exact ⟨40 + 1, by rw [HW.out]; omega, by rw [HW.out], by go_num, by rw [endOf_41], fun j hj => by
          by_cases e : j = 40
          · subst e; exact hp
          · exact H.out j (by omega)⟩
        case measure => simp; omega
      · have hne : ((k : Int) == 40) = false := by simp; omega
        go_wp2
        go_roundw
        case rel => exact ⟨k + 1, by rw [HW.out]; omega, by rw [HW.out], by go_num, by rw [endOf_succ s k h40], fun j hj => by
          by_cases e : j = k
          · subst e; exact hp
          · exact H.out j (by omega)⟩
        case measure => simp; omega
    · have hnx : ∀ ty, (Instr.next (.pointer (some ⟨w.heap.size, 0, none⟩)) true ty).run Tryf.prog (w.iter s (adv s k)) = _ := fun ty => run_next_end w s (adv s k) ty hp
      go_wp2
      go_quiet (fail)
      go_wp2
      go_ret2
      exact ⟨k, ⟨by omega, H.out⟩, rfl, below_drewN (iter_below _ _ _) _⟩

/-- what first hands back -/
def FirstIs (s : ByteArray) (w : World) (e : Ending) (w' : World) : Prop :=
  Below w.heap.size w w' ∧ ((∃ n : Nat, n ≤ 40 ∧ IsCnt s n ∧ e = .returned (.tuple #[.string s, .int .i64 n, .bool false])) ∨ ∃ n : Nat, 40 < n ∧ IsCnt s n ∧ e = .returned (.tuple #[.string (headOf s), .int .i64 n, .bool true]))

theorem more_than {s : ByteArray} {n : Nat} (h : IsCnt s n) (hp : adv s 40 < s.size) : 40 < n := by
  rcases Nat.lt_or_ge 40 n with h1 | h1
  · exact h1
  · have := adv_mono s n (40 - n)
    rw [show n + (40 - n) = 40 by omega, h.1] at this
    omega

set_option maxHeartbeats 1000000 in
theorem first27 (s : ByteArray) (w : World) (hs : s.size ≤ 1048576) : Calls Tryf.prog 27 #[.string s] w (FirstIs s w) := by
  go_enter Tryf.func27, Tryf.ntmps27
  go_wp2
  go_loopw [5] (fun n w' => ∃ k : Nat, k ≤ 40 ∧ w' = w.iter s (adv s k) ∧ n = .int .i64 k ∧ Hid (∀ j, j < k → adv s j < s.size)) (fun _ w' => s.size - w'.iterPos w.heap.size)
  case atStart => exact ⟨0, Nat.zero_le _, rfl, rfl, fun j h => absurd h (by omega)⟩
  case round =>
    obtain ⟨k, hk, rfl, rfl, H⟩ := hrel
    have hle := adv_le s k
    by_cases hp : adv s k < s.size
    · have hnx : ∀ ty, (Instr.next (.pointer (some ⟨w.heap.size, 0, none⟩)) true ty).run Tryf.prog (w.iter s (adv s k)) = _ := fun ty => run_next_any w s (adv s k) ty hp
      have HW : Hid (adv s (k + 1) = adv s k + (Utf8.decode s (adv s k)).2) := adv_succ s k hp
      have hwd := wd_pos s _ hp
      unfold wd at hwd
      by_cases h40 : k = 40
      · subst h40
        go_wp2
        go_region_with (go_at_call 29; refine (count29 s _ hs).mono ?_; rintro e w2 ⟨n, hn, rfl, hb⟩)
        all_goals go_wp2
        all_goals go_ret3
        all_goals exact ⟨(iter_below w s _).drew.trans (hb.mono (iter_below w s _).size), Or.inr ⟨n, more_than hn hp, hn, rfl⟩⟩
      · have hne : ((k : Int) == 40) = false := by simp; omega
        go_wp2
        go_roundw
        case rel => exact ⟨k + 1, by omega, by rw [HW.out], by go_num, fun j hj => by
          by_cases e : j = k
          · subst e; exact hp
          · exact H.out j (by omega)⟩
        case measure => simp; omega
    · have hnx : ∀ ty, (Instr.next (.pointer (some ⟨w.heap.size, 0, none⟩)) true ty).run Tryf.prog (w.iter s (adv s k)) = _ := fun ty => run_next_end w s (adv s k) ty hp
      go_wp2
      go_ret3
      exact ⟨iter_below _ _ _, Or.inl ⟨k, hk, ⟨by omega, H.out⟩, rfl⟩⟩
end Go.Proofs.Qxb6613513aFmt
