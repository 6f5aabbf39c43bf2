/-
  Slices of strings in memory, for the walks of this seat; the two functions that sum lengths.
-/
import Derived.Test.Qxb6609020aFmtRows
import Derived.WalkKit
import Derived.WalkSpells
import Derived.WalkLawsBesides
namespace Go.Proofs.Qxb6609020aFmt
open Go.RowKit

/-- the n cells from a on hold the strings S 0, S 1, .. -/
def StrRow (w : World) (a : Option Addr) (n : Nat) (S : Nat → ByteArray) : Prop :=
  ∀ i, i < n → ∃ b off, a = some ⟨b, off, none⟩ ∧ b < w.heap.size ∧ w.cell? ⟨b, off + i, none⟩ = some (.string (S i))

theorem StrRow.below {w w' : World} {a : Option Addr} {n : Nat} {S : Nat → ByteArray} (h : StrRow w a n S) (hb : Below w.heap.size w w') : StrRow w' a n S := fun i hi => by
  obtain ⟨b, off, e, hlt, hc⟩ := h i hi
  exact ⟨b, off, e, Nat.lt_of_lt_of_le hlt hb.size, cell_later hb hc⟩

/-- a bool with Q comes back, the world as it was -/
def RetB (Q : Bool → Prop) (w : World) (e : Ending) (w' : World) : Prop := ∃ r, e = .returned (.bool r) ∧ w' = w ∧ Q r
theorem RetB.mk {Q : Bool → Prop} {w : World} {e : Ending} {w' : World} (r : Bool) (he : e = .returned (.bool r)) (hw : w' = w) (hq : Q r) : RetB Q w e w' := ⟨r, he, hw, hq⟩
/-- an int with Q comes back, the world as it was -/
def RetI (Q : Int → Prop) (w : World) (e : Ending) (w' : World) : Prop := ∃ r, e = .returned (.int .i64 r) ∧ w' = w ∧ Q r
theorem RetI.mk {Q : Int → Prop} {w : World} {e : Ending} {w' : World} (r : Int) (he : e = .returned (.int .i64 r)) (hw : w' = w) (hq : Q r) : RetI Q w e w' := ⟨r, he, hw, hq⟩

set_option maxHeartbeats 400000 in
/-- zzBytes_FnDealWholeAnswer: it answers some bool; where true, the slice is short. -/
theorem bytes5 (a : Option Addr) (n cap : Nat) (S : Nat → ByteArray) (w : World) (hn : n ≤ maxLen) (hr : StrRow w a n S) (hs : ∀ i, i < n → (S i).size ≤ maxLen) :
    Calls Tryf.prog 5 #[.slice a n cap] w (RetB (fun r => r = true → n ≤ 1048576) w) := by
  unfold maxLen at hn hs
  by_cases h1 : 1048576 < n
  · go_enter Tryf.func5, Tryf.ntmps5
    go_wp2
    go_ret
    exact RetB.mk false rfl rfl (by simp)
  · go_enter Tryf.func5, Tryf.ntmps5
    go_wp2
    go_loop [3, 4] (fun t i => ∃ k : Nat, ∃ z : Int, k ≤ n ∧ 0 ≤ z ∧ z ≤ 1048576 ∧ i = .int .i64 k ∧ t = .int .i64 z) (fun _ i => n - (intOf i).toNat)
    case atStart => exact ⟨0, n, Nat.zero_le _, by omega, by omega, rfl, rfl⟩
    case round =>
      obtain ⟨k, z, hk, hz0, hz1, rfl, rfl⟩ := hrel
      by_cases hlt : k < n
      · obtain ⟨b, off, rfl, hb, hc⟩ := hr k hlt
        have hsk := hs k hlt
        clear hr hs
        go_wp2
        · go_ret
          exact RetB.mk false rfl rfl (by simp)
        · go_ret
          exact RetB.mk false rfl rfl (by simp)
        · go_round
          case rel => exact ⟨k + 1, z + (S k).size, by omega, by omega, by omega, by go_num, rfl⟩
          case measure => simp [intOf]; omega
      · go_wp2
        go_ret
        exact RetB.mk true rfl rfl (by omega)

set_option maxHeartbeats 400000 in
/-- zzBytes_FnDealBalancedShares: the same text. -/
theorem bytes11 (a : Option Addr) (n cap : Nat) (S : Nat → ByteArray) (w : World) (hn : n ≤ maxLen) (hr : StrRow w a n S) (hs : ∀ i, i < n → (S i).size ≤ maxLen) :
    Calls Tryf.prog 11 #[.slice a n cap] w (RetB (fun r => r = true → n ≤ 1048576) w) := by
  unfold maxLen at hn hs
  by_cases h1 : 1048576 < n
  · go_enter Tryf.func11, Tryf.ntmps11
    go_wp2
    go_ret
    exact RetB.mk false rfl rfl (by simp)
  · go_enter Tryf.func11, Tryf.ntmps11
    go_wp2
    go_loop [3, 4] (fun t i => ∃ k : Nat, ∃ z : Int, k ≤ n ∧ 0 ≤ z ∧ z ≤ 1048576 ∧ i = .int .i64 k ∧ t = .int .i64 z) (fun _ i => n - (intOf i).toNat)
    case atStart => exact ⟨0, n, Nat.zero_le _, by omega, by omega, rfl, rfl⟩
    case round =>
      obtain ⟨k, z, hk, hz0, hz1, rfl, rfl⟩ := hrel
      by_cases hlt : k < n
      · obtain ⟨b, off, rfl, hb, hc⟩ := hr k hlt
        have hsk := hs k hlt
        clear hr hs
        go_wp2
        · go_ret
          exact RetB.mk false rfl rfl (by simp)
        · go_ret
          exact RetB.mk false rfl rfl (by simp)
        · go_round
          case rel => exact ⟨k + 1, z + (S k).size, by omega, by omega, by omega, by go_num, rfl⟩
          case measure => simp [intOf]; omega
      · go_wp2
        go_ret
        exact RetB.mk true rfl rfl (by omega)

set_option maxHeartbeats 400000 in
/-- zzStringsBytes from 0 on: it answers some int. -/
theorem strBytes (a : Option Addr) (n cap : Nat) (S : Nat → ByteArray) (w : World) (hn : n ≤ maxLen) (hr : StrRow w a n S) (hs : ∀ i, i < n → (S i).size ≤ maxLen) :
    Calls Tryf.prog 6 #[.int .i64 0, .slice a n cap] w (RetI (fun _ => True) w) := by
  unfold maxLen at hn hs
  go_enter Tryf.func6, Tryf.ntmps6
  go_wp2
  go_loop [0, 5] (fun t i => ∃ k : Nat, ∃ z : Int, k ≤ n ∧ 0 ≤ z ∧ z ≤ 1048576 ∧ i = .int .i64 k ∧ t = .int .i64 z) (fun _ i => n - (intOf i).toNat)
  case atStart => exact ⟨0, 0, Nat.zero_le _, by omega, by omega, rfl, rfl⟩
  case round =>
    obtain ⟨k, z, hk, hz0, hz1, rfl, rfl⟩ := hrel
    by_cases hlt : k < n
    · obtain ⟨b, off, rfl, hb, hc⟩ := hr k hlt
      have hsk := hs k hlt
      clear hr hs
      go_wp2
      · go_ret
        exact RetI.mk _ rfl rfl trivial
      · go_ret
        exact RetI.mk _ rfl rfl trivial
      · go_round
        case rel => exact ⟨k + 1, _, by omega, by omega, by omega, by go_num, rfl⟩
        case measure => simp [intOf]; omega
    · go_wp2
      go_ret
      exact RetI.mk _ rfl rfl trivial
end Go.Proofs.Qxb6609020aFmt
