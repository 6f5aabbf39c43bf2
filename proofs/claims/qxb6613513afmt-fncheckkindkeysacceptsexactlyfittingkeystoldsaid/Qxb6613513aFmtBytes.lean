/-
  The two functions that bound the total length.
-/
import Derived.Test.Qxb6613513aFmtBase
namespace Go.Proofs.Qxb6613513aFmt
open Go.RowKit

set_option maxHeartbeats 1000000 in
theorem bytes11 (aS aC aT aM : Option Addr) (nS cS nC cC nT cT nM cM : Nat) (S C T M : Nat → ByteArray) (noun : ByteArray) (x : ByteArray) (p : Int) (w : World)
    (bS : nS ≤ maxLen) (bC : nC ≤ maxLen) (bT : nT ≤ maxLen) (bM : nM ≤ maxLen)
    (hS : StrRow w aS nS S) (hC : StrRow w aC nC C) (hT : StrRow w aT nT T) (hM : StrRow w aM nM M)
    (sS : ∀ i, i < nS → (S i).size ≤ maxLen) (sC : ∀ i, i < nC → (C i).size ≤ maxLen) (sT : ∀ i, i < nT → (T i).size ≤ maxLen) (sM : ∀ i, i < nM → (M i).size ≤ maxLen) (hnoun : noun.size ≤ maxLen) (hx : x.size ≤ maxLen) :
    Calls Tryf.prog 11 #[.slice aS nS cS, .slice aC nC cC, .slice aT nT cT, .slice aM nM cM, .string noun, .string x, .int .i64 p] w (RetB (fun _ => True) w) := by
  unfold maxLen at bS bC bT bM sS sC sT sM hnoun hx
  go_enter Tryf.func11, Tryf.ntmps11
  go_wp2
  all_goals try (go_ret; exact RetB.mk _ rfl rfl trivial)
  go_loop [15, 16] (fun t i => ∃ k : Nat, ∃ z : Int, k ≤ nS ∧ 0 ≤ z ∧ z ≤ 1048576 ∧ i = .int .i64 k ∧ t = .int .i64 z) (fun _ i => nS - (intOf i).toNat)
  case atStart => exact ⟨0, nS, Nat.zero_le _, by omega, by omega, rfl, rfl⟩
  case round =>
    obtain ⟨kS, zS, hkS, hz0S, hz1S, rfl, rfl⟩ := hrel
    by_cases hlt : kS < nS
    · obtain ⟨b, off, rfl, hb, hc⟩ := hS kS hlt
      have hsk := sS kS hlt
      go_wp2
      · go_ret
        exact RetB.mk _ rfl rfl trivial
      · go_ret
        exact RetB.mk _ rfl rfl trivial
      · go_round
        case rel => exact ⟨kS + 1, zS + (S kS).size, by omega, by omega, by omega, by go_num, rfl⟩
        case measure => simp [intOf]; omega
    clear hS sS
    go_wp2
    all_goals try (go_ret; exact RetB.mk _ rfl rfl trivial)
    go_loop [15, 17] (fun t i => ∃ k : Nat, ∃ z : Int, k ≤ nC ∧ 0 ≤ z ∧ z ≤ 1048576 ∧ i = .int .i64 k ∧ t = .int .i64 z) (fun _ i => nC - (intOf i).toNat)
    case atStart => exact ⟨0, _, Nat.zero_le _, by omega, by omega, rfl, rfl⟩
    case round =>
      obtain ⟨kC, zC, hkC, hz0C, hz1C, rfl, rfl⟩ := hrel
      by_cases hlt : kC < nC
      · obtain ⟨b, off, rfl, hb, hc⟩ := hC kC hlt
        have hsk := sC kC hlt
        go_wp2
        · go_ret
          exact RetB.mk _ rfl rfl trivial
        · go_ret
          exact RetB.mk _ rfl rfl trivial
        · go_round
          case rel => exact ⟨kC + 1, zC + (C kC).size, by omega, by omega, by omega, by go_num, rfl⟩
          case measure => simp [intOf]; omega
      clear hC sC
      go_wp2
      all_goals try (go_ret; exact RetB.mk _ rfl rfl trivial)
      go_loop [15, 18] (fun t i => ∃ k : Nat, ∃ z : Int, k ≤ nT ∧ 0 ≤ z ∧ z ≤ 1048576 ∧ i = .int .i64 k ∧ t = .int .i64 z) (fun _ i => nT - (intOf i).toNat)
      case atStart => exact ⟨0, _, Nat.zero_le _, by omega, by omega, rfl, rfl⟩
      case round =>
        obtain ⟨kT, zT, hkT, hz0T, hz1T, rfl, rfl⟩ := hrel
        by_cases hlt : kT < nT
        · obtain ⟨b, off, rfl, hb, hc⟩ := hT kT hlt
          have hsk := sT kT hlt
          go_wp2
          · go_ret
            exact RetB.mk _ rfl rfl trivial
          · go_ret
            exact RetB.mk _ rfl rfl trivial
          · go_round
            case rel => exact ⟨kT + 1, zT + (T kT).size, by omega, by omega, by omega, by go_num, rfl⟩
            case measure => simp [intOf]; omega
        clear hT sT
        go_wp2
        all_goals try (go_ret; exact RetB.mk _ rfl rfl trivial)
        go_loop [15, 19] (fun t i => ∃ k : Nat, ∃ z : Int, k ≤ nM ∧ 0 ≤ z ∧ z ≤ 1048576 ∧ i = .int .i64 k ∧ t = .int .i64 z) (fun _ i => nM - (intOf i).toNat)
        case atStart => exact ⟨0, _, Nat.zero_le _, by omega, by omega, rfl, rfl⟩
        case round =>
          obtain ⟨kM, zM, hkM, hz0M, hz1M, rfl, rfl⟩ := hrel
          by_cases hlt : kM < nM
          · obtain ⟨b, off, rfl, hb, hc⟩ := hM kM hlt
            have hsk := sM kM hlt
            go_wp2
            · go_ret
              exact RetB.mk _ rfl rfl trivial
            · go_ret
              exact RetB.mk _ rfl rfl trivial
            · go_round
              case rel => exact ⟨kM + 1, zM + (M kM).size, by omega, by omega, by omega, by go_num, rfl⟩
              case measure => simp [intOf]; omega
          clear hM sM
          go_wp2
          all_goals try (go_ret; exact RetB.mk _ rfl rfl trivial)

set_option maxHeartbeats 1000000 in
theorem bytes6 (aS aC aT aM : Option Addr) (nS cS nC cC nT cT nM cM : Nat) (S C T M : Nat → ByteArray) (noun : ByteArray) (w : World)
    (bS : nS ≤ maxLen) (bC : nC ≤ maxLen) (bT : nT ≤ maxLen) (bM : nM ≤ maxLen)
    (hS : StrRow w aS nS S) (hC : StrRow w aC nC C) (hT : StrRow w aT nT T) (hM : StrRow w aM nM M)
    (sS : ∀ i, i < nS → (S i).size ≤ maxLen) (sC : ∀ i, i < nC → (C i).size ≤ maxLen) (sT : ∀ i, i < nT → (T i).size ≤ maxLen) (sM : ∀ i, i < nM → (M i).size ≤ maxLen) (hnoun : noun.size ≤ maxLen) :
    Calls Tryf.prog 6 #[.slice aS nS cS, .slice aC nC cC, .slice aT nT cT, .slice aM nM cM, .string noun] w (RetB (fun _ => True) w) := by
  unfold maxLen at bS bC bT bM sS sC sT sM hnoun
  go_enter Tryf.func6, Tryf.ntmps6
  go_wp2
  all_goals try (go_ret; exact RetB.mk _ rfl rfl trivial)
  go_loop [11, 12] (fun t i => ∃ k : Nat, ∃ z : Int, k ≤ nS ∧ 0 ≤ z ∧ z ≤ 1048576 ∧ i = .int .i64 k ∧ t = .int .i64 z) (fun _ i => nS - (intOf i).toNat)
  case atStart => exact ⟨0, nS, Nat.zero_le _, by omega, by omega, rfl, rfl⟩
  case round =>
    obtain ⟨kS, zS, hkS, hz0S, hz1S, rfl, rfl⟩ := hrel
    by_cases hlt : kS < nS
    · obtain ⟨b, off, rfl, hb, hc⟩ := hS kS hlt
      have hsk := sS kS hlt
      go_wp2
      · go_ret
        exact RetB.mk _ rfl rfl trivial
      · go_ret
        exact RetB.mk _ rfl rfl trivial
      · go_round
        case rel => exact ⟨kS + 1, zS + (S kS).size, by omega, by omega, by omega, by go_num, rfl⟩
        case measure => simp [intOf]; omega
    clear hS sS
    go_wp2
    all_goals try (go_ret; exact RetB.mk _ rfl rfl trivial)
    go_loop [11, 13] (fun t i => ∃ k : Nat, ∃ z : Int, k ≤ nC ∧ 0 ≤ z ∧ z ≤ 1048576 ∧ i = .int .i64 k ∧ t = .int .i64 z) (fun _ i => nC - (intOf i).toNat)
    case atStart => exact ⟨0, _, Nat.zero_le _, by omega, by omega, rfl, rfl⟩
    case round =>
      obtain ⟨kC, zC, hkC, hz0C, hz1C, rfl, rfl⟩ := hrel
      by_cases hlt : kC < nC
      · obtain ⟨b, off, rfl, hb, hc⟩ := hC kC hlt
        have hsk := sC kC hlt
        go_wp2
        · go_ret
          exact RetB.mk _ rfl rfl trivial
        · go_ret
          exact RetB.mk _ rfl rfl trivial
        · go_round
          case rel => exact ⟨kC + 1, zC + (C kC).size, by omega, by omega, by omega, by go_num, rfl⟩
          case measure => simp [intOf]; omega
      clear hC sC
      go_wp2
      all_goals try (go_ret; exact RetB.mk _ rfl rfl trivial)
      go_loop [11, 14] (fun t i => ∃ k : Nat, ∃ z : Int, k ≤ nT ∧ 0 ≤ z ∧ z ≤ 1048576 ∧ i = .int .i64 k ∧ t = .int .i64 z) (fun _ i => nT - (intOf i).toNat)
      case atStart => exact ⟨0, _, Nat.zero_le _, by omega, by omega, rfl, rfl⟩
      case round =>
        obtain ⟨kT, zT, hkT, hz0T, hz1T, rfl, rfl⟩ := hrel
        by_cases hlt : kT < nT
        · obtain ⟨b, off, rfl, hb, hc⟩ := hT kT hlt
          have hsk := sT kT hlt
          go_wp2
          · go_ret
            exact RetB.mk _ rfl rfl trivial
          · go_ret
            exact RetB.mk _ rfl rfl trivial
          · go_round
            case rel => exact ⟨kT + 1, zT + (T kT).size, by omega, by omega, by omega, by go_num, rfl⟩
            case measure => simp [intOf]; omega
        clear hT sT
        go_wp2
        all_goals try (go_ret; exact RetB.mk _ rfl rfl trivial)
        go_loop [11, 15] (fun t i => ∃ k : Nat, ∃ z : Int, k ≤ nM ∧ 0 ≤ z ∧ z ≤ 1048576 ∧ i = .int .i64 k ∧ t = .int .i64 z) (fun _ i => nM - (intOf i).toNat)
        case atStart => exact ⟨0, _, Nat.zero_le _, by omega, by omega, rfl, rfl⟩
        case round =>
          obtain ⟨kM, zM, hkM, hz0M, hz1M, rfl, rfl⟩ := hrel
          by_cases hlt : kM < nM
          · obtain ⟨b, off, rfl, hb, hc⟩ := hM kM hlt
            have hsk := sM kM hlt
            go_wp2
            · go_ret
              exact RetB.mk _ rfl rfl trivial
            · go_ret
              exact RetB.mk _ rfl rfl trivial
            · go_round
              case rel => exact ⟨kM + 1, zM + (M kM).size, by omega, by omega, by omega, by go_num, rfl⟩
              case measure => simp [intOf]; omega
          clear hM sM
          go_wp2
          all_goals try (go_ret; exact RetB.mk _ rfl rfl trivial)
end Go.Proofs.Qxb6613513aFmt
