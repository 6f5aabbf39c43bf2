/-
  zzBytes, once more: within its limit the three slices are short.
-/
import Derived.Test.Qxb6613521aFmtPre
namespace Go.Proofs.Qxb6613521aFmt
open Go.RowKit

set_option maxHeartbeats 2000000 in
theorem bytes5b (e : Int) (p q : ByteArray) (st : Int) (aS aC aT : Option Addr) (nS cS nC cC nT cT : Nat) (S C T : Nat → ByteArray) (x y : ByteArray) (w : World)
    (hp : p.size ≤ maxLen) (hq : q.size ≤ maxLen) (bS : nS ≤ maxLen) (bC : nC ≤ maxLen) (bT : nT ≤ maxLen)
    (hS : StrRow w aS nS S) (hC : StrRow w aC nC C) (hT : StrRow w aT nT T)
    (sS : ∀ i, i < nS → (S i).size ≤ maxLen) (sC : ∀ i, i < nC → (C i).size ≤ maxLen) (sT : ∀ i, i < nT → (T i).size ≤ maxLen) (hx : x.size ≤ maxLen) (hy : y.size ≤ maxLen) :
    Calls Tryf.prog 5 #[.int .u64 e, .string p, .string q, .int .u64 st, .slice aS nS cS, .slice aC nC cC, .slice aT nT cT, .string x, .string y] w (RetB (fun r => r = true → nS ≤ 1048576 ∧ nC ≤ 1048576 ∧ nT ≤ 1048576) w) := by
  unfold maxLen at hp hq bS bC bT sS sC sT hx hy
  go_enter Tryf.func5, Tryf.ntmps5
  go_wp2
  all_goals try (go_ret; exact RetB.mk _ rfl rfl (fun h => by first | exact Bool.noConfusion h | (refine ⟨?_, ?_, ?_⟩ <;> omega)))
  go_loop [19, 20] (fun t i => ∃ k : Nat, ∃ z : Int, k ≤ nS ∧ 0 ≤ z ∧ z ≤ 1048576 ∧ i = .int .i64 k ∧ t = .int .i64 z) (fun _ i => nS - (intOf i).toNat)
  case atStart => exact ⟨0, _, Nat.zero_le _, by omega, by omega, rfl, rfl⟩
  case round =>
    obtain ⟨kS, zS, hkS, hz0S, hz1S, rfl, rfl⟩ := hrel
    by_cases hlt : kS < nS
    · obtain ⟨b, off, rfl, hb, hc⟩ := hS kS hlt
      have hsk := sS kS hlt
      go_wp2
      · go_ret
        exact RetB.mk _ rfl rfl (fun h => by first | exact Bool.noConfusion h | (refine ⟨?_, ?_, ?_⟩ <;> omega))
      · go_ret
        exact RetB.mk _ rfl rfl (fun h => by first | exact Bool.noConfusion h | (refine ⟨?_, ?_, ?_⟩ <;> omega))
      · go_round
        case rel => exact ⟨kS + 1, zS + (S kS).size, by omega, by omega, by omega, by go_num, rfl⟩
        case measure => simp [intOf]; omega
    clear hS sS
    go_wp2
    all_goals try (go_ret; exact RetB.mk _ rfl rfl (fun h => by first | exact Bool.noConfusion h | (refine ⟨?_, ?_, ?_⟩ <;> omega)))
    go_loop [19, 21] (fun t i => ∃ k : Nat, ∃ z : Int, k ≤ nC ∧ 0 ≤ z ∧ z ≤ 1048576 ∧ i = .int .i64 k ∧ t = .int .i64 z) (fun _ i => nC - (intOf i).toNat)
    case atStart => exact ⟨0, _, Nat.zero_le _, by omega, by omega, rfl, rfl⟩
    case round =>
      obtain ⟨kC, zC, hkC, hz0C, hz1C, rfl, rfl⟩ := hrel
      by_cases hlt : kC < nC
      · obtain ⟨b, off, rfl, hb, hc⟩ := hC kC hlt
        have hsk := sC kC hlt
        go_wp2
        · go_ret
          exact RetB.mk _ rfl rfl (fun h => by first | exact Bool.noConfusion h | (refine ⟨?_, ?_, ?_⟩ <;> omega))
        · go_ret
          exact RetB.mk _ rfl rfl (fun h => by first | exact Bool.noConfusion h | (refine ⟨?_, ?_, ?_⟩ <;> omega))
        · go_round
          case rel => exact ⟨kC + 1, zC + (C kC).size, by omega, by omega, by omega, by go_num, rfl⟩
          case measure => simp [intOf]; omega
      clear hC sC
      go_wp2
      all_goals try (go_ret; exact RetB.mk _ rfl rfl (fun h => by first | exact Bool.noConfusion h | (refine ⟨?_, ?_, ?_⟩ <;> omega)))
      go_loop [19, 22] (fun t i => ∃ k : Nat, ∃ z : Int, k ≤ nT ∧ 0 ≤ z ∧ z ≤ 1048576 ∧ i = .int .i64 k ∧ t = .int .i64 z) (fun _ i => nT - (intOf i).toNat)
      case atStart => exact ⟨0, _, Nat.zero_le _, by omega, by omega, rfl, rfl⟩
      case round =>
        obtain ⟨kT, zT, hkT, hz0T, hz1T, rfl, rfl⟩ := hrel
        by_cases hlt : kT < nT
        · obtain ⟨b, off, rfl, hb, hc⟩ := hT kT hlt
          have hsk := sT kT hlt
          go_wp2
          · go_ret
            exact RetB.mk _ rfl rfl (fun h => by first | exact Bool.noConfusion h | (refine ⟨?_, ?_, ?_⟩ <;> omega))
          · go_ret
            exact RetB.mk _ rfl rfl (fun h => by first | exact Bool.noConfusion h | (refine ⟨?_, ?_, ?_⟩ <;> omega))
          · go_round
            case rel => exact ⟨kT + 1, zT + (T kT).size, by omega, by omega, by omega, by go_num, rfl⟩
            case measure => simp [intOf]; omega
        clear hT sT
        go_wp2
        all_goals try (go_ret; exact RetB.mk _ rfl rfl (fun h => by first | exact Bool.noConfusion h | (refine ⟨?_, ?_, ?_⟩ <;> omega)))
end Go.Proofs.Qxb6613521aFmt
