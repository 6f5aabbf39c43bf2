/-
  zzIsFresh and zzBytes.
-/
import Derived.Test.Qxb6613521aFmtCopy
namespace Go.Proofs.Qxb6613521aFmt
open Go.RowKit

set_option maxHeartbeats 2000000 in
/-- zzIsFresh -/
theorem fresh7 (x p q : ByteArray) (a4 a5 a6 : Option Addr) (n4 c4 n5 c5 n6 c6 : Nat) (S4 S5 S6 : Nat → ByteArray) (w : World) (h4 : n4 ≤ 65536) (h5 : n5 ≤ 65536) (h6 : n6 ≤ 65536)
    (hr4 : StrRow w a4 n4 S4) (hr5 : StrRow w a5 n5 S5) (hr6 : StrRow w a6 n6 S6) :
    Calls Tryf.prog 7 #[.string x, .string p, .string q, .slice a4 n4 c4, .slice a5 n5 c5, .slice a6 n6 c6] w (RetB (fun r => r = true → Fresh x p q n4 S4 n5 S5 n6 S6) w) := by
  have H4 : Hid (Calls Tryf.prog 16 #[.slice a4 n4 c4, .string x] w (RetI (Found n4 S4 x) w)) := index16 a4 n4 c4 S4 x w (by omega) hr4
  have H5 : Hid (Calls Tryf.prog 16 #[.slice a5 n5 c5, .string x] w (RetI (Found n5 S5 x) w)) := index16 a5 n5 c5 S5 x w (by omega) hr5
  have H6 : Hid (Calls Tryf.prog 16 #[.slice a6 n6 c6, .string x] w (RetI (Found n6 S6 x) w)) := index16 a6 n6 c6 S6 x w (by omega) hr6
  clear hr4 hr5 hr6 h4 h5 h6
  have no : RetB (fun r => r = true → Fresh x p q n4 S4 n5 S5 n6 S6) w (.returned (.bool false)) w := RetB.mk false rfl rfl (fun h => by simp at h)
  cases e1 : x.toList.isEmpty
  case true =>
    go_enter Tryf.func7, Tryf.ntmps7
    go_wp2
    go_ret
    exact no
  cases e2 : (x.toList == [108, 111, 115, 116])
  case true =>
    go_enter Tryf.func7, Tryf.ntmps7
    go_wp2
    go_ret
    exact no
  cases e3 : (x.toList == p.toList)
  case true =>
    go_enter Tryf.func7, Tryf.ntmps7
    go_wp2
    go_ret
    exact no
  cases e4 : (x.toList == q.toList)
  case true =>
    go_enter Tryf.func7, Tryf.ntmps7
    go_wp2
    go_ret
    exact no
  go_enter Tryf.func7, Tryf.ntmps7
  go_wp2_with fail
  refine H4.out.mono ?_
  rintro e w1 ⟨r4, rfl, rfl, k4⟩
  have m4 := Found.mem k4
  clear k4
  by_cases g4 : 0 ≤ r4
  · go_wp2
    go_ret
    exact no
  have M4 : Hid (¬ Mem n4 S4 x) := fun h => g4 (m4.2 h)
  clear m4
  go_wp2_with fail
  refine H5.out.mono ?_
  rintro e w1 ⟨r5, rfl, rfl, k5⟩
  have m5 := Found.mem k5
  clear k5
  by_cases g5 : 0 ≤ r5
  · go_wp2
    go_ret
    exact no
  have M5 : Hid (¬ Mem n5 S5 x) := fun h => g5 (m5.2 h)
  clear m5
  go_wp2_with fail
  refine H6.out.mono ?_
  rintro e w1 ⟨r6, rfl, rfl, k6⟩
  have M6 : Hid (0 ≤ r6 ↔ Mem n6 S6 x) := Found.mem k6
  clear k6
  go_wp2
  go_ret
  exact RetB.mk (decide (r6 < 0)) rfl rfl fun h => ⟨notEmpty e1, notLost e2, neq_of e3, neq_of e4, M4.out, M5.out, fun hm => by
    have h1 := M6.out.2 hm
    have h2 := of_decide_eq_true h
    omega⟩

set_option maxHeartbeats 2000000 in
theorem bytes5 (e : Int) (p q : ByteArray) (st : Int) (aS aC aT : Option Addr) (nS cS nC cC nT cT : Nat) (S C T : Nat → ByteArray) (x y : ByteArray) (w : World)
    (hp : p.size ≤ maxLen) (hq : q.size ≤ maxLen) (bS : nS ≤ maxLen) (bC : nC ≤ maxLen) (bT : nT ≤ maxLen)
    (hS : StrRow w aS nS S) (hC : StrRow w aC nC C) (hT : StrRow w aT nT T)
    (sS : ∀ i, i < nS → (S i).size ≤ maxLen) (sC : ∀ i, i < nC → (C i).size ≤ maxLen) (sT : ∀ i, i < nT → (T i).size ≤ maxLen) (hx : x.size ≤ maxLen) (hy : y.size ≤ maxLen) :
    Calls Tryf.prog 5 #[.int .u64 e, .string p, .string q, .int .u64 st, .slice aS nS cS, .slice aC nC cC, .slice aT nT cT, .string x, .string y] w (RetB (fun _ => True) w) := by
  unfold maxLen at hp hq bS bC bT sS sC sT hx hy
  go_enter Tryf.func5, Tryf.ntmps5
  go_wp2
  all_goals try (go_ret; exact RetB.mk _ rfl rfl trivial)
  go_loop [19, 20] (fun t i => ∃ k : Nat, ∃ z : Int, k ≤ nS ∧ 0 ≤ z ∧ z ≤ 1048576 ∧ i = .int .i64 k ∧ t = .int .i64 z) (fun _ i => nS - (intOf i).toNat)
  case atStart => exact ⟨0, _, Nat.zero_le _, by omega, by omega, rfl, rfl⟩
  case round =>
    obtain ⟨kS, zS, hkS, hz0S, hz1S, rfl, rfl⟩ := hrel
    by_cases hlt : kS < nS
    · obtain ⟨b, off, rfl, hb, hc⟩ := hS kS hlt
      have hsk := sS kS hlt
      go_wp2
      · go_ret
        exact RetB.mk _ rfl rfl trivial
      · go_ret
        exact RetB.mk _ rfl rfl trivial
      · go_round
        case rel => exact ⟨kS + 1, zS + (S kS).size, by omega, by omega, by omega, by go_num, rfl⟩
        case measure => simp [intOf]; omega
    clear hS sS
    go_wp2
    all_goals try (go_ret; exact RetB.mk _ rfl rfl trivial)
    go_loop [19, 21] (fun t i => ∃ k : Nat, ∃ z : Int, k ≤ nC ∧ 0 ≤ z ∧ z ≤ 1048576 ∧ i = .int .i64 k ∧ t = .int .i64 z) (fun _ i => nC - (intOf i).toNat)
    case atStart => exact ⟨0, _, Nat.zero_le _, by omega, by omega, rfl, rfl⟩
    case round =>
      obtain ⟨kC, zC, hkC, hz0C, hz1C, rfl, rfl⟩ := hrel
      by_cases hlt : kC < nC
      · obtain ⟨b, off, rfl, hb, hc⟩ := hC kC hlt
        have hsk := sC kC hlt
        go_wp2
        · go_ret
          exact RetB.mk _ rfl rfl trivial
        · go_ret
          exact RetB.mk _ rfl rfl trivial
        · go_round
          case rel => exact ⟨kC + 1, zC + (C kC).size, by omega, by omega, by omega, by go_num, rfl⟩
          case measure => simp [intOf]; omega
      clear hC sC
      go_wp2
      all_goals try (go_ret; exact RetB.mk _ rfl rfl trivial)
      go_loop [19, 22] (fun t i => ∃ k : Nat, ∃ z : Int, k ≤ nT ∧ 0 ≤ z ∧ z ≤ 1048576 ∧ i = .int .i64 k ∧ t = .int .i64 z) (fun _ i => nT - (intOf i).toNat)
      case atStart => exact ⟨0, _, Nat.zero_le _, by omega, by omega, rfl, rfl⟩
      case round =>
        obtain ⟨kT, zT, hkT, hz0T, hz1T, rfl, rfl⟩ := hrel
        by_cases hlt : kT < nT
        · obtain ⟨b, off, rfl, hb, hc⟩ := hT kT hlt
          have hsk := sT kT hlt
          go_wp2
          · go_ret
            exact RetB.mk _ rfl rfl trivial
          · go_ret
            exact RetB.mk _ rfl rfl trivial
          · go_round
            case rel => exact ⟨kT + 1, zT + (T kT).size, by omega, by omega, by omega, by go_num, rfl⟩
            case measure => simp [intOf]; omega
        clear hT sT
        go_wp2
        all_goals try (go_ret; exact RetB.mk _ rfl rfl trivial)
end Go.Proofs.Qxb6613521aFmt
