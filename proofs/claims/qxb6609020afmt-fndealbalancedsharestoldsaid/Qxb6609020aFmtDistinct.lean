/-
  zzDistinctServers by its contract.
-/
import Derived.Test.Qxb6609020aFmtClone
import Derived.BigQuiet
import Derived.Lib.SlicesS
import Derived.Deep.QuietTactic
namespace Go.Proofs.Qxb6609020aFmt
open Go.RowKit

/-- 1 to 255 names, none given twice -/
def Fits (n : Nat) (S : Nat → ByteArray) : Prop := 1 ≤ n ∧ n ≤ 255 ∧ ∀ i j, i < j → j < n → S i ≠ S j

/-- a bool with Q comes back, the world as it was but for draws -/
def RetBD (Q : Bool → Prop) (w : World) (e : Ending) (w' : World) : Prop := ∃ r q, e = .returned (.bool r) ∧ w' = w.drewN q ∧ Q r
theorem RetBD.mk {Q : Bool → Prop} {w : World} {e : Ending} {w' : World} (r : Bool) (q : Nat) (he : e = .returned (.bool r)) (hw : w' = w.drewN q) (hq : Q r) : RetBD Q w e w' := ⟨r, q, he, hw, hq⟩

theorem neq_of {x y : ByteArray} (h : (x.toList == y.toList) = false) : x ≠ y := (Lib.bytes_beq_false_iff x y).1 h
theorem eq_of {x y : ByteArray} (h : (x.toList == y.toList) = true) : x = y := (Lib.bytes_beq_iff x y).1 h

theorem not_fits {n k m : Nat} {S : Nat → ByteArray} (hkm : k < m) (hmt : m < n) (h : S k = S m) : false = true ↔ Fits n S :=
  ⟨fun h => by simp at h, fun f => absurd h (f.2.2 k m hkm hmt)⟩

set_option maxHeartbeats 1000000 in
theorem distinct (a : Option Addr) (n cap : Nat) (S : Nat → ByteArray) (w : World) (hn : n ≤ 1048576) (hr : StrRow w a n S) :
    Calls Tryf.prog 8 #[.slice a n cap] w (RetBD (fun r => r = true ↔ Fits n S) w) := by
  by_cases h1 : n < 1
  · go_enter Tryf.func8, Tryf.ntmps8
    go_wp2
    go_ret
    exact RetBD.mk false 0 rfl rfl (by simp [Fits]; omega)
  by_cases h2 : 255 < n
  · go_enter Tryf.func8, Tryf.ntmps8
    go_wp2
    go_ret
    exact RetBD.mk false 0 rfl rfl (by simp [Fits]; omega)
  go_enter Tryf.func8, Tryf.ntmps8
  go_wp2
  go_loopw [4] (fun i wr => ∃ k q : Nat, k ≤ n ∧ i = .int .i64 k ∧ wr = w.drewN q ∧ Hid (∀ i j, i < k → i < j → j < n → S i ≠ S j)) (fun i _ => n - (intOf i).toNat)
  case atStart => exact ⟨0, 0, Nat.zero_le _, rfl, rfl, fun i j h => absurd h (by omega)⟩
  case round =>
    obtain ⟨k, q, hk, rfl, rfl, H⟩ := hrel
    by_cases hlt : k < n
    · go_wp2
      go_loopw [5] (fun i wr => ∃ m q : Nat, m ≤ n ∧ k < m ∧ i = .int .i64 m ∧ wr = w.drewN q ∧ Hid (∀ j, k < j → j < m → S k ≠ S j)) (fun i _ => n - (intOf i).toNat)
      case atStart => exact ⟨k + 1, q, by omega, by omega, by go_num, rfl, fun j h1 h2 => absurd h1 (by omega)⟩
      case round =>
        obtain ⟨m, q, hm, hkm, rfl, rfl, H2⟩ := hrel
        by_cases hmt : m < n
        · obtain ⟨b, off, rfl, hb, hc⟩ := hr k hlt
          obtain ⟨b', off', hab, _, hc'⟩ := hr m hmt
          simp only [Option.some.injEq, Addr.mk.injEq] at hab
          obtain ⟨rfl, rfl, _⟩ := hab
          clear hr
          cases he : ((S k).toList == (S m).toList)
          · have hne := neq_of he
            go_wp2
            go_quiet (fail)
            go_wp2
            go_roundw
            case rel => exact ⟨m + 1, _, by omega, by omega, by go_num, rfl, fun j h1 h2 => by
              by_cases e : j = m
              · subst e; exact hne
              · exact H2.out j h1 (by omega)⟩
            case measure => simp [intOf]; omega
          · have hne := eq_of he
            go_wp2
            go_quiet (fail)
            go_wp2
            go_ret
            exact RetBD.mk false _ rfl (World.drewN_drewN _ _ _) (not_fits hkm hmt hne)
        · go_wp2
          go_roundw
          case rel => exact ⟨k + 1, _, by omega, by go_num, rfl, fun i j h1 h2 h3 => by
              by_cases e : i = k
              · subst e; exact H2.out j h2 (by omega)
              · exact H.out i j (by omega) h2 h3⟩
          case measure => simp [intOf]; omega
    · go_wp2
      go_ret
      exact RetBD.mk true _ rfl rfl (by simp only [Fits]; exact ⟨fun _ => ⟨by omega, by omega, fun i j h1 h2 => H.out i j (by omega) h1 h2⟩, fun _ => by trivial⟩)
end Go.Proofs.Qxb6609020aFmt
