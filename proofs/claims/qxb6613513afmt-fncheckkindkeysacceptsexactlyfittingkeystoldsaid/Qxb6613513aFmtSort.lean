/-
  zzSubset and zzSorted by their contracts.
-/
import Derived.Test.Qxb6613513aFmtOrder
import Derived.BigQuiet
import Derived.Deep.QuietTactic
namespace Go.Proofs.Qxb6613513aFmt
open Go.RowKit

/-- a bool with Q comes back, the world as it was but for draws -/
def RetBD (Q : Bool → Prop) (w : World) (e : Ending) (w' : World) : Prop := ∃ r q, e = .returned (.bool r) ∧ w' = w.drewN q ∧ Q r
theorem RetBD.mk {Q : Bool → Prop} {w : World} {e : Ending} {w' : World} (r : Bool) (q : Nat) (he : e = .returned (.bool r)) (hw : w' = w.drewN q) (hq : Q r) : RetBD Q w e w' := ⟨r, q, he, hw, hq⟩

theorem no_of {P : Prop} (h : ¬ P) : false = true ↔ P := ⟨fun e => by simp at e, fun p => absurd p h⟩

set_option maxHeartbeats 2000000 in
theorem subset9 (a b : Option Addr) (na ca nb cb : Nat) (A B : Nat → ByteArray) (w : World) (bA : na ≤ 1048576) (bB : nb ≤ 1048576) (hA : StrRow w a na A) (hB : StrRow w b nb B) (sA : Srt na A) (sB : Srt nb B) :
    Calls Tryf.prog 9 #[.slice a na ca, .slice b nb cb] w (RetBD (fun r => r = true ↔ ∀ k, k < na → Mem nb B (A k)) w) := by
  have SA : Hid (Srt na A) := sA
  have SB : Hid (Srt nb B) := sB
  clear sA sB
  go_enter Tryf.func9, Tryf.ntmps9
  go_wp2
  go_loopw [5, 6] (fun j i wr => ∃ k m q : Nat, k ≤ na ∧ m ≤ nb ∧ i = .int .i64 k ∧ j = .int .i64 m ∧ wr = w.drewN q ∧ Hid (Upto na A nb B k m)) (fun _ i _ => na - (intOf i).toNat)
  case atStart => exact ⟨0, 0, 0, Nat.zero_le _, Nat.zero_le _, rfl, rfl, rfl, Upto.start _ _ _ _⟩
  case round =>
    obtain ⟨k, m, q, hk, hm, rfl, rfl, rfl, H⟩ := hrel
    by_cases hlt : k < na
    · obtain ⟨ba, oa, rfl, _, hca⟩ := hA k hlt
      clear hA
      go_wp2
      go_loopw [5] (fun j wr => ∃ m q : Nat, m ≤ nb ∧ j = .int .i64 m ∧ wr = w.drewN q ∧ Hid (Upto na A nb B k m)) (fun j _ => nb - (intOf j).toNat)
      case atStart => exact ⟨m, q, hm, rfl, rfl, H⟩
      case round =>
        clear H hm
        obtain ⟨m, q, hm, rfl, rfl, H⟩ := hrel
        by_cases hmt : m < nb
        · obtain ⟨bb, ob, rfl, _, hcb⟩ := hB m hmt
          have hd1 : ((m : Int) == (nb : Int)) = false := by simp; omega
          clear hB
          cases hl : Op.bytesLess (B m).toList (A k).toList
          · have hnl : Hid (¬ lss (B m) (A k)) := fun h => by unfold lss at h; rw [hl] at h; simp at h
            go_wp2
            go_quiet (fail)
            go_wp2
            cases he : ((B m).toList == (A k).toList)
            · have hne : Hid (B m ≠ A k) := neq_of he
              go_quiet (fail)
              go_wp2
              go_ret
              exact RetBD.mk false _ rfl (by rw [World.drewN_drewN, World.drewN_drewN]) (no_of (H.out.miss SB.out hlt hnl.out hne.out))
            · have heq : Hid (B m = A k) := eq_of he
              go_quiet (fail)
              go_wp2
              go_roundw
              case rel => exact ⟨k + 1, m, _, by omega, by omega, by go_num, rfl, rfl, H.out.hit hmt heq.out⟩
              case measure => simp [intOf]; omega
          · have hyl : Hid (lss (B m) (A k)) := hl
            go_wp2
            go_quiet (fail)
            go_wp2
            go_roundw
            case rel => exact ⟨m + 1, _, by omega, by go_num, rfl, H.out.skip SA.out hyl.out⟩
            case measure => simp [intOf]; omega
        · have e : m = nb := by omega
          have hd : decide ((m : Int) < (nb : Int)) = false := by simp; omega
          have hd1 : ((m : Int) == (nb : Int)) = true := by simp; omega
          subst e
          go_wp2
          go_quiet (fail)
          go_wp2
          go_quiet (fail)
          go_wp2
          go_ret
          exact RetBD.mk false _ rfl (by rw [World.drewN_drewN, World.drewN_drewN]) (no_of (H.out.miss_end hlt))
    · have e : k = na := by omega
      go_wp2
      go_ret
      exact RetBD.mk true _ rfl rfl ⟨fun _ i hi => H.out.1 i (by omega), fun _ => rfl⟩

theorem cat_a {na nb : Nat} {A B C : Nat → ByteArray} {k : Nat} (h : k < na) : cat na A nb B C k = A k := by unfold cat; rw [if_pos h]
theorem cat_b {na nb : Nat} {A B C : Nat → ByteArray} {k : Nat} (h : k < nb) : cat na A nb B C (na + k) = B k := by
  unfold cat; rw [if_neg (by omega), if_pos (by omega), Nat.add_sub_cancel_left]
theorem cat_c {na nb : Nat} {A B C : Nat → ByteArray} {k : Nat} : cat na A nb B C (na + nb + k) = C k := by
  unfold cat
  rw [if_neg (by omega), if_neg (by omega)]
  have : na + nb + k - na - nb = k := by omega
  rw [this]

/-- what zzSorted hands back -/
def Sorted (na nb nc : Nat) (A B C : Nat → ByteArray) (w : World) (e : Ending) (w' : World) : Prop :=
  e = .returned (.slice (some ⟨w.heap.size, 0, none⟩) (na + nb + nc) (na + nb + nc)) ∧ Below w.heap.size w w' ∧ ∃ R, StrRow w' (some ⟨w.heap.size, 0, none⟩) (na + nb + nc) R ∧ Srt (na + nb + nc) R ∧ ∀ y, Mem (na + nb + nc) R y ↔ Mem na A y ∨ Mem nb B y ∨ Mem nc C y

/-- the state of the sort: the row holds R, which has the members of G; w0 is as it was below the row -/
def St (g N : Nat) (G : Nat → ByteArray) (w0 : World) (R : Nat → ByteArray) (wr : World) : Prop := Grows g N N R wr ∧ Below g w0 wr ∧ ∀ y, Mem N R y ↔ Mem N G y

theorem St.swap {g N : Nat} {G : Nat → ByteArray} {w0 : World} {R : Nat → ByteArray} {wr : World} (h : St g N G w0 R wr) (m : Nat) (hm : m + 1 < N) :
    St g N G w0 (swp R m) ((wr.setCell ⟨g, m + 1, none⟩ (.string (R m))).setCell ⟨g, m, none⟩ (.string (R (m + 1)))) :=
  ⟨(h.1.set (m + 1) (R m)).set m (R (m + 1)), (h.2.1.setCell (Nat.le_refl _) _).setCell (Nat.le_refl _) _, fun y => (swp_mem N R m hm y).trans (h.2.2 y)⟩
theorem St.drewN {g N : Nat} {G : Nat → ByteArray} {w0 : World} {R : Nat → ByteArray} {wr : World} (h : St g N G w0 R wr) (q : Nat) : St g N G w0 R (wr.drewN q) := ⟨h.1.drewN q, below_drewN h.2.1 q, h.2.2⟩

theorem srt_one (R : Nat → ByteArray) : Srt 1 R := fun i j hij hj => by
  have e : i = j := by omega
  subst e; exact lss_irrefl _
theorem Srt.mono {n m : Nat} {R : Nat → ByteArray} (h : Srt n R) (hm : m ≤ n) : Srt m R := fun i j hij hj => h i j hij (by omega)

set_option maxHeartbeats 4000000 in
theorem sorted10 (a b c : Option Addr) (na ca nb cb nc cc : Nat) (A B C : Nat → ByteArray) (w : World) (bN : na + nb + nc ≤ 1048576) (hA : StrRow w a na A) (hB : StrRow w b nb B) (hC : StrRow w c nc C) :
    Calls Tryf.prog 10 #[.slice a na ca, .slice b nb cb, .slice c nc cc] w (Sorted na nb nc A B C w) := by
  have hmk := make0 (na + nb + nc) ((na : Int) + nb + nc) (by omega) (by omega)
  have G0 : Hid (Grows w.heap.size (na + nb + nc) 0 (cat na A nb B C) (w.alloc (.cells (blankS (na + nb + nc)) 9)) ∧ Below w.heap.size w (w.alloc (.cells (blankS (na + nb + nc)) 9))) := ⟨Grows.start _ _ _, (Below.refl _ _).alloc (Nat.le_refl _) _⟩
  go_enter Tryf.func10, Tryf.ntmps10
  go_wp2
  go_loopw [7, 8] (fun v i wr => ∃ k : Nat, k ≤ na ∧ i = .int .i64 k ∧ v = .slice (some ⟨w.heap.size, 0, none⟩) k (na + nb + nc) ∧ Hid (Grows w.heap.size (na + nb + nc) k (cat na A nb B C) wr ∧ Below w.heap.size w wr)) (fun _ i _ => na - (intOf i).toNat)
  case atStart => exact ⟨0, Nat.zero_le _, rfl, rfl, G0⟩
  case round =>
    obtain ⟨k, hk, rfl, rfl, GK⟩ := hrel
    clear hmk G0
    by_cases hlt : k < na
    · obtain ⟨ba, oa, rfl, _, hc⟩ := hA k hlt
      have hc' : wr.cell? ⟨ba, oa + k, none⟩ = some (.string (A k)) := cell_later GK.out.2 hc
      obtain ⟨w1, happ, g1, g2⟩ := GK.out.1.append (by omega) (A k) (cat_a hlt)
      have GN : Hid (Grows w.heap.size (na + nb + nc) (k + 1) (cat na A nb B C) w1 ∧ Below w.heap.size w w1) := ⟨g1, GK.out.2.trans g2⟩
      clear GK g1 g2 hc
      go_wp2_with (first | (at_builtin; refine wpList_append_run rfl _ _ 22 rfl _ _ _ _ rfl rfl happ ?_) | go_in)
      go_roundw
      case rel => exact ⟨k + 1, by omega, by go_num, rfl, GN⟩
      case measure => simp [intOf]; omega
    have e : k = na := by omega
    subst e
    clear hlt hk
    go_wp2
    go_loopw [7, 9] (fun v i wr => ∃ m : Nat, m ≤ nb ∧ i = .int .i64 m ∧ v = .slice (some ⟨w.heap.size, 0, none⟩) (k + m) (k + nb + nc) ∧ Hid (Grows w.heap.size (k + nb + nc) (k + m) (cat k A nb B C) wr ∧ Below w.heap.size w wr)) (fun _ i _ => nb - (intOf i).toNat)
    case atStart => exact ⟨0, Nat.zero_le _, rfl, rfl, GK⟩
    case round =>
      clear GK
      obtain ⟨m, hm, rfl, rfl, GK⟩ := hrel
      by_cases hlt : m < nb
      · obtain ⟨bb, ob, rfl, _, hc⟩ := hB m hlt
        have hc' : wr.cell? ⟨bb, ob + m, none⟩ = some (.string (B m)) := cell_later GK.out.2 hc
        obtain ⟨w1, happ, g1, g2⟩ := GK.out.1.append (by omega) (B m) (cat_b hlt)
        have GN : Hid (Grows w.heap.size (k + nb + nc) (k + m + 1) (cat k A nb B C) w1 ∧ Below w.heap.size w w1) := ⟨g1, GK.out.2.trans g2⟩
        clear GK g1 g2 hc
        go_wp2_with (first | (at_builtin; refine wpList_append_run rfl _ _ 22 rfl _ _ _ _ rfl rfl happ ?_) | go_in)
        go_roundw
        case rel => exact ⟨m + 1, by omega, by go_num, rfl, GN⟩
        case measure => simp [intOf]; omega
      have e : m = nb := by omega
      subst e
      clear hlt hm
      go_wp2
      go_loopw [7, 10] (fun v i wr => ∃ l : Nat, l ≤ nc ∧ i = .int .i64 l ∧ v = .slice (some ⟨w.heap.size, 0, none⟩) (k + m + l) (k + m + nc) ∧ Hid (Grows w.heap.size (k + m + nc) (k + m + l) (cat k A m B C) wr ∧ Below w.heap.size w wr)) (fun _ i _ => nc - (intOf i).toNat)
      case atStart => exact ⟨0, Nat.zero_le _, rfl, rfl, GK⟩
      case round =>
        clear GK
        obtain ⟨l, hl, rfl, rfl, GK⟩ := hrel
        by_cases hlt : l < nc
        · obtain ⟨bc, oc, rfl, _, hc⟩ := hC l hlt
          have hc' : wr.cell? ⟨bc, oc + l, none⟩ = some (.string (C l)) := cell_later GK.out.2 hc
          obtain ⟨w1, happ, g1, g2⟩ := GK.out.1.append (by omega) (C l) cat_c
          have GN : Hid (Grows w.heap.size (k + m + nc) (k + m + l + 1) (cat k A m B C) w1 ∧ Below w.heap.size w w1) := ⟨g1, GK.out.2.trans g2⟩
          clear GK g1 g2 hc
          go_wp2_with (first | (at_builtin; refine wpList_append_run rfl _ _ 22 rfl _ _ _ _ rfl rfl happ ?_) | go_in)
          go_roundw
          case rel => exact ⟨l + 1, by omega, by go_num, rfl, GN⟩
          case measure => simp [intOf]; omega
        have e : l = nc := by omega
        subst e
        clear hlt hl
        have S0 : Hid (∃ R, St w.heap.size (k + m + l) (cat k A m B C) w R wr ∧ Srt 1 R) := ⟨_, ⟨GK.out.1, GK.out.2, fun _ => Iff.rfl⟩, srt_one _⟩
        clear GK hA hB hC
        go_wp2
        go_loopw [11] (fun s wr => ∃ i : Nat, 1 ≤ i ∧ (i ≤ k + m + l ∨ i = 1) ∧ s = .int .i64 i ∧ Hid (∃ R, St w.heap.size (k + m + l) (cat k A m B C) w R wr ∧ Srt i R)) (fun s _ => k + m + l - (intOf s).toNat)
        case atStart => exact ⟨1, Nat.le_refl _, Or.inr rfl, rfl, S0⟩
        case round =>
          clear S0
          obtain ⟨i, hi1, hi2, rfl, S1⟩ := hrel
          by_cases hlt : i < k + m + l
          · have B0 : Hid (∃ R, St w.heap.size (k + m + l) (cat k A m B C) w R wr ∧ But i i R) := by
              obtain ⟨R, h1, h2⟩ := S1.out
              exact ⟨R, h1, h2.but⟩
            have hlti : (i : Int) < (k : Int) + m + l := by omega
            clear S1
            go_wp2
            go_loopw [12] (fun s wr => ∃ j : Nat, j ≤ i ∧ s = .int .i64 j ∧ Hid (∃ R, St w.heap.size (k + m + l) (cat k A m B C) w R wr ∧ But i j R)) (fun s _ => (intOf s).toNat)
            case atStart => exact ⟨i, Nat.le_refl _, rfl, B0⟩
            case round =>
              clear B0
              obtain ⟨j, hj, rfl, B1⟩ := hrel
              obtain ⟨R, hst, hbut⟩ := B1.out
              cases j with
              | zero =>
                have FIN : Hid (∃ R, St w.heap.size (k + m + l) (cat k A m B C) w R wr ∧ Srt (i + 1) R) := ⟨R, hst, hbut.done0⟩
                clear B1 hst hbut
                go_wp2
                go_quiet (fail)
                go_wp2
                go_roundw
                case rel => exact ⟨i + 1, by omega, Or.inl (by omega), by go_num, by obtain ⟨R, h1, h2⟩ := FIN.out; exact ⟨R, h1.drewN _, h2⟩⟩
                case measure => simp [intOf]; omega
              | succ j =>
                obtain ⟨c0, f0⟩ := hst.1.at j (by omega)
                obtain ⟨c1, f1⟩ := hst.1.at (j + 1) (by omega)
                cases hl : Op.bytesLess (R (j + 1)).toList (R j).toList
                · have FIN : Hid (∃ R, St w.heap.size (k + m + l) (cat k A m B C) w R wr ∧ Srt (i + 1) R) := ⟨R, hst, hbut.done hj (fun h => by unfold lss at h; rw [hl] at h; simp at h)⟩
                  clear B1 hst hbut
                  go_wp2
                  go_quiet (fail)
                  go_wp2
                  go_roundw
                  case rel => exact ⟨i + 1, by omega, Or.inl (by omega), by go_num, by obtain ⟨R, h1, h2⟩ := FIN.out; exact ⟨R, h1.drewN _, h2⟩⟩
                  case measure => simp [intOf]; omega
                · have hsw := fun q => (hst.drewN q).swap j (by omega)
                  have SW : Hid (∀ q, St w.heap.size (k + m + l) (cat k A m B C) w (swp R j) (((wr.drewN q).setCell ⟨w.heap.size, j + 1, none⟩ (.string (R j))).setCell ⟨w.heap.size, j, none⟩ (.string (R (j + 1))))) := hsw
                  have BT : Hid (But i j (swp R j)) := hbut.swap hl
                  clear B1 hst hbut hsw
                  go_wp2
                  go_quiet (fail)
                  go_wp2
                  go_roundw
                  case rel => exact ⟨j, by omega, rfl, ⟨_, SW.out nq, BT.out⟩⟩
                  case measure => simp [intOf]
          · go_wp2
            go_ret
            obtain ⟨R, hst, hsr⟩ := S1.out
            exact ⟨rfl, hst.2.1, R, hst.1.rowOf, hsr.mono (by omega), fun y => (hst.2.2 y).trans (mem_cat k A m B l C y)⟩
end Go.Proofs.Qxb6613513aFmt
