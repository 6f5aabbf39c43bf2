/-
  Plain: the order of strings; an insertion sort's step; two sorted rows merged.
-/
import Derived.Test.Qxb6613513aFmtPlain
namespace Go.Proofs.Qxb6613513aFmt
open Go.RowKit

theorem bl_irrefl : ∀ x : List UInt8, Op.bytesLess x x = false
  | [] => rfl
  | a :: x => by simp [Op.bytesLess, bl_irrefl x]

theorem bl_trans : ∀ x y z : List UInt8, Op.bytesLess x y = true → Op.bytesLess y z = true → Op.bytesLess x z = true
  | _, _, [], _, h => by simp [Op.bytesLess] at h
  | _, [], _ :: _, h, _ => by simp [Op.bytesLess] at h
  | [], _ :: _, _ :: _, _, _ => rfl
  | a :: x, b :: y, c :: z, h1, h2 => by
    simp only [Op.bytesLess, Bool.or_eq_true, decide_eq_true_eq, Bool.and_eq_true, beq_iff_eq] at h1 h2 ⊢
    rcases h1 with h1 | ⟨e1, h1⟩
    · rcases h2 with h2 | ⟨e2, h2⟩
      · exact Or.inl (UInt8.lt_trans h1 h2)
      · subst e2; exact Or.inl h1
    · rcases h2 with h2 | ⟨e2, h2⟩
      · subst e1; exact Or.inl h2
      · subst e1; subst e2; exact Or.inr ⟨rfl, bl_trans x y z h1 h2⟩

theorem bl_tri : ∀ x y : List UInt8, Op.bytesLess x y = false → Op.bytesLess y x = false → x = y
  | [], [], _, _ => rfl
  | [], _ :: _, h, _ => by simp [Op.bytesLess] at h
  | _ :: _, [], _, h => by simp [Op.bytesLess] at h
  | a :: x, b :: y, h1, h2 => by
    simp only [Op.bytesLess, Bool.or_eq_false_iff, decide_eq_false_iff_not, Bool.and_eq_false_iff, beq_eq_false_iff_ne] at h1 h2
    have e : a = b := UInt8.le_antisymm (UInt8.not_lt.1 h2.1) (UInt8.not_lt.1 h1.1)
    subst e
    have := bl_tri x y (by rcases h1.2 with h | h; exact absurd rfl h; exact h) (by rcases h2.2 with h | h; exact absurd rfl h; exact h)
    rw [this]

/-- '<' on strings -/
def lss (x y : ByteArray) : Prop := Op.bytesLess x.toList y.toList = true
theorem lss_irrefl (x : ByteArray) : ¬ lss x x := by unfold lss; rw [bl_irrefl]; simp
theorem lss_trans {x y z : ByteArray} (h1 : lss x y) (h2 : lss y z) : lss x z := bl_trans _ _ _ h1 h2
theorem lss_asymm {x y : ByteArray} (h1 : lss x y) : ¬ lss y x := fun h2 => lss_irrefl x (lss_trans h1 h2)
theorem lss_tri {x y : ByteArray} (h1 : ¬ lss x y) (h2 : ¬ lss y x) : x = y := by
  have := bl_tri x.toList y.toList (by simpa [lss] using h1) (by simpa [lss] using h2)
  exact (Lib.bytes_beq_iff x y).1 (by simp [this])
/-- x < y ≤ z -/
theorem lss_le {x y z : ByteArray} (h1 : lss x y) (h2 : ¬ lss z y) : lss x z := by
  by_cases h : lss y z
  · exact lss_trans h1 h
  · rw [← lss_tri h h2]; exact h1
/-- x ≤ y ≤ z -/
theorem le_le {x y z : ByteArray} (h1 : ¬ lss y x) (h2 : ¬ lss z y) : ¬ lss z x := fun h => by
  by_cases hxy : lss x y
  · exact lss_asymm (lss_le hxy h2) h
  · rw [lss_tri hxy h1] at h; exact h2 h

def Srt (n : Nat) (R : Nat → ByteArray) : Prop := ∀ i j, i ≤ j → j < n → ¬ lss (R j) (R i)

/-! ### zzSubset -/
def Upto (na : Nat) (A : Nat → ByteArray) (nb : Nat) (B : Nat → ByteArray) (i j : Nat) : Prop :=
  (∀ k, k < i → Mem nb B (A k)) ∧ ∀ k, k < j → ∀ l, i ≤ l → l < na → lss (B k) (A l)

theorem Upto.start (na : Nat) (A : Nat → ByteArray) (nb : Nat) (B : Nat → ByteArray) : Upto na A nb B 0 0 := ⟨fun k h => absurd h (by omega), fun k h => absurd h (by omega)⟩
theorem Upto.skip {na nb i j : Nat} {A B : Nat → ByteArray} (h : Upto na A nb B i j) (hA : Srt na A) (hl : lss (B j) (A i)) : Upto na A nb B i (j + 1) :=
  ⟨h.1, fun k hk l hil hl' => by
    by_cases e : k = j
    · subst e; exact lss_le hl (hA i l hil hl')
    · exact h.2 k (by omega) l hil hl'⟩
theorem Upto.hit {na nb i j : Nat} {A B : Nat → ByteArray} (h : Upto na A nb B i j) (hj : j < nb) (e : B j = A i) : Upto na A nb B (i + 1) j :=
  ⟨fun k hk => by
    by_cases e' : k = i
    · subst e'; exact ⟨j, hj, e⟩
    · exact h.1 k (by omega), fun k hk l hil hl => h.2 k hk l (by omega) hl⟩
theorem Upto.miss_end {na nb i : Nat} {A B : Nat → ByteArray} (h : Upto na A nb B i nb) (hi : i < na) : ¬ ∀ k, k < na → Mem nb B (A k) := fun hall => by
  obtain ⟨k, hk, e⟩ := hall i hi
  have := h.2 k hk i (Nat.le_refl _) hi
  rw [e] at this; exact lss_irrefl _ this
theorem Upto.miss {na nb i j : Nat} {A B : Nat → ByteArray} (h : Upto na A nb B i j) (hB : Srt nb B) (hi : i < na) (hn : ¬ lss (B j) (A i)) (hne : B j ≠ A i) : ¬ ∀ k, k < na → Mem nb B (A k) := fun hall => by
  obtain ⟨k, hk, e⟩ := hall i hi
  by_cases hkj : k < j
  · have := h.2 k hkj i (Nat.le_refl _) hi
    rw [e] at this; exact lss_irrefl _ this
  · have h1 : lss (A i) (B j) := by
      by_cases h1 : lss (A i) (B j)
      · exact h1
      · exact absurd (lss_tri hn h1) hne
    have h2 := hB j k (by omega) hk
    have := lss_le h1 h2
    rw [e] at this; exact lss_irrefl _ this

/-! ### the insertion -/
def upd (R : Nat → ByteArray) (j : Nat) (v : ByteArray) (k : Nat) : ByteArray := if k = j then v else R k
/-- R with places m and m+1 exchanged -/
def swp (R : Nat → ByteArray) (m : Nat) : Nat → ByteArray := upd (upd R (m + 1) (R m)) m (R (m + 1))

theorem swp_hi (R : Nat → ByteArray) (m : Nat) : swp R m (m + 1) = R m := by simp [swp, upd]
theorem swp_lo (R : Nat → ByteArray) (m : Nat) : swp R m m = R (m + 1) := by simp [swp, upd]
theorem swp_other (R : Nat → ByteArray) (m k : Nat) (h1 : k ≠ m) (h2 : k ≠ m + 1) : swp R m k = R k := by simp [swp, upd, h1, h2]

theorem swp_mem (n : Nat) (R : Nat → ByteArray) (m : Nat) (hm : m + 1 < n) (y : ByteArray) : Mem n (swp R m) y ↔ Mem n R y := by
  constructor
  · rintro ⟨i, hi, e⟩
    by_cases h1 : i = m
    · subst h1; rw [swp_lo] at e; exact ⟨i + 1, by omega, e⟩
    · by_cases h2 : i = m + 1
      · subst h2; rw [swp_hi] at e; exact ⟨m, by omega, e⟩
      · rw [swp_other R m i h1 h2] at e; exact ⟨i, hi, e⟩
  · rintro ⟨i, hi, e⟩
    by_cases h1 : i = m
    · subst h1; exact ⟨i + 1, by omega, by rw [swp_hi]; exact e⟩
    · by_cases h2 : i = m + 1
      · subst h2; exact ⟨m, by omega, by rw [swp_lo]; exact e⟩
      · exact ⟨i, hi, by rw [swp_other R m i h1 h2]; exact e⟩

/-- the first i+1 are in order but for place j -/
def But (i j : Nat) (R : Nat → ByteArray) : Prop := ∀ p q, p < q → q ≤ i → q ≠ j → ¬ lss (R q) (R p)

theorem Srt.but {i : Nat} {R : Nat → ByteArray} (h : Srt i R) : But i i R := fun p q hpq hqi hne => h p q (by omega) (by omega)

theorem But.swap {i m : Nat} {R : Nat → ByteArray} (h : But i (m + 1) R) (hl : lss (R (m + 1)) (R m)) : But i m (swp R m) := fun p q hpq hqi hne => by
  by_cases hq : q = m + 1
  · subst hq
    rw [swp_hi]
    by_cases hp : p = m
    · subst hp; rw [swp_lo]; exact lss_asymm hl
    · rw [swp_other R m p hp (by omega)]; exact h p m (by omega) (by omega) (by omega)
  · rw [swp_other R m q hne hq]
    by_cases hp : p = m
    · subst hp; rw [swp_lo]; exact h (p + 1) q (by omega) hqi hq
    · by_cases hp2 : p = m + 1
      · subst hp2; rw [swp_hi]; exact h m q (by omega) hqi hq
      · rw [swp_other R m p hp hp2]; exact h p q hpq hqi hq

theorem srt_of {i : Nat} {R : Nat → ByteArray} (h : ∀ p q, p < q → q ≤ i → ¬ lss (R q) (R p)) : Srt (i + 1) R := fun p q hpq hq => by
  by_cases e : p = q
  · subst e; exact lss_irrefl _
  · exact h p q (by omega) (by omega)
theorem But.done0 {i : Nat} {R : Nat → ByteArray} (h : But i 0 R) : Srt (i + 1) R := srt_of fun p q hpq hq => h p q hpq hq (by omega)
theorem But.done {i m : Nat} {R : Nat → ByteArray} (h : But i (m + 1) R) (hmi : m + 1 ≤ i) (hl : ¬ lss (R (m + 1)) (R m)) : Srt (i + 1) R := srt_of fun p q hpq hq => by
  by_cases e : q = m + 1
  · subst e
    by_cases hp : p = m
    · subst hp; exact hl
    · exact le_le (h p m (by omega) (by omega) (by omega)) hl
  · exact h p q hpq hq e

/-! ### three rows behind one another -/
def cat (na : Nat) (A : Nat → ByteArray) (nb : Nat) (B C : Nat → ByteArray) (j : Nat) : ByteArray := if j < na then A j else if j < na + nb then B (j - na) else C (j - na - nb)
theorem mem_cat (na : Nat) (A : Nat → ByteArray) (nb : Nat) (B : Nat → ByteArray) (nc : Nat) (C : Nat → ByteArray) (y : ByteArray) : Mem (na + nb + nc) (cat na A nb B C) y ↔ Mem na A y ∨ Mem nb B y ∨ Mem nc C y := by
  constructor
  · rintro ⟨i, hi, e⟩
    unfold cat at e
    by_cases h1 : i < na
    · rw [if_pos h1] at e; exact Or.inl ⟨i, h1, e⟩
    · rw [if_neg h1] at e
      by_cases h2 : i < na + nb
      · rw [if_pos h2] at e; exact Or.inr (Or.inl ⟨i - na, by omega, e⟩)
      · rw [if_neg h2] at e; exact Or.inr (Or.inr ⟨i - na - nb, by omega, e⟩)
  · rintro (⟨i, hi, e⟩ | ⟨i, hi, e⟩ | ⟨i, hi, e⟩)
    · exact ⟨i, by omega, by unfold cat; rw [if_pos hi]; exact e⟩
    · refine ⟨na + i, by omega, ?_⟩
      unfold cat
      rw [if_neg (by omega), if_pos (by omega), Nat.add_sub_cancel_left]; exact e
    · refine ⟨na + nb + i, by omega, ?_⟩
      unfold cat
      rw [if_neg (by omega), if_neg (by omega)]
      have : na + nb + i - na - nb = i := by omega
      rw [this]; exact e

/-! ### the row in memory -/
theorem Grows.set {g N : Nat} {R : Nat → ByteArray} {wr : World} (h : Grows g N N R wr) (j : Nat) (v : ByteArray) : Grows g N N (upd R j v) (wr.setCell ⟨g, j, none⟩ (.string v)) := by
  obtain ⟨D, hB, hs, hD⟩ := h
  refine ⟨_, hB.set j _, by simpa using hs, fun k hk => ?_⟩
  unfold upd
  by_cases e : k = j
  · subst e; rw [if_pos rfl]; simp [hs, hk]
  · rw [if_neg e, Array.getElem?_setIfInBounds_ne (fun h => e h.symm)]; exact hD k hk
theorem Grows.drewN {g N k : Nat} {R : Nat → ByteArray} {wr : World} (h : Grows g N k R wr) (q : Nat) : Grows g N k R (wr.drewN q) := h
theorem Grows.at {g N : Nat} {R : Nat → ByteArray} {wr : World} (h : Grows g N N R wr) (j : Nat) (hj : j < N) : wr.cell? ⟨g, j, none⟩ = some (.string (R j)) ∧ wr.frozen? ⟨g, j, none⟩ = false := by
  obtain ⟨D, hB, hs, hD⟩ := h
  exact ⟨by rw [hB.cell]; exact hD j hj, hB.frozen j⟩
end Go.Proofs.Qxb6613513aFmt
