/-
  The set 'seen' (a map[string]bool that the call makes): what a look-up and a store do.
-/
import Derived.Test.Qxb6609020aFmtDistinct
import Derived.Maps.Own
import Derived.Maps.Views
namespace Go.Proofs.Qxb6609020aFmt
open Go.RowKit
open Go.Maps (Keyed IsMap)

def seenB (k : Nat) (S : Nat → ByteArray) (s : ByteArray) : Bool := (List.range k).any fun i => decide (S i = s)
theorem seenB_iff (k : Nat) (S : Nat → ByteArray) (s : ByteArray) : seenB k S s = true ↔ ∃ i, i < k ∧ S i = s := by simp [seenB]
theorem seenB_false (k : Nat) (S : Nat → ByteArray) (s : ByteArray) (h : seenB k S s = false) : ∀ i, i < k → S i ≠ s := fun i hi e => by
  have := (seenB_iff k S s).2 ⟨i, hi, e⟩
  rw [h] at this; exact absurd this (by simp)

theorem plainElem_bool_inv {H : Type} {P : Program} {e : TypeId} (he : P.underlying e = some .bool) {v : Value} {z : DataW H × List MemPlace} (h : plainElem P e v = some z) : ∃ a, v = .bool a ∧ z = (.lit (.bool a), []) := by
  unfold plainElem at h
  rw [he] at h
  cases v <;> simp at h
  subst h
  exact ⟨_, rfl, rfl⟩

/-- block b is a map that holds just S 0 .. S (k-1), each with true -/
def Seen (w : World) (b k : Nat) (S : Nat → ByteArray) : Prop :=
  ∃ D : DataW Unit, w.ownsMap Tryf.prog 9 (plainElem Tryf.prog 4) b k D ∧ IsMap D ∧ ∀ s : ByteArray, D.atKey (.string s.data.toList) (.lit (.bool false)) = .lit (.bool (seenB k S s))

theorem keyed9 : Keyed Tryf.prog 9 := Go.Maps.string_keyed Tryf.underlying9
theorem zero4 (w : World) : (zeroValue 4).run Tryf.prog w = .ok (.bool false) w := by kernel_rfl

theorem Seen.made (w : World) (S : Nat → ByteArray) : Seen (w.alloc (.map #[] 0)) w.heap.size 0 S :=
  ⟨.map [], World.ownsMap_made w _ _ _, ⟨_, rfl⟩, fun _ => rfl⟩

theorem Seen.look {w : World} {b k : Nat} {S : Nat → ByteArray} (h : Seen w b k S) (s : ByteArray) (hs : s.size ≤ maxLen) :
    (Instr.lookup 27 (.map (some b)) (.string s) false).run Tryf.prog w = .ok (.bool (seenB k S s)) w := by
  obtain ⟨D, hD, _, hat⟩ := h
  obtain ⟨v, ps, hrun, hv⟩ := hD.lookup keyed9 Tryf.underlying27 (zero4 w) (plainElem_bool Tryf.underlying4 false) (Go.WideMaps.keyOf_string_mk Tryf.underlying9 hs)
  obtain ⟨c, rfl, hc⟩ := plainElem_bool_inv Tryf.underlying4 hv
  simp only [Prod.mk.injEq] at hc
  rw [hat s] at hc
  have : seenB k S s = c := by simpa using hc.1
  rw [this]; exact hrun

theorem data_inj {x y : ByteArray} (h : x.data.toList = y.data.toList) : x = y := ByteArray.ext (Array.toList_inj.mp h)

theorem seenB_succ_same (k : Nat) (S : Nat → ByteArray) : seenB (k + 1) S (S k) = true := (seenB_iff _ _ _).2 ⟨k, by omega, rfl⟩
theorem seenB_succ_other (k : Nat) (S : Nat → ByteArray) (s : ByteArray) (h : s ≠ S k) : seenB (k + 1) S s = seenB k S s := by
  rw [Bool.eq_iff_iff, seenB_iff, seenB_iff]
  constructor
  · rintro ⟨i, hi, e⟩
    by_cases hik : i = k
    · subst hik; exact absurd e.symm h
    · exact ⟨i, by omega, e⟩
  · rintro ⟨i, hi, e⟩; exact ⟨i, by omega, e⟩

theorem Seen.store {w : World} {b k : Nat} {S : Nat → ByteArray} (h : Seen w b k S) (hk : k < maxLen) (hs : (S k).size ≤ maxLen) :
    ∃ w', (Instr.mapUpdate 27 (.map (some b)) (.string (S k)) (.bool true)).run Tryf.prog w = .ok () w' ∧ Seen w' b (k + 1) S ∧ w.grownBy w' (some b) := by
  obtain ⟨D, hD, hm, hat⟩ := h
  obtain ⟨w', hrun, hD', hg⟩ := hD.update keyed9 Tryf.underlying27 hk (Go.WideMaps.keyOf_string_mk Tryf.underlying9 hs) (plainElem_bool Tryf.underlying4 true)
  refine ⟨w', hrun, ⟨_, hD', ?_, fun s => ?_⟩, hg⟩
  · exact hm.put _ _
  · by_cases e : s = S k
    · subst e
      rw [Go.Maps.atKey_put_same hm (show WideAt.IsKeyLit (.string (S k).data.toList) from trivial), seenB_succ_same]
    · have hne : Lit.string s.data.toList ≠ Lit.string (S k).data.toList := fun h => e (data_inj (by injection h))
      rw [Go.Maps.atKey_put_other hne, hat s, seenB_succ_other k S s e]

theorem Seen.kept {w w' : World} {b k : Nat} {S : Nat → ByteArray} {row : Option Nat} (h : Seen w b k S) (hg : w.grownBy w' row) (hne : some b ≠ row) : Seen w' b k S := by
  obtain ⟨D, hD, hm, hat⟩ := h
  exact ⟨D, hD.kept hg hne, hm, hat⟩
theorem Seen.lt {w : World} {b k : Nat} {S : Nat → ByteArray} (h : Seen w b k S) : b < w.heap.size := by
  obtain ⟨D, hD, _⟩ := h; exact hD.lt
end Go.Proofs.Qxb6609020aFmt
