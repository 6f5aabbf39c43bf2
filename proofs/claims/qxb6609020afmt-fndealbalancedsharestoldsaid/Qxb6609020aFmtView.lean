/-
  From a []string argument as the row reads it to what the walks ask; closed facts of the program that both cards want.
-/
import Derived.Test.Qxb6609020aFmtStrs
import Derived.ProofKit
import Derived.SliceStrings
import Derived.Stop.JoinedAt
import Derived.Stop.Texts
import Derived.Stop.JoinedTold
import Derived.SevenToldRow
namespace Go.Proofs.Qxb6609020aFmt
open Go.ChangeShapes Go.WideShapes Go.ChangeAt Go.RowKit Go.Kit
open Go.Extern.Stop Go.Stop Go.Extern

theorem Tryf.own : ownKnob Tryf.prog.godebug = none := by kernel_rfl
theorem Tryf.laidOut : laidOutB Tryf.pinned.checked.prog = true := by kernel_rfl
theorem Tryf.cells9 : Tryf.prog.cellsOf 9 = 1 := by kernel_rfl
theorem Tryf.stopKnobs : Tryf.pinned.checked.prog.stopKnobs = [] := by kernel_rfl
theorem Tryf.quiet (os : Os) : Stop.quiet Tryf.pinned.checked.prog os := by
  intro k hk
  rw [Tryf.stopKnobs] at hk
  cases hk

theorem strs_view {H : Type} {enc : TypeId × Value → H} {P : Program} {W : World} {fuel : Nat} {t e : TypeId} (ht : P.underlying t = some (.slice e)) (he : P.underlying e = some .string) (hc : P.cellsOf e = 1) {a0 : Option Addr} {len cap : Nat}
    {x : DataW H × List MemPlace} (h : DataW.trod enc P W 0 (fun _ => true) true fuel t (Value.slice a0 len cap).cells.toList = some x) :
    ∃ S : Nat → ByteArray, (a0 = none → len = 0 ∧ cap = 0) ∧ len ≤ maxLen ∧ StrRow W a0 len S ∧ ∀ i, i < len → (S i).size ≤ maxLen := by
  rcases open_strings ht he hc h with ⟨hcs, hx⟩ | ⟨a, len', cap', ss, hcs, _, hl, hm, hz, hx, hcell, hws⟩
  · simp [Value.cells] at hcs
    obtain ⟨rfl, rfl, rfl⟩ := hcs
    exact ⟨fun _ => ByteArray.empty, fun _ => ⟨rfl, rfl⟩, Nat.zero_le _, fun i hi => absurd hi (by omega), fun i hi => absurd hi (by omega)⟩
  · simp [Value.cells] at hcs
    obtain ⟨rfl, rfl, rfl⟩ := hcs
    simp only [if_true] at hz
    refine ⟨fun i => ss.getD i ByteArray.empty, fun h => by simp at h, by omega, fun i hi => ?_, fun i hi => ?_⟩
    · have h0 := hcell 0 (by omega)
      have hi' := hcell i (by omega)
      obtain ⟨b, off, spot⟩ := a
      have hspot : spot = none := by simpa [Addr.add] using World.cell?_spot h0
      subst hspot
      rw [Go.WideShapes.add_plain] at hi'
      exact ⟨b, off, rfl, World.block_lt_of_cell? _ _ hi', hi'⟩
    · have hi2 : i < ss.length := by omega
      have : ss.getD i ByteArray.empty = ss[i] := by simp [List.getD, hi2]
      show (ss.getD i ByteArray.empty).size ≤ maxLen
      rw [this]; exact hws _ (List.getElem_mem hi2)
end Go.Proofs.Qxb6609020aFmt
