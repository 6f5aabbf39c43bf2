/-
  From the arguments as the row reads them to what the walks ask; closed facts of the program that the cards want.
-/
import Derived.Test.Qxb6613513aFmtBase
import Derived.ProofKit
import Derived.SliceStrings
import Derived.OpenShut
import Derived.Stop.JoinedAt
import Derived.Stop.Texts
import Derived.Stop.JoinedTold
import Derived.SevenToldRow
namespace Go.Proofs.Qxb6613513aFmt
open Go.ChangeShapes Go.WideShapes Go.ChangeAt Go.RowKit Go.Kit
open Go.Extern.Stop Go.Stop Go.Extern

theorem Tryf.own : ownKnob Tryf.prog.godebug = none := by kernel_rfl
theorem Tryf.laidOut : laidOutB Tryf.pinned.checked.prog = true := by kernel_rfl
theorem Tryf.cells9 : Tryf.prog.cellsOf 9 = 1 := by kernel_rfl
theorem Tryf.stopKnobs : Tryf.pinned.checked.prog.stopKnobs = [] := by kernel_rfl
theorem Tryf.quiet (os : Os) : Stop.quiet Tryf.pinned.checked.prog os := by
  intro k hk
  rw [Tryf.stopKnobs] at hk
  cases hk

theorem strs_view {H : Type} {enc : TypeId × Value → H} {P : Program} {W : World} {t e : TypeId} (ht : P.underlying t = some (.slice e)) (he : P.underlying e = some .string) (hc : P.cellsOf e = 1) {a0 : Option Addr} {len cap : Nat}
    {d : DataW H} {p : List MemPlace} (h0 : DataW.Trod enc P W 0 (fun _ => true) true t (.slice a0 len cap) d p) :
    ∃ S : Nat → ByteArray, len ≤ maxLen ∧ StrRow W a0 len S ∧ ∀ i, i < len → (S i).size ≤ maxLen := by
  obtain ⟨fuel, h⟩ := h0
  rcases open_strings ht he hc h with ⟨hcs, hx⟩ | ⟨a, len', cap', ss, hcs, _, hl, hm, hz, hx, hcell, hws⟩
  · simp [Value.cells] at hcs
    obtain ⟨rfl, rfl, rfl⟩ := hcs
    exact ⟨fun _ => ByteArray.empty, Nat.zero_le _, fun i hi => absurd hi (by omega), fun i hi => absurd hi (by omega)⟩
  · simp [Value.cells] at hcs
    obtain ⟨rfl, rfl, rfl⟩ := hcs
    simp only [if_true] at hz
    refine ⟨fun i => ss.getD i ByteArray.empty, by omega, fun i hi => ?_, fun i hi => ?_⟩
    · have h0 := hcell 0 (by omega)
      have hi' := hcell i (by omega)
      obtain ⟨b, off, spot⟩ := a
      have hspot : spot = none := by simpa [Addr.add] using World.cell?_spot h0
      subst hspot
      rw [Go.WideShapes.add_plain] at hi'
      exact ⟨b, off, rfl, World.block_lt_of_cell? _ _ hi', hi'⟩
    · have hi2 : i < ss.length := by omega
      have : ss.getD i ByteArray.empty = ss[i] := by simp [List.getD, hi2]
      show (ss.getD i ByteArray.empty).size ≤ maxLen
      rw [this]; exact hws _ (List.getElem_mem hi2)

/-- the arguments read behind the call as before it -/
theorem below_trodAll {H : Type} {enc : TypeId × Value → H} {P : Program} (hl : laidOutB P = true) {W W' : World} (hb : Below W.heap.size W W') : ∀ (ts : List TypeId) (vs : List Value) (ds : List (DataW H)) (ps : List MemPlace),
    (ts.all fun t => P.readableRec t && decide (t < P.types.size)) = true → (∀ x ∈ ps, x.block < W.heap.size) → DataW.TrodAll enc P W 0 (fun _ => true) true ts vs ds ps → DataW.TrodAll enc P W' 0 (fun b => decide (b < W.heap.size)) true ts vs ds ps
  | [], vs, ds, ps, _, _, h => by
    obtain ⟨rfl, rfl, rfl⟩ := trodAll_nil h
    exact trodAll_mk0
  | t :: ts, vs, ds, ps, hr, hlt, h => by
    obtain ⟨v, vs', d, ds', p, q, rfl, rfl, rfl, h0, r0⟩ := trodAll_cons h
    simp only [List.all_cons, Bool.and_eq_true, decide_eq_true_eq] at hr
    exact trodAll_cons_mk (Below.trod hl hr.1.1 hr.1.2 h0 hb (fun x hx => hlt x (List.mem_append_left _ hx))) (below_trodAll hl hb ts vs' ds' q (by simpa using hr.2) (fun x hx => hlt x (List.mem_append_right _ hx)) r0)
end Go.Proofs.Qxb6613513aFmt
