/-
  From the arguments as the row reads them to what the walk asks; the sentinel's cell off 'laid'; a world that meets the row's conditions.
-/
import Derived.Test.Qxb6613521aFmtLaw
import Derived.ProofKit
import Derived.SliceStrings
import Derived.OpenShut
import Derived.OpenVars
import Derived.LaidLaws
import Derived.LaidHandle
import Derived.Stop.LaidErr
import Derived.Stop.JoinedAt
import Derived.Stop.Texts
import Derived.Stop.JoinedTold
import Derived.SevenToldRow
namespace Go.Proofs.Qxb6613521aFmt
open Go.ChangeShapes Go.WideShapes Go.ChangeAt Go.RowKit Go.Kit
open Go.Extern.Stop Go.Stop Go.Extern

theorem Tryf.own : ownKnob Tryf.prog.godebug = none := by kernel_rfl
theorem Tryf.laidOut : laidOutB Tryf.pinned.checked.prog = true := by kernel_rfl
theorem Tryf.cells9 : Tryf.prog.cellsOf 9 = 1 := by kernel_rfl
theorem Tryf.stopKnobs : Tryf.pinned.checked.prog.stopKnobs = [] := by kernel_rfl
theorem Tryf.quiet (os : Os) : Stop.quiet Tryf.pinned.checked.prog os := by
  intro k hk
  rw [Tryf.stopKnobs] at hk
  cases hk

theorem strs_view {H : Type} {enc : TypeId × Value → H} {P : Program} {W : World} {t e : TypeId} (ht : P.underlying t = some (.slice e)) (he : P.underlying e = some .string) (hc : P.cellsOf e = 1) {a0 : Option Addr} {len cap : Nat}
    {d : DataW H} {p : List MemPlace} (h0 : DataW.Trod enc P W 0 (fun _ => true) true t (.slice a0 len cap) d p) :
    ∃ S : Nat → ByteArray, len ≤ maxLen ∧ StrRow W a0 len S ∧ ∀ i, i < len → (S i).size ≤ maxLen := by
  obtain ⟨fuel, h⟩ := h0
  rcases open_strings ht he hc h with ⟨hcs, hx⟩ | ⟨a, len', cap', ss, hcs, _, hl, hm, hz, hx, hcell, hws⟩
  · simp [Value.cells] at hcs
    obtain ⟨rfl, rfl, rfl⟩ := hcs
    exact ⟨fun _ => ByteArray.empty, Nat.zero_le _, fun i hi => absurd hi (by omega), fun i hi => absurd hi (by omega)⟩
  · simp [Value.cells] at hcs
    obtain ⟨rfl, rfl, rfl⟩ := hcs
    simp only [if_true] at hz
    refine ⟨fun i => ss.getD i ByteArray.empty, by omega, fun i hi => ?_, fun i hi => ?_⟩
    · have h0 := hcell 0 (by omega)
      have hi' := hcell i (by omega)
      obtain ⟨b, off, spot⟩ := a
      have hspot : spot = none := by simpa [Addr.add] using World.cell?_spot h0
      subst hspot
      rw [Go.WideShapes.add_plain] at hi'
      exact ⟨b, off, rfl, World.block_lt_of_cell? _ _ hi', hi'⟩
    · have hi2 : i < ss.length := by omega
      have : ss.getD i ByteArray.empty = ss[i] := by simp [List.getD, hi2]
      show (ss.getD i ByteArray.empty).size ≤ maxLen
      rw [this]; exact hws _ (List.getElem_mem hi2)

/-- the arguments read behind the call as before it -/
theorem below_trodAll {H : Type} {enc : TypeId × Value → H} {P : Program} (hl : laidOutB P = true) {W W' : World} (hb : Below W.heap.size W W') : ∀ (ts : List TypeId) (vs : List Value) (ds : List (DataW H)) (ps : List MemPlace),
    (ts.all fun t => P.readableRec t && decide (t < P.types.size)) = true → (∀ x ∈ ps, x.block < W.heap.size) → DataW.TrodAll enc P W 0 (fun _ => true) true ts vs ds ps → DataW.TrodAll enc P W' 0 (fun b => decide (b < W.heap.size)) true ts vs ds ps
  | [], vs, ds, ps, _, _, h => by
    obtain ⟨rfl, rfl, rfl⟩ := trodAll_nil h
    exact trodAll_mk0
  | t :: ts, vs, ds, ps, hr, hlt, h => by
    obtain ⟨v, vs', d, ds', p, q, rfl, rfl, rfl, h0, r0⟩ := trodAll_cons h
    simp only [List.all_cons, Bool.and_eq_true, decide_eq_true_eq] at hr
    exact trodAll_cons_mk (Below.trod hl hr.1.1 hr.1.2 h0 hb (fun x hx => hlt x (List.mem_append_left _ hx))) (below_trodAll hl hb ts vs' ds' q (by simpa using hr.2) (fun x hx => hlt x (List.mem_append_right _ hx)) r0)

theorem Tryf.star : "*" ++ "errors.errorString" = "*errors.errorString" := by decide
theorem Tryf.row56 (u : TypeId) (h : Tryf.prog.typeName? 3 u = some "*errors.errorString") : u = 56 :=
  typeName_ptr_named (nm := "errors.errorString") (by rw [Tryf.star]; kernel_rfl) (by kernel_rfl) (by decide) u (by rw [Tryf.star]; exact h)
theorem Tryf.et : Tryf.prog.globalNamed "example.com/skeinlog/skeinlog/internal/core.ErrLayout" = some 0 := by kernel_rfl

/-- what the row's condition on the variable gives the walk -/
theorem err_of_laid {W : World} (h : laidMetH Tryf.prog Rows.fnCanLoseKeepsEveryLossWhenAFreshLogUnitJoinsRow.laid W) : ∃ (a : Addr) (s : ByteArray), Err0 W a s := by
  have h' : laidMet Tryf.prog [("example.com/skeinlog/skeinlog/internal/core.ErrLayout", Rows.laid_example_com_skeinlog_skeinlog_internal_core_ErrLayout)] W := h
  obtain ⟨a, s, hv, hc, _, _⟩ := laid_sentinel (g := 0) h' Tryf.et (by kernel_rfl) Tryf.underlying33 Tryf.row56 Tryf.underlying56 Tryf.underlying58 rfl rfl Tryf.underlying9 (by kernel_rfl) (by kernel_rfl)
  exact ⟨a, s, by simpa using World.var?_cell Tryf.et hv 0, hc⟩

/-- a world that meets the condition: the settled one, the variable's cell laid -/
noncomputable def laidWorld (os : Os) : World :=
  let N := (World.settled Tryf.prog os).heap.size
  let w0 := World.holding Tryf.prog os ⟨#[.cells #[.string ⟨#[105, 110, 118, 97, 108, 105, 100, 32, 108, 97, 121, 111, 117, 116]⟩] 58], #[], []⟩
  { w0 with heap := w0.heap.modify 0 fun
      | .cells _ t frozen => .cells #[.iface 56 (.pointer (some ⟨N, 0, none⟩))] t frozen
      | o => o }
set_option maxRecDepth 1000000 in
theorem laidWorld_met (os : Os) (args : Array Value) : laidMetH Tryf.prog Rows.fnCanLoseKeepsEveryLossWhenAFreshLogUnitJoinsRow.laid ((laidWorld os).forCall (fun _ _ => 0) ⟨#[], args, []⟩).memory :=
  show laidMet Tryf.prog [("example.com/skeinlog/skeinlog/internal/core.ErrLayout", Rows.laid_example_com_skeinlog_skeinlog_internal_core_ErrLayout)] _ from
  laidMet_of_run' 10 (by kernel_rfl) (by kernel_rfl)
end Go.Proofs.Qxb6613521aFmt
