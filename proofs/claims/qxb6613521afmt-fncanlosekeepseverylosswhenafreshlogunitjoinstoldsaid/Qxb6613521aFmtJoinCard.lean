/-
  The card 'Rows.FnCanLoseKeepsEveryLossWhenAFreshLogUnitJoinsToldSaid'.
-/
import Derived.Test.Qxb6613521aFmtCards
import Derived.Test.Qxb6613521aFmtTie
import Derived.Test.Qxb6613521aFmtView
namespace Go.Proofs.Qxb6613521aFmt
open Go.ChangeShapes Go.WideShapes Go.ChangeAt Go.RowKit Go.Kit
open Go.Extern.Stop Go.Stop Go.Extern

set_option maxRecDepth 1000000 in
theorem witness_row (os : Os) {H : Type} (enc : TypeId × Value → H) :
    (OpenSpec.ofChange Rows.fnCanLoseKeepsEveryLossWhenAFreshLogUnitJoinsSpec).preRow enc Tryf.prog Tryf.f3 [] false Rows.fnCanLoseKeepsEveryLossWhenAFreshLogUnitJoinsRow.laid
      ((laidWorld os).forCall (fun _ _ => 0) ⟨#[], #[.int .u64 0, .string ⟨#[]⟩, .string ⟨#[]⟩, .int .u64 0, .slice none 0 0, .slice none 0 0, .slice none 0 0, .string ⟨#[]⟩, .string ⟨#[]⟩], []⟩).memory
      #[.int .u64 0, .string ⟨#[]⟩, .string ⟨#[]⟩, .int .u64 0, .slice none 0 0, .slice none 0 0, .slice none 0 0, .string ⟨#[]⟩, .string ⟨#[]⟩] :=
  OpenSpec.preRow_of_B rfl 10 (by kernel_rfl) (by kernel_rfl) (laidWorld_met os _)

set_option maxRecDepth 1000000 in
theorem fnCanLoseKeepsEveryLossWhenAFreshLogUnitJoins_lifted (os : Os) (started : os.Started) (H : Type) (enc : TypeId × Value → H) :
    ReturnsInTold none {} Tryf.checked os 3 .any Input.okWide ((OpenSpec.ofChange Rows.fnCanLoseKeepsEveryLossWhenAFreshLogUnitJoinsSpec).preRow enc Tryf.prog Tryf.f3 [] false Rows.fnCanLoseKeepsEveryLossWhenAFreshLogUnitJoinsRow.laid) (fun F => ((OpenSpec.ofChange Rows.fnCanLoseKeepsEveryLossWhenAFreshLogUnitJoinsSpec).at F).post enc Tryf.prog Tryf.f3 false true false false) (aloneAtReturn Tryf.prog) nothingAlways := by
  refine returnsInTold_of_row (C := Tryf.checked) (s := OpenSpec.ofChange Rows.fnCanLoseKeepsEveryLossWhenAFreshLogUnitJoinsSpec) (by kernel_rfl) Tryf.own started (by kernel_rfl) Tryf.func3
    (OpenSpec.witness_stopped_at (enc := enc) (C := Tryf.checked) false (laidWorld os) #[.int .u64 0, .string ⟨#[]⟩, .string ⟨#[]⟩, .int .u64 0, .slice none 0 0, .slice none 0 0, .slice none 0 0, .string ⟨#[]⟩, .string ⟨#[]⟩] rfl (by kernel_rfl) (by kernel_rfl) (by kernel_rfl) (witness_row os enc)) ?_
  intro F W base args ds gs before _ hF hval0 hW _ _ hsz hL _
  have hval : ∀ (j : Nat) t v, Tryf.f3.params[j]? = some t → args[j]? = some v → Value.okWide Tryf.prog W .any base t v := hval0
  have hW' := hW
  obtain ⟨p, q, hA0, hV0, rfl, _, _⟩ := hW
  have hV : DataW.TrodVars enc Tryf.prog W (fun _ => true) ["example.com/skeinlog/skeinlog/internal/core.ErrLayout"] gs q := hV0
  have hA : DataW.TrodAll enc Tryf.prog W 0 (fun _ => true) true Tryf.f3.params.toList args.toList ds p := hA0
  have hAk := hA
  rw [Tryf.params3] at hA hval
  have hlt : ∀ x ∈ p, x.block < W.heap.size := fun x hx => by simpa using hW'.lt x (List.mem_append_left _ hx)
  have hargsK : ∀ W' : World, Below W.heap.size W W' → DataW.TrodAll enc Tryf.prog W' 0 (fun b => decide (b < W.heap.size)) true Tryf.f3.params.toList args.toList ds p :=
    fun W' hn => below_trodAll Tryf.laidOut hn _ _ _ _ (by kernel_rfl) hlt hAk
  have hvarsK : ∀ W' : World, Below W.heap.size W W' → DataW.TrodVars enc Tryf.prog W' (fun b => decide (b < W.heap.size)) ["example.com/skeinlog/skeinlog/internal/core.ErrLayout"] gs q :=
    fun W' hn => Below.trodVars Tryf.laidOut hn (by kernel_rfl) hV
  obtain ⟨adE, sE, hE⟩ := err_of_laid hL
  clear hA0 hV0 hval0 hAk hlt hL
  obtain ⟨_, _, _, _, g1, _, rfl, _⟩ := trodVars_one hV
  clear hV
  obtain ⟨v0, vs0, d0, ds0, p0, q0, hargs, rfl, rfl, h0, r0⟩ := trodAll_cons hA
  obtain ⟨v1, vs1, d1, ds1, p1, q1, rfl, rfl, rfl, h1, r1⟩ := trodAll_cons r0
  obtain ⟨v2, vs2, d2, ds2, p2, q2, rfl, rfl, rfl, h2, r2⟩ := trodAll_cons r1
  obtain ⟨v3, vs3, d3, ds3, p3, q3, rfl, rfl, rfl, h3, r3⟩ := trodAll_cons r2
  obtain ⟨v4, vs4, d4, ds4, p4, q4, rfl, rfl, rfl, h4, r4⟩ := trodAll_cons r3
  obtain ⟨v5, vs5, d5, ds5, p5, q5, rfl, rfl, rfl, h5, r5⟩ := trodAll_cons r4
  obtain ⟨v6, vs6, d6, ds6, p6, q6, rfl, rfl, rfl, h6, r6⟩ := trodAll_cons r5
  obtain ⟨v7, vs7, d7, ds7, p7, q7, rfl, rfl, rfl, h7, r7⟩ := trodAll_cons r6
  obtain ⟨v8, vs8, d8, ds8, p8, q8, rfl, rfl, rfl, h8, r8⟩ := trodAll_cons r7
  obtain ⟨rfl, rfl, rfl⟩ := trodAll_nil r8
  obtain rfl : args = #[v0, v1, v2, v3, v4, v5, v6, v7, v8] := by cases args; simp_all
  obtain ⟨x0, rfl, rfl, rfl, w0⟩ := open_int Tryf.underlying22 (hval 0 22 v0 rfl rfl) h0
  obtain ⟨s1, rfl, rfl, rfl, z1⟩ := Go.ChangeMaps.open_string Tryf.underlying9 (hval 1 9 v1 rfl rfl) h1
  obtain ⟨s2, rfl, rfl, rfl, z2⟩ := Go.ChangeMaps.open_string Tryf.underlying9 (hval 2 9 v2 rfl rfl) h2
  obtain ⟨x3, rfl, rfl, rfl, w3⟩ := open_int Tryf.underlying22 (hval 3 22 v3 rfl rfl) h3
  obtain ⟨a4, n4, c4, rfl⟩ := okWide_slice Tryf.underlying23 (hval 4 23 v4 rfl rfl)
  obtain ⟨a5, n5, c5, rfl⟩ := okWide_slice Tryf.underlying23 (hval 5 23 v5 rfl rfl)
  obtain ⟨a6, n6, c6, rfl⟩ := okWide_slice Tryf.underlying23 (hval 6 23 v6 rfl rfl)
  obtain ⟨S4, b4, w4, z4⟩ := strs_view Tryf.underlying23 Tryf.underlying9 Tryf.cells9 h4
  obtain ⟨S5, b5, w5, z5⟩ := strs_view Tryf.underlying23 Tryf.underlying9 Tryf.cells9 h5
  obtain ⟨S6, b6, w6, z6⟩ := strs_view Tryf.underlying23 Tryf.underlying9 Tryf.cells9 h6
  obtain ⟨s7, rfl, rfl, rfl, z7⟩ := Go.ChangeMaps.open_string Tryf.underlying9 (hval 7 9 v7 rfl rfl) h7
  obtain ⟨s8, rfl, rfl, rfl, z8⟩ := Go.ChangeMaps.open_string Tryf.underlying9 (hval 8 9 v8 rfl rfl) h8
  refine (law3 F.told x0 s1 s2 x3 a4 n4 c4 a5 n5 c5 a6 n6 c6 S4 S5 S6 s7 s8 adE sE W hF hE z1 z2 z7 z8 b4 b5 b6 w4 w5 w6 z4 z5 z6).mono fun e W' ⟨he, hnx⟩ => ?_
  subst he
  exact ⟨_, rfl, _, _, _, [], _, _, hW', trodAll_mk1 (shut_bool Tryf.underlying4 true), hargsK _ hnx, hvarsK _ hnx, hnx.frame _, fun h => by cases h⟩

theorem fnCanLoseKeepsEveryLossWhenAFreshLogUnitJoins_proved : Rows.FnCanLoseKeepsEveryLossWhenAFreshLogUnitJoinsToldSaid :=
  Claim7.holds_of_told_tied_any_at .later 3 Tryf.f3 _ _ [] _ _ _ [.sentinel] true (by kernel_rfl) rfl rfl rfl Tryf.laidOut (by kernel_rfl) rfl ⟨rfl, rfl, rfl, rfl, rfl, rfl, rfl⟩ rfl rfl (by kernel_rfl) (by kernel_rfl) Tryf.func3 (by kernel_rfl)
    (of_decide_eq_true (by kernel_rfl)) (of_decide_eq_true (by kernel_rfl)) (by kernel_rfl) rfl Tryf.stopKnobs.symm (by kernel_rfl)
    (by kernel_rfl) (by kernel_rfl) (by kernel_rfl) (by kernel_rfl) (by kernel_rfl) (by kernel_rfl) (by kernel_rfl) (by kernel_rfl) (by kernel_rfl) rfl (by kernel_rfl) rfl rfl
    rfl rfl
    rfl (by kernel_rfl) (by kernel_rfl) (by kernel_rfl) (by decide) (by kernel_rfl) fnCanLoseKeepsEveryLossWhenAFreshLogUnitJoins_row_tie
    (OpenClaim.moreEntering_of (by kernel_rfl) (by kernel_rfl) (by kernel_rfl) (by kernel_rfl) (by kernel_rfl) (by kernel_rfl) (by kernel_rfl) (by kernel_rfl) (by kernel_rfl) (by kernel_rfl))
    ⟨_, WideRow.started_initial, Tryf.quiet _⟩
    (fun os started _ H enc _ => fnCanLoseKeepsEveryLossWhenAFreshLogUnitJoins_lifted os started H enc)
end Go.Proofs.Qxb6613521aFmt
