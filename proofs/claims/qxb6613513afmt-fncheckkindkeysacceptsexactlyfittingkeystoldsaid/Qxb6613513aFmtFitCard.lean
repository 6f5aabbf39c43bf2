/-
  The card 'Rows.FnCheckKindKeysAcceptsExactlyFittingKeysToldSaid'.
-/
import Derived.Test.Qxb6613513aFmtCards
import Derived.Test.Qxb6613513aFmtFit
import Derived.Test.Qxb6613513aFmtView
namespace Go.Proofs.Qxb6613513aFmt
open Go.ChangeShapes Go.WideShapes Go.ChangeAt Go.RowKit Go.Kit
open Go.Extern.Stop Go.Stop Go.Extern

set_option maxRecDepth 100000 in
theorem fnCheckKindKeysAcceptsExactlyFittingKeys_lifted (os : Os) (started : os.Started) (H : Type) (enc : TypeId × Value → H) :
    ReturnsInTold none {} Tryf.checked os 3 .any Input.okWide ((OpenSpec.ofChange Rows.fnCheckKindKeysAcceptsExactlyFittingKeysSpec).preRow enc Tryf.prog Tryf.f3 [] false []) (fun F => ((OpenSpec.ofChange Rows.fnCheckKindKeysAcceptsExactlyFittingKeysSpec).at F).post enc Tryf.prog Tryf.f3 false true false false) (aloneAtReturn Tryf.prog) nothingAlways := by
  refine returnsInTold_of_row (C := Tryf.checked) (s := OpenSpec.ofChange Rows.fnCheckKindKeysAcceptsExactlyFittingKeysSpec) (by kernel_rfl) Tryf.own started (by kernel_rfl) Tryf.func3
    (OpenSpec.witness_stopped (enc := enc) (C := Tryf.checked) false ⟨#[], #[.slice none 0 0, .slice none 0 0, .slice none 0 0, .slice none 0 0, .string ByteArray.empty], []⟩ 8 (by kernel_rfl) (by kernel_rfl) (by kernel_rfl) (by kernel_rfl)) ?_
  intro F W base args ds gs before _ hF hval0 hW _ _ hsz _ _
  have hval : ∀ (j : Nat) t v, Tryf.f3.params[j]? = some t → args[j]? = some v → Value.okWide Tryf.prog W .any base t v := hval0
  have hW' := hW
  obtain ⟨p, q, hA0, hV, rfl, _, _⟩ := hW
  have hA : DataW.TrodAll enc Tryf.prog W 0 (fun _ => true) true Tryf.f3.params.toList args.toList ds p := hA0
  have hAk := hA
  rw [Tryf.params3] at hA hval
  obtain ⟨rfl, rfl⟩ := trodVars_none hV
  simp only [List.append_nil] at hW'
  have hlt : ∀ x ∈ p, x.block < W.heap.size := fun x hx => by simpa using hW'.lt x hx
  have hargsK : ∀ W' : World, Below W.heap.size W W' → DataW.TrodAll enc Tryf.prog W' 0 (fun b => decide (b < W.heap.size)) true Tryf.f3.params.toList args.toList ds p :=
    fun W' hn => below_trodAll Tryf.laidOut hn _ _ _ _ (by kernel_rfl) hlt hAk
  clear hA0 hval0 hAk hlt
  obtain ⟨v0, vs0, d0, ds0, p0, q0, hargs, rfl, rfl, h0, r0⟩ := trodAll_cons hA
  obtain ⟨v1, vs1, d1, ds1, p1, q1, rfl, rfl, rfl, h1, r1⟩ := trodAll_cons r0
  obtain ⟨v2, vs2, d2, ds2, p2, q2, rfl, rfl, rfl, h2, r2⟩ := trodAll_cons r1
  obtain ⟨v3, vs3, d3, ds3, p3, q3, rfl, rfl, rfl, h3, r3⟩ := trodAll_cons r2
  obtain ⟨v4, vs4, d4, ds4, p4, q4, rfl, rfl, rfl, h4, r4⟩ := trodAll_cons r3
  obtain ⟨rfl, rfl, rfl⟩ := trodAll_nil r4
  obtain rfl : args = #[v0, v1, v2, v3, v4] := by cases args; simp_all
  obtain ⟨a0, n0, c0, rfl⟩ := okWide_slice Tryf.underlying22 (hval 0 22 v0 rfl rfl)
  obtain ⟨a1, n1, c1, rfl⟩ := okWide_slice Tryf.underlying22 (hval 1 22 v1 rfl rfl)
  obtain ⟨a2, n2, c2, rfl⟩ := okWide_slice Tryf.underlying22 (hval 2 22 v2 rfl rfl)
  obtain ⟨a3, n3, c3, rfl⟩ := okWide_slice Tryf.underlying22 (hval 3 22 v3 rfl rfl)
  obtain ⟨S0, b0, w0, z0⟩ := strs_view Tryf.underlying22 Tryf.underlying9 Tryf.cells9 h0
  obtain ⟨S1, b1, w1, z1⟩ := strs_view Tryf.underlying22 Tryf.underlying9 Tryf.cells9 h1
  obtain ⟨S2, b2, w2, z2⟩ := strs_view Tryf.underlying22 Tryf.underlying9 Tryf.cells9 h2
  obtain ⟨S3, b3, w3, z3⟩ := strs_view Tryf.underlying22 Tryf.underlying9 Tryf.cells9 h3
  obtain ⟨s4, rfl, rfl, rfl, z4⟩ := Go.ChangeMaps.open_string Tryf.underlying9 (hval 4 9 v4 rfl rfl) h4
  refine (fit F.told a0 a1 a2 a3 n0 c0 n1 c1 n2 c2 n3 c3 S0 S1 S2 S3 s4  W hF b0 b1 b2 b3 w0 w1 w2 w3 z0 z1 z2 z3 z4).mono fun e W' ⟨he, hnx⟩ => ?_
  subst he
  exact ⟨_, rfl, _, _, _, [], _, [], hW', trodAll_mk1 (shut_bool Tryf.underlying4 true), hargsK _ hnx, rfl, hnx.frame _, fun h => by cases h⟩

theorem fnCheckKindKeysAcceptsExactlyFittingKeys_proved : Rows.FnCheckKindKeysAcceptsExactlyFittingKeysToldSaid :=
  Claim7.holds_of_told_any 3 Tryf.f3 _ _ [] _ _ _ (by kernel_rfl) rfl rfl rfl Tryf.laidOut (by kernel_rfl) rfl ⟨rfl, rfl, rfl, rfl, rfl, rfl, rfl⟩ rfl rfl (by kernel_rfl) (by kernel_rfl) Tryf.func3 (by kernel_rfl)
    (of_decide_eq_true (by kernel_rfl)) (of_decide_eq_true (by kernel_rfl)) (by kernel_rfl) rfl Tryf.stopKnobs.symm (by kernel_rfl)
    (by kernel_rfl) (by kernel_rfl) (by kernel_rfl) (by kernel_rfl) (by kernel_rfl) (by kernel_rfl) (by kernel_rfl) (by kernel_rfl) (by kernel_rfl) rfl (by kernel_rfl) rfl rfl
    rfl rfl
    rfl (by kernel_rfl) (by kernel_rfl) (by kernel_rfl) (by decide) (by kernel_rfl)
    (OpenClaim.moreEntering_of (by kernel_rfl) (by kernel_rfl) (by kernel_rfl) (by kernel_rfl) (by kernel_rfl) (by kernel_rfl) (by kernel_rfl) (by kernel_rfl) (by kernel_rfl) (by kernel_rfl))
    ⟨_, WideRow.started_initial, Tryf.quiet _⟩
    (fun os started _ H enc _ => fnCheckKindKeysAcceptsExactlyFittingKeys_lifted os started H enc)
end Go.Proofs.Qxb6613513aFmt
