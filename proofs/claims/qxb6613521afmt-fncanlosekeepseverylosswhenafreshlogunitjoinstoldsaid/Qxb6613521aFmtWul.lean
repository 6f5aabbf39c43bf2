/-
  WithUnitLost.
-/
import Derived.Test.Qxb6613521aFmtNext
namespace Go.Proofs.Qxb6613521aFmt
open Go.RowKit Go.Extern.Stop Go.Stop Go.Extern

set_option maxHeartbeats 8000000 in
set_option maxRecDepth 100000 in
theorem lost24 (F : Interp) (v : LayV) (B : Nat) (L S R : Nat → ByteArray) (adE : Addr) (sE y : ByteArray) (w : World) (hF : F.answers w.tape) (h : v.At w B) (hh : v.Has w L S R) (hE : Err0 w adE sE) (A : Prop) (HV : Hid (A ↔ Loses v.e v.p v.q v.st v.nL L v.nS S v.nR R y)) :
    Calls Tryf.prog 24 #[.pointer (some ⟨B, 0, none⟩), .string y] w (LostPost A w) := by
  have hbA : Below w.heap.size w (w.alloc (.cells #[.int .u64 0, .string ⟨#[]⟩, .string ⟨#[]⟩, .slice none 0 0] 44)) := Below.one _
  have hb1 : Below w.heap.size w ((w.alloc (.cells #[.int .u64 0, .string ⟨#[]⟩, .string ⟨#[]⟩, .slice none 0 0] 44)).alloc (.cells #[.int .u64 v.st, .slice v.aL v.nL v.cL, .slice v.aS v.nS v.cS, .slice v.aR v.nR v.cR] 41)) := hbA.alloc hbA.size _
  have V1 : Hid (VSt F v B L S R adE sE w (w.heap.size + 1) ((w.alloc (.cells #[.int .u64 0, .string ⟨#[]⟩, .string ⟨#[]⟩, .slice none 0 0] 44)).alloc (.cells #[.int .u64 v.st, .slice v.aL v.nL v.cL, .slice v.aS v.nS v.cS, .slice v.aR v.nR v.cR] 41))) := by
    have e1 : (w.alloc (.cells #[.int .u64 0, .string ⟨#[]⟩, .string ⟨#[]⟩, .slice none 0 0] 44)).heap.size = w.heap.size + 1 := by simp
    have hB := Blk.new (w.alloc (.cells #[.int .u64 0, .string ⟨#[]⟩, .string ⟨#[]⟩, .slice none 0 0] 44)) 41 #[.int .u64 v.st, .slice v.aL v.nL v.cL, .slice v.aS v.nS v.cS, .slice v.aR v.nR v.cR]
    rw [e1] at hB
    exact ⟨hb1, h.below hb1, hh.below hb1, hE.below hb1, hF, hB.cell 1, hB.cell 2, hB.cell 3⟩
  have b0 : Blk ((w.alloc (.cells #[.int .u64 0, .string ⟨#[]⟩, .string ⟨#[]⟩, .slice none 0 0] 44)).alloc (.cells #[.int .u64 v.st, .slice v.aL v.nL v.cL, .slice v.aS v.nS v.cS, .slice v.aR v.nR v.cR] 41)) w.heap.size 44 #[.int .u64 0, .string ⟨#[]⟩, .string ⟨#[]⟩, .slice none 0 0] := (Blk.new w 44 _).alloc _
  have HE : Hid (Err0 w adE sE) := hE
  have HF : Hid (F.answers w.tape) := hF
  have c3 := h.c3; have g0 := h.g0; have g1 := h.g1; have g2 := h.g2; have g3 := h.g3
  have hA := h.below hbA
  have c3' := hA.c3; have g0' := hA.g0; have g1' := hA.g1; have g2' := hA.g2; have g3' := hA.g3
  have bl := hh.bl; have bs := hh.bs; have br := hh.br
  clear hbA hb1 hA h hh hE hF
  go_enter Tryf.func24, Tryf.ntmps24
  go_wp2_with fail
  have V2 : Hid (VSt F v B L S R adE sE w (w.heap.size + 1) ((w.alloc (.cells #[.int .u64 0, .string ⟨#[]⟩, .string ⟨#[]⟩, .slice none 0 0] 44)).alloc (.cells #[.int .u64 v.st, .slice v.aL v.nL v.cL, .slice v.aS v.nS v.cS, .slice v.aR v.nR v.cR] 41)).drew) := V1.out.drew
  go_cut [7, 8] from 11 to 24 (fun a b wr => ∃ rL rS : Int, a = .int .i64 rL ∧ b = .int .i64 rS ∧ Hid (Found v.nL L y rL ∧ Found v.nS S y rS ∧ WSt F v B L S R adE sE w wr))
  case first =>
    go_region_held3 (fun w' => w'.cell? ⟨w.heap.size + 1, 1, none⟩ = some (.slice v.aL v.nL v.cL) ∧ w'.cell? ⟨w.heap.size + 1, 2, none⟩ = some (.slice v.aS v.nS v.cS))
      (exact ⟨V2.out.d1, V2.out.d2⟩)
      (first
      | (go_at_call_of 30 v.aL
         refine (index30 v.aL v.nL v.cL L y ((w.alloc (.cells #[.int .u64 0, .string ⟨#[]⟩, .string ⟨#[]⟩, .slice none 0 0] 44)).alloc (.cells #[.int .u64 v.st, .slice v.aL v.nL v.cL, .slice v.aS v.nS v.cS, .slice v.aR v.nR v.cR] 41)).drew (by omega) V2.out.has.l).mono ?_
         rintro e wx ⟨rL, rfl, rfl, hrL⟩
         have FL : Hid (Found v.nL L y rL) := hrL
         clear hrL)
      | (go_at_call_of 30 v.aS
         refine (index30 v.aS v.nS v.cS S y ((w.alloc (.cells #[.int .u64 0, .string ⟨#[]⟩, .string ⟨#[]⟩, .slice none 0 0] 44)).alloc (.cells #[.int .u64 v.st, .slice v.aL v.nL v.cL, .slice v.aS v.nS v.cS, .slice v.aR v.nR v.cR] 41)).drew (by omega) V2.out.has.s).mono ?_
         rintro e wx ⟨rS, rfl, rfl, hrS⟩
         have FS : Hid (Found v.nS S y rS) := hrS
         clear hrS))
    go_wp2
    go_meet
    case rel => exact ⟨rL, rS, rfl, rfl, FL.out, FS.out, V2.out.b, V2.out.at_, V2.out.has, V2.out.err, V2.out.ans, b0⟩
  case rest =>
    obtain ⟨rL, rS, rfl, rfl, HC⟩ := hcut
    clear V1 V2 b0 c3 g0 g1 g2 g3 c3' g0' g1' g2' g3'
    have hg := HC.out.2.2.err.g
    have c0 := HC.out.2.2.at_.c0
    cases e1 : (y.toList == [108, 111, 115, 116])
    case true =>
      have hno : Hid (¬ A) := fun h => (HV.out.1 h).1 (isLost e1)
      go_wp2_with fail
      have D1 : Hid (WSt F v B L S R adE sE w wc.drew) := HC.out.2.2.drew
      have hgD := D1.out.err.g
      have c0D := D1.out.at_.c0
      go_region_with (first
        | (go_at_call 18
           refine (errD F _ fmtN adE sE y v.e wc.drew _ D1.out.ans D1.out.err (by simp)).mono ?_
           rintro e w9 ⟨val, rfl, hv, hb⟩
           have E1 : Hid (WSt F v B L S R adE sE w w9) := D1.out.next hb
           have p0 := E1.out.y.cell 0
           have p1 := E1.out.y.cell 1
           have p2 := E1.out.y.cell 2
           have p3 := E1.out.y.cell 3
           have q0 := E1.out.y.frozen 0
           have q1 := E1.out.y.frozen 1
           have q2 := E1.out.y.frozen 2
           have q3 := E1.out.y.frozen 3
           clear hb))
      all_goals go_wp2
      all_goals refine bodyPost_ret (v := .tuple #[.agg #[.int .u64 0, .string ⟨#[]⟩, .string ⟨#[]⟩, .slice none 0 0], val]) (by simp [results, Tryf.results24, go_sem, p0, p1, p2, p3]) rfl ?_
      all_goals obtain ⟨ad, sx, rfl, _⟩ := hv
      all_goals exact ⟨0, _, _, none, 0, 0, _, rfl, (((E1.out.b.setCell (Nat.le_refl _) _).setCell (Nat.le_refl _) _).setCell (Nat.le_refl _) _).setCell (Nat.le_refl _) _, Or.inr ⟨hno.out, _, rfl⟩⟩
    by_cases h1 : rL < 0 ∧ rS < 0
    · obtain ⟨h1a, h1b⟩ := h1
      have hno : Hid (¬ A) := fun h => by
        rcases (HV.out.1 h).2.2.2 with ⟨k, hk, he, _⟩ | ⟨k, hk, he, _⟩
        · have := HC.out.1.mem.2 ⟨k, hk, he⟩
          omega
        · have := HC.out.2.1.mem.2 ⟨k, hk, he⟩
          omega
      go_wp2_with fail
      have D1 : Hid (WSt F v B L S R adE sE w wc.drew) := HC.out.2.2.drew
      have hgD := D1.out.err.g
      have c0D := D1.out.at_.c0
      go_region_with (first
        | (go_at_call 18
           refine (errD F _ fmtN adE sE y v.e wc.drew _ D1.out.ans D1.out.err (by simp)).mono ?_
           rintro e w9 ⟨val, rfl, hv, hb⟩
           have E1 : Hid (WSt F v B L S R adE sE w w9) := D1.out.next hb
           have p0 := E1.out.y.cell 0
           have p1 := E1.out.y.cell 1
           have p2 := E1.out.y.cell 2
           have p3 := E1.out.y.cell 3
           have q0 := E1.out.y.frozen 0
           have q1 := E1.out.y.frozen 1
           have q2 := E1.out.y.frozen 2
           have q3 := E1.out.y.frozen 3
           clear hb))
      all_goals go_wp2
      all_goals refine bodyPost_ret (v := .tuple #[.agg #[.int .u64 0, .string ⟨#[]⟩, .string ⟨#[]⟩, .slice none 0 0], val]) (by simp [results, Tryf.results24, go_sem, p0, p1, p2, p3]) rfl ?_
      all_goals obtain ⟨ad, sx, rfl, _⟩ := hv
      all_goals exact ⟨0, _, _, none, 0, 0, _, rfl, (((E1.out.b.setCell (Nat.le_refl _) _).setCell (Nat.le_refl _) _).setCell (Nat.le_refl _) _).setCell (Nat.le_refl _) _, Or.inr ⟨hno.out, _, rfl⟩⟩
    have hs1 : ¬ rL < 0 ∨ ¬ rS < 0 := by omega
    have cp := HC.out.2.2.at_.c1
    by_cases h2 : 0 ≤ rL ∧ 0 ≤ rS
    · obtain ⟨h2a, h2b⟩ := h2
      have hno : Hid (¬ A) := fun h => by
        rcases (HV.out.1 h).2.2.2 with ⟨k, hk, he, _, hm, _⟩ | ⟨k, hk, he, _, hm, _⟩
        · exact hm (HC.out.2.1.mem.1 h2b)
        · exact hm (HC.out.1.mem.1 h2a)
      go_wp2_with fail
      refine (errB F _ fmtO adE sE y wc _ HC.out.2.2.ans HC.out.2.2.err rfl).mono ?_
      rintro e w9 ⟨val, rfl, hv, hb⟩
      have E1 : Hid (WSt F v B L S R adE sE w w9) := HC.out.2.2.next hb
      have p0 := E1.out.y.cell 0
      have p1 := E1.out.y.cell 1
      have p2 := E1.out.y.cell 2
      have p3 := E1.out.y.cell 3
      have q0 := E1.out.y.frozen 0
      have q1 := E1.out.y.frozen 1
      have q2 := E1.out.y.frozen 2
      have q3 := E1.out.y.frozen 3
      clear hb
      go_wp2
      refine bodyPost_ret (v := .tuple #[.agg #[.int .u64 0, .string ⟨#[]⟩, .string ⟨#[]⟩, .slice none 0 0], val]) (by simp [results, Tryf.results24, go_sem, p0, p1, p2, p3]) rfl ?_
      obtain ⟨ad, sx, rfl, _⟩ := hv
      exact ⟨0, _, _, none, 0, 0, _, rfl, (((E1.out.b.setCell (Nat.le_refl _) _).setCell (Nat.le_refl _) _).setCell (Nat.le_refl _) _).setCell (Nat.le_refl _) _, Or.inr ⟨hno.out, _, rfl⟩⟩
    by_cases h3 : 0 ≤ rL
    · skip
      have hA : 0 ≤ rL := by omega
      have hB : rS < 0 := by omega
      have hA' : ¬ rL < 0 := by omega
      clear hs1 h1 h2
      cases e2 : (y.toList == v.p.toList)
      case true =>
        have hno : Hid (¬ A) := fun h => (HV.out.1 h).2.1 (eq_of e2)
        go_wp2_with fail
        refine (errB F _ fmtO adE sE y wc _ HC.out.2.2.ans HC.out.2.2.err rfl).mono ?_
        rintro e w9 ⟨val, rfl, hv, hb⟩
        have E1 : Hid (WSt F v B L S R adE sE w w9) := HC.out.2.2.next hb
        have p0 := E1.out.y.cell 0
        have p1 := E1.out.y.cell 1
        have p2 := E1.out.y.cell 2
        have p3 := E1.out.y.cell 3
        have q0 := E1.out.y.frozen 0
        have q1 := E1.out.y.frozen 1
        have q2 := E1.out.y.frozen 2
        have q3 := E1.out.y.frozen 3
        clear hb
        go_wp2
        refine bodyPost_ret (v := .tuple #[.agg #[.int .u64 0, .string ⟨#[]⟩, .string ⟨#[]⟩, .slice none 0 0], val]) (by simp [results, Tryf.results24, go_sem, p0, p1, p2, p3]) rfl ?_
        obtain ⟨ad, sx, rfl, _⟩ := hv
        exact ⟨0, _, _, none, 0, 0, _, rfl, (((E1.out.b.setCell (Nat.le_refl _) _).setCell (Nat.le_refl _) _).setCell (Nat.le_refl _) _).setCell (Nat.le_refl _) _, Or.inr ⟨hno.out, _, rfl⟩⟩
      go_wp2_with fail
      refine (keptBy31 v B wc HC.out.2.2.at_).mono ?_
      rintro e wk ⟨rfl, rfl⟩
      generalize hkept : (if v.q = ByteArray.empty then v.p else v.q) = kept
      cases e3 : (y.toList == kept.toList)
      case true =>
        have hno : Hid (¬ A) := fun h => (HV.out.1 h).2.2.1 ((eq_of e3).trans hkept.symm)
        clear hkept
        go_wp2_with fail
        refine (errB F _ fmtO adE sE y wk _ HC.out.2.2.ans HC.out.2.2.err rfl).mono ?_
        rintro e w9 ⟨val, rfl, hv, hb⟩
        have E1 : Hid (WSt F v B L S R adE sE w w9) := HC.out.2.2.next hb
        have p0 := E1.out.y.cell 0
        have p1 := E1.out.y.cell 1
        have p2 := E1.out.y.cell 2
        have p3 := E1.out.y.cell 3
        have q0 := E1.out.y.frozen 0
        have q1 := E1.out.y.frozen 1
        have q2 := E1.out.y.frozen 2
        have q3 := E1.out.y.frozen 3
        clear hb
        go_wp2
        refine bodyPost_ret (v := .tuple #[.agg #[.int .u64 0, .string ⟨#[]⟩, .string ⟨#[]⟩, .slice none 0 0], val]) (by simp [results, Tryf.results24, go_sem, p0, p1, p2, p3]) rfl ?_
        obtain ⟨ad, sx, rfl, _⟩ := hv
        exact ⟨0, _, _, none, 0, 0, _, rfl, (((E1.out.b.setCell (Nat.le_refl _) _).setCell (Nat.le_refl _) _).setCell (Nat.le_refl _) _).setCell (Nat.le_refl _) _, Or.inr ⟨hno.out, _, rfl⟩⟩
      have HK : Hid (y ≠ lostB ∧ y ≠ v.p ∧ y ≠ if v.q = ByteArray.empty then v.p else v.q) := by
        rw [show (if v.q = ByteArray.empty then v.p else v.q) = kept from hkept]
        exact ⟨notLost e1, neq_of e2, neq_of e3⟩
      clear hkept
      have c2 := HC.out.2.2.at_.c2
      have c3 := HC.out.2.2.at_.c3
      go_wp2_with fail
      refine (cloneLayout32 v L S R wk ⟨HC.out.2.2.at_.g0, HC.out.2.2.at_.g1, HC.out.2.2.at_.g2, HC.out.2.2.at_.g3⟩ HC.out.2.2.has).mono ?_
      rintro e w5 ⟨G, c, aL, cL, aS, cS, aR, cR, m1, m2, m3, m4, m5, C, rfl, kc, hb5, hG, hBG, hsC, k0, k1, k2, k3, kL, kS, kR, t0, t1, t2, t3, t4, t5, oL, oS, oR⟩
      obtain ⟨k, hk, rfl, hke, hkf⟩ : ∃ k : Nat, k < v.nL ∧ rL = k ∧ L k = y ∧ ∀ j, j < k → L j ≠ y := by
        rcases HC.out.1 with ⟨h, _⟩ | ⟨k, h⟩
        · omega
        · exact ⟨k, h⟩
      have hother : Hid (¬ Mem v.nS S y) := fun h => absurd (HC.out.2.1.mem.2 h) (by omega)
      have HA : Hid (A ↔ Valid (inc v.e) v.p v.q v.st v.nL (upd L k lostB) v.nS S (refN v.nR R y) (refS v.nR R y)) := by
        show A ↔ _
        rw [HV.out]
        constructor
        · rintro ⟨_, _, _, ⟨k', h1, h2, h3, h4, h5⟩ | ⟨k', h1, h2, h3, h4, h5⟩⟩
          · have : k' = k := by
              rcases Nat.lt_trichotomy k' k with h | h | h
              · exact absurd h2 (hkf k' h)
              · exact h
              · exact absurd hke (h3 k h)
            subst this
            exact h5
          · exact absurd ⟨k, hk, hke⟩ h4
        · exact fun h => ⟨HK.out.1, HK.out.2.1, HK.out.2.2, Or.inl ⟨k, hk, hke, hkf, hother.out, h⟩⟩
      have N0 : Hid (NSt F ⟨inc v.e, v.p, v.q, v.st, aL, v.nL, cL, aS, v.nS, cS, aR, v.nR, cR, G, c⟩ L S R adE sE w w5.heap.size m1 m2 m3 m4 m5 (w5.alloc (.cells #[.int .u64 (IntKind.u64.wrap (v.e + 1)), .string v.p, .string v.q, .slice (some ⟨G, 0, none⟩) 1 c] 44))) := NSt.start HC.out.2.2 HE.out HF.out hb5 hG hBG hsC k0 k1 k2 k3 kL kS kR t0 t1 t2 t3 t4 t5 oL oS oR
      obtain ⟨g, hga, hgc, hgf, N1'⟩ := N0.out.putL hk lostB
      have N1 : Hid (NSt F ⟨inc v.e, v.p, v.q, v.st, aL, v.nL, cL, aS, v.nS, cS, aR, v.nR, cR, G, c⟩ (upd L k lostB) S R adE sE w w5.heap.size m1 m2 m3 m4 m5 ((w5.alloc (.cells #[.int .u64 (IntKind.u64.wrap (v.e + 1)), .string v.p, .string v.q, .slice (some ⟨G, 0, none⟩) 1 c] 44)).setCell ⟨g, k, none⟩ (.string lostB))) := N1'
      have hlt : G < w5.heap.size := hBG.lt
      have x1 := (hBG.cell 1).trans k1
      have x2 := (hBG.cell 2).trans k2
      obtain ⟨g', hga', hp1, hp2, hgc', hgf', _⟩ := oL.put hk lostB
      have hga : aL = some ⟨g, 0, none⟩ := hga
      have hgg : g' = g := by
        rw [hga] at hga'
        injection hga' with h
        injection h with h
        exact h.symm
      subst hgg
      subst hga
      have hgl : g' < w5.heap.size := by omega
      clear hgc hgf hga' HC HK hke hkf hother hb5 hG hBG hsC k0 k1 k2 k3 kL kS kR t0 t1 t2 t3 t4 t5 oL oS oR N1' N0 HV
      go_wp2_with fail
      rw [World.setCell_alloc_past _ _ _ _ hgl] at N1
      have N2 : Hid (NSt F ⟨inc v.e, v.p, v.q, v.st, some ⟨g', 0, none⟩, v.nL, cL, aS, v.nS, cS, aR, v.nR, cR, G, c⟩ (upd L k lostB) S R adE sE w w5.heap.size m1 m2 m3 m4 m5 ((w5.setCell ⟨g', k, none⟩ (.string ⟨#[108, 111, 115, 116]⟩)).alloc (.cells #[.int .u64 (IntKind.u64.wrap (v.e + 1)), .string v.p, .string v.q, .slice (some ⟨G, 0, none⟩) 1 c] 44))) := N1
      clear N1 x1 x2 hgc' hgf' c2 c3 cp c0 hg
      generalize ((w5.setCell ⟨g', k, none⟩ (.string ⟨#[108, 111, 115, 116]⟩)).alloc (.cells #[.int .u64 (IntKind.u64.wrap (v.e + 1)), .string v.p, .string v.q, .slice (some ⟨G, 0, none⟩) 1 c] 44)) = w7 at N2 ⊢
      have N3 : Hid (NSt F ⟨inc v.e, v.p, v.q, v.st, some ⟨g', 0, none⟩, v.nL, cL, aS, v.nS, cS, aR, v.nR, cR, G, c⟩ (upd L k lostB) S R adE sE w w5.heap.size m1 m2 m3 m4 m5 w7.drew) := N2.out.drew
      obtain ⟨x3', _, _, x4', x5'⟩ := N3.out.cells
      have x3 : w7.drew.cell? ⟨w5.heap.size, 3, none⟩ = some (.slice (some ⟨G, 0, none⟩) 1 c) := x3'
      have x4 : w7.drew.cell? ⟨G, 3, none⟩ = some (.slice aR v.nR cR) := x4'
      have x5 : w7.drew.frozen? ⟨G, 3, none⟩ = false := x5'
      obtain ⟨gR, hgR', hgk⟩ := N3.out.r.at_
      have hgR : Hid (v.nR = 0 ∨ ∃ N, aR = some ⟨gR, 0, none⟩ ∧ v.nR ≤ N ∧ Grows gR N v.nR R w7.drew) := hgR'
      have hkr : v.nR ≤ cR := N3.out.kr
      have HGK : Hid (∀ k, k < w7.drew.heap.size → k < m4 ∨ m5 ≤ k → k ≠ gR) := hgk
      generalize w5.heap.size = N at *
      clear x3' x4' x5' hgR' hgk
      go_cut [] from 98 to 108 (fun wr => Hid (∃ a8 c8, MSt F ⟨inc v.e, v.p, v.q, v.st, some ⟨g', 0, none⟩, v.nL, cL, aS, v.nS, cS, a8, refN v.nR R y, c8, G, c⟩ (upd L k lostB) S (refS v.nR R y) adE sE w N wr))
      case first =>
        go_region_with
          (first
          | (go_at_call 33
             refine (without33 gR aR v.nR cR R y w7.drew (by omega) hgR.out hkr).mono ?_
             rintro e w8 ⟨a8, c8, rfl, hc8, hr8, ht8, ho8, hu8, hs8, hb8⟩
             have P1 : Hid (PSt F ⟨inc v.e, v.p, v.q, v.st, some ⟨g', 0, none⟩, v.nL, cL, aS, v.nS, cS, aR, v.nR, cR, G, c⟩ (upd L k lostB) S R y adE sE w N a8 c8 w8) := N3.out.without HGK.out y hc8 hr8 ht8 ho8 hu8 hs8 hb8
             have z3 : w8.cell? ⟨N, 3, none⟩ = some (.slice (some ⟨G, 0, none⟩) 1 c) := P1.out.cells.1
             have z4 : w8.cell? ⟨G, 3, none⟩ = some (.slice aR v.nR cR) := P1.out.cells.2.1
             have z5 : w8.frozen? ⟨G, 3, none⟩ = false := P1.out.cells.2.2
             clear hc8 hr8 ht8 ho8 hu8 hs8 hb8))
        all_goals have M1 : Hid (MSt F ⟨inc v.e, v.p, v.q, v.st, some ⟨g', 0, none⟩, v.nL, cL, aS, v.nS, cS, a8, refN v.nR R y, c8, G, c⟩ (upd L k lostB) S (refS v.nR R y) adE sE w N (w8.setCell ⟨G, 3, none⟩ (.slice a8 (refN v.nR R y) c8))) := P1.out.store
        all_goals go_wp2
        all_goals go_meet
        all_goals exact ⟨a8, c8, M1.out⟩
      case rest =>
        obtain ⟨a8, c8, M1'⟩ := hcut.out
        have M1 : Hid (MSt F ⟨inc v.e, v.p, v.q, v.st, some ⟨g', 0, none⟩, v.nL, cL, aS, v.nS, cS, a8, refN v.nR R y, c8, G, c⟩ (upd L k lostB) S (refS v.nR R y) adE sE w N wc) := M1'
        clear hcut M1'
        go_wp2_with fail
        refine (validate12 F ⟨inc v.e, v.p, v.q, v.st, some ⟨g', 0, none⟩, v.nL, cL, aS, v.nS, cS, a8, refN v.nR R y, c8, G, c⟩ N (upd L k lostB) S (refS v.nR R y) adE sE wc M1.out.ans M1.out.at_ M1.out.has M1.out.err A HA).mono ?_
        rintro e w9 ⟨ev, rfl, hb9, hev⟩
        have M2 : Hid (MSt F ⟨inc v.e, v.p, v.q, v.st, some ⟨g', 0, none⟩, v.nL, cL, aS, v.nS, cS, a8, refN v.nR R y, c8, G, c⟩ (upd L k lostB) S (refS v.nR R y) adE sE w N w9) := M1.out.next hb9
        rcases hev with ⟨hyes, rfl⟩ | ⟨hno, ad, sx, rfl, hs⟩
        · have n0 := M2.out.at_.c0
          have n1 := M2.out.at_.c1
          have n2 := M2.out.at_.c2
          have n3 := M2.out.at_.c3
          have p0 := M2.out.y.cell 0
          have p1 := M2.out.y.cell 1
          have p2 := M2.out.y.cell 2
          have p3 := M2.out.y.cell 3
          have q0 := M2.out.y.frozen 0
          have q1 := M2.out.y.frozen 1
          have q2 := M2.out.y.frozen 2
          have q3 := M2.out.y.frozen 3
          clear hb9 hgR HGK N2 N3 x3 x4 x5
          go_wp2
          refine bodyPost_ret (v := .tuple #[.agg #[.int .u64 (inc v.e), .string v.p, .string v.q, .slice (some ⟨G, 0, none⟩) 1 c], .nilIface]) (by simp [results, Tryf.results24, go_sem, p0, p1, p2, p3]) rfl ?_
          exact ⟨_, _, _, _, _, _, _, rfl, (((M2.out.b.setCell (Nat.le_refl _) _).setCell (Nat.le_refl _) _).setCell (Nat.le_refl _) _).setCell (Nat.le_refl _) _, Or.inl ⟨hyes, rfl⟩⟩
        · have HN : Hid (¬ A) := hno
          clear hb9 hgR HGK N2 N3 x3 x4 x5 hno
          go_wp2_with fail
          refine (errW F _ fmtZ ad sx y w9 _ M2.out.ans hs rfl).mono ?_
          rintro e w10 ⟨val, rfl, hv, hb⟩
          have M3 : Hid (MSt F ⟨inc v.e, v.p, v.q, v.st, some ⟨g', 0, none⟩, v.nL, cL, aS, v.nS, cS, a8, refN v.nR R y, c8, G, c⟩ (upd L k lostB) S (refS v.nR R y) adE sE w N w10) := M2.out.next hb
          have p0 := M3.out.y.cell 0
          have p1 := M3.out.y.cell 1
          have p2 := M3.out.y.cell 2
          have p3 := M3.out.y.cell 3
          have q0 := M3.out.y.frozen 0
          have q1 := M3.out.y.frozen 1
          have q2 := M3.out.y.frozen 2
          have q3 := M3.out.y.frozen 3
          clear hb
          go_wp2
          refine bodyPost_ret (v := .tuple #[.agg #[.int .u64 0, .string ⟨#[]⟩, .string ⟨#[]⟩, .slice none 0 0], val]) (by simp [results, Tryf.results24, go_sem, p0, p1, p2, p3]) rfl ?_
          obtain ⟨ad', sx', rfl, _⟩ := hv
          exact ⟨0, _, _, none, 0, 0, _, rfl, (((M3.out.b.setCell (Nat.le_refl _) _).setCell (Nat.le_refl _) _).setCell (Nat.le_refl _) _).setCell (Nat.le_refl _) _, Or.inr ⟨HN.out, _, rfl⟩⟩
    · skip
      have hA : rL < 0 := by omega
      have hB : 0 ≤ rS := by omega
      have hA' : ¬ 0 ≤ rL := by omega
      clear hs1 h1 h2
      cases e2 : (y.toList == v.p.toList)
      case true =>
        have hno : Hid (¬ A) := fun h => (HV.out.1 h).2.1 (eq_of e2)
        go_wp2_with fail
        refine (errB F _ fmtO adE sE y wc _ HC.out.2.2.ans HC.out.2.2.err rfl).mono ?_
        rintro e w9 ⟨val, rfl, hv, hb⟩
        have E1 : Hid (WSt F v B L S R adE sE w w9) := HC.out.2.2.next hb
        have p0 := E1.out.y.cell 0
        have p1 := E1.out.y.cell 1
        have p2 := E1.out.y.cell 2
        have p3 := E1.out.y.cell 3
        have q0 := E1.out.y.frozen 0
        have q1 := E1.out.y.frozen 1
        have q2 := E1.out.y.frozen 2
        have q3 := E1.out.y.frozen 3
        clear hb
        go_wp2
        refine bodyPost_ret (v := .tuple #[.agg #[.int .u64 0, .string ⟨#[]⟩, .string ⟨#[]⟩, .slice none 0 0], val]) (by simp [results, Tryf.results24, go_sem, p0, p1, p2, p3]) rfl ?_
        obtain ⟨ad, sx, rfl, _⟩ := hv
        exact ⟨0, _, _, none, 0, 0, _, rfl, (((E1.out.b.setCell (Nat.le_refl _) _).setCell (Nat.le_refl _) _).setCell (Nat.le_refl _) _).setCell (Nat.le_refl _) _, Or.inr ⟨hno.out, _, rfl⟩⟩
      go_wp2_with fail
      refine (keptBy31 v B wc HC.out.2.2.at_).mono ?_
      rintro e wk ⟨rfl, rfl⟩
      generalize hkept : (if v.q = ByteArray.empty then v.p else v.q) = kept
      cases e3 : (y.toList == kept.toList)
      case true =>
        have hno : Hid (¬ A) := fun h => (HV.out.1 h).2.2.1 ((eq_of e3).trans hkept.symm)
        clear hkept
        go_wp2_with fail
        refine (errB F _ fmtO adE sE y wk _ HC.out.2.2.ans HC.out.2.2.err rfl).mono ?_
        rintro e w9 ⟨val, rfl, hv, hb⟩
        have E1 : Hid (WSt F v B L S R adE sE w w9) := HC.out.2.2.next hb
        have p0 := E1.out.y.cell 0
        have p1 := E1.out.y.cell 1
        have p2 := E1.out.y.cell 2
        have p3 := E1.out.y.cell 3
        have q0 := E1.out.y.frozen 0
        have q1 := E1.out.y.frozen 1
        have q2 := E1.out.y.frozen 2
        have q3 := E1.out.y.frozen 3
        clear hb
        go_wp2
        refine bodyPost_ret (v := .tuple #[.agg #[.int .u64 0, .string ⟨#[]⟩, .string ⟨#[]⟩, .slice none 0 0], val]) (by simp [results, Tryf.results24, go_sem, p0, p1, p2, p3]) rfl ?_
        obtain ⟨ad, sx, rfl, _⟩ := hv
        exact ⟨0, _, _, none, 0, 0, _, rfl, (((E1.out.b.setCell (Nat.le_refl _) _).setCell (Nat.le_refl _) _).setCell (Nat.le_refl _) _).setCell (Nat.le_refl _) _, Or.inr ⟨hno.out, _, rfl⟩⟩
      have HK : Hid (y ≠ lostB ∧ y ≠ v.p ∧ y ≠ if v.q = ByteArray.empty then v.p else v.q) := by
        rw [show (if v.q = ByteArray.empty then v.p else v.q) = kept from hkept]
        exact ⟨notLost e1, neq_of e2, neq_of e3⟩
      clear hkept
      have c2 := HC.out.2.2.at_.c2
      have c3 := HC.out.2.2.at_.c3
      go_wp2_with fail
      refine (cloneLayout32 v L S R wk ⟨HC.out.2.2.at_.g0, HC.out.2.2.at_.g1, HC.out.2.2.at_.g2, HC.out.2.2.at_.g3⟩ HC.out.2.2.has).mono ?_
      rintro e w5 ⟨G, c, aL, cL, aS, cS, aR, cR, m1, m2, m3, m4, m5, C, rfl, kc, hb5, hG, hBG, hsC, k0, k1, k2, k3, kL, kS, kR, t0, t1, t2, t3, t4, t5, oL, oS, oR⟩
      obtain ⟨k, hk, rfl, hke, hkf⟩ : ∃ k : Nat, k < v.nS ∧ rS = k ∧ S k = y ∧ ∀ j, j < k → S j ≠ y := by
        rcases HC.out.2.1 with ⟨h, _⟩ | ⟨k, h⟩
        · omega
        · exact ⟨k, h⟩
      have hother : Hid (¬ Mem v.nL L y) := fun h => absurd (HC.out.1.mem.2 h) (by omega)
      have HA : Hid (A ↔ Valid (inc v.e) v.p v.q v.st v.nL L v.nS (upd S k lostB) (refN v.nR R y) (refS v.nR R y)) := by
        show A ↔ _
        rw [HV.out]
        constructor
        · rintro ⟨_, _, _, ⟨k', h1, h2, h3, h4, h5⟩ | ⟨k', h1, h2, h3, h4, h5⟩⟩
          · exact absurd ⟨k, hk, hke⟩ h4
          · have : k' = k := by
              rcases Nat.lt_trichotomy k' k with h | h | h
              · exact absurd h2 (hkf k' h)
              · exact h
              · exact absurd hke (h3 k h)
            subst this
            exact h5
        · exact fun h => ⟨HK.out.1, HK.out.2.1, HK.out.2.2, Or.inr ⟨k, hk, hke, hkf, hother.out, h⟩⟩
      have N0 : Hid (NSt F ⟨inc v.e, v.p, v.q, v.st, aL, v.nL, cL, aS, v.nS, cS, aR, v.nR, cR, G, c⟩ L S R adE sE w w5.heap.size m1 m2 m3 m4 m5 (w5.alloc (.cells #[.int .u64 (IntKind.u64.wrap (v.e + 1)), .string v.p, .string v.q, .slice (some ⟨G, 0, none⟩) 1 c] 44))) := NSt.start HC.out.2.2 HE.out HF.out hb5 hG hBG hsC k0 k1 k2 k3 kL kS kR t0 t1 t2 t3 t4 t5 oL oS oR
      obtain ⟨g, hga, hgc, hgf, N1'⟩ := N0.out.putS hk lostB
      have N1 : Hid (NSt F ⟨inc v.e, v.p, v.q, v.st, aL, v.nL, cL, aS, v.nS, cS, aR, v.nR, cR, G, c⟩ L (upd S k lostB) R adE sE w w5.heap.size m1 m2 m3 m4 m5 ((w5.alloc (.cells #[.int .u64 (IntKind.u64.wrap (v.e + 1)), .string v.p, .string v.q, .slice (some ⟨G, 0, none⟩) 1 c] 44)).setCell ⟨g, k, none⟩ (.string lostB))) := N1'
      have hlt : G < w5.heap.size := hBG.lt
      have x1 := (hBG.cell 1).trans k1
      have x2 := (hBG.cell 2).trans k2
      obtain ⟨g', hga', hp1, hp2, hgc', hgf', _⟩ := oS.put hk lostB
      have hga : aS = some ⟨g, 0, none⟩ := hga
      have hgg : g' = g := by
        rw [hga] at hga'
        injection hga' with h
        injection h with h
        exact h.symm
      subst hgg
      subst hga
      have hgl : g' < w5.heap.size := by omega
      clear hgc hgf hga' HC HK hke hkf hother hb5 hG hBG hsC k0 k1 k2 k3 kL kS kR t0 t1 t2 t3 t4 t5 oL oS oR N1' N0 HV
      go_wp2_with fail
      rw [World.setCell_alloc_past _ _ _ _ hgl] at N1
      have N2 : Hid (NSt F ⟨inc v.e, v.p, v.q, v.st, aL, v.nL, cL, some ⟨g', 0, none⟩, v.nS, cS, aR, v.nR, cR, G, c⟩ L (upd S k lostB) R adE sE w w5.heap.size m1 m2 m3 m4 m5 ((w5.setCell ⟨g', k, none⟩ (.string ⟨#[108, 111, 115, 116]⟩)).alloc (.cells #[.int .u64 (IntKind.u64.wrap (v.e + 1)), .string v.p, .string v.q, .slice (some ⟨G, 0, none⟩) 1 c] 44))) := N1
      clear N1 x1 x2 hgc' hgf' c2 c3 cp c0 hg
      generalize ((w5.setCell ⟨g', k, none⟩ (.string ⟨#[108, 111, 115, 116]⟩)).alloc (.cells #[.int .u64 (IntKind.u64.wrap (v.e + 1)), .string v.p, .string v.q, .slice (some ⟨G, 0, none⟩) 1 c] 44)) = w7 at N2 ⊢
      have N3 : Hid (NSt F ⟨inc v.e, v.p, v.q, v.st, aL, v.nL, cL, some ⟨g', 0, none⟩, v.nS, cS, aR, v.nR, cR, G, c⟩ L (upd S k lostB) R adE sE w w5.heap.size m1 m2 m3 m4 m5 w7.drew) := N2.out.drew
      obtain ⟨x3', _, _, x4', x5'⟩ := N3.out.cells
      have x3 : w7.drew.cell? ⟨w5.heap.size, 3, none⟩ = some (.slice (some ⟨G, 0, none⟩) 1 c) := x3'
      have x4 : w7.drew.cell? ⟨G, 3, none⟩ = some (.slice aR v.nR cR) := x4'
      have x5 : w7.drew.frozen? ⟨G, 3, none⟩ = false := x5'
      obtain ⟨gR, hgR', hgk⟩ := N3.out.r.at_
      have hgR : Hid (v.nR = 0 ∨ ∃ N, aR = some ⟨gR, 0, none⟩ ∧ v.nR ≤ N ∧ Grows gR N v.nR R w7.drew) := hgR'
      have hkr : v.nR ≤ cR := N3.out.kr
      have HGK : Hid (∀ k, k < w7.drew.heap.size → k < m4 ∨ m5 ≤ k → k ≠ gR) := hgk
      generalize w5.heap.size = N at *
      clear x3' x4' x5' hgR' hgk
      go_cut [] from 98 to 108 (fun wr => Hid (∃ a8 c8, MSt F ⟨inc v.e, v.p, v.q, v.st, aL, v.nL, cL, some ⟨g', 0, none⟩, v.nS, cS, a8, refN v.nR R y, c8, G, c⟩ L (upd S k lostB) (refS v.nR R y) adE sE w N wr))
      case first =>
        go_region_with
          (first
          | (go_at_call 33
             refine (without33 gR aR v.nR cR R y w7.drew (by omega) hgR.out hkr).mono ?_
             rintro e w8 ⟨a8, c8, rfl, hc8, hr8, ht8, ho8, hu8, hs8, hb8⟩
             have P1 : Hid (PSt F ⟨inc v.e, v.p, v.q, v.st, aL, v.nL, cL, some ⟨g', 0, none⟩, v.nS, cS, aR, v.nR, cR, G, c⟩ L (upd S k lostB) R y adE sE w N a8 c8 w8) := N3.out.without HGK.out y hc8 hr8 ht8 ho8 hu8 hs8 hb8
             have z3 : w8.cell? ⟨N, 3, none⟩ = some (.slice (some ⟨G, 0, none⟩) 1 c) := P1.out.cells.1
             have z4 : w8.cell? ⟨G, 3, none⟩ = some (.slice aR v.nR cR) := P1.out.cells.2.1
             have z5 : w8.frozen? ⟨G, 3, none⟩ = false := P1.out.cells.2.2
             clear hc8 hr8 ht8 ho8 hu8 hs8 hb8))
        all_goals have M1 : Hid (MSt F ⟨inc v.e, v.p, v.q, v.st, aL, v.nL, cL, some ⟨g', 0, none⟩, v.nS, cS, a8, refN v.nR R y, c8, G, c⟩ L (upd S k lostB) (refS v.nR R y) adE sE w N (w8.setCell ⟨G, 3, none⟩ (.slice a8 (refN v.nR R y) c8))) := P1.out.store
        all_goals go_wp2
        all_goals go_meet
        all_goals exact ⟨a8, c8, M1.out⟩
      case rest =>
        obtain ⟨a8, c8, M1'⟩ := hcut.out
        have M1 : Hid (MSt F ⟨inc v.e, v.p, v.q, v.st, aL, v.nL, cL, some ⟨g', 0, none⟩, v.nS, cS, a8, refN v.nR R y, c8, G, c⟩ L (upd S k lostB) (refS v.nR R y) adE sE w N wc) := M1'
        clear hcut M1'
        go_wp2_with fail
        refine (validate12 F ⟨inc v.e, v.p, v.q, v.st, aL, v.nL, cL, some ⟨g', 0, none⟩, v.nS, cS, a8, refN v.nR R y, c8, G, c⟩ N L (upd S k lostB) (refS v.nR R y) adE sE wc M1.out.ans M1.out.at_ M1.out.has M1.out.err A HA).mono ?_
        rintro e w9 ⟨ev, rfl, hb9, hev⟩
        have M2 : Hid (MSt F ⟨inc v.e, v.p, v.q, v.st, aL, v.nL, cL, some ⟨g', 0, none⟩, v.nS, cS, a8, refN v.nR R y, c8, G, c⟩ L (upd S k lostB) (refS v.nR R y) adE sE w N w9) := M1.out.next hb9
        rcases hev with ⟨hyes, rfl⟩ | ⟨hno, ad, sx, rfl, hs⟩
        · have n0 := M2.out.at_.c0
          have n1 := M2.out.at_.c1
          have n2 := M2.out.at_.c2
          have n3 := M2.out.at_.c3
          have p0 := M2.out.y.cell 0
          have p1 := M2.out.y.cell 1
          have p2 := M2.out.y.cell 2
          have p3 := M2.out.y.cell 3
          have q0 := M2.out.y.frozen 0
          have q1 := M2.out.y.frozen 1
          have q2 := M2.out.y.frozen 2
          have q3 := M2.out.y.frozen 3
          clear hb9 hgR HGK N2 N3 x3 x4 x5
          go_wp2
          refine bodyPost_ret (v := .tuple #[.agg #[.int .u64 (inc v.e), .string v.p, .string v.q, .slice (some ⟨G, 0, none⟩) 1 c], .nilIface]) (by simp [results, Tryf.results24, go_sem, p0, p1, p2, p3]) rfl ?_
          exact ⟨_, _, _, _, _, _, _, rfl, (((M2.out.b.setCell (Nat.le_refl _) _).setCell (Nat.le_refl _) _).setCell (Nat.le_refl _) _).setCell (Nat.le_refl _) _, Or.inl ⟨hyes, rfl⟩⟩
        · have HN : Hid (¬ A) := hno
          clear hb9 hgR HGK N2 N3 x3 x4 x5 hno
          go_wp2_with fail
          refine (errW F _ fmtZ ad sx y w9 _ M2.out.ans hs rfl).mono ?_
          rintro e w10 ⟨val, rfl, hv, hb⟩
          have M3 : Hid (MSt F ⟨inc v.e, v.p, v.q, v.st, aL, v.nL, cL, some ⟨g', 0, none⟩, v.nS, cS, a8, refN v.nR R y, c8, G, c⟩ L (upd S k lostB) (refS v.nR R y) adE sE w N w10) := M2.out.next hb
          have p0 := M3.out.y.cell 0
          have p1 := M3.out.y.cell 1
          have p2 := M3.out.y.cell 2
          have p3 := M3.out.y.cell 3
          have q0 := M3.out.y.frozen 0
          have q1 := M3.out.y.frozen 1
          have q2 := M3.out.y.frozen 2
          have q3 := M3.out.y.frozen 3
          clear hb
          go_wp2
          refine bodyPost_ret (v := .tuple #[.agg #[.int .u64 0, .string ⟨#[]⟩, .string ⟨#[]⟩, .slice none 0 0], val]) (by simp [results, Tryf.results24, go_sem, p0, p1, p2, p3]) rfl ?_
          obtain ⟨ad', sx', rfl, _⟩ := hv
          exact ⟨0, _, _, none, 0, 0, _, rfl, (((M3.out.b.setCell (Nat.le_refl _) _).setCell (Nat.le_refl _) _).setCell (Nat.le_refl _) _).setCell (Nat.le_refl _) _, Or.inr ⟨HN.out, _, rfl⟩⟩
end Go.Proofs.Qxb6613521aFmt
