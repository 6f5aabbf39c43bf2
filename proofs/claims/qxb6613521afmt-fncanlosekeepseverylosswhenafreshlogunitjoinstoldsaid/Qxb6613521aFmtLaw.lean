/-
  The law, the walk.
-/
import Derived.Test.Qxb6613521aFmtCan
import Derived.Test.Qxb6613521aFmtJoin
import Derived.Test.Qxb6613521aFmtBytes
namespace Go.Proofs.Qxb6613521aFmt
open Go.RowKit Go.Extern.Stop Go.Stop Go.Extern

/-- three rows of strings, on top of what was there at the start -/
structure LSt (w : World) (aL : Option Addr) (nL : Nat) (L : Nat → ByteArray) (aS : Option Addr) (nS : Nat) (S : Nat → ByteArray) (aR : Option Addr) (nR : Nat) (R : Nat → ByteArray) (wr : World) : Prop where
  b : Below w.heap.size w wr
  l : StrRow wr aL nL L
  s : StrRow wr aS nS S
  r : StrRow wr aR nR R
theorem LSt.next {w : World} {aL : Option Addr} {nL : Nat} {L : Nat → ByteArray} {aS : Option Addr} {nS : Nat} {S : Nat → ByteArray} {aR : Option Addr} {nR : Nat} {R : Nat → ByteArray} {wr w' : World} (h : LSt w aL nL L aS nS S aR nR R wr) (hb : Below wr.heap.size wr w') : LSt w aL nL L aS nS S aR nR R w' :=
  ⟨h.b.trans (hb.mono h.b.size), h.l.below hb, h.s.below hb, h.r.below hb⟩

/-- true comes back; what was there is as it was -/
def TrueBelow (w : World) (e : Ending) (w' : World) : Prop := e = .returned (.bool true) ∧ Below w.heap.size w w'

set_option maxHeartbeats 4000000 in
set_option maxRecDepth 100000 in
theorem law3 (F : Interp) (e : Int) (p q : ByteArray) (st : Int) (aL : Option Addr) (nL cL : Nat) (aS : Option Addr) (nS cS : Nat) (aR : Option Addr) (nR cR : Nat) (L S R : Nat → ByteArray) (y x : ByteArray) (adE : Addr) (sE : ByteArray) (w : World) (hF : F.answers w.tape) (hE : Err0 w adE sE)
    (zp : p.size ≤ maxLen) (zq : q.size ≤ maxLen) (zy : y.size ≤ maxLen) (zx : x.size ≤ maxLen) (bL : nL ≤ maxLen) (bS : nS ≤ maxLen) (bR : nR ≤ maxLen) (rL : StrRow w aL nL L) (rS : StrRow w aS nS S) (rR : StrRow w aR nR R)
    (sL : ∀ i, i < nL → (L i).size ≤ maxLen) (sS : ∀ i, i < nS → (S i).size ≤ maxLen) (sR : ∀ i, i < nR → (R i).size ≤ maxLen) :
    Calls Tryf.prog 3 #[.int .u64 e, .string p, .string q, .int .u64 st, .slice aL nL cL, .slice aS nS cS, .slice aR nR cR, .string y, .string x] w (TrueBelow w) := by
  have H5 : Hid (Calls Tryf.prog 5 #[.int .u64 e, .string p, .string q, .int .u64 st, .slice aL nL cL, .slice aS nS cS, .slice aR nR cR, .string y, .string x] w (RetB (fun r => r = true → nL ≤ 1048576 ∧ nS ≤ 1048576 ∧ nR ≤ 1048576) w)) := bytes5b e p q st aL aS aR nL cL nS cS nR cR L S R y x w zp zq bL bS bR rL rS rR sL sS sR zy zx
  have H6 : Hid ((nL ≤ 1048576 ∧ nS ≤ 1048576 ∧ nR ≤ 1048576) → Calls Tryf.prog 6 #[.string p, .string q, .string y, .string x, .slice aL nL cL, .slice aS nS cS, .slice aR nR cR] w (RetI (fun r => r ≤ 1048576 → nL ≤ 65536 ∧ nS ≤ 65536 ∧ nR ≤ 65536) w)) := fun hn => layout6 p q y x aL aS aR nL cL nS cS nR cR L S R w zp zq zy zx (by omega) (by omega) (by omega) rL rS rR sL sS sR
  have HE : Hid (Err0 w adE sE) := hE
  have HF : Hid (F.answers w.tape) := hF
  have HS : Hid (LSt w aL nL L aS nS S aR nR R w) := ⟨Below.refl _ _, rL, rS, rR⟩
  clear rL rS rR sL sS sR zp zq zy zx bL bS bR hE hF
  go_enter Tryf.func3, Tryf.ntmps3
  go_wp2_with fail
  refine H5.out.mono ?_
  rintro en wa ⟨r, rfl, rfl, h5⟩
  clear H5
  cases r
  case false =>
    clear H6 h5
    go_wp2
    go_ret
    exact ⟨rfl, HS.out.b⟩
  have H5 : Hid (nL ≤ 1048576 ∧ nS ≤ 1048576 ∧ nR ≤ 1048576) := h5 rfl
  clear h5
  go_wp2_with fail
  refine (H6.out H5.out).mono ?_
  rintro en wb ⟨r, rfl, rfl, hr'⟩
  have HR : Hid (r ≤ 1048576 → nL ≤ 65536 ∧ nS ≤ 65536 ∧ nR ≤ 65536) := hr'
  clear hr' H6 H5
  by_cases hbig : 1048576 < r
  · go_wp2
    go_ret
    exact ⟨rfl, HS.out.b⟩
  have hsm : ¬ r > 1048576 := hbig
  obtain ⟨hL, hS, hR⟩ := HR.out (by omega)
  clear HR
  go_wp2_with fail
  refine (fresh7 x p q aL aS aR nL cL nS cS nR cR L S R wb hL hS hR HS.out.l HS.out.s HS.out.r).mono ?_
  rintro en wd ⟨r7, rfl, rfl, hf⟩
  cases r7
  case false =>
    clear hf
    go_wp2
    go_ret
    exact ⟨rfl, HS.out.b⟩
  have HFr : Hid (Fresh x p q nL L nS S nR R) := hf rfl
  clear hf
  -- GOOD ROAD
  go_wp2_with fail
  refine (clone8 aL nL cL L wd hL HS.out.l).mono ?_
  rintro en w1 ⟨a1, c1, rfl, k1, hr1, hb1⟩
  have S1 : Hid (LSt wd a1 nL L aS nS S aR nR R w1) := ⟨(HS.out.next hb1).b, hr1, (HS.out.next hb1).s, (HS.out.next hb1).r⟩
  clear hr1 hb1
  go_wp2_with fail
  refine (clone8 aS nS cS S w1 hS S1.out.s).mono ?_
  rintro en w2 ⟨a2, c2, rfl, k2, hr2, hb2⟩
  have S2 : Hid (LSt wd a1 nL L a2 nS S aR nR R w2) := ⟨(S1.out.next hb2).b, (S1.out.next hb2).l, hr2, (S1.out.next hb2).r⟩
  clear hr2 hb2 S1
  go_wp2_with fail
  refine (clone8 aR nR cR R w2 hR S2.out.r).mono ?_
  rintro en w3 ⟨a3, c3, rfl, k3, hr3, hb3⟩
  have S3 : Hid (LSt wd a1 nL L a2 nS S a3 nR R w3) := ⟨(S2.out.next hb3).b, (S2.out.next hb3).l, (S2.out.next hb3).s, hr3⟩
  clear hr3 hb3 S2
  go_wp2_with fail
  refine (zzLayout10 e p q st a1 nL c1 a2 nS c2 a3 nR c3 w3).mono ?_
  rintro en w4 ⟨B4, G4, rfl, hb4, hat4⟩
  have S4 : Hid (LSt wd a1 nL L a2 nS S a3 nR R w4) := S3.out.next hb4
  have A4 : Hid (LayV.At ⟨e, p, q, st, a1, nL, c1, a2, nS, c2, a3, nR, c3, G4, 1⟩ w4 B4) := hat4
  clear hb4 hat4 S3
  go_wp2_with fail
  refine (zzCanLose9 F ⟨e, p, q, st, a1, nL, c1, a2, nS, c2, a3, nR, c3, G4, 1⟩ B4 L S R adE sE y w4 (by rw [S4.out.b.tape]; exact HF.out)  A4.out ⟨S4.out.l, S4.out.s, S4.out.r, by show nL ≤ 65537; omega, by show nS ≤ 65537; omega, by show nR ≤ 65537; omega, k1, k2, k3⟩ (HE.out.below S4.out.b) (Loses e p q st nL L nS S nR R y) Iff.rfl).mono ?_
  rintro en w5 ⟨r5, rfl, hr5, hb5⟩
  have Q5 : Hid (r5 = true ↔ Loses e p q st nL L nS S nR R y) := hr5
  have S5 : Hid (LSt wd a1 nL L a2 nS S a3 nR R w5) := S4.out.next hb5
  clear hb5 hr5 S4 A4
  go_wp2_with fail
  refine (withEnd11 a1 nL c1 L x w5 hL S5.out.l).mono ?_
  rintro en w6 ⟨a6, c6, rfl, k6, hr6, hb6⟩
  have S6 : Hid (LSt wd a1 nL L a2 nS S a3 nR R w6) := S5.out.next hb6
  have R6 : Hid (StrRow w6 a6 (nL + 1) (endS nL L x)) := hr6
  clear hb6 hr6 S5
  go_wp2_with fail
  refine (zzLayout10 e p q st a6 (nL + 1) c6 a2 nS c2 a3 nR c3 w6).mono ?_
  rintro en w7 ⟨B7, G7, rfl, hb7, hat7⟩
  have S7 : Hid (LSt wd a1 nL L a2 nS S a3 nR R w7) := S6.out.next hb7
  have A7 : Hid (LayV.At ⟨e, p, q, st, a6, nL + 1, c6, a2, nS, c2, a3, nR, c3, G7, 1⟩ w7 B7 ∧ LayV.Has ⟨e, p, q, st, a6, nL + 1, c6, a2, nS, c2, a3, nR, c3, G7, 1⟩ w7 (endS nL L x) S R) := ⟨hat7, R6.out.below hb7, S7.out.s, S7.out.r, by show nL + 1 ≤ 65537; omega, by show nS ≤ 65537; omega, by show nR ≤ 65537; omega, k6, k2, k3⟩
  clear hb7 hat7 S6 R6
  go_wp2_with fail
  refine (zzCanLose9 F ⟨e, p, q, st, a6, nL + 1, c6, a2, nS, c2, a3, nR, c3, G7, 1⟩ B7 (endS nL L x) S R adE sE y w7 (by rw [S7.out.b.tape]; exact HF.out)  A7.out.1 A7.out.2 (HE.out.below S7.out.b) (Loses e p q st (nL + 1) (endS nL L x) nS S nR R y) Iff.rfl).mono ?_
  rintro en w8 ⟨r8, rfl, hr8, hb8⟩
  have Q8 : Hid (r8 = true ↔ Loses e p q st (nL + 1) (endS nL L x) nS S nR R y) := hr8
  have S8 : Hid (LSt wd a1 nL L a2 nS S a3 nR R w8) := S7.out.next hb8
  have A8 : Hid (LayV.At ⟨e, p, q, st, a6, nL + 1, c6, a2, nS, c2, a3, nR, c3, G7, 1⟩ w8 B7 ∧ LayV.Has ⟨e, p, q, st, a6, nL + 1, c6, a2, nS, c2, a3, nR, c3, G7, 1⟩ w8 (endS nL L x) S R) := ⟨A7.out.1.below hb8, A7.out.2.below hb8⟩
  clear hb8 hr8 S7 A7
  go_wp2_with fail
  refine (zzCanLose9 F ⟨e, p, q, st, a6, nL + 1, c6, a2, nS, c2, a3, nR, c3, G7, 1⟩ B7 (endS nL L x) S R adE sE x w8 (by rw [S8.out.b.tape]; exact HF.out)  A8.out.1 A8.out.2 (HE.out.below S8.out.b) (Loses e p q st (nL + 1) (endS nL L x) nS S nR R x) Iff.rfl).mono ?_
  rintro en w9 ⟨r9, rfl, hr9, hb9⟩
  have Q9 : Hid (r9 = true ↔ Valid (IntKind.u64.wrap (e + 1)) p q st (nL + 1) (endS nL L lostB) nS S nR R) := hr9.trans (Loses.fresh HFr.out)
  have S9 : Hid (LSt wd a1 nL L a2 nS S a3 nR R w9) := S8.out.next hb9
  clear hb9 hr9 S8 A8
  go_wp2_with fail
  refine (withEnd11 a1 nL c1 L lostB w9 hL S9.out.l).mono ?_
  rintro en w10 ⟨a10, c10, rfl, k10, hr10, hb10⟩
  have S10 : Hid (LSt wd a1 nL L a2 nS S a3 nR R w10) := S9.out.next hb10
  have R10 : Hid (StrRow w10 a10 (nL + 1) (endS nL L lostB)) := hr10
  clear hb10 hr10 S9
  go_wp2_with fail
  refine (clone8 a2 nS c2 S w10 hS S10.out.s).mono ?_
  rintro en w11 ⟨a11, c11, rfl, k11, hr11, hb11⟩
  have S11 : Hid (LSt wd a1 nL L a11 nS S a3 nR R w11 ∧ StrRow w11 a10 (nL + 1) (endS nL L lostB)) := ⟨⟨(S10.out.next hb11).b, (S10.out.next hb11).l, hr11, (S10.out.next hb11).r⟩, R10.out.below hb11⟩
  clear hb11 hr11 S10 R10
  go_wp2_with fail
  refine (clone8 a3 nR c3 R w11 hR S11.out.1.r).mono ?_
  rintro en w12 ⟨a12, c12, rfl, k12, hr12, hb12⟩
  have S12 : Hid (LSt wd a1 nL L a11 nS S a12 nR R w12 ∧ StrRow w12 a10 (nL + 1) (endS nL L lostB)) := ⟨⟨(S11.out.1.next hb12).b, (S11.out.1.next hb12).l, (S11.out.1.next hb12).s, hr12⟩, S11.out.2.below hb12⟩
  clear hb12 hr12 S11
  go_wp2_with fail
  refine (zzLayout10 (IntKind.u64.wrap (e + 1)) p q st a10 (nL + 1) c10 a11 nS c11 a12 nR c12 w12).mono ?_
  rintro en w13 ⟨B13, G13, rfl, hb13, hat13⟩
  have S13 : Hid (LSt wd a1 nL L a11 nS S a12 nR R w13) := S12.out.1.next hb13
  have A13 : Hid (LayV.At ⟨IntKind.u64.wrap (e + 1), p, q, st, a10, nL + 1, c10, a11, nS, c11, a12, nR, c12, G13, 1⟩ w13 B13 ∧ LayV.Has ⟨IntKind.u64.wrap (e + 1), p, q, st, a10, nL + 1, c10, a11, nS, c11, a12, nR, c12, G13, 1⟩ w13 (endS nL L lostB) S R) := ⟨hat13, S12.out.2.below hb13, S13.out.s, S13.out.r, by show nL + 1 ≤ 65537; omega, by show nS ≤ 65537; omega, by show nR ≤ 65537; omega, k10, k11, k12⟩
  clear hb13 hat13 S12
  have hj : r5 = true → r8 = true := fun h => Q8.out.2 ((Q5.out.1 h).join HFr.out)
  clear Q5 Q8 HFr
  have V : Hid (Calls Tryf.prog 12 #[.pointer (some ⟨B13, 0, none⟩)] w13 (NilIff (Valid (IntKind.u64.wrap (e + 1)) p q st (nL + 1) (endS nL L lostB) nS S nR R) w13)) := validate12 F ⟨IntKind.u64.wrap (e + 1), p, q, st, a10, nL + 1, c10, a11, nS, c11, a12, nR, c12, G13, 1⟩ B13 (endS nL L lostB) S R adE sE w13 (by rw [S13.out.b.tape]; exact HF.out)  A13.out.1 A13.out.2 (HE.out.below S13.out.b) _ Iff.rfl
  clear A13
  rcases Bool.eq_false_or_eq_true r8 with rfl | rfl
  · clear hj
    cases r5
    all_goals go_wp2_with fail
    all_goals refine V.out.mono ?_
    all_goals rintro en w14 ⟨ev, rfl, hb14, hev⟩
    all_goals have HB : Hid (Below wd.heap.size wd w14) := (S13.out.next hb14).b
    all_goals clear hb14
    all_goals rcases hev with ⟨hv, rfl⟩ | ⟨hv, ad, sx, rfl, hs⟩
    all_goals first | (have h9 := Q9.out.2 hv) | (have h9 := eq_false_of_ne_true (fun h => hv (Q9.out.1 h)))
    all_goals subst h9
    all_goals clear hv
    all_goals go_wp2
    all_goals go_ret
    all_goals exact ⟨rfl, HB.out⟩
  · have h5 : r5 = false := eq_false_of_ne_true (fun h => absurd (hj h) (by simp))
    subst h5
    clear hj
    go_wp2_with fail
    refine V.out.mono ?_
    rintro en w14 ⟨ev, rfl, hb14, hev⟩
    have HB : Hid (Below wd.heap.size wd w14) := (S13.out.next hb14).b
    clear hb14
    rcases hev with ⟨hv, rfl⟩ | ⟨hv, ad, sx, rfl, hs⟩
    all_goals first | (have h9 := Q9.out.2 hv) | (have h9 := eq_false_of_ne_true (fun h => hv (Q9.out.1 h)))
    all_goals subst h9
    all_goals clear hv
    all_goals go_wp2
    all_goals go_ret
    all_goals exact ⟨rfl, HB.out⟩
end Go.Proofs.Qxb6613521aFmt
