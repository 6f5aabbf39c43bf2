/-
  FnCheckKindKeysAcceptsExactlyFittingKeys: the walk.
-/
import Derived.Test.Qxb6613513aFmtBytes
import Derived.Test.Qxb6613513aFmtSort
import Derived.Deep.DeepCutAuto
namespace Go.Proofs.Qxb6613513aFmt
open Go.RowKit Go.Extern.Stop Go.Stop Go.Extern

/-- the law answers true and turns nothing that was there -/
def Law (w : World) (e : Ending) (w' : World) : Prop := e = .returned (.bool true) ∧ Below w.heap.size w w'

/-- what a slice and the others are worth while the copies are made -/
def Copies (w0 : World) (aS aC aT aM : Option Addr) (nS nC nT nM : Nat) (S C T M : Nat → ByteArray) (wr : World) : Prop :=
  Below w0.heap.size w0 wr ∧ StrRow wr aS nS S ∧ StrRow wr aC nC C ∧ StrRow wr aT nT T ∧ StrRow wr aM nM M

theorem Copies.s {w0 wr : World} {aS aC aT aM : Option Addr} {nS nC nT nM : Nat} {S C T M : Nat → ByteArray} (h : Copies w0 aS aC aT aM nS nC nT nM S C T M wr) :
    Copies w0 (some ⟨wr.heap.size, 0, none⟩) aC aT aM nS nC nT nM S C T M (wr.alloc (.cells (rowS nS S) 9)) :=
  have hb : Below wr.heap.size wr (wr.alloc (.cells (rowS nS S) 9)) := (Below.refl _ _).alloc (Nat.le_refl _) _
  ⟨h.1.alloc h.1.size _, row_new _ _ _, h.2.2.1.below hb, h.2.2.2.1.below hb, h.2.2.2.2.below hb⟩
theorem Copies.c {w0 wr : World} {aS aC aT aM : Option Addr} {nS nC nT nM : Nat} {S C T M : Nat → ByteArray} (h : Copies w0 aS aC aT aM nS nC nT nM S C T M wr) :
    Copies w0 aS (some ⟨wr.heap.size, 0, none⟩) aT aM nS nC nT nM S C T M (wr.alloc (.cells (rowS nC C) 9)) :=
  have hb : Below wr.heap.size wr (wr.alloc (.cells (rowS nC C) 9)) := (Below.refl _ _).alloc (Nat.le_refl _) _
  ⟨h.1.alloc h.1.size _, h.2.1.below hb, row_new _ _ _, h.2.2.2.1.below hb, h.2.2.2.2.below hb⟩
theorem Copies.t {w0 wr : World} {aS aC aT aM : Option Addr} {nS nC nT nM : Nat} {S C T M : Nat → ByteArray} (h : Copies w0 aS aC aT aM nS nC nT nM S C T M wr) :
    Copies w0 aS aC (some ⟨wr.heap.size, 0, none⟩) aM nS nC nT nM S C T M (wr.alloc (.cells (rowS nT T) 9)) :=
  have hb : Below wr.heap.size wr (wr.alloc (.cells (rowS nT T) 9)) := (Below.refl _ _).alloc (Nat.le_refl _) _
  ⟨h.1.alloc h.1.size _, h.2.1.below hb, h.2.2.1.below hb, row_new _ _ _, h.2.2.2.2.below hb⟩
theorem Copies.m {w0 wr : World} {aS aC aT aM : Option Addr} {nS nC nT nM : Nat} {S C T M : Nat → ByteArray} (h : Copies w0 aS aC aT aM nS nC nT nM S C T M wr) :
    Copies w0 aS aC aT (some ⟨wr.heap.size, 0, none⟩) nS nC nT nM S C T M (wr.alloc (.cells (rowS nM M) 9)) :=
  have hb : Below wr.heap.size wr (wr.alloc (.cells (rowS nM M) 9)) := (Below.refl _ _).alloc (Nat.le_refl _) _
  ⟨h.1.alloc h.1.size _, h.2.1.below hb, h.2.2.1.below hb, h.2.2.2.1.below hb, row_new _ _ _⟩


/-- zzSorted of one slice -/
def Sorted1 (n : Nat) (A : Nat → ByteArray) (w : World) (e : Ending) (w' : World) : Prop :=
  e = .returned (.slice (some ⟨w.heap.size, 0, none⟩) n n) ∧ Below w.heap.size w w' ∧ ∃ R, StrRow w' (some ⟨w.heap.size, 0, none⟩) n R ∧ Srt n R ∧ ∀ y, Mem n R y ↔ Mem n A y
theorem not_mem_zero (S : Nat → ByteArray) (y : ByteArray) : ¬ Mem 0 S y := fun ⟨i, hi, _⟩ => absurd hi (by omega)
theorem sorted1 (a : Option Addr) (n ca : Nat) (A : Nat → ByteArray) (w : World) (bN : n ≤ 1048576) (hA : StrRow w a n A) :
    Calls Tryf.prog 10 #[.slice a n ca, .slice none 0 0, .slice none 0 0] w (Sorted1 n A w) := by
  refine (sorted10 a none none n ca 0 0 0 0 A A A w (by omega) hA (fun i hi => absurd hi (by omega)) (fun i hi => absurd hi (by omega))).mono ?_
  rintro e w' ⟨rfl, hb, R, h1, h2, h3⟩
  exact ⟨rfl, hb, R, h1, h2, fun y => (h3 y).trans ⟨fun h => by
    rcases h with h | h | h
    · exact h
    · exact absurd h (not_mem_zero _ _)
    · exact absurd h (not_mem_zero _ _), fun h => Or.inl h⟩⟩

theorem all_iff {n m : Nat} {A RA RB : Nat → ByteArray} (ha : ∀ y, Mem n RA y ↔ Mem n A y) {Q : ByteArray → Prop} (hq : ∀ y, Mem m RB y ↔ Q y) : (∀ k, k < n → Mem m RB (RA k)) ↔ ∀ k, k < n → Q (A k) := by
  constructor
  · intro h k hk
    obtain ⟨i, hi, e⟩ := (ha (A k)).2 ⟨k, hk, rfl⟩
    rw [← e]; exact (hq _).1 (h i hi)
  · intro h k hk
    obtain ⟨i, hi, e⟩ := (ha (RA k)).1 ⟨k, hk, rfl⟩
    rw [← e]; exact (hq _).2 (h i hi)

set_option maxRecDepth 20000 in
set_option maxHeartbeats 4000000 in
theorem fit (F : Interp) (aS aC aT aM : Option Addr) (nS cS nC cC nT cT nM cM : Nat) (S C T M : Nat → ByteArray) (noun : ByteArray) (w : World) (hF : F.answers w.tape)
    (bS : nS ≤ maxLen) (bC : nC ≤ maxLen) (bT : nT ≤ maxLen) (bM : nM ≤ maxLen)
    (hS : StrRow w aS nS S) (hC : StrRow w aC nC C) (hT : StrRow w aT nT T) (hM : StrRow w aM nM M)
    (sS : ∀ i, i < nS → (S i).size ≤ maxLen) (sC : ∀ i, i < nC → (C i).size ≤ maxLen) (sT : ∀ i, i < nT → (T i).size ≤ maxLen) (sM : ∀ i, i < nM → (M i).size ≤ maxLen) (hnoun : noun.size ≤ maxLen) :
    Calls Tryf.prog 3 #[.slice aS nS cS, .slice aC nC cC, .slice aT nT cT, .slice aM nM cM, .string noun] w (Law w) := by
  go_enter Tryf.func3, Tryf.ntmps3
  go_wp2_with fail
  refine (bytes6 aS aC aT aM nS cS nC cC nT cT nM cM S C T M noun w bS bC bT bM hS hC hT hM sS sC sT sM hnoun).mono ?_
  rintro e w' ⟨r, rfl, rfl, _⟩
  cases r
  · go_wp2
    go_ret
    exact ⟨rfl, Below.refl _ _⟩
  by_cases h1 : 4096 < nS
  · go_wp2
    go_ret
    exact ⟨rfl, Below.refl _ _⟩
  by_cases h2 : 4096 < nC
  · go_wp2
    go_ret
    exact ⟨rfl, Below.refl _ _⟩
  by_cases h3 : 4096 < nT
  · go_wp2
    go_ret
    exact ⟨rfl, Below.refl _ _⟩
  by_cases h4 : 4096 < nM
  · go_wp2
    go_ret
    exact ⟨rfl, Below.refl _ _⟩
  by_cases h5 : 1048576 < noun.size
  · go_wp2
    go_ret
    exact ⟨rfl, Below.refl _ _⟩
  have hneq := fun (w : World) (a : Option Addr) (n c : Nat) => run_neq_slice_nil_any (P := Tryf.prog) w 22 9 a n c 0 0 Tryf.underlying22
  have H0 : Hid (Copies w' aS aC aT aM nS nC nT nM S C T M w') := ⟨Below.refl _ _, hS, hC, hT, hM⟩
  clear hS hC hT hM
  go_upto_if 49 with (fail)
  go_cut [0] from 18 to 56 (fun s0 wr => ∃ a cap, s0 = .slice a nS cap ∧ Hid (Copies w' a aC aT aM nS nC nT nM S C T M wr))
  case first =>
    cases aS with
    | none =>
      go_wp2
      go_meet
      case rel => exact ⟨none, cS, rfl, H0⟩
    | some ad =>
      have hmk := make22 nS (by omega)
      have hcp := fun ty => copy22 ty ad nS cS S w' H0.out.2.1
      go_wp2
      go_meet
      case rel => exact ⟨_, _, rfl, H0.out.s⟩
  case rest =>
    obtain ⟨xS, kS, rfl, HS⟩ := hcut
    go_upto_if 58 with (fail)
    go_cut [1] from 18 to 65 (fun s0 wr => ∃ a cap, s0 = .slice a nC cap ∧ Hid (Copies w' xS a aT aM nS nC nT nM S C T M wr))
    case first =>
      cases aC with
      | none =>
        go_wp2
        go_meet
        case rel => exact ⟨none, cC, rfl, HS⟩
      | some ad =>
        have hmk := make22 nC (by omega)
        have hcp := fun ty => copy22 ty ad nC cC C wc HS.out.2.2.1
        go_wp2
        go_meet
        case rel => exact ⟨_, _, rfl, HS.out.c⟩
    case rest =>
      obtain ⟨xC, kC, rfl, HC⟩ := hcut
      go_upto_if 67 with (fail)
      go_cut [2] from 18 to 74 (fun s0 wr => ∃ a cap, s0 = .slice a nT cap ∧ Hid (Copies w' xS xC a aM nS nC nT nM S C T M wr))
      case first =>
        cases aT with
        | none =>
          go_wp2
          go_meet
          case rel => exact ⟨none, cT, rfl, HC⟩
        | some ad =>
          have hmk := make22 nT (by omega)
          have hcp := fun ty => copy22 ty ad nT cT T wc HC.out.2.2.2.1
          go_wp2
          go_meet
          case rel => exact ⟨_, _, rfl, HC.out.t⟩
      case rest =>
        obtain ⟨xT, kT, rfl, HT⟩ := hcut
        go_upto_if 76 with (fail)
        go_cut [3] from 18 to 83 (fun s0 wr => ∃ a cap, s0 = .slice a nM cap ∧ Hid (Copies w' xS xC xT a nS nC nT nM S C T M wr))
        case first =>
          cases aM with
          | none =>
            go_wp2
            go_meet
            case rel => exact ⟨none, cM, rfl, HT⟩
          | some ad =>
            have hmk := make22 nM (by omega)
            have hcp := fun ty => copy22 ty ad nM cM M wc HT.out.2.2.2.2
            go_wp2
            go_meet
            case rel => exact ⟨_, _, rfl, HT.out.m⟩
        case rest =>
          obtain ⟨xM, kM, rfl, HM⟩ := hcut
          clear H0 HS HC HT hneq
          unfold maxLen at sS sC sT sM hnoun
          go_wp2_with fail
          refine (addBytes xS nS kS S _ wc (by omega) (by omega) (by omega) HM.out.2.1 sS).mono ?_
          rintro e wx ⟨z1, rfl, rfl, y1, y2⟩
          go_wp2_with fail
          refine (addBytes xC nC kC C z1 _ (by omega) (by omega) (by omega) HM.out.2.2.1 sC).mono ?_
          rintro e wx ⟨z2, rfl, rfl, y3, y4⟩
          go_wp2_with fail
          refine (addBytes xT nT kT T z2 _ (by omega) (by omega) (by omega) HM.out.2.2.2.1 sT).mono ?_
          rintro e wx ⟨z3, rfl, rfl, y5, y6⟩
          go_wp2_with fail
          refine (addBytes xM nM kM M z3 _ (by omega) (by omega) (by omega) HM.out.2.2.2.2 sM).mono ?_
          rintro e wx ⟨z4, rfl, rfl, y7, y8⟩
          by_cases hz : 1048576 < z4
          · go_wp2
            go_ret
            exact ⟨rfl, HM.out.1⟩
          clear y1 y2 y3 y4 y5 y6 y7 y8 sS sC sT sM hnoun
          have FB : Hid (Below w'.heap.size w' wx) := HM.out.1
          have hFx : F.answers wx.tape := by rw [FB.out.tape]; exact hF
          obtain ⟨_, RS, RC, RT, RM⟩ := HM.out
          clear HM
          go_wp2_with fail
          refine (check8 F xS xC xT xM nS kS nC kC nT kT nM kM S C T M noun wx hFx (by omega) (by omega) (by omega) (by omega) RS RC RT RM).mono ?_
          intro e wy hy
          obtain ⟨by1, hy2⟩ := hy
          have RSy := RS.below by1
          have RCy := RC.below by1
          have RTy := RT.below by1
          have RMy := RM.below by1
          have FBy : Hid (Below w'.heap.size w' wy) := FB.out.trans (by1.mono FB.out.size)
          clear RS RC RT RM FB by1 hFx
          -- what is still to be shown, whatever the error is
          obtain ⟨ev, hev, hacc⟩ : ∃ ev, e = .returned ev ∧ Hid ((Acc nS S nC C nT T nM M ∧ ev = .nilIface) ∨ (¬ Acc nS S nC C nT T nM M ∧ ∃ p, ev = .iface 44 p)) := by
            rcases hy2 with ⟨hA, rfl⟩ | ⟨hA, pv, rfl⟩
            · exact ⟨_, rfl, Or.inl ⟨hA, rfl⟩⟩
            · exact ⟨_, rfl, Or.inr ⟨hA, pv, rfl⟩⟩
          subst hev
          clear hy2
          go_wp2_with fail
          refine (sorted1 xT nT kT T _ (by omega) RTy).mono ?_
          rintro e w1 ⟨rfl, b1, R1, r1, s1, m1⟩
          have FB1 : Hid (Below w'.heap.size w' w1) := FBy.out.trans (b1.mono FBy.out.size)
          have RS1 := RSy.below b1
          have RC1 := RCy.below b1
          have RT1 := RTy.below b1
          have RM1 := RMy.below b1
          have M1 : Hid (∀ y, Mem nT R1 y ↔ Mem nT T y) := m1
          clear RSy RCy RTy RMy b1 m1 FBy
          go_wp2_with fail
          refine (sorted1 xS nS kS S _ (by omega) RS1).mono ?_
          rintro e w2 ⟨rfl, b2, R2, r2, s2, m2⟩
          have FB2 : Hid (Below w'.heap.size w' w2) := FB1.out.trans (b2.mono FB1.out.size)
          have RS2 := RS1.below b2
          have RC2 := RC1.below b2
          have RT2 := RT1.below b2
          have RM2 := RM1.below b2
          have r1' := r1.below b2
          have M2 : Hid (∀ y, Mem nS R2 y ↔ Mem nS S y) := m2
          clear RS1 RC1 RT1 RM1 b2 r1 m2 FB1
          go_wp2_with fail
          refine (subset9 _ _ nT nT nS nS R1 R2 w2 (by omega) (by omega) r1' r2 s1 s2).mono ?_
          rintro e w3 ⟨rb, q, rfl, rfl, hrb⟩
          have HR1 : Hid (rb = true ↔ ∀ k, k < nT → Mem nS S (T k)) := hrb.trans (all_iff M1.out M2.out)
          clear hrb r1' r2 s1 s2 M1 M2
          have FB3 : Hid (Below w'.heap.size w' (w2.drewN q)) := below_drewN FB2.out q
          cases rb
          · rcases hacc.out with ⟨hA, rfl⟩ | ⟨hA, p, rfl⟩
            · have := HR1.out.2 hA.1
              simp at this
            · go_wp2
              go_ret
              exact ⟨rfl, FB3.out⟩
          have RS3 := RS2.drewN q
          have RC3 := RC2.drewN q
          have RT3 := RT2.drewN q
          have RM3 := RM2.drewN q
          clear RS2 RC2 RT2 RM2 FB2
          go_wp2_with fail
          refine (sorted1 xS nS kS S _ (by omega) RS3).mono ?_
          rintro e w4 ⟨rfl, b4, R3, r3, s3, m3⟩
          have FB4 : Hid (Below w'.heap.size w' w4) := FB3.out.trans (b4.mono FB3.out.size)
          have RC4 := RC3.below b4
          have RT4 := RT3.below b4
          have RM4 := RM3.below b4
          have M3 : Hid (∀ y, Mem nS R3 y ↔ Mem nS S y) := m3
          clear RS3 RC3 RT3 RM3 b4 m3 FB3
          go_wp2_with fail
          refine (sorted10 xC xT xM nC kC nT kT nM kM C T M _ (by omega) RC4 RT4 RM4).mono ?_
          rintro e w5 ⟨rfl, b5, R4, r4, s4, m4⟩
          have FB5 : Hid (Below w'.heap.size w' w5) := FB4.out.trans (b5.mono FB4.out.size)
          have r3' := r3.below b5
          have M4 : Hid (∀ y, Mem (nC + nT + nM) R4 y ↔ Mem nC C y ∨ Mem nT T y ∨ Mem nM M y) := m4
          clear RC4 RT4 RM4 b5 m4 FB4 r3
          go_wp2_with fail
          refine (subset9 _ _ nS nS (nC + nT + nM) (nC + nT + nM) R3 R4 w5 (by omega) (by omega) r3' r4 s3 s4).mono ?_
          rintro e w6 ⟨rc, q2, rfl, rfl, hrc⟩
          have HR2 : Hid (rc = true ↔ ∀ k, k < nS → (Mem nC C (S k) ∨ Mem nT T (S k) ∨ Mem nM M (S k))) := hrc.trans (all_iff (Q := fun s => Mem nC C s ∨ Mem nT T s ∨ Mem nM M s) M3.out M4.out)
          have FB6 : Hid (Below w'.heap.size w' (w5.drewN q2)) := below_drewN FB5.out q2
          clear hrc r3' r4 s3 s4 M3 M4 FB5
          rcases hacc.out with ⟨hA, rfl⟩ | ⟨hA, p, rfl⟩
          · have e : rc = true := HR2.out.2 hA.2
            subst e
            clear hacc hA HR1 HR2
            go_wp2
            go_ret
            exact ⟨rfl, FB6.out⟩
          · have e : rc = false := by
              cases rc
              · rfl
              · exact absurd ⟨HR1.out.1 trivial, HR2.out.1 rfl⟩ hA
            subst e
            clear hacc hA HR1 HR2
            go_wp2
            go_ret
            exact ⟨rfl, FB6.out⟩
end Go.Proofs.Qxb6613513aFmt
