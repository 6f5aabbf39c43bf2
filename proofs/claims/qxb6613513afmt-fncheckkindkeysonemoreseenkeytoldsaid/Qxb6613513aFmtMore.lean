/-
  FnCheckKindKeysOneMoreSeenKey: the walk.
-/
import Derived.Test.Qxb6613513aFmtBytes
import Derived.Test.Qxb6613513aFmtPlain
import Derived.Deep.DeepCutAuto
import Derived.BigQuiet
import Derived.Deep.QuietTactic
namespace Go.Proofs.Qxb6613513aFmt
open Go.RowKit Go.Extern.Stop Go.Stop Go.Extern

/-- the law answers true and turns nothing that was there -/
def Law (w : World) (e : Ending) (w' : World) : Prop := e = .returned (.bool true) ∧ Below w.heap.size w w'

/-- what a slice and the others are worth while the copies are made -/
def Copies (w0 : World) (aS aC aT aM : Option Addr) (nS nC nT nM : Nat) (S C T M : Nat → ByteArray) (wr : World) : Prop :=
  Below w0.heap.size w0 wr ∧ StrRow wr aS nS S ∧ StrRow wr aC nC C ∧ StrRow wr aT nT T ∧ StrRow wr aM nM M

theorem Copies.s {w0 wr : World} {aS aC aT aM : Option Addr} {nS nC nT nM : Nat} {S C T M : Nat → ByteArray} (h : Copies w0 aS aC aT aM nS nC nT nM S C T M wr) :
    Copies w0 (some ⟨wr.heap.size, 0, none⟩) aC aT aM nS nC nT nM S C T M (wr.alloc (.cells (rowS nS S) 9)) :=
  have hb : Below wr.heap.size wr (wr.alloc (.cells (rowS nS S) 9)) := (Below.refl _ _).alloc (Nat.le_refl _) _
  ⟨h.1.alloc h.1.size _, row_new _ _ _, h.2.2.1.below hb, h.2.2.2.1.below hb, h.2.2.2.2.below hb⟩
theorem Copies.c {w0 wr : World} {aS aC aT aM : Option Addr} {nS nC nT nM : Nat} {S C T M : Nat → ByteArray} (h : Copies w0 aS aC aT aM nS nC nT nM S C T M wr) :
    Copies w0 aS (some ⟨wr.heap.size, 0, none⟩) aT aM nS nC nT nM S C T M (wr.alloc (.cells (rowS nC C) 9)) :=
  have hb : Below wr.heap.size wr (wr.alloc (.cells (rowS nC C) 9)) := (Below.refl _ _).alloc (Nat.le_refl _) _
  ⟨h.1.alloc h.1.size _, h.2.1.below hb, row_new _ _ _, h.2.2.2.1.below hb, h.2.2.2.2.below hb⟩
theorem Copies.t {w0 wr : World} {aS aC aT aM : Option Addr} {nS nC nT nM : Nat} {S C T M : Nat → ByteArray} (h : Copies w0 aS aC aT aM nS nC nT nM S C T M wr) :
    Copies w0 aS aC (some ⟨wr.heap.size, 0, none⟩) aM nS nC nT nM S C T M (wr.alloc (.cells (rowS nT T) 9)) :=
  have hb : Below wr.heap.size wr (wr.alloc (.cells (rowS nT T) 9)) := (Below.refl _ _).alloc (Nat.le_refl _) _
  ⟨h.1.alloc h.1.size _, h.2.1.below hb, h.2.2.1.below hb, row_new _ _ _, h.2.2.2.2.below hb⟩
theorem Copies.m {w0 wr : World} {aS aC aT aM : Option Addr} {nS nC nT nM : Nat} {S C T M : Nat → ByteArray} (h : Copies w0 aS aC aT aM nS nC nT nM S C T M wr) :
    Copies w0 aS aC aT (some ⟨wr.heap.size, 0, none⟩) nS nC nT nM S C T M (wr.alloc (.cells (rowS nM M) 9)) :=
  have hb : Below wr.heap.size wr (wr.alloc (.cells (rowS nM M) 9)) := (Below.refl _ _).alloc (Nat.le_refl _) _
  ⟨h.1.alloc h.1.size _, h.2.1.below hb, h.2.2.1.below hb, h.2.2.2.1.below hb, row_new _ _ _⟩

set_option maxRecDepth 20000 in
set_option maxHeartbeats 4000000 in
theorem more (F : Interp) (aS aC aT aM : Option Addr) (nS cS nC cC nT cT nM cM : Nat) (S C T M : Nat → ByteArray) (noun x : ByteArray) (p : Int) (w : World) (hF : F.answers w.tape)
    (bS : nS ≤ maxLen) (bC : nC ≤ maxLen) (bT : nT ≤ maxLen) (bM : nM ≤ maxLen)
    (hS : StrRow w aS nS S) (hC : StrRow w aC nC C) (hT : StrRow w aT nT T) (hM : StrRow w aM nM M)
    (sS : ∀ i, i < nS → (S i).size ≤ maxLen) (sC : ∀ i, i < nC → (C i).size ≤ maxLen) (sT : ∀ i, i < nT → (T i).size ≤ maxLen) (sM : ∀ i, i < nM → (M i).size ≤ maxLen) (hnoun : noun.size ≤ maxLen) (hx : x.size ≤ maxLen) :
    Calls Tryf.prog 4 #[.slice aS nS cS, .slice aC nC cC, .slice aT nT cT, .slice aM nM cM, .string noun, .string x, .int .i64 p] w (Law w) := by
  go_enter Tryf.func4, Tryf.ntmps4
  go_wp2_with fail
  refine (bytes11 aS aC aT aM nS cS nC cC nT cT nM cM S C T M noun x p w bS bC bT bM hS hC hT hM sS sC sT sM hnoun hx).mono ?_
  rintro e w' ⟨r, rfl, rfl, _⟩
  cases r
  · go_wp2
    go_ret
    exact ⟨rfl, Below.refl _ _⟩
  by_cases h1 : 4096 < nS
  · go_wp2
    go_ret
    exact ⟨rfl, Below.refl _ _⟩
  by_cases h2 : 4096 < nC
  · go_wp2
    go_ret
    exact ⟨rfl, Below.refl _ _⟩
  by_cases h3 : 4096 < nT
  · go_wp2
    go_ret
    exact ⟨rfl, Below.refl _ _⟩
  by_cases h4 : 4096 < nM
  · go_wp2
    go_ret
    exact ⟨rfl, Below.refl _ _⟩
  by_cases h5 : 1048576 < noun.size
  · go_wp2
    go_ret
    exact ⟨rfl, Below.refl _ _⟩
  by_cases h6 : 1048576 < x.size
  · go_wp2
    go_ret
    exact ⟨rfl, Below.refl _ _⟩
  have hneq := fun (w : World) (a : Option Addr) (n c : Nat) => run_neq_slice_nil_any (P := Tryf.prog) w 22 9 a n c 0 0 Tryf.underlying22
  have H0 : Hid (Copies w' aS aC aT aM nS nC nT nM S C T M w') := ⟨Below.refl _ _, hS, hC, hT, hM⟩
  clear hS hC hT hM
  go_upto_if 63 with (fail)
  go_cut [0] from 25 to 70 (fun s0 wr => ∃ a cap, s0 = .slice a nS cap ∧ Hid (Copies w' a aC aT aM nS nC nT nM S C T M wr))
  case first =>
    cases aS with
    | none =>
      go_wp2
      go_meet
      case rel => exact ⟨none, cS, rfl, H0⟩
    | some ad =>
      have hmk := make22 nS (by omega)
      have hcp := fun ty => copy22 ty ad nS cS S w' H0.out.2.1
      go_wp2
      go_meet
      case rel => exact ⟨_, _, rfl, H0.out.s⟩
  case rest =>
    obtain ⟨xS, kS, rfl, HS⟩ := hcut
    have WS : Hid (w'.heap.size ≤ wc.heap.size) := HS.out.1.size
    go_upto_if 72 with (fail)
    go_cut [1] from 25 to 79 (fun s0 wr => ∃ a cap, s0 = .slice a nC cap ∧ Hid (Copies w' xS a aT aM nS nC nT nM S C T M wr))
    case first =>
      cases aC with
      | none =>
        go_wp2
        go_meet
        case rel => exact ⟨none, cC, rfl, HS⟩
      | some ad =>
        have hmk := make22 nC (by omega)
        have hcp := fun ty => copy22 ty ad nC cC C wc HS.out.2.2.1
        go_wp2
        go_meet
        case rel => exact ⟨_, _, rfl, HS.out.c⟩
    case rest =>
      obtain ⟨xC, kC, rfl, HC⟩ := hcut
      have WC : Hid (w'.heap.size ≤ wc.heap.size) := HC.out.1.size
      go_upto_if 81 with (fail)
      go_cut [2] from 25 to 88 (fun s0 wr => ∃ a cap, s0 = .slice a nT cap ∧ Hid (Copies w' xS xC a aM nS nC nT nM S C T M wr))
      case first =>
        cases aT with
        | none =>
          go_wp2
          go_meet
          case rel => exact ⟨none, cT, rfl, HC⟩
        | some ad =>
          have hmk := make22 nT (by omega)
          have hcp := fun ty => copy22 ty ad nT cT T wc HC.out.2.2.2.1
          go_wp2
          go_meet
          case rel => exact ⟨_, _, rfl, HC.out.t⟩
      case rest =>
        obtain ⟨xT, kT, rfl, HT⟩ := hcut
        have WT : Hid (w'.heap.size ≤ wc.heap.size) := HT.out.1.size
        go_upto_if 90 with (fail)
        go_cut [3] from 25 to 97 (fun s0 wr => ∃ a cap, s0 = .slice a nM cap ∧ Hid (Copies w' xS xC xT a nS nC nT nM S C T M wr))
        case first =>
          cases aM with
          | none =>
            go_wp2
            go_meet
            case rel => exact ⟨none, cM, rfl, HT⟩
          | some ad =>
            have hmk := make22 nM (by omega)
            have hcp := fun ty => copy22 ty ad nM cM M wc HT.out.2.2.2.2
            go_wp2
            go_meet
            case rel => exact ⟨_, _, rfl, HT.out.m⟩
        case rest =>
          obtain ⟨xM, kM, rfl, HM⟩ := hcut
          have WM : Hid (w'.heap.size ≤ wc.heap.size) := HM.out.1.size
          clear H0 HS HC HT WS WC WT hneq
          unfold maxLen at sS sC sT sM hnoun hx
          go_wp2_with fail
          refine (addBytes xS nS kS S _ wc (by omega) (by omega) (by omega) HM.out.2.1 sS).mono ?_
          rintro e wx ⟨z1, rfl, rfl, y1, y2⟩
          go_wp2_with fail
          refine (addBytes xC nC kC C z1 _ (by omega) (by omega) (by omega) HM.out.2.2.1 sC).mono ?_
          rintro e wx ⟨z2, rfl, rfl, y3, y4⟩
          go_wp2_with fail
          refine (addBytes xT nT kT T z2 _ (by omega) (by omega) (by omega) HM.out.2.2.2.1 sT).mono ?_
          rintro e wx ⟨z3, rfl, rfl, y5, y6⟩
          go_wp2_with fail
          refine (addBytes xM nM kM M z3 _ (by omega) (by omega) (by omega) HM.out.2.2.2.2 sM).mono ?_
          rintro e wx ⟨z4, rfl, rfl, y7, y8⟩
          by_cases hz : 1048576 < z4
          · go_wp2
            go_ret
            exact ⟨rfl, HM.out.1⟩
          by_cases hp0 : p < 0
          · go_wp2
            go_ret
            exact ⟨rfl, HM.out.1⟩
          by_cases hp1 : (nS : Int) < p
          · go_wp2
            go_ret
            exact ⟨rfl, HM.out.1⟩
          obtain ⟨q, rfl⟩ : ∃ q : Nat, p = q := ⟨p.toNat, by omega⟩
          go_wp2_with fail
          refine (contains12' xT nT kT T x _ (by omega) HM.out.2.2.2.1).mono ?_
          rintro e wx ⟨rfl, rfl⟩
          cases hmt : memB nT T x
          rotate_left
          · go_wp2
            go_ret
            exact ⟨rfl, HM.out.1⟩
          have hnot : Hid (¬ Mem nT T x) := fun h => by rw [(memB_iff nT T x).2 h] at hmt; simp at hmt
          clear hz hp0 y1 y2 y3 y4 y5 y6 y7 y8
          have hmk := make0 (nS + 1) ((nS : Int) + 1) (by omega) (by omega)
          have G0 : Hid (Grows wx.heap.size (nS + 1) 0 (ins S x q) (wx.alloc (.cells (blankS (nS + 1)) 9)) ∧ Below wx.heap.size wx (wx.alloc (.cells (blankS (nS + 1)) 9))) := ⟨Grows.start _ _ _, (Below.refl _ _).alloc (Nat.le_refl _) _⟩
          go_wp2
          go_loopw [20, 21] (fun v i wr => ∃ k : Nat, k ≤ q ∧ i = .int .i64 k ∧ v = .slice (some ⟨wx.heap.size, 0, none⟩) k (nS + 1) ∧ Hid (Grows wx.heap.size (nS + 1) k (ins S x q) wr ∧ Below wx.heap.size wx wr)) (fun _ i _ => q - (intOf i).toNat)
          case atStart => exact ⟨0, Nat.zero_le _, rfl, rfl, G0⟩
          case round =>
            obtain ⟨k, hk, rfl, rfl, GK⟩ := hrel
            clear hmk G0
            by_cases hlt : k < q
            · obtain ⟨b, off, rfl, hb, hc⟩ := HM.out.2.1 k (by omega)
              have hc' : wr.cell? ⟨b, off + k, none⟩ = some (.string (S k)) := cell_later GK.out.2 hc
              obtain ⟨w1, happ, g1, g2⟩ := GK.out.1.append (by omega) (S k) (by simp [ins, hlt])
              have GN : Hid (Grows wx.heap.size (nS + 1) (k + 1) (ins S x q) w1 ∧ Below wx.heap.size wx w1) := ⟨g1, GK.out.2.trans g2⟩
              clear GK g1 g2 hc
              go_wp2_with (first | (at_builtin; refine wpList_append_run rfl _ _ 22 rfl _ _ _ _ rfl rfl happ ?_) | go_in)
              go_roundw
              case rel => exact ⟨k + 1, by omega, by go_num, rfl, GN⟩
              case measure => simp [intOf]; omega
            · have e : k = q := by omega
              subst e
              obtain ⟨w1, happ, g1, g2⟩ := GK.out.1.append (by omega) x (by simp [ins])
              have GN : Hid (Grows wx.heap.size (nS + 1) (k + 1) (ins S x k) w1 ∧ Below wx.heap.size wx w1) := ⟨g1, GK.out.2.trans g2⟩
              clear GK g1 g2
              go_wp2_with (first | (at_builtin; refine wpList_append_run rfl _ _ 22 rfl _ _ _ _ rfl rfl happ ?_) | go_in)
              go_loopw [20, 22] (fun v i wr => ∃ m : Nat, k ≤ m ∧ m ≤ nS ∧ i = .int .i64 m ∧ v = .slice (some ⟨wx.heap.size, 0, none⟩) (m + 1) (nS + 1) ∧ Hid (Grows wx.heap.size (nS + 1) (m + 1) (ins S x k) wr ∧ Below wx.heap.size wx wr)) (fun _ i _ => nS - (intOf i).toNat)
              case atStart => exact ⟨k, by omega, by omega, rfl, rfl, GN⟩
              case round =>
                obtain ⟨m, hkm, hmn, rfl, rfl, GK⟩ := hrel
                clear happ GN
                by_cases hmt : m < nS
                · obtain ⟨b, off, rfl, hb, hc⟩ := HM.out.2.1 m (by omega)
                  have hc' : wr.cell? ⟨b, off + m, none⟩ = some (.string (S m)) := cell_later GK.out.2 hc
                  obtain ⟨w2, happ, g1, g2⟩ := GK.out.1.append (by omega) (S m) (by unfold ins; rw [if_neg (by omega), if_neg (by omega)]; rfl)
                  have GN : Hid (Grows wx.heap.size (nS + 1) (m + 1 + 1) (ins S x k) w2 ∧ Below wx.heap.size wx w2) := ⟨g1, GK.out.2.trans g2⟩
                  clear GK g1 g2 hc
                  go_wp2_with (first | (at_builtin; refine wpList_append_run rfl _ _ 22 rfl _ _ _ _ rfl rfl happ ?_) | go_in)
                  go_roundw
                  case rel => exact ⟨m + 1, by omega, by omega, by go_num, rfl, GN⟩
                  case measure => simp [intOf]; omega
                · have e : m = nS := by omega
                  subst e
                  obtain ⟨gR, gB⟩ := GK.out
                  have RG := gR.rowOf
                  have RS := HM.out.2.1.below gB
                  have RC := HM.out.2.2.1.below gB
                  have RT := HM.out.2.2.2.1.below gB
                  have RM := HM.out.2.2.2.2.below gB
                  have FB : Hid (Below w'.heap.size w' wr) := HM.out.1.trans (gB.mono HM.out.1.size)
                  have hFr : F.answers wr.tape := by rw [FB.out.tape]; exact hF
                  clear GK gR gB HM hmt sS sC sT sM hnoun hx
                  go_wp2_with fail
                  refine (check8 F xS xC xT xM m kS nC kC nT kT nM kM S C T M noun wr hFr (by omega) (by omega) (by omega) (by omega) RS RC RT RM).mono ?_
                  intro e wy hy
                  obtain ⟨by1, hy2⟩ := hy
                  have hFy : F.answers wy.tape := by rw [by1.tape]; exact hFr
                  have RGy := RG.below by1
                  have RCy := RC.below by1
                  have RTy := RT.below by1
                  have RMy := RM.below by1
                  have FBy : Hid (Below w'.heap.size w' wy) := FB.out.trans (by1.mono FB.out.size)
                  clear RG RS RC RT RM FB by1 hFr
                  have LAW : Hid (Acc (m + 1) (ins S x k) nC C nT T nM M ↔ Acc m S nC C nT T nM M ∧ (Mem nC C x ∨ Mem nM M x)) := acc_ins m S nC C nT T nM M x k hkm hnot.out
                  have CK := fun (HH : StrRow wy (some ⟨wx.heap.size, 0, none⟩) (m + 1) (ins S x k)) => check8 F (some ⟨wx.heap.size, 0, none⟩) xC xT xM (m + 1) (m + 1) nC kC nT kT nM kM (ins S x k) C T M noun wy hFy (by omega) (by omega) (by omega) (by omega) HH RCy RTy RMy
                  rcases hy2 with ⟨hA, rfl⟩ | ⟨hA, pv, rfl⟩
                  · go_wp2_with fail
                    refine (CK RGy).mono ?_
                    intro e wz hz
                    obtain ⟨bz1, hz2⟩ := hz
                    have FBz : Hid (Below w'.heap.size w' wz) := FBy.out.trans (bz1.mono FBy.out.size)
                    have RCz := RCy.below bz1
                    have RMz := RMy.below bz1
                    clear CK RGy RCy RTy RMy bz1
                    rcases hz2 with ⟨hB, rfl⟩ | ⟨hB, pz, rfl⟩
                    · have hor := (LAW.out.1 hB).2
                      cases hc1 : memB nC C x
                      · have hm1 : memB nM M x = true := by
                          rcases hor with h | h
                          · rw [(memB_iff nC C x).2 h] at hc1; simp at hc1
                          · exact (memB_iff nM M x).2 h
                        have HC1 : Hid (memB nC C x = false) := hc1
                        have HM1 : Hid (memB nM M x = true) := hm1
                        clear hc1 hm1 hor hB hA LAW
                        go_wp2
                        go_quiet (first | (go_at_call_of 12 (Value.slice xC nC kC); exact Calls.quiet_of_same (contains12r false xC nC kC C x _ (by omega) HC1 (RCz.drewN _))) | (go_at_call_of 12 (Value.slice xM nM kM); exact Calls.quiet_of_same (contains12r true xM nM kM M x _ (by omega) HM1 (RMz.drewN _))))
                        go_wp2
                        go_ret
                        exact ⟨rfl, below_drewN FBz.out _⟩
                      · have HC1 : Hid (memB nC C x = true) := hc1
                        clear hc1 hor hB hA LAW
                        go_wp2
                        go_quiet (first | (go_at_call_of 12 (Value.slice xC nC kC); exact Calls.quiet_of_same (contains12r true xC nC kC C x _ (by omega) HC1 (RCz.drewN _))))
                        go_wp2
                        go_ret
                        exact ⟨rfl, below_drewN FBz.out _⟩
                    · have hc1 : memB nC C x = false := by
                        cases h : memB nC C x
                        · rfl
                        · exact absurd (LAW.out.2 ⟨hA, Or.inl ((memB_iff nC C x).1 h)⟩) hB
                      have hm1 : memB nM M x = false := by
                        cases h : memB nM M x
                        · rfl
                        · exact absurd (LAW.out.2 ⟨hA, Or.inr ((memB_iff nM M x).1 h)⟩) hB
                      have HC1 : Hid (memB nC C x = false) := hc1
                      have HM1 : Hid (memB nM M x = false) := hm1
                      clear hc1 hm1 hB hA LAW
                      go_wp2
                      go_quiet (first | (go_at_call_of 12 (Value.slice xC nC kC); exact Calls.quiet_of_same (contains12r false xC nC kC C x _ (by omega) HC1 (RCz.drewN _))) | (go_at_call_of 12 (Value.slice xM nM kM); exact Calls.quiet_of_same (contains12r false xM nM kM M x _ (by omega) HM1 (RMz.drewN _))))
                      go_wp2
                      go_ret
                      exact ⟨rfl, below_drewN FBz.out _⟩
                  · go_wp2_with fail
                    refine (CK RGy).mono ?_
                    intro e wz hz
                    obtain ⟨bz1, hz2⟩ := hz
                    have FBz : Hid (Below w'.heap.size w' wz) := FBy.out.trans (bz1.mono FBy.out.size)
                    clear CK RGy RCy RTy RMy bz1
                    rcases hz2 with ⟨hB, rfl⟩ | ⟨hB, pz, rfl⟩
                    · exact absurd (LAW.out.1 hB).1 hA
                    · clear hB hA LAW
                      go_wp2
                      go_quiet (fail)
                      go_wp2
                      go_ret
                      exact ⟨rfl, below_drewN FBz.out _⟩
end Go.Proofs.Qxb6613513aFmt
