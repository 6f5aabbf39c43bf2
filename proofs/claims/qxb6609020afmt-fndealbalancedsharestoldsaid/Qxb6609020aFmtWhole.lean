/-
  FnDealWholeAnswer: the walk.
-/
import Derived.Test.Qxb6609020aFmtDeal
namespace Go.Proofs.Qxb6609020aFmt
open Go.RowKit Go.Extern.Stop Go.Stop Go.Extern

/-- a copy comes back: nil of nil, else n strings in new memory -/
def ClonedAny (n : Nat) (S : Nat → ByteArray) (w : World) (e : Ending) (w' : World) : Prop :=
  ∃ a1 cap1, e = .returned (.slice a1 n cap1) ∧ (a1 = none → n = 0 ∧ cap1 = 0) ∧ StrRow w' a1 n S ∧ Below w.heap.size w w'

theorem clone_any (a : Option Addr) (n cap : Nat) (S : Nat → ByteArray) (w : World) (hn : n ≤ 1048576) (hnil : a = none → n = 0 ∧ cap = 0) (hr : StrRow w a n S) :
    Calls Tryf.prog 7 #[.slice a n cap] w (ClonedAny n S w) := by
  cases a with
  | none =>
    obtain ⟨rfl, rfl⟩ := hnil rfl
    refine (clone_nil w).mono ?_
    rintro e w' ⟨rfl, rfl⟩
    exact ⟨none, 0, rfl, fun _ => ⟨rfl, rfl⟩, hr, Below.refl _ _⟩
  | some ad =>
    refine (clone_some ad n cap S w hn hr).mono ?_
    rintro e w' ⟨rfl, hb, _, C, hB, hC⟩
    exact ⟨_, _, rfl, fun h => by simp at h, hC.strRow hB, hb⟩

/-- the law answers true and turns nothing that was there -/
def Law (w : World) (e : Ending) (w' : World) : Prop := e = .returned (.bool true) ∧ Below w.heap.size w w'

/-- what holds of the world from the deal on -/
def Inv (w0 : World) (a1 a2 : Option Addr) (n h D : Nat) (M : Array Value) (S : Nat → ByteArray) (wr : World) : Prop :=
  Below w0.heap.size w0 wr ∧ Blk wr D 31 M ∧ StrRow wr a1 n S ∧ StrRow wr a2 n S ∧ ∀ i, i < 4096 → wr.cell? ⟨h, i, none⟩ = some (.int .u8 ((i % n : Nat) : Int))

theorem Inv.drewN {w0 : World} {a1 a2 : Option Addr} {n h D : Nat} {M : Array Value} {S : Nat → ByteArray} {wr : World} (I : Inv w0 a1 a2 n h D M S wr) (q : Nat) : Inv w0 a1 a2 n h D M S (wr.drewN q) :=
  ⟨below_drewN I.1 q, I.2.1, I.2.2.1.below (below_drewN (Below.refl _ _) q), I.2.2.2.1.below (below_drewN (Below.refl _ _) q), I.2.2.2.2⟩

theorem Inv.start {w0 w3 : World} {a1 a2 : Option Addr} {n h : Nat} {M : Array Value} {S : Nat → ByteArray} (hb : Below w0.heap.size w0 w3) (h1 : StrRow w3 a1 n S) (h2 : StrRow w3 a2 n S)
    (hs : ∀ i, i < 4096 → w3.cell? ⟨h, i, none⟩ = some (.int .u8 ((i % n : Nat) : Int))) : Inv w0 a1 a2 n h w3.heap.size M S (w3.alloc (.cells M 31)) :=
  ⟨hb.alloc hb.size _, Blk.new _ _ _, h1.below ((Below.refl _ _).alloc (Nat.le_refl _) _), h2.below ((Below.refl _ _).alloc (Nat.le_refl _) _), fun i hi => cell_later ((Below.refl _ _).alloc (Nat.le_refl _) _) (hs i hi)⟩

set_option maxRecDepth 20000 in
set_option maxHeartbeats 4000000 in
theorem whole (F : Interp) (a : Option Addr) (n cap : Nat) (S : Nat → ByteArray) (w : World) (hF : F.answers w.tape) (hn : n ≤ maxLen) (hnil : a = none → n = 0 ∧ cap = 0) (hr : StrRow w a n S) (hs : ∀ i, i < n → (S i).size ≤ maxLen) :
    Calls Tryf.prog 3 #[.slice a n cap] w (Law w) := by
  go_enter Tryf.func3, Tryf.ntmps3
  go_wp2_with fail
  refine (bytes5 a n cap S w hn hr hs).mono ?_
  rintro e w' ⟨r, rfl, rfl, hrb⟩
  cases r
  · go_wp2
    go_ret
    exact ⟨rfl, Below.refl _ _⟩
  have hn' : n ≤ 1048576 := hrb rfl
  clear hrb
  go_wp2_with fail
  refine (strBytes a n cap S _ hn hr hs).mono ?_
  rintro e w' ⟨t, rfl, rfl, _⟩
  by_cases ht : 1048576 < t
  · go_wp2
    go_ret
    exact ⟨rfl, Below.refl _ _⟩
  go_wp2_with fail
  refine (clone_any a n cap S _ hn' hnil hr).mono ?_
  rintro e w1 ⟨a1, cap1, rfl, hnil1, hr1, hb1⟩
  have B1 : Hid (Below w'.heap.size w' w1) := hb1
  clear hb1 hnil hr
  go_wp2_with fail
  refine (clone_any a1 n cap1 S _ hn' hnil1 hr1).mono ?_
  rintro e w2 ⟨a2, cap2, rfl, hnil2, hr2, hb2⟩
  have hr1' := hr1.below hb2
  have B2 : Hid (Below w'.heap.size w' w2) := B1.out.trans (hb2.mono B1.out.size)
  clear hb2 hr1 hnil1
  go_wp2_with fail
  refine (distinct a1 n cap1 S _ hn' hr1').mono ?_
  rintro e w3 ⟨r, q, rfl, rfl, hfit⟩
  go_wp2_with fail
  have hF2 : F.answers (w2.drewN q).tape := by rw [show (w2.drewN q).tape = w2.tape from rfl, B2.out.tape]; exact hF
  have hr2' : StrRow (w2.drewN q) a2 n S := hr2.below (below_drewN (Below.refl _ _) q)
  have hr1'' : StrRow (w2.drewN q) a1 n S := hr1'.below (below_drewN (Below.refl _ _) q)
  have B3 : Hid (Below w'.heap.size w' (w2.drewN q)) := below_drewN B2.out q
  have hq22 := fun (w : World) (a : Option Addr) (n c : Nat) => Lib.run_eql_slice_nil (P := Tryf.prog) w 22 9 a n c 0 0 Tryf.underlying22
  have hq26 := fun (w : World) (a : Option Addr) (n c : Nat) => Lib.run_eql_slice_nil (P := Tryf.prog) w 26 5 a n c 0 0 Tryf.underlying26
  have hq27 := fun (w : World) (r : Option Nat) => run_eql_map_nil (P := Tryf.prog) w 27 9 4 r Tryf.underlying27
  clear hr1' hr2 hnil2
  refine (deal F a2 n cap2 S _ hF2 hn' hr2' hs).mono ?_
  rintro e w3 ⟨hb3, ⟨hf, hsz, rfl, hsh⟩ | ⟨hnf, p, rfl⟩⟩
  rotate_left
  · have hr : r = false := by
      cases r
      · rfl
      · exact absurd (hfit.1 rfl) hnf
    subst hr
    have B4 : Hid (Below w'.heap.size w' w3) := B3.out.trans (hb3.mono B3.out.size)
    clear hb3 hr1'' hr2'
    go_wp2
    go_ret
    exact ⟨rfl, B4.out.alloc B4.out.size _⟩
  · have hr : r = true := hfit.2 hf
    subst hr
    have B4 : Hid (Below w'.heap.size w' w3) := B3.out.trans (hb3.mono B3.out.size)
    have hra := hr1''.below hb3
    have hrb := hr2'.below hb3
    have H0 : Hid (Inv w' a1 a2 n (w2.heap.size + 1) w3.heap.size #[.slice a2 n cap2, .slice (some ⟨w2.heap.size + 1, 0, none⟩) 4096 4096, .map none, .int .u64 0, .int .u8 2] S _) := Inv.start B4.out hra hrb hsh
    have HF : Hid (Fits n S) := hf
    clear hb3 hr1'' hr2' hra hrb hsh B1 B2 B3 B4 hsz hF2 hfit hf
    go_wp2
    go_loopw [7] (fun i wr => ∃ k : Nat, k ≤ n ∧ i = .int .i64 k ∧ Hid (Inv w' a1 a2 n (w2.heap.size + 1) w3.heap.size #[.slice a2 n cap2, .slice (some ⟨w2.heap.size + 1, 0, none⟩) 4096 4096, .map none, .int .u64 0, .int .u8 2] S wr)) (fun i _ => n - (intOf i).toNat)
    case atStart => exact ⟨0, Nat.zero_le _, rfl, H0⟩
    case round =>
      obtain ⟨k, hk, rfl, H⟩ := hrel
      clear H0
      by_cases hlt : k < n
      · have I := H.out
        have m0 : wr.cell? ⟨w3.heap.size, 0, none⟩ = some (.slice a2 n cap2) := by rw [I.2.1.cell]; rfl
        obtain ⟨b1, o1, rfl, _, hc1⟩ := I.2.2.1 k hlt
        obtain ⟨b2, o2, rfl, _, hc2⟩ := I.2.2.2.1 k hlt
        clear I
        go_wp2
        go_quiet (fail)
        go_wp2
        go_roundw
        case rel => exact ⟨k + 1, by omega, by go_num, H.out.drewN _⟩
        case measure => simp [intOf]; omega
      · go_wp2
        go_loopw [9] (fun i wr => ∃ k : Nat, k ≤ 4096 ∧ i = .int .i64 k ∧ Hid (Inv w' a1 a2 n (w2.heap.size + 1) w3.heap.size #[.slice a2 n cap2, .slice (some ⟨w2.heap.size + 1, 0, none⟩) 4096 4096, .map none, .int .u64 0, .int .u8 2] S wr)) (fun i _ => 4096 - (intOf i).toNat)
        case atStart => exact ⟨0, Nat.zero_le _, rfl, H⟩
        case round =>
          clear H
          obtain ⟨m, hm, rfl, H⟩ := hrel
          by_cases hmt : m < 4096
          · have I := H.out
            have m1 : wr.cell? ⟨w3.heap.size, 1, none⟩ = some (.slice (some ⟨w2.heap.size + 1, 0, none⟩) 4096 4096) := by rw [I.2.1.cell]; rfl
            by_cases hmn : m < n
            · have hcm := I.2.2.2.2 m hmt
              rw [Nat.mod_eq_of_lt hmn] at hcm
              clear I
              go_wp2
              go_roundw
              case rel => exact ⟨m + 1, by omega, by go_num, H⟩
              case measure => simp [intOf]; omega
            · have hcm := I.2.2.2.2 m hmt
              have hcd := I.2.2.2.2 (m - n) (by omega)
              have hmod : m % n = (m - n) % n := Nat.mod_eq_sub_mod (by omega)
              rw [hmod] at hcm
              clear I hmod
              go_wp2
              go_quiet (fail)
              go_wp2
              go_roundw
              case rel => exact ⟨m + 1, by omega, by go_num, H.out.drewN _⟩
              case measure => simp [intOf]; omega
          · have I := H.out
            have c0 : wr.cell? ⟨w3.heap.size, 0, none⟩ = some (.slice a2 n cap2) := by rw [I.2.1.cell]; rfl
            have c1 : wr.cell? ⟨w3.heap.size, 1, none⟩ = some (.slice (some ⟨w2.heap.size + 1, 0, none⟩) 4096 4096) := by rw [I.2.1.cell]; rfl
            have c2 : wr.cell? ⟨w3.heap.size, 2, none⟩ = some (.map none) := by rw [I.2.1.cell]; rfl
            have c3 : wr.cell? ⟨w3.heap.size, 3, none⟩ = some (.int .u64 0) := by rw [I.2.1.cell]; rfl
            have c4 : wr.cell? ⟨w3.heap.size, 4, none⟩ = some (.int .u8 2) := by rw [I.2.1.cell]; rfl
            have hFr : F.answers wr.tape := by rw [I.1.tape]; exact hF
            clear I
            go_wp2_with fail
            refine (check_main F a2 n cap2 (w2.heap.size + 1) S wr hFr HF.out.1 HF.out.2.1 H.out.2.2.2.1 hs H.out.2.2.2.2).mono ?_
            rintro e w5 ⟨hb5, ⟨_, rfl⟩ | ⟨hnf, p, rfl⟩⟩
            · go_wp2
              go_ret
              exact ⟨rfl, H.out.1.trans (hb5.mono H.out.1.size)⟩
            · exact absurd HF.out hnf
end Go.Proofs.Qxb6609020aFmt
