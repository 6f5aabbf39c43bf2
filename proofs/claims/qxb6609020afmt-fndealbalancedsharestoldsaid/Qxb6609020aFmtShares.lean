/-
  FnDealBalancedShares: the walk.
-/
import Derived.Test.Qxb6609020aFmtWhole
namespace Go.Proofs.Qxb6609020aFmt
open Go.RowKit Go.Extern.Stop Go.Stop Go.Extern

/-! ### plain: how many of 0 .. k-1 leave p by n -/
def share (n k p : Nat) : Nat := if p < n then k / n + (if p < k % n then 1 else 0) else 0

theorem share_zero (n p : Nat) : share n 0 p = 0 := by simp [share]

theorem share_succ (n k p : Nat) (hn : 0 < n) : share n (k + 1) p = share n k p + (if p = k % n then 1 else 0) := by
  have hr : k % n < n := Nat.mod_lt _ hn
  have hk : k = n * (k / n) + k % n := (Nat.div_add_mod k n).symm
  unfold share
  by_cases hp : p < n
  · rw [if_pos hp, if_pos hp]
    by_cases hl : k % n + 1 = n
    · have e : k + 1 = n * (k / n + 1) := by rw [Nat.mul_add, Nat.mul_one]; omega
      have e1 : (k + 1) / n = k / n + 1 := by rw [e, Nat.mul_div_cancel_left _ hn]
      have e2 : (k + 1) % n = 0 := by rw [e, Nat.mul_mod_right]
      rw [e1, e2]
      by_cases hpk : p = k % n
      · rw [if_neg (by omega), if_neg (by omega), if_pos hpk]
      · rw [if_neg (by omega), if_pos (by omega), if_neg hpk]
    · have e : k + 1 = n * (k / n) + (k % n + 1) := by omega
      have hd : (k % n + 1) / n = 0 := Nat.div_eq_of_lt (by omega)
      have e1 : (k + 1) / n = k / n := by rw [e, Nat.mul_add_div hn, hd]; omega
      have e2 : (k + 1) % n = k % n + 1 := by rw [e, Nat.mul_add_mod, Nat.mod_eq_of_lt (by omega)]
      rw [e1, e2]
      by_cases hpk : p = k % n
      · rw [if_pos (by omega), if_neg (by omega), if_pos hpk]
      · by_cases h : p < k % n
        · rw [if_pos (by omega), if_pos h, if_neg hpk]
        · rw [if_neg (by omega), if_neg h, if_neg hpk]
  · rw [if_neg hp, if_neg hp, if_neg (by omega)]

theorem share_le (n k p : Nat) (hn : 0 < n) : share n k p ≤ k := by
  induction k with
  | zero => simp [share]
  | succ k ih =>
    rw [share_succ n k p hn]
    split <;> omega

/-! ### the array of counts -/
def zero256 : Array Value := Array.replicate 256 (.int .i64 0)
theorem zero37 (w : World) : (zeroValue 37).run Tryf.prog w = .ok (.agg zero256) w := by kernel_rfl

/-- block E holds the shares of the first k shards -/
def Counts (E n k : Nat) (wr : World) : Prop := ∃ C, Blk wr E 37 C ∧ C.size = 256 ∧ ∀ p, p < 256 → C[p]? = some (.int .i64 (share n k p : Nat))

theorem Counts.start (n : Nat) (w : World) : Counts w.heap.size n 0 (w.alloc (.cells zero256 37)) :=
  ⟨zero256, Blk.new _ _ _, by simp [zero256], fun p hp => by rw [share_zero]; simp [zero256, hp]⟩

theorem Counts.step {E n k : Nat} {wr : World} (h : Counts E n k wr) (hn : 0 < n) : Counts E n (k + 1) (wr.setCell ⟨E, k % n, none⟩ (.int .i64 ((share n k (k % n) : Nat) + 1 : Int))) := by
  obtain ⟨C, hB, hs, hC⟩ := h
  have hr : k % n < n := Nat.mod_lt _ hn
  refine ⟨_, hB.set _ _, by simpa using hs, fun p hp => ?_⟩
  rw [share_succ n k p hn]
  by_cases e : p = k % n
  · subst e; rw [if_pos rfl]; simp [hs, hp]
  · rw [Array.getElem?_setIfInBounds_ne (fun h => e h.symm), if_neg e]; exact hC p hp

/-- what holds of the world from the deal on -/
def Inv4 (w0 : World) (a1 : Option Addr) (n h D : Nat) (M : Array Value) (S : Nat → ByteArray) (k : Nat) (wr : World) : Prop :=
  Below w0.heap.size w0 wr ∧ Blk wr D 31 M ∧ StrRow wr a1 n S ∧ (∀ i, i < 4096 → wr.cell? ⟨h, i, none⟩ = some (.int .u8 ((i % n : Nat) : Int))) ∧ Counts (D + 1) n k wr ∧ h < D ∧ w0.heap.size ≤ D ∧ ∀ i, i < n → ∃ b off, a1 = some ⟨b, off, none⟩ ∧ b < D

theorem Inv4.start {w0 w3 : World} {a1 : Option Addr} {n h : Nat} {M : Array Value} {S : Nat → ByteArray} (hb : Below w0.heap.size w0 w3) (h1 : StrRow w3 a1 n S) (hh : h < w3.heap.size)
    (hs : ∀ i, i < 4096 → w3.cell? ⟨h, i, none⟩ = some (.int .u8 ((i % n : Nat) : Int))) : Inv4 w0 a1 n h w3.heap.size M S 0 ((w3.alloc (.cells M 31)).alloc (.cells zero256 37)) := by
  have hb2 : Below w3.heap.size w3 ((w3.alloc (.cells M 31)).alloc (.cells zero256 37)) := ((Below.refl _ _).alloc (Nat.le_refl _) _).alloc (by simp) _
  refine ⟨hb.trans (hb2.mono hb.size), (Blk.new _ _ _).alloc _, h1.below hb2, fun i hi => cell_later hb2 (hs i hi), ?_, hh, hb.size, fun i hi => ?_⟩
  · have := Counts.start n (w3.alloc (.cells M 31)); simpa using this
  · obtain ⟨b, off, e, hlt, _⟩ := h1 i hi; exact ⟨b, off, e, hlt⟩

theorem Inv4.step {w0 : World} {a1 : Option Addr} {n h D : Nat} {M : Array Value} {S : Nat → ByteArray} {k : Nat} {wr : World} (I : Inv4 w0 a1 n h D M S k wr) (hn : 0 < n) :
    Inv4 w0 a1 n h D M S (k + 1) (wr.setCell ⟨D + 1, k % n, none⟩ (.int .i64 ((share n k (k % n) : Nat) + 1 : Int))) := by
  obtain ⟨hb, hM, hr, hs, hC, hh, hD, hab⟩ := I
  have hbb : Below (D + 1) wr (wr.setCell ⟨D + 1, k % n, none⟩ (.int .i64 ((share n k (k % n) : Nat) + 1 : Int))) := (Below.refl (D + 1) wr).setCell (p := ⟨D + 1, k % n, none⟩) (Nat.le_refl _) _
  refine ⟨hb.setCell (by show _ ≤ D + 1; omega) _, hM.other _ _ (by show D ≠ D + 1; omega), fun i hi => ?_, fun i hi => ?_, hC.step hn, hh, hD, hab⟩
  · obtain ⟨b, off, e, hlt, hc⟩ := hr i hi
    obtain ⟨b', off', e', hlt'⟩ := hab i hi
    rw [e] at e'
    simp only [Option.some.injEq, Addr.mk.injEq] at e'
    exact ⟨b, off, e, by simpa using hlt, (hbb.cell (p := ⟨b, off + i, none⟩) (by show b < D + 1; omega)).trans hc⟩
  · exact (hbb.cell (p := ⟨h, i, none⟩) (by show h < D + 1; omega)).trans (hs i hi)

theorem Counts.cell {E n k : Nat} {wr : World} (h : Counts E n k wr) (p : Nat) (hp : p < 256) : wr.cell? ⟨E, p, none⟩ = some (.int .i64 (share n k p : Nat)) ∧ wr.frozen? ⟨E, p, none⟩ = false := by
  obtain ⟨C, hB, _, hC⟩ := h
  exact ⟨by rw [hB.cell]; exact hC p hp, hB.frozen p⟩

theorem share_one (n p : Nat) (h : p < n) (h2 : (p : Int) < 4096 % (n : Int)) : ((share n 4096 p : Nat) : Int) = 4096 / (n : Int) + 1 := by
  have e : (4096 : Int) % (n : Int) = ((4096 % n : Nat) : Int) := by rw [Int.natCast_emod]; rfl
  have e2 : (4096 : Int) / (n : Int) = ((4096 / n : Nat) : Int) := by rw [Int.natCast_ediv]; rfl
  rw [e2]
  rw [e] at h2
  unfold share
  rw [if_pos h, if_pos (by omega)]
  omega
theorem share_two (n p : Nat) (h : p < n) (h2 : ¬ (p : Int) < 4096 % (n : Int)) : ((share n 4096 p : Nat) : Int) = 4096 / (n : Int) := by
  have e : (4096 : Int) % (n : Int) = ((4096 % n : Nat) : Int) := by rw [Int.natCast_emod]; rfl
  have e2 : (4096 : Int) / (n : Int) = ((4096 / n : Nat) : Int) := by rw [Int.natCast_ediv]; rfl
  rw [e2]
  rw [e] at h2
  unfold share
  rw [if_pos h, if_neg (by omega)]
  omega
theorem share_three (n p : Nat) (h : ¬ p < n) : ((share n 4096 p : Nat) : Int) = 0 := by
  unfold share
  rw [if_neg h]; rfl
theorem quo_le (n : Nat) : 0 ≤ 4096 / (n : Int) ∧ 4096 / (n : Int) ≤ 4096 :=
  ⟨Int.ediv_nonneg (by omega) (by omega), Int.ediv_le_self _ (by omega)⟩

set_option maxRecDepth 20000 in
set_option maxHeartbeats 4000000 in
theorem shares (F : Interp) (a : Option Addr) (n cap : Nat) (S : Nat → ByteArray) (w : World) (hF : F.answers w.tape) (hn : n ≤ maxLen) (hnil : a = none → n = 0 ∧ cap = 0) (hr : StrRow w a n S) (hs : ∀ i, i < n → (S i).size ≤ maxLen) :
    Calls Tryf.prog 4 #[.slice a n cap] w (Law w) := by
  go_enter Tryf.func4, Tryf.ntmps4
  go_wp2_with fail
  refine (bytes11 a n cap S w hn hr hs).mono ?_
  rintro e w' ⟨r, rfl, rfl, hrb⟩
  cases r
  · go_wp2
    go_ret
    exact ⟨rfl, Below.refl _ _⟩
  have hn' : n ≤ 1048576 := hrb rfl
  clear hrb
  go_wp2_with fail
  refine (strBytes a n cap S _ hn hr hs).mono ?_
  rintro e w' ⟨t, rfl, rfl, _⟩
  by_cases ht : 1048576 < t
  · go_wp2
    go_ret
    exact ⟨rfl, Below.refl _ _⟩
  go_wp2_with fail
  refine (clone_any a n cap S _ hn' hnil hr).mono ?_
  rintro e w1 ⟨a1, cap1, rfl, hnil1, hr1, hb1⟩
  have B1 : Hid (Below w'.heap.size w' w1) := hb1
  clear hb1 hnil hr hnil1
  go_wp2_with fail
  refine (distinct a1 n cap1 S _ hn' hr1).mono ?_
  rintro e w3 ⟨r, q, rfl, rfl, hfit⟩
  have B2 : Hid (Below w'.heap.size w' (w1.drewN q)) := below_drewN B1.out q
  cases r
  · clear hfit
    go_wp2
    go_ret
    exact ⟨rfl, B2.out⟩
  have HF : Hid (Fits n S) := hfit.1 rfl
  have hr1' : StrRow (w1.drewN q) a1 n S := hr1.below (below_drewN (Below.refl _ _) q)
  have hF2 : F.answers (w1.drewN q).tape := by rw [B2.out.tape]; exact hF
  clear hfit hr1
  go_wp2_with fail
  refine (deal F a1 n cap1 S _ hF2 hn' hr1' hs).mono ?_
  rintro e w3 ⟨hb3, ⟨hf, hsz, rfl, hsh⟩ | ⟨hnf, p, rfl⟩⟩
  rotate_left
  · exact absurd HF.out hnf
  have B4 : Hid (Below w'.heap.size w' w3) := B2.out.trans (hb3.mono B2.out.size)
  have hra := hr1'.below hb3
  have H0 : Hid (Inv4 w' a1 n (w1.heap.size + 1) w3.heap.size #[.slice a1 n cap1, .slice (some ⟨w1.heap.size + 1, 0, none⟩) 4096 4096, .map none, .int .u64 0, .int .u8 2] S 0 _) := Inv4.start B4.out hra hsz hsh
  have hal := zero37
  clear hb3 hr1' hra hsh B1 B2 B4 hsz hF2 hf
  go_wp2
  have f1 := HF.out.1
  have f2 := HF.out.2.1
  go_loopw [7] (fun i wr => ∃ k : Nat, k ≤ 4096 ∧ i = .int .i64 k ∧ Hid (Inv4 w' a1 n (w1.heap.size + 1) w3.heap.size #[.slice a1 n cap1, .slice (some ⟨w1.heap.size + 1, 0, none⟩) 4096 4096, .map none, .int .u64 0, .int .u8 2] S k wr)) (fun i _ => 4096 - (intOf i).toNat)
  case atStart => exact ⟨0, Nat.zero_le _, rfl, H0⟩
  case round =>
    obtain ⟨k, hk, rfl, H⟩ := hrel
    clear H0 hal
    have I := H.out
    have c1 : wr.cell? ⟨w3.heap.size, 1, none⟩ = some (.slice (some ⟨w1.heap.size + 1, 0, none⟩) 4096 4096) := by rw [I.2.1.cell]; rfl
    by_cases hlt : k < 4096
    · have hcm := I.2.2.2.1 k hlt
      have hml : k % n < n := Nat.mod_lt _ f1
      obtain ⟨hcc, hcf⟩ := I.2.2.2.2.1.cell (k % n) (by omega)
      have hle := share_le n k (k % n) f1
      have H1 : Hid (Inv4 w' a1 n (w1.heap.size + 1) w3.heap.size #[.slice a1 n cap1, .slice (some ⟨w1.heap.size + 1, 0, none⟩) 4096 4096, .map none, .int .u64 0, .int .u8 2] S (k + 1) _) := I.step f1
      clear I
      obtain ⟨z, hz⟩ : ∃ z, z = share n k (k % n) := ⟨_, rfl⟩
      rw [← hz] at hcc hle H1
      obtain ⟨m, hm⟩ : ∃ m, m = k % n := ⟨_, rfl⟩
      rw [← hm] at hcc hcm hcf hml H1
      clear hz hm H
      go_wp2
      go_roundw
      case rel => exact ⟨k + 1, by omega, by go_num, H1⟩
      case measure => simp [intOf]; omega
    · have e : k = 4096 := by omega
      subst e
      clear I
      obtain ⟨q0, q1⟩ := quo_le n
      go_wp2
      go_loop [8] (fun i => ∃ p : Nat, p ≤ 256 ∧ i = .int .i64 p) (fun i => 256 - (intOf i).toNat)
      case atStart => exact ⟨0, Nat.zero_le _, rfl⟩
      case round =>
        obtain ⟨p, hp, rfl⟩ := hrel
        by_cases hpt : p < 256
        · have hcc := (H.out.2.2.2.2.1.cell p hpt).1
          by_cases hpn : p < n
          · by_cases hpr : (p : Int) < 4096 % (n : Int)
            · rw [share_one n p hpn hpr] at hcc
              go_wp2
              go_round
              case rel => exact ⟨p + 1, by omega, by go_num⟩
              case measure => simp [intOf]; omega
            · rw [share_two n p hpn hpr] at hcc
              go_wp2
              go_round
              case rel => exact ⟨p + 1, by omega, by go_num⟩
              case measure => simp [intOf]; omega
          · rw [share_three n p hpn] at hcc
            go_wp2
            go_round
            case rel => exact ⟨p + 1, by omega, by go_num⟩
            case measure => simp [intOf]; omega
        · have I := H.out
          have c0 : wr.cell? ⟨w3.heap.size, 0, none⟩ = some (.slice a1 n cap1) := by rw [I.2.1.cell]; rfl
          have c2 : wr.cell? ⟨w3.heap.size, 2, none⟩ = some (.map none) := by rw [I.2.1.cell]; rfl
          have c3 : wr.cell? ⟨w3.heap.size, 3, none⟩ = some (.int .u64 0) := by rw [I.2.1.cell]; rfl
          have c4 : wr.cell? ⟨w3.heap.size, 4, none⟩ = some (.int .u8 2) := by rw [I.2.1.cell]; rfl
          have hFr : F.answers wr.tape := by rw [I.1.tape]; exact hF
          clear I
          go_wp2_with fail
          refine (check_main F a1 n cap1 (w1.heap.size + 1) S wr hFr HF.out.1 HF.out.2.1 H.out.2.2.1 hs H.out.2.2.2.1).mono ?_
          rintro e w5 ⟨hb5, ⟨_, rfl⟩ | ⟨hnf, p, rfl⟩⟩
          · go_wp2
            go_ret
            exact ⟨rfl, H.out.1.trans (hb5.mono H.out.1.size)⟩
          · exact absurd HF.out hnf
end Go.Proofs.Qxb6609020aFmt
