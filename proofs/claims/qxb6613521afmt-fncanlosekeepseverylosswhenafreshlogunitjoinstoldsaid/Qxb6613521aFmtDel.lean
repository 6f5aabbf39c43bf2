/-
  slices.IndexFunc and slices.DeleteFunc over strings, at whatever closure that only reads.
-/
import Derived.Test.Qxb6613521aFmtErrf
import Derived.Shelf.Abstract
namespace Go.Proofs.Qxb6613521aFmt
open Go.RowKit

/-- w' is w but for block g -/
structure OnlyAt (g : Nat) (w w' : World) : Prop where
  os : w'.os = w.os
  tape : w'.tape = w.tape
  output : w'.output = w.output
  size : w'.heap.size = w.heap.size
  block : ∀ k, k ≠ g → w'.heap[k]? = w.heap[k]?
theorem OnlyAt.refl (g : Nat) (w : World) : OnlyAt g w w := ⟨rfl, rfl, rfl, rfl, fun _ _ => rfl⟩
theorem OnlyAt.trans {g : Nat} {a b c : World} (h : OnlyAt g a b) (k : OnlyAt g b c) : OnlyAt g a c :=
  ⟨k.os.trans h.os, k.tape.trans h.tape, k.output.trans h.output, k.size.trans h.size, fun i hi => (k.block i hi).trans (h.block i hi)⟩
theorem OnlyAt.set (g : Nat) (w : World) (o : Nat) (v : Value) : OnlyAt g w (w.setCell ⟨g, o, none⟩ v) := by
  have hb : Below g w (w.setCell ⟨g, o, none⟩ v) := (Below.refl g w).setCell (Nat.le_refl _) v
  exact ⟨hb.os, hb.tape, hb.output, by simp, fun k hk => heap_setCell_other w _ k v hk⟩
theorem OnlyAt.sets (g : Nat) : ∀ (vs : List Value) (o : Nat) (w : World), OnlyAt g w (w.setCells g o vs)
  | [], _, w => OnlyAt.refl g w
  | v :: r, o, w => (OnlyAt.set g w o v).trans (OnlyAt.sets g r (o + 1) _)
theorem OnlyAt.below {g : Nat} {w w' : World} (h : OnlyAt g w w') {d : Nat} (hd : d ≤ g) : Below d w w' := ⟨h.os, h.tape, h.output, Nat.le_of_eq h.size.symm, fun k hk => h.block k (by omega)⟩
theorem OnlyAt.cell {g : Nat} {w w' : World} (h : OnlyAt g w w') {a : Addr} (ha : a.block ≠ g) : w'.cell? a = w.cell? a := by
  unfold World.cell?
  rw [h.block _ ha]

/-- the list of the first n -/
def lst (n : Nat) (S : Nat → ByteArray) : List ByteArray := (List.range n).map S
theorem lst_succ (n : Nat) (S : Nat → ByteArray) : lst (n + 1) S = lst n S ++ [S n] := by simp [lst, List.range_succ]
theorem lst_len (n : Nat) (S : Nat → ByteArray) : (lst n S).length = n := by simp [lst]
theorem lst_get {n : Nat} {S : Nat → ByteArray} {i : Nat} (h : i < n) : (lst n S).getD i ByteArray.empty = S i := by simp [lst, List.getD, h]
theorem lst_mem {n : Nat} {S : Nat → ByteArray} {x : ByteArray} : x ∈ lst n S ↔ Mem n S x := by
  simp [lst, Mem]

/-- what stays of the first n -/
def flt (pd : ByteArray → Bool) (n : Nat) (S : Nat → ByteArray) : List ByteArray := (lst n S).filter (fun x => !pd x)
theorem flt_hit {pd : ByteArray → Bool} {n : Nat} {S : Nat → ByteArray} (h : pd (S n) = true) : flt pd (n + 1) S = flt pd n S := by simp [flt, lst_succ, h]
theorem flt_miss {pd : ByteArray → Bool} {n : Nat} {S : Nat → ByteArray} (h : pd (S n) = false) : flt pd (n + 1) S = flt pd n S ++ [S n] := by simp [flt, lst_succ, h]
theorem flt_none {pd : ByteArray → Bool} {S : Nat → ByteArray} : ∀ {n : Nat}, (∀ j, j < n → pd (S j) = false) → flt pd n S = lst n S
  | 0, _ => rfl
  | n + 1, h => by rw [flt_miss (h n (by omega)), flt_none (fun j hj => h j (by omega)), lst_succ]

/-- where IndexFunc finds one -/
def FoundP (n : Nat) (S : Nat → ByteArray) (pd : ByteArray → Bool) (r : Int) : Prop := (r = -1 ∧ ∀ j, j < n → pd (S j) = false) ∨ ∃ k : Nat, k < n ∧ r = k ∧ pd (S k) = true ∧ ∀ j, j < k → pd (S j) = false

/-- the closure answers pd, and turns nothing -/
def Asks (fn : Nat) (bv : Value) (pd : ByteArray → Bool) (W : World) : Prop := ∀ x, Calls Tryf.prog fn #[.string x, bv] W fun e w' => e = .returned (.bool (pd x)) ∧ w' = W

set_option maxHeartbeats 1000000 in
/-- slices.IndexFunc at strings -/
theorem indexFunc34 (fn : Nat) (bv : Value) (eg : ∀ args w, (callFunc fn args).run Tryf.prog w = .ok (.enter fn args) w) (pd : ByteArray → Bool) (a : Option Addr) (n cap : Nat) (S : Nat → ByteArray) (w : World) (hn : n ≤ 1048576) (hr : StrRow w a n S) (hd : Asks fn bv pd w) :
    Calls Tryf.prog 34 #[.slice a n cap, .func (.func fn) #[] #[bv]] w (RetI (FoundP n S pd) w) := by
  have HD : Hid (Asks fn bv pd w) := hd
  clear hd
  go_enter Tryf.func34, Tryf.ntmps34
  go_wp2
  go_loop [8] (fun i => ∃ k : Nat, k ≤ n ∧ i = .int .i64 k ∧ Hid (∀ j, j < k → pd (S j) = false)) (fun i => n - (intOf i).toNat)
  case atStart => exact ⟨0, Nat.zero_le _, rfl, fun j h => absurd h (by omega)⟩
  case round =>
    obtain ⟨k, hk, rfl, H⟩ := hrel
    by_cases hlt : k < n
    · obtain ⟨b, off, rfl, hb, hc⟩ := hr k hlt
      clear hr
      go_wp2_with fail
      refine (HD.out (S k)).mono ?_
      rintro e w1 ⟨rfl, rfl⟩
      cases hp : pd (S k)
      · go_wp2
        go_round
        case rel => exact ⟨k + 1, by omega, by go_num, fun j hj => by
          by_cases e : j = k
          · subst e; exact hp
          · exact H.out j (by omega)⟩
        case measure => simp [intOf]; omega
      · go_wp2
        go_ret
        exact RetI.mk _ rfl rfl (Or.inr ⟨k, hlt, rfl, hp, H.out⟩)
    · go_wp2
      go_ret
      exact RetI.mk _ rfl rfl (Or.inl ⟨rfl, fun j hj => H.out j (by omega)⟩)

/-- the state of DeleteFunc -/
def DelSt (g n : Nat) (S : Nat → ByteArray) (pd : ByteArray → Bool) (w : World) (i j : Nat) (wr : World) : Prop :=
  OnlyAt g w wr ∧ i = (flt pd j S).length ∧ i < j ∧ ∃ D, Blk wr g 9 D ∧ n ≤ D.size ∧ (∀ m, m < i → D[m]? = some (.string ((flt pd j S).getD m ByteArray.empty))) ∧ ∀ m, j ≤ m → m < n → D[m]? = some (.string (S m))

theorem DelSt.start {g n N : Nat} {S : Nat → ByteArray} {pd : ByteArray → Bool} {w : World} {k : Nat} (h : Grows g N n S w) (hN : n ≤ N) (hk : k < n) (hp : pd (S k) = true) (hl : ∀ j, j < k → pd (S j) = false) : DelSt g n S pd w k (k + 1) w := by
  obtain ⟨D, hB, hs, hD⟩ := h
  have e : flt pd (k + 1) S = lst k S := by rw [flt_hit hp, flt_none hl]
  refine ⟨OnlyAt.refl _ _, by rw [e, lst_len], by omega, D, hB, by omega, fun m hm => ?_, fun m _ hm => hD m hm⟩
  rw [e, lst_get hm]
  exact hD m (by omega)
theorem DelSt.skip {g n : Nat} {S : Nat → ByteArray} {pd : ByteArray → Bool} {w : World} {i j : Nat} {wr : World} (h : DelSt g n S pd w i j wr) (hp : pd (S j) = true) : DelSt g n S pd w i (j + 1) wr := by
  obtain ⟨h1, h2, h3, D, hB, hs, h4, h5⟩ := h
  refine ⟨h1, by rw [flt_hit hp]; exact h2, by omega, D, hB, hs, fun m hm => ?_, fun m hm hm' => h5 m (by omega) hm'⟩
  rw [flt_hit hp]
  exact h4 m hm
theorem DelSt.keep {g n : Nat} {S : Nat → ByteArray} {pd : ByteArray → Bool} {w : World} {i j : Nat} {wr : World} (h : DelSt g n S pd w i j wr) (hj : j < n) (hp : pd (S j) = false) : DelSt g n S pd w (i + 1) (j + 1) (wr.setCell ⟨g, i, none⟩ (.string (S j))) := by
  obtain ⟨h1, h2, h3, D, hB, hs, h4, h5⟩ := h
  refine ⟨h1.trans (OnlyAt.set g wr i _), by rw [flt_miss hp]; simp [h2], by omega, _, hB.set i _, by simpa using hs, fun m hm => ?_, fun m hm hm' => ?_⟩
  · rw [flt_miss hp, Array.getElem?_setIfInBounds]
    by_cases e : i = m
    · subst e
      rw [if_pos rfl, if_pos (by omega), h2]
      simp [List.getD]
    · rw [if_neg e, h4 m (by omega)]
      have : m < (flt pd j S).length := by omega
      simp [List.getD, List.getElem?_append_left this]
  · rw [Array.getElem?_setIfInBounds, if_neg (by omega)]
    exact h5 m (by omega) hm'
theorem DelSt.read {g n : Nat} {S : Nat → ByteArray} {pd : ByteArray → Bool} {w : World} {i j : Nat} {wr : World} (h : DelSt g n S pd w i j wr) (hj : j < n) : wr.cell? ⟨g, j, none⟩ = some (.string (S j)) ∧ (∃ v, wr.cell? ⟨g, i, none⟩ = some v) ∧ wr.frozen? ⟨g, i, none⟩ = false := by
  obtain ⟨h1, h2, h3, D, hB, hs, h4, h5⟩ := h
  exact ⟨by rw [hB.cell]; exact h5 j (Nat.le_refl _) hj, ⟨D[i]'(by omega), by rw [hB.cell]; exact Array.getElem?_eq_getElem (by omega)⟩, hB.frozen i⟩

/-- what DeleteFunc hands back -/
def Deleted (g : Nat) (a : Option Addr) (n cap : Nat) (S : Nat → ByteArray) (pd : ByteArray → Bool) (w : World) (e : Ending) (w' : World) : Prop :=
  e = .returned (.slice a (flt pd n S).length cap) ∧ StrRow w' a (flt pd n S).length (fun m => (flt pd n S).getD m ByteArray.empty) ∧ OnlyAt g w w'

theorem zero9 (w : World) : (zeroValue 9).run Tryf.prog w = .ok (.string ByteArray.empty) w := by kernel_rfl

theorem DelSt.clear {g n : Nat} {S : Nat → ByteArray} {pd : ByteArray → Bool} {w : World} {i : Nat} {wr : World} (h : DelSt g n S pd w i n wr) (cap : Nat) (ty : TypeId) :
    (Builtin.clear_ #[23] ty #[.slice (some ⟨g, i, none⟩) (n - i) (cap - i)]).run Tryf.prog wr = .ok (.tuple #[]) (wr.setCells g i (List.replicate (n - i) (.string ByteArray.empty))) := by
  obtain ⟨h1, h2, h3, D, hB, hs, h4, h5⟩ := h
  exact Lib.run_clear_slice wr 23 9 ty (.string ByteArray.empty) Tryf.underlying23 zero9 rfl rfl g i (n - i) (cap - i) (by omega) (fun j hj => by rw [hB.cell, Array.getElem?_eq_getElem (by omega)]; rfl) (fun j _ => hB.frozen _)

theorem DelSt.done {g n : Nat} {S : Nat → ByteArray} {pd : ByteArray → Bool} {w : World} {i : Nat} {wr : World} (h : DelSt g n S pd w i n wr) (cap : Nat) :
    Deleted g (some ⟨g, 0, none⟩) n cap S pd w (.returned (.slice (some ⟨g, 0, none⟩) i cap)) (wr.setCells g i (List.replicate (n - i) (.string ByteArray.empty))) := by
  obtain ⟨h1, h2, h3, D, hB, hs, h4, h5⟩ := h
  refine ⟨by rw [h2], fun m hm => ⟨g, 0, rfl, ?_, ?_⟩, h1.trans (OnlyAt.sets g _ _ _)⟩
  · rw [(OnlyAt.sets g _ _ _).size]; exact hB.lt
  · rw [World.cell?_setCells_out g _ i wr _ (fun _ _ => Or.inl (by simp; omega)), hB.cell, Nat.zero_add]
    exact h4 m (by omega)

set_option maxHeartbeats 2000000 in
/-- slices.DeleteFunc at strings -/
theorem deleteFunc26 (fn : Nat) (bv : Value) (eg : ∀ args w, (callFunc fn args).run Tryf.prog w = .ok (.enter fn args) w) (pd : ByteArray → Bool) (g : Nat) (a : Option Addr) (n cap : Nat) (S : Nat → ByteArray) (w : World) (hn : n ≤ 1048576)
    (ho : n = 0 ∨ ∃ N, a = some ⟨g, 0, none⟩ ∧ n ≤ N ∧ Grows g N n S w) (hcap : n ≤ cap) (hd : ∀ W, OnlyAt g w W → Asks fn bv pd W) :
    Calls Tryf.prog 26 #[.slice a n cap, .func (.func fn) #[] #[bv]] w (Deleted g a n cap S pd w) := by
  have hr : StrRow w a n S := by
    rcases ho with rfl | ⟨N, rfl, _, h⟩
    · exact fun i hi => absurd hi (by omega)
    · exact h.rowOf
  have HI := indexFunc34 fn bv eg pd a n cap S w hn hr (hd w (OnlyAt.refl _ _))
  have HD : Hid (∀ W, OnlyAt g w W → Asks fn bv pd W) := hd
  have HR : Hid (StrRow w a n S) := hr
  clear hd hr
  go_enter Tryf.func26, Tryf.ntmps26
  go_wp2_with fail
  refine HI.mono ?_
  rintro e w1 ⟨r, rfl, rfl, hr⟩
  rcases hr with ⟨rfl, hall⟩ | ⟨k, hk, rfl, hp, hl⟩
  · have HA : Hid (∀ j, j < n → pd (S j) = false) := hall
    clear hall ho
    go_wp2
    go_ret
    have e := flt_none HA.out
    refine ⟨by rw [e, lst_len]; rfl, ?_, OnlyAt.refl _ _⟩
    rw [e, lst_len]
    intro i hi
    obtain ⟨b, off, h1, h2, h3⟩ := HR.out i hi
    exact ⟨b, off, h1, h2, by show _ = some (Value.string ((lst n S).getD i ByteArray.empty)); rw [lst_get hi]; exact h3⟩
  · obtain ⟨N, rfl, hN, hG⟩ : ∃ N, a = some ⟨g, 0, none⟩ ∧ n ≤ N ∧ Grows g N n S w1 := by
      rcases ho with h | h
      · omega
      · exact h
    have H0 : Hid (DelSt g n S pd w1 k (k + 1) w1) := DelSt.start hG hN hk hp hl
    clear ho hl hG HR HI
    have hm1 : ((k : Int) == -1) = false := by simp
    go_wp2
    go_loopw [5, 6] (fun i j wr => ∃ m l : Nat, l ≤ n ∧ m < l ∧ i = .int .i64 m ∧ j = .int .i64 l ∧ Hid (DelSt g n S pd w1 m l wr)) (fun _ j _ => n - (intOf j).toNat)
    case atStart => exact ⟨k, k + 1, by omega, by omega, rfl, by go_num, H0⟩
    case round =>
      obtain ⟨m, l, hl, hml, rfl, rfl, HS⟩ := hrel
      by_cases hlt : l < n
      · obtain ⟨hc, ⟨v, hv⟩, hf⟩ := HS.out.read hlt
        go_wp2_with fail
        refine (HD.out wr HS.out.1 (S l)).mono ?_
        rintro e w2 ⟨rfl, rfl⟩
        cases hq : pd (S l)
        · have H1 : Hid (DelSt g n S pd w1 (m + 1) (l + 1) (w2.setCell ⟨g, m, none⟩ (.string (S l)))) := HS.out.keep hlt hq
          go_wp2
          go_roundw
          case rel => exact ⟨m + 1, l + 1, by omega, by omega, by go_num, by go_num, H1⟩
          case measure => simp [intOf]; omega
        · have H1 : Hid (DelSt g n S pd w1 m (l + 1) w2) := HS.out.skip hq
          go_wp2
          go_roundw
          case rel => exact ⟨m, l + 1, by omega, by omega, rfl, by go_num, H1⟩
          case measure => simp [intOf]; omega
      · obtain rfl : l = n := by omega
        have hcl := HS.out.clear cap
        have HD1 : Hid (Deleted g (some ⟨g, 0, none⟩) l cap S pd w1 (.returned (.slice (some ⟨g, 0, none⟩) m cap)) (wr.setCells g m (List.replicate (l - m) (.string ByteArray.empty)))) := HS.out.done cap
        go_wp2_with (simp only [hcl])
        go_ret
        exact HD1.out
end Go.Proofs.Qxb6613521aFmt
