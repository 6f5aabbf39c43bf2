/-
  Slices of strings in memory, for the walks of this seat; the small functions by their contracts.
-/
import Derived.Test.Qxb6613521aFmtRows
import Derived.WalkKit
import Derived.WalkSpells
import Derived.WalkLawsBesides
import Derived.Lib.SlicesS
import Derived.Laws.CopyRow
import Derived.Laws.IdiomCopy
import Derived.Laws.CopyOwn
namespace Go.Proofs.Qxb6613521aFmt
open Go.RowKit

/-- the n cells from a on hold the strings S 0, S 1, .. -/
def StrRow (w : World) (a : Option Addr) (n : Nat) (S : Nat → ByteArray) : Prop :=
  ∀ i, i < n → ∃ b off, a = some ⟨b, off, none⟩ ∧ b < w.heap.size ∧ w.cell? ⟨b, off + i, none⟩ = some (.string (S i))

theorem StrRow.below {w w' : World} {a : Option Addr} {n : Nat} {S : Nat → ByteArray} (h : StrRow w a n S) (hb : Below w.heap.size w w') : StrRow w' a n S := fun i hi => by
  obtain ⟨b, off, e, hlt, hc⟩ := h i hi
  exact ⟨b, off, e, Nat.lt_of_lt_of_le hlt hb.size, cell_later hb hc⟩

/-- x is among the first n of S -/
def Mem (n : Nat) (S : Nat → ByteArray) (x : ByteArray) : Prop := ∃ i, i < n ∧ S i = x

/-- a bool with Q comes back, the world as it was -/
def RetB (Q : Bool → Prop) (w : World) (e : Ending) (w' : World) : Prop := ∃ r, e = .returned (.bool r) ∧ w' = w ∧ Q r
theorem RetB.mk {Q : Bool → Prop} {w : World} {e : Ending} {w' : World} (r : Bool) (he : e = .returned (.bool r)) (hw : w' = w) (hq : Q r) : RetB Q w e w' := ⟨r, he, hw, hq⟩
/-- an int with Q comes back, the world as it was -/
def RetI (Q : Int → Prop) (w : World) (e : Ending) (w' : World) : Prop := ∃ r, e = .returned (.int .i64 r) ∧ w' = w ∧ Q r
theorem RetI.mk {Q : Int → Prop} {w : World} {e : Ending} {w' : World} (r : Int) (he : e = .returned (.int .i64 r)) (hw : w' = w) (hq : Q r) : RetI Q w e w' := ⟨r, he, hw, hq⟩

theorem neq_of {x y : ByteArray} (h : (x.toList == y.toList) = false) : x ≠ y := (Lib.bytes_beq_false_iff x y).1 h
theorem eq_of {x y : ByteArray} (h : (x.toList == y.toList) = true) : x = y := (Lib.bytes_beq_iff x y).1 h

/-- block B of w is a plain row of cells of type t, none frozen -/
def Blk (w : World) (B : Nat) (t : TypeId) (C : Array Value) : Prop := w.heap[B]? = some (.cells C t (0, 0))
theorem Blk.cell {w : World} {B : Nat} {t : TypeId} {C : Array Value} (h : Blk w B t C) (j : Nat) : w.cell? ⟨B, j, none⟩ = C[j]? := cell_of_row w B j C t (0, 0) h
theorem Blk.frozen {w : World} {B : Nat} {t : TypeId} {C : Array Value} (h : Blk w B t C) (j : Nat) : w.frozen? ⟨B, j, none⟩ = false := frozen_of_row w B j C t h
theorem Blk.lt {w : World} {B : Nat} {t : TypeId} {C : Array Value} (h : Blk w B t C) : B < w.heap.size := lt_of_block h
theorem Blk.set {w : World} {B : Nat} {t : TypeId} {C : Array Value} (h : Blk w B t C) (j : Nat) (v : Value) : Blk (w.setCell ⟨B, j, none⟩ v) B t (C.setIfInBounds j v) := heap_setCell_same w B j C t v h
theorem Blk.other {w : World} {B : Nat} {t : TypeId} {C : Array Value} (h : Blk w B t C) (a : Addr) (v : Value) (hne : B ≠ a.block) : Blk (w.setCell a v) B t C := (heap_setCell_other w a B v hne).trans h
theorem Blk.below {w w' : World} {B D : Nat} {t : TypeId} {C : Array Value} (h : Blk w B t C) (hb : Below D w w') (hD : B < D) : Blk w' B t C := (hb.block B hD).trans h
theorem Blk.new (w : World) (t : TypeId) (C : Array Value) : Blk (w.alloc (.cells C t)) w.heap.size t C := heap_alloc_new w _
theorem Blk.alloc {w : World} {B : Nat} {t : TypeId} {C : Array Value} (h : Blk w B t C) (o : Obj) : Blk (w.alloc o) B t C := (Below.heap_alloc w o B h.lt).trans h

theorem Tryf.info9 : (Tryf.prog.info? 9).map (fun i => (i.zero, i.size, i.bytes)) = some (some (.string ByteArray.empty), 1, 16) := by kernel_rfl
theorem Tryf.size9 : (Tryf.prog.info? 9).map (·.size) = some 1 := by kernel_rfl

/-- n empty strings; the strings S 0 .. S (n-1) -/
def blankS (n : Nat) : Array Value := madeCells #[.string ByteArray.empty] n
def rowS (n : Nat) (S : Nat → ByteArray) : Array Value := ((List.range n).map fun i => Value.string (S i)).toArray
theorem size_blankS (n : Nat) : (blankS n).size = n := by simp [blankS, madeCells]
theorem size_rowS (n : Nat) (S : Nat → ByteArray) : (rowS n S).size = n := by simp [rowS]
theorem rowS_at (n : Nat) (S : Nat → ByteArray) (i : Nat) (h : i < n) : (rowS n S)[i]? = some (.string (S i)) := by simp [rowS, h]

theorem make23 (n : Nat) (h : n ≤ 1048576) (w : World) : (Instr.makeSlice 23 (.int .i64 n) (.int .i64 n)).run Tryf.prog w = .ok (.slice (some ⟨w.heap.size, 0, none⟩) n n) (w.alloc (.cells (blankS n) 9)) := by
  obtain ⟨i, hi, hz, hs, hb⟩ := info_parts Tryf.info9
  have := run_make (P := Tryf.prog) w 23 9 i _ Tryf.underlying23 hi hz .i64 .i64 n n (by omega) (by omega) (by rw [hb]; omega) (by omega)
  rw [this, hs]
  simp [blankS, Value.cells]

theorem setRow_alloc (w : World) (C D : Array Value) (t : TypeId) : (w.alloc (.cells C t)).setRow w.heap.size D = w.alloc (.cells D t) := by
  have h : (w.heap.push (Obj.cells C t)).modify w.heap.size (fun
      | .cells _ elem frozen => .cells D elem frozen
      | o => o) = w.heap.push (.cells D t) := by
    apply Array.ext
    · simp
    · intro i h1 h2
      rw [Array.getElem_modify, Array.getElem_push, Array.getElem_push]
      by_cases e : w.heap.size = i
      · subst e; simp
      · have : i < w.heap.size := by simp at h2; omega
        simp [e, this]
  exact congrArg (fun x => ({ w with heap := x } : World)) h

theorem row_new (w : World) (n : Nat) (S : Nat → ByteArray) : StrRow (w.alloc (.cells (rowS n S) 9)) (some ⟨w.heap.size, 0, none⟩) n S := fun i hi =>
  ⟨w.heap.size, 0, rfl, by simp, by rw [Nat.zero_add, (Blk.new w 9 _).cell, rowS_at n S i hi]⟩

theorem not_mem_of {n : Nat} {S : Nat → ByteArray} {x : ByteArray} (h : ∀ j, j < n → S j ≠ x) : false = true ↔ Mem n S x :=
  ⟨fun h => by simp at h, fun ⟨i, hi, e⟩ => absurd e (h i hi)⟩
theorem mem_of {n : Nat} {S : Nat → ByteArray} {x : ByteArray} {k : Nat} (hk : k < n) (h : S k = x) : true = true ↔ Mem n S x := ⟨fun _ => ⟨k, hk, h⟩, fun _ => rfl⟩


/-- where slices.Index finds x -/
def Found (n : Nat) (S : Nat → ByteArray) (x : ByteArray) (r : Int) : Prop := (r = -1 ∧ ∀ j, j < n → S j ≠ x) ∨ ∃ k : Nat, k < n ∧ r = k ∧ S k = x ∧ ∀ j, j < k → S j ≠ x
theorem Found.mem {n : Nat} {S : Nat → ByteArray} {x : ByteArray} {r : Int} (h : Found n S x r) : 0 ≤ r ↔ Mem n S x := by
  rcases h with ⟨rfl, h⟩ | ⟨k, hk, rfl, h1, _⟩
  · exact ⟨fun h => absurd h (by decide), fun ⟨i, hi, e⟩ => absurd e (h i hi)⟩
  · exact ⟨fun _ => ⟨k, hk, h1⟩, fun _ => by omega⟩

set_option maxHeartbeats 400000 in
/-- slices.Index at strings -/
theorem index30 (a : Option Addr) (n cap : Nat) (S : Nat → ByteArray) (x : ByteArray) (w : World) (hn : n ≤ 1048576) (hr : StrRow w a n S) :
    Calls Tryf.prog 30 #[.slice a n cap, .string x] w (RetI (Found n S x) w) := by
  go_enter Tryf.func30, Tryf.ntmps30
  go_wp2
  go_loop [8] (fun i => ∃ k : Nat, k ≤ n ∧ i = .int .i64 k ∧ Hid (∀ j, j < k → S j ≠ x)) (fun i => n - (intOf i).toNat)
  case atStart => exact ⟨0, Nat.zero_le _, rfl, fun j h => absurd h (by omega)⟩
  case round =>
    obtain ⟨k, hk, rfl, H⟩ := hrel
    by_cases hlt : k < n
    · obtain ⟨b, off, rfl, hb, hc⟩ := hr k hlt
      clear hr
      cases he : (x.toList == (S k).toList)
      · have hne := (neq_of he).symm
        go_wp2
        go_round
        case rel => exact ⟨k + 1, by omega, by go_num, fun j hj => by
          by_cases e : j = k
          · subst e; exact hne
          · exact H.out j (by omega)⟩
        case measure => simp [intOf]; omega
      · have heq := (eq_of he).symm
        go_wp2
        go_ret
        exact RetI.mk _ rfl rfl (Or.inr ⟨k, hlt, rfl, heq, H.out⟩)
    · go_wp2
      go_ret
      exact RetI.mk _ rfl rfl (Or.inl ⟨rfl, fun j hj => H.out j (by omega)⟩)

set_option maxHeartbeats 400000 in
/-- zzIndex -/
theorem index16 (a : Option Addr) (n cap : Nat) (S : Nat → ByteArray) (x : ByteArray) (w : World) (hn : n ≤ 1048576) (hr : StrRow w a n S) :
    Calls Tryf.prog 16 #[.slice a n cap, .string x] w (RetI (Found n S x) w) := by
  go_enter Tryf.func16, Tryf.ntmps16
  go_wp2
  go_loop [5] (fun i => ∃ k : Nat, k ≤ n ∧ i = .int .i64 k ∧ Hid (∀ j, j < k → S j ≠ x)) (fun i => n - (intOf i).toNat)
  case atStart => exact ⟨0, Nat.zero_le _, rfl, fun j h => absurd h (by omega)⟩
  case round =>
    obtain ⟨k, hk, rfl, H⟩ := hrel
    by_cases hlt : k < n
    · obtain ⟨b, off, rfl, hb, hc⟩ := hr k hlt
      clear hr
      cases he : ((S k).toList == x.toList)
      · have hne := neq_of he
        go_wp2
        go_round
        case rel => exact ⟨k + 1, by omega, by go_num, fun j hj => by
          by_cases e : j = k
          · subst e; exact hne
          · exact H.out j (by omega)⟩
        case measure => simp [intOf]; omega
      · have heq := eq_of he
        go_wp2
        go_ret
        exact RetI.mk _ rfl rfl (Or.inr ⟨k, hlt, rfl, heq, H.out⟩)
    · go_wp2
      go_ret
      exact RetI.mk _ rfl rfl (Or.inl ⟨rfl, fun j hj => H.out j (by omega)⟩)

/-- slices.Contains at strings -/
theorem contains20 (a : Option Addr) (n cap : Nat) (S : Nat → ByteArray) (x : ByteArray) (w : World) (hn : n ≤ 1048576) (hr : StrRow w a n S) :
    Calls Tryf.prog 20 #[.slice a n cap, .string x] w (RetB (fun r => r = true ↔ Mem n S x) w) := by
  go_enter Tryf.func20, Tryf.ntmps20
  go_wp2_with fail
  refine (index30 a n cap S x w hn hr).mono ?_
  rintro e w' ⟨r, rfl, rfl, hr'⟩
  go_wp2
  go_ret
  exact RetB.mk (decide (r ≥ 0)) rfl rfl (by rw [decide_eq_true_iff]; exact Found.mem hr')

/-- what zzStringsBytes gives: within the limit the slice is short -/
def Short (n : Nat) (r : Int) : Prop := 0 ≤ r ∧ r ≤ 4194304 ∧ (r ≤ 1048576 → n ≤ 65536)

set_option maxHeartbeats 800000 in
/-- zzStringsBytes -/
theorem strings15 (a : Option Addr) (n cap : Nat) (S : Nat → ByteArray) (z : Int) (w : World) (hn : n ≤ 140737488355328) (h0 : 0 ≤ z) (h1 : z ≤ 1048576) (hr : StrRow w a n S) (hs : ∀ i, i < n → (S i).size ≤ maxLen) :
    Calls Tryf.prog 15 #[.int .i64 z, .slice a n cap] w (RetI (Short n) w) := by
  unfold maxLen at hs
  by_cases hb : 65536 < n
  · go_enter Tryf.func15, Tryf.ntmps15
    go_wp2
    go_ret
    exact RetI.mk _ rfl rfl ⟨by decide, by decide, fun h => absurd h (by decide)⟩
  by_cases hz : 1048576 < z + 16 * n
  · go_enter Tryf.func15, Tryf.ntmps15
    go_wp2
    go_ret
    exact RetI.mk _ rfl rfl ⟨by omega, by omega, fun h => by omega⟩
  go_enter Tryf.func15, Tryf.ntmps15
  go_wp2
  go_loop [0, 5] (fun t i => ∃ k : Nat, ∃ z : Int, k ≤ n ∧ 0 ≤ z ∧ z ≤ 1048576 ∧ i = .int .i64 k ∧ t = .int .i64 z) (fun _ i => n - (intOf i).toNat)
  case atStart => exact ⟨0, z + 16 * n, Nat.zero_le _, by omega, by omega, rfl, by go_num⟩
  case round =>
    obtain ⟨k, z, hk, hz0, hz1, rfl, rfl⟩ := hrel
    by_cases hlt : k < n
    · obtain ⟨b, off, rfl, hb, hc⟩ := hr k hlt
      have hsk := hs k hlt
      clear hr hs
      go_wp2
      · go_ret
        exact RetI.mk _ rfl rfl ⟨by omega, by omega, fun _ => by omega⟩
      · go_ret
        exact RetI.mk _ rfl rfl ⟨by omega, by omega, fun _ => by omega⟩
      · go_round
        case rel => exact ⟨k + 1, _, by omega, by omega, by omega, by go_num, rfl⟩
        case measure => simp [intOf]; omega
    · go_wp2
      go_ret
      exact RetI.mk _ rfl rfl ⟨by omega, by omega, fun _ => by omega⟩

set_option maxHeartbeats 2000000 in
/-- zzLayoutBytes -/
theorem layout6 (s0 s1 s2 s3 : ByteArray) (a4 a5 a6 : Option Addr) (n4 c4 n5 c5 n6 c6 : Nat) (S4 S5 S6 : Nat → ByteArray) (w : World)
    (z0 : s0.size ≤ maxLen) (z1 : s1.size ≤ maxLen) (z2 : s2.size ≤ maxLen) (z3 : s3.size ≤ maxLen)
    (hn4 : n4 ≤ 140737488355328) (hn5 : n5 ≤ 140737488355328) (hn6 : n6 ≤ 140737488355328)
    (hr4 : StrRow w a4 n4 S4) (hr5 : StrRow w a5 n5 S5) (hr6 : StrRow w a6 n6 S6) (hs4 : ∀ i, i < n4 → (S4 i).size ≤ maxLen) (hs5 : ∀ i, i < n5 → (S5 i).size ≤ maxLen) (hs6 : ∀ i, i < n6 → (S6 i).size ≤ maxLen) :
    Calls Tryf.prog 6 #[.string s0, .string s1, .string s2, .string s3, .slice a4 n4 c4, .slice a5 n5 c5, .slice a6 n6 c6] w (RetI (fun r => r ≤ 1048576 → n4 ≤ 65536 ∧ n5 ≤ 65536 ∧ n6 ≤ 65536) w) := by
  have H4 : Hid (∀ z : Int, 0 ≤ z → z ≤ 1048576 → Calls Tryf.prog 15 #[.int .i64 z, .slice a4 n4 c4] w (RetI (Short n4) w)) := fun z h0 h1 => strings15 a4 n4 c4 S4 z w hn4 h0 h1 hr4 hs4
  have H5 : Hid (∀ z : Int, 0 ≤ z → z ≤ 1048576 → Calls Tryf.prog 15 #[.int .i64 z, .slice a5 n5 c5] w (RetI (Short n5) w)) := fun z h0 h1 => strings15 a5 n5 c5 S5 z w hn5 h0 h1 hr5 hs5
  have H6 : Hid (∀ z : Int, 0 ≤ z → z ≤ 1048576 → Calls Tryf.prog 15 #[.int .i64 z, .slice a6 n6 c6] w (RetI (Short n6) w)) := fun z h0 h1 => strings15 a6 n6 c6 S6 z w hn6 h0 h1 hr6 hs6
  clear hr4 hr5 hr6 hs4 hs5 hs6
  unfold maxLen at z0 z1 z2 z3
  have big : ∀ r : Int, 1048576 < r → RetI (fun r => r ≤ 1048576 → n4 ≤ 65536 ∧ n5 ≤ 65536 ∧ n6 ≤ 65536) w (.returned (.int .i64 r)) w := fun r h => RetI.mk r rfl rfl (fun h' => by omega)
  by_cases h0 : 1048576 < s0.size
  · go_enter Tryf.func6, Tryf.ntmps6
    go_wp2
    go_ret
    exact big _ (by decide)
  by_cases h1 : 1048576 < s1.size
  · go_enter Tryf.func6, Tryf.ntmps6
    go_wp2
    go_ret
    exact big _ (by decide)
  by_cases h2 : 1048576 < s2.size
  · go_enter Tryf.func6, Tryf.ntmps6
    go_wp2
    go_ret
    exact big _ (by decide)
  by_cases h3 : 1048576 < s3.size
  · go_enter Tryf.func6, Tryf.ntmps6
    go_wp2
    go_ret
    exact big _ (by decide)
  by_cases h4 : 1048576 < s0.size + s1.size + s2.size + s3.size
  · go_enter Tryf.func6, Tryf.ntmps6
    go_wp2
    go_ret
    exact big _ (by omega)
  go_enter Tryf.func6, Tryf.ntmps6
  go_wp2_with fail
  refine (H4.out _ (by omega) (by omega)).mono ?_
  rintro e w1 ⟨r4, rfl, rfl, hr4⟩
  obtain ⟨p4, q4, k4⟩ := hr4
  by_cases g4 : 1048576 < r4
  · go_wp2
    go_ret
    exact big _ g4
  go_wp2_with fail
  refine (H5.out _ (by omega) (by omega)).mono ?_
  rintro e w1 ⟨r5, rfl, rfl, hr5⟩
  obtain ⟨p5, q5, k5⟩ := hr5
  by_cases g5 : 1048576 < r5
  · go_wp2
    go_ret
    exact big _ g5
  go_wp2_with fail
  refine (H6.out _ (by omega) (by omega)).mono ?_
  rintro e w1 ⟨r6, rfl, rfl, hr6⟩
  obtain ⟨p6, q6, k6⟩ := hr6
  go_wp2
  go_ret
  exact RetI.mk _ rfl rfl fun h => ⟨k4 (by omega), k5 (by omega), k6 h⟩
end Go.Proofs.Qxb6613521aFmt
