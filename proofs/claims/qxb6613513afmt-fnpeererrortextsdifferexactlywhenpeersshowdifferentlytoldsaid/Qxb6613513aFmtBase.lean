/-
  Slices of strings in memory, for the walks of this seat; the small functions by their contracts.
-/
import Derived.Test.Qxb6613513aFmtRows
import Derived.WalkKit
import Derived.WalkSpells
import Derived.WalkLawsBesides
import Derived.Lib.SlicesS
import Derived.Laws.CopyRow
import Derived.Laws.IdiomCopy
import Derived.Laws.CopyOwn
namespace Go.Proofs.Qxb6613513aFmt
open Go.RowKit

/-- the n cells from a on hold the strings S 0, S 1, .. -/
def StrRow (w : World) (a : Option Addr) (n : Nat) (S : Nat → ByteArray) : Prop :=
  ∀ i, i < n → ∃ b off, a = some ⟨b, off, none⟩ ∧ b < w.heap.size ∧ w.cell? ⟨b, off + i, none⟩ = some (.string (S i))

theorem StrRow.below {w w' : World} {a : Option Addr} {n : Nat} {S : Nat → ByteArray} (h : StrRow w a n S) (hb : Below w.heap.size w w') : StrRow w' a n S := fun i hi => by
  obtain ⟨b, off, e, hlt, hc⟩ := h i hi
  exact ⟨b, off, e, Nat.lt_of_lt_of_le hlt hb.size, cell_later hb hc⟩

/-- x is among the first n of S -/
def Mem (n : Nat) (S : Nat → ByteArray) (x : ByteArray) : Prop := ∃ i, i < n ∧ S i = x

/-- a bool with Q comes back, the world as it was -/
def RetB (Q : Bool → Prop) (w : World) (e : Ending) (w' : World) : Prop := ∃ r, e = .returned (.bool r) ∧ w' = w ∧ Q r
theorem RetB.mk {Q : Bool → Prop} {w : World} {e : Ending} {w' : World} (r : Bool) (he : e = .returned (.bool r)) (hw : w' = w) (hq : Q r) : RetB Q w e w' := ⟨r, he, hw, hq⟩
/-- an int with Q comes back, the world as it was -/
def RetI (Q : Int → Prop) (w : World) (e : Ending) (w' : World) : Prop := ∃ r, e = .returned (.int .i64 r) ∧ w' = w ∧ Q r
theorem RetI.mk {Q : Int → Prop} {w : World} {e : Ending} {w' : World} (r : Int) (he : e = .returned (.int .i64 r)) (hw : w' = w) (hq : Q r) : RetI Q w e w' := ⟨r, he, hw, hq⟩

theorem neq_of {x y : ByteArray} (h : (x.toList == y.toList) = false) : x ≠ y := (Lib.bytes_beq_false_iff x y).1 h
theorem eq_of {x y : ByteArray} (h : (x.toList == y.toList) = true) : x = y := (Lib.bytes_beq_iff x y).1 h

/-- block B of w is a plain row of cells of type t, none frozen -/
def Blk (w : World) (B : Nat) (t : TypeId) (C : Array Value) : Prop := w.heap[B]? = some (.cells C t (0, 0))
theorem Blk.cell {w : World} {B : Nat} {t : TypeId} {C : Array Value} (h : Blk w B t C) (j : Nat) : w.cell? ⟨B, j, none⟩ = C[j]? := cell_of_row w B j C t (0, 0) h
theorem Blk.frozen {w : World} {B : Nat} {t : TypeId} {C : Array Value} (h : Blk w B t C) (j : Nat) : w.frozen? ⟨B, j, none⟩ = false := frozen_of_row w B j C t h
theorem Blk.lt {w : World} {B : Nat} {t : TypeId} {C : Array Value} (h : Blk w B t C) : B < w.heap.size := lt_of_block h
theorem Blk.set {w : World} {B : Nat} {t : TypeId} {C : Array Value} (h : Blk w B t C) (j : Nat) (v : Value) : Blk (w.setCell ⟨B, j, none⟩ v) B t (C.setIfInBounds j v) := heap_setCell_same w B j C t v h
theorem Blk.other {w : World} {B : Nat} {t : TypeId} {C : Array Value} (h : Blk w B t C) (a : Addr) (v : Value) (hne : B ≠ a.block) : Blk (w.setCell a v) B t C := (heap_setCell_other w a B v hne).trans h
theorem Blk.below {w w' : World} {B D : Nat} {t : TypeId} {C : Array Value} (h : Blk w B t C) (hb : Below D w w') (hD : B < D) : Blk w' B t C := (hb.block B hD).trans h
theorem Blk.new (w : World) (t : TypeId) (C : Array Value) : Blk (w.alloc (.cells C t)) w.heap.size t C := heap_alloc_new w _
theorem Blk.alloc {w : World} {B : Nat} {t : TypeId} {C : Array Value} (h : Blk w B t C) (o : Obj) : Blk (w.alloc o) B t C := (Below.heap_alloc w o B h.lt).trans h

theorem Tryf.info9 : (Tryf.prog.info? 9).map (fun i => (i.zero, i.size, i.bytes)) = some (some (.string ByteArray.empty), 1, 16) := by kernel_rfl
theorem Tryf.size9 : (Tryf.prog.info? 9).map (·.size) = some 1 := by kernel_rfl

/-- n empty strings; the strings S 0 .. S (n-1) -/
def blankS (n : Nat) : Array Value := madeCells #[.string ByteArray.empty] n
def rowS (n : Nat) (S : Nat → ByteArray) : Array Value := ((List.range n).map fun i => Value.string (S i)).toArray
theorem size_blankS (n : Nat) : (blankS n).size = n := by simp [blankS, madeCells]
theorem size_rowS (n : Nat) (S : Nat → ByteArray) : (rowS n S).size = n := by simp [rowS]
theorem rowS_at (n : Nat) (S : Nat → ByteArray) (i : Nat) (h : i < n) : (rowS n S)[i]? = some (.string (S i)) := by simp [rowS, h]

theorem make22 (n : Nat) (h : n ≤ 1048576) (w : World) : (Instr.makeSlice 22 (.int .i64 n) (.int .i64 n)).run Tryf.prog w = .ok (.slice (some ⟨w.heap.size, 0, none⟩) n n) (w.alloc (.cells (blankS n) 9)) := by
  obtain ⟨i, hi, hz, hs, hb⟩ := info_parts Tryf.info9
  have := run_make (P := Tryf.prog) w 22 9 i _ Tryf.underlying22 hi hz .i64 .i64 n n (by omega) (by omega) (by rw [hb]; omega) (by omega)
  rw [this, hs]
  simp [blankS, Value.cells]

theorem setRow_alloc (w : World) (C D : Array Value) (t : TypeId) : (w.alloc (.cells C t)).setRow w.heap.size D = w.alloc (.cells D t) := by
  have h : (w.heap.push (Obj.cells C t)).modify w.heap.size (fun
      | .cells _ elem frozen => .cells D elem frozen
      | o => o) = w.heap.push (.cells D t) := by
    apply Array.ext
    · simp
    · intro i h1 h2
      rw [Array.getElem_modify, Array.getElem_push, Array.getElem_push]
      by_cases e : w.heap.size = i
      · subst e; simp
      · have : i < w.heap.size := by simp at h2; omega
        simp [e, this]
  exact congrArg (fun x => ({ w with heap := x } : World)) h

theorem row_new (w : World) (n : Nat) (S : Nat → ByteArray) : StrRow (w.alloc (.cells (rowS n S) 9)) (some ⟨w.heap.size, 0, none⟩) n S := fun i hi =>
  ⟨w.heap.size, 0, rfl, by simp, by rw [Nat.zero_add, (Blk.new w 9 _).cell, rowS_at n S i hi]⟩

/-- 'copy' of the n strings at ad into the row just made -/
theorem copy22 (ty : TypeId) (ad : Addr) (n cap : Nat) (S : Nat → ByteArray) (w : World) (hr : StrRow w (some ad) n S) :
    (Builtin.copy_ #[22, 22] ty #[.slice (some ⟨w.heap.size, 0, none⟩) n n, .slice (some ad) n cap]).run Tryf.prog (w.alloc (.cells (blankS n) 9)) = .ok (.int .i64 n) (w.alloc (.cells (rowS n S) 9)) := by
  by_cases h0 : n = 0
  · subst h0
    have := run_copy_none (P := Tryf.prog) (w.alloc (.cells (blankS 0) 9)) 22 22 ty 9 (some ⟨w.heap.size, 0, none⟩) (some ad) 0 0 0 cap Tryf.underlying22 Tryf.size9 (by simp)
    have e : blankS 0 = rowS 0 S := by simp [blankS, rowS, madeCells]
    rw [this, e]
    rfl
  · obtain ⟨b, off, e, hlt, _⟩ := hr 0 (by omega)
    injection e with e
    subst e
    have hcs : ∀ j v, (rowS n S).toList[j]? = some v → (w.alloc (.cells (blankS n) 9)).cell? ((⟨b, off, none⟩ : Addr).add j) = some v := by
      intro j v hj
      have hjn : j < n := by
        have := (List.getElem?_eq_some_iff.1 hj).1
        simpa [size_rowS] using this
      obtain ⟨b', off', e', hlt', hc⟩ := hr j hjn
      simp only [Option.some.injEq, Addr.mk.injEq] at e'
      obtain ⟨rfl, rfl, _⟩ := e'
      rw [Go.WideShapes.add_plain, cell_later ((Below.refl _ _).alloc (Nat.le_refl _) _) hc, ← hj]
      have := rowS_at n S j hjn
      simpa using this.symm
    have := run_copy_row (P := Tryf.prog) (w.alloc (.cells (blankS n) 9)) 22 22 ty 9 w.heap.size 0 n n ⟨b, off, none⟩ n cap (blankS n) 9 (rowS n S).toList Tryf.underlying22 Tryf.size9 (heap_alloc_new w _) (by simp [size_rowS]) hcs (by simp [size_rowS, size_blankS]) (by
      intro v hv
      simp [rowS] at hv
      obtain ⟨a, _, rfl⟩ := hv
      rfl)
    rw [this]
    have e1 : ((blankS n).toList.take 0 ++ (rowS n S).toList ++ (blankS n).toList.drop (0 + (rowS n S).toList.length)).toArray = rowS n S := by
      have : (blankS n).toList.drop (0 + (rowS n S).toList.length) = [] := List.drop_eq_nil_of_le (by simp [size_rowS, size_blankS])
      rw [this]; simp
    rw [e1, setRow_alloc]
    simp [goInt, size_rowS]

set_option maxHeartbeats 400000 in
/-- zzAddBytes -/
theorem addBytes (a : Option Addr) (n cap : Nat) (S : Nat → ByteArray) (z : Int) (w : World) (hn : n ≤ 1048576) (h0 : 0 ≤ z) (h1 : z ≤ 2097168) (hr : StrRow w a n S) (hs : ∀ i, i < n → (S i).size ≤ maxLen) :
    Calls Tryf.prog 7 #[.slice a n cap, .int .i64 z] w (RetI (fun r => 0 ≤ r ∧ r ≤ 2097168) w) := by
  unfold maxLen at hs
  by_cases hz : 1048576 < z
  · go_enter Tryf.func7, Tryf.ntmps7
    go_wp2
    go_ret
    exact RetI.mk _ rfl rfl ⟨h0, h1⟩
  go_enter Tryf.func7, Tryf.ntmps7
  go_wp2
  go_loop [1, 5] (fun t i => ∃ k : Nat, ∃ z : Int, k ≤ n ∧ 0 ≤ z ∧ z ≤ 1048576 ∧ i = .int .i64 k ∧ t = .int .i64 z) (fun _ i => n - (intOf i).toNat)
  case atStart => exact ⟨0, z, Nat.zero_le _, by omega, by omega, rfl, rfl⟩
  case round =>
    obtain ⟨k, z, hk, hz0, hz1, rfl, rfl⟩ := hrel
    by_cases hlt : k < n
    · obtain ⟨b, off, rfl, hb, hc⟩ := hr k hlt
      have hsk := hs k hlt
      clear hr hs
      go_wp2
      · go_ret
        exact RetI.mk _ rfl rfl (by omega)
      · go_ret
        exact RetI.mk _ rfl rfl (by omega)
      · go_round
        case rel => exact ⟨k + 1, _, by omega, by omega, by omega, by go_num, rfl⟩
        case measure => simp [intOf]; omega
    · go_wp2
      go_ret
      exact RetI.mk _ rfl rfl (by omega)

theorem not_mem_of {n : Nat} {S : Nat → ByteArray} {x : ByteArray} (h : ∀ j, j < n → S j ≠ x) : false = true ↔ Mem n S x :=
  ⟨fun h => by simp at h, fun ⟨i, hi, e⟩ => absurd e (h i hi)⟩
theorem mem_of {n : Nat} {S : Nat → ByteArray} {x : ByteArray} {k : Nat} (hk : k < n) (h : S k = x) : true = true ↔ Mem n S x := ⟨fun _ => ⟨k, hk, h⟩, fun _ => rfl⟩

set_option maxHeartbeats 400000 in
/-- zzContains -/
theorem contains12 (a : Option Addr) (n cap : Nat) (S : Nat → ByteArray) (x : ByteArray) (w : World) (hn : n ≤ 1048576) (hr : StrRow w a n S) :
    Calls Tryf.prog 12 #[.slice a n cap, .string x] w (RetB (fun r => r = true ↔ Mem n S x) w) := by
  go_enter Tryf.func12, Tryf.ntmps12
  go_wp2
  go_loop [5] (fun i => ∃ k : Nat, k ≤ n ∧ i = .int .i64 k ∧ Hid (∀ j, j < k → S j ≠ x)) (fun i => n - (intOf i).toNat)
  case atStart => exact ⟨0, Nat.zero_le _, rfl, fun j h => absurd h (by omega)⟩
  case round =>
    obtain ⟨k, hk, rfl, H⟩ := hrel
    by_cases hlt : k < n
    · obtain ⟨b, off, rfl, hb, hc⟩ := hr k hlt
      clear hr
      cases he : ((S k).toList == x.toList)
      · have hne := neq_of he
        go_wp2
        go_round
        case rel => exact ⟨k + 1, by omega, by go_num, fun j hj => by
          by_cases e : j = k
          · subst e; exact hne
          · exact H.out j (by omega)⟩
        case measure => simp [intOf]; omega
      · have heq := eq_of he
        go_wp2
        go_ret
        exact RetB.mk _ rfl rfl (mem_of hlt heq)
    · go_wp2
      go_ret
      exact RetB.mk _ rfl rfl (not_mem_of (fun j hj => H.out j (by omega)))

set_option maxHeartbeats 400000 in
/-- slices.Index at strings -/
theorem index25 (a : Option Addr) (n cap : Nat) (S : Nat → ByteArray) (x : ByteArray) (w : World) (hn : n ≤ 1048576) (hr : StrRow w a n S) :
    Calls Tryf.prog 25 #[.slice a n cap, .string x] w (RetI (fun r => 0 ≤ r ↔ Mem n S x) w) := by
  go_enter Tryf.func25, Tryf.ntmps25
  go_wp2
  go_loop [8] (fun i => ∃ k : Nat, k ≤ n ∧ i = .int .i64 k ∧ Hid (∀ j, j < k → S j ≠ x)) (fun i => n - (intOf i).toNat)
  case atStart => exact ⟨0, Nat.zero_le _, rfl, fun j h => absurd h (by omega)⟩
  case round =>
    obtain ⟨k, hk, rfl, H⟩ := hrel
    by_cases hlt : k < n
    · obtain ⟨b, off, rfl, hb, hc⟩ := hr k hlt
      clear hr
      cases he : (x.toList == (S k).toList)
      · have hne := (neq_of he).symm
        go_wp2
        go_round
        case rel => exact ⟨k + 1, by omega, by go_num, fun j hj => by
          by_cases e : j = k
          · subst e; exact hne
          · exact H.out j (by omega)⟩
        case measure => simp [intOf]; omega
      · have heq := (eq_of he).symm
        go_wp2
        go_ret
        exact RetI.mk _ rfl rfl ⟨fun _ => ⟨k, hlt, heq⟩, fun _ => by omega⟩
    · go_wp2
      go_ret
      exact RetI.mk _ rfl rfl ⟨fun h => by omega, fun ⟨i, hi, e⟩ => absurd e (H.out i (by omega))⟩

/-- slices.Contains at strings -/
theorem contains21 (a : Option Addr) (n cap : Nat) (S : Nat → ByteArray) (x : ByteArray) (w : World) (hn : n ≤ 1048576) (hr : StrRow w a n S) :
    Calls Tryf.prog 21 #[.slice a n cap, .string x] w (RetB (fun r => r = true ↔ Mem n S x) w) := by
  go_enter Tryf.func21, Tryf.ntmps21
  go_wp2_with fail
  refine (index25 a n cap S x w hn hr).mono ?_
  rintro e w' ⟨r, rfl, rfl, hr'⟩
  go_wp2
  go_ret
  exact RetB.mk (decide (r ≥ 0)) rfl rfl (by rw [decide_eq_true_iff]; exact hr')
end Go.Proofs.Qxb6613513aFmt
