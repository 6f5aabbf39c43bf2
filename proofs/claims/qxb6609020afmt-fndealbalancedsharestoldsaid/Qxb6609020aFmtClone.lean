/-
  zzCloneStrings by its contract.
-/
import Derived.Test.Qxb6609020aFmtStrs
namespace Go.Proofs.Qxb6609020aFmt
open Go.RowKit

theorem Tryf.info9 : (Tryf.prog.info? 9).map (fun i => (i.zero, i.size, i.bytes)) = some (some (.string ByteArray.empty), 1, 16) := by kernel_rfl

/-- block B of w is a plain row of cells of type t, none frozen -/
def Blk (w : World) (B : Nat) (t : TypeId) (C : Array Value) : Prop := w.heap[B]? = some (.cells C t (0, 0))
theorem Blk.cell {w : World} {B : Nat} {t : TypeId} {C : Array Value} (h : Blk w B t C) (j : Nat) : w.cell? ⟨B, j, none⟩ = C[j]? := cell_of_row w B j C t (0, 0) h
theorem Blk.frozen {w : World} {B : Nat} {t : TypeId} {C : Array Value} (h : Blk w B t C) (j : Nat) : w.frozen? ⟨B, j, none⟩ = false := frozen_of_row w B j C t h
theorem Blk.lt {w : World} {B : Nat} {t : TypeId} {C : Array Value} (h : Blk w B t C) : B < w.heap.size := lt_of_block h
theorem Blk.set {w : World} {B : Nat} {t : TypeId} {C : Array Value} (h : Blk w B t C) (j : Nat) (v : Value) : Blk (w.setCell ⟨B, j, none⟩ v) B t (C.setIfInBounds j v) := heap_setCell_same w B j C t v h
theorem Blk.other {w : World} {B : Nat} {t : TypeId} {C : Array Value} (h : Blk w B t C) (a : Addr) (v : Value) (hne : B ≠ a.block) : Blk (w.setCell a v) B t C := (heap_setCell_other w a B v hne).trans h
theorem Blk.below {w w' : World} {B D : Nat} {t : TypeId} {C : Array Value} (h : Blk w B t C) (hb : Below D w w') (hD : B < D) : Blk w' B t C := (hb.block B hD).trans h
theorem Blk.new (w : World) (t : TypeId) (C : Array Value) : Blk (w.alloc (.cells C t)) w.heap.size t C := heap_alloc_new w _
theorem Blk.alloc {w : World} {B : Nat} {t : TypeId} {C : Array Value} (h : Blk w B t C) (o : Obj) : Blk (w.alloc o) B t C := (Below.heap_alloc w o B h.lt).trans h
theorem Blk.drew {w : World} {B : Nat} {t : TypeId} {C : Array Value} (h : Blk w B t C) : Blk w.drew B t C := h

/-- n empty strings -/
def blankS (n : Nat) : Array Value := madeCells #[.string ByteArray.empty] n
theorem size_blankS (n : Nat) : (blankS n).size = n := by simp [blankS, madeCells]

theorem make22 (n : Nat) (h : n ≤ 1048576) (w : World) : (Instr.makeSlice 22 (.int .i64 n) (.int .i64 n)).run Tryf.prog w = .ok (.slice (some ⟨w.heap.size, 0, none⟩) n n) (w.alloc (.cells (blankS n) 9)) := by
  obtain ⟨i, hi, hz, hs, hb⟩ := info_parts Tryf.info9
  have := run_make (P := Tryf.prog) w 22 9 i _ Tryf.underlying22 hi hz .i64 .i64 n n (by omega) (by omega) (by rw [hb]; omega) (by omega)
  rw [this, hs]
  simp [blankS, Value.cells]

/-- what a row of n strings S looks like in a block -/
def RowS (C : Array Value) (n : Nat) (S : Nat → ByteArray) : Prop := C.size = n ∧ ∀ j, j < n → C[j]? = some (.string (S j))

theorem RowS.strRow {w : World} {B : Nat} {C : Array Value} {n : Nat} {S : Nat → ByteArray} (h : RowS C n S) (hB : Blk w B 9 C) : StrRow w (some ⟨B, 0, none⟩) n S := fun i hi =>
  ⟨B, 0, rfl, hB.lt, by rw [Nat.zero_add, hB.cell]; exact h.2 i hi⟩

def Cloned (n : Nat) (S : Nat → ByteArray) (w : World) (e : Ending) (w' : World) : Prop :=
  e = .returned (.slice (some ⟨w.heap.size, 0, none⟩) n n) ∧ Below w.heap.size w w' ∧ w'.heap.size = w.heap.size + 1 ∧ ∃ C, Blk w' w.heap.size 9 C ∧ RowS C n S

theorem clone_nil (w : World) : Calls Tryf.prog 7 #[.slice none 0 0] w fun e w' => e = .returned (.slice none 0 0) ∧ w' = w := by
  have hq := fun (w : World) (a : Option Addr) (n c : Nat) => Lib.run_eql_slice_nil (P := Tryf.prog) w 22 9 a n c 0 0 Tryf.underlying22
  go_enter Tryf.func7, Tryf.ntmps7
  go_wp2
  go_ret
  exact ⟨rfl, rfl⟩

set_option maxHeartbeats 400000 in
theorem clone_some (ad : Addr) (n cap : Nat) (S : Nat → ByteArray) (w : World) (hn : n ≤ 1048576) (hr : StrRow w (some ad) n S) :
    Calls Tryf.prog 7 #[.slice (some ad) n cap] w (Cloned n S w) := by
  have hq := fun (w : World) (a : Option Addr) (n c : Nat) => Lib.run_eql_slice_nil (P := Tryf.prog) w 22 9 a n c 0 0 Tryf.underlying22
  have hmk := make22 n hn
  have hB0 := Blk.new w 9 (blankS n)
  have hb0 : Below w.heap.size w (w.alloc (.cells (blankS n) 9)) := (Below.refl _ _).alloc (Nat.le_refl _) _
  have hsz0 : (w.alloc (.cells (blankS n) 9)).heap.size = w.heap.size + 1 := by simp
  have H0 : Hid (∃ C, Blk (w.alloc (.cells (blankS n) 9)) w.heap.size 9 C ∧ C.size = n ∧ (∀ j, j < 0 → C[j]? = some (.string (S j))) ∧ Below w.heap.size w (w.alloc (.cells (blankS n) 9)) ∧ (w.alloc (.cells (blankS n) 9)).heap.size = w.heap.size + 1) := ⟨_, hB0, size_blankS n, fun j hj => absurd hj (by omega), hb0, hsz0⟩
  clear hB0 hb0 hsz0
  go_enter Tryf.func7, Tryf.ntmps7
  go_wp2
  go_loopw [4] (fun i wr => ∃ k : Nat, k ≤ n ∧ i = .int .i64 k ∧ Hid (∃ C, Blk wr w.heap.size 9 C ∧ C.size = n ∧ (∀ j, j < k → C[j]? = some (.string (S j))) ∧ Below w.heap.size w wr ∧ wr.heap.size = w.heap.size + 1)) (fun i _ => n - (intOf i).toNat)
  case atStart => exact ⟨0, Nat.zero_le _, rfl, H0⟩
  case round =>
    obtain ⟨k, hk, rfl, H⟩ := hrel
    clear hmk hq H0
    by_cases hlt : k < n
    · obtain ⟨C, hB, hCs, hC, hb, hsz⟩ := H.out
      obtain ⟨b, off, hab, hbl, hc⟩ := hr k hlt
      have hc' : wr.cell? ⟨b, off + k, none⟩ = some (.string (S k)) := cell_later hb hc
      have hd : wr.cell? ⟨w.heap.size, k, none⟩ = some (C[k]'(by omega)) := by rw [hB.cell]; exact Array.getElem?_eq_getElem (by omega)
      have hf : wr.frozen? ⟨w.heap.size, k, none⟩ = false := hB.frozen k
      have H1 : Hid (∃ C, Blk (wr.setCell ⟨w.heap.size, k, none⟩ (.string (S k))) w.heap.size 9 C ∧ C.size = n ∧ (∀ j, j < k + 1 → C[j]? = some (.string (S j))) ∧ Below w.heap.size w (wr.setCell ⟨w.heap.size, k, none⟩ (.string (S k))) ∧ (wr.setCell ⟨w.heap.size, k, none⟩ (.string (S k))).heap.size = w.heap.size + 1) := by
        refine ⟨_, hB.set k _, by simpa using hCs, fun j hj => ?_, hb.setCell (Nat.le_refl _) _, by simpa using hsz⟩
        by_cases e : j = k
        · subst e; simp [hCs, hlt]
        · rw [Array.getElem?_setIfInBounds_ne (fun h => e h.symm)]; exact hC j (by omega)
      clear H hB hC hb hsz hr hc
      injection hab with hab
      subst hab
      go_wp2
      go_roundw
      case rel => exact ⟨k + 1, by omega, by go_num, H1⟩
      case measure => simp [intOf]; omega
    · have e : k = n := by omega
      subst e
      go_wp2
      go_ret
      obtain ⟨C, hB, hCs, hC, hb, hsz⟩ := H.out
      exact ⟨rfl, hb, hsz, C, hB, hCs, hC⟩
end Go.Proofs.Qxb6609020aFmt
