/-
  CloneLayout.
-/
import Derived.Test.Qxb6613521aFmtValid
namespace Go.Proofs.Qxb6613521aFmt
open Go.RowKit Go.Extern.Stop Go.Stop Go.Extern

theorem Tryf.info41 : (Tryf.prog.info? 41).map (fun i => (i.zero, i.size, i.bytes)) = some (some (.agg #[.int .u64 0, .slice none 0 0, .slice none 0 0, .slice none 0 0]), 4, 80) := by kernel_rfl
theorem eqlNil42 (w : World) (a : Option Addr) (n c n' c' : Nat) : (binOp .eql 42 (.slice a n c) (.slice none n' c')).run Tryf.prog w = .ok (.bool a.isNone) w := Lib.run_eql_slice_nil w _ _ a n c n' c' Tryf.underlying42
attribute [local go_sem] eqlNil42

/-- four cells at the head of block G -/
structure Four (w : World) (G : Nat) (x0 x1 x2 x3 : Value) : Prop where
  g0 : w.cell? ⟨G, 0, none⟩ = some x0
  g1 : w.cell? ⟨G, 1, none⟩ = some x1
  g2 : w.cell? ⟨G, 2, none⟩ = some x2
  g3 : w.cell? ⟨G, 3, none⟩ = some x3

theorem append41 (g G c : Nat) (x0 x1 x2 x3 : Value) (w : World) (h : Four w G x0 x1 x2 x3) :
    ∃ c' w1 C, (∀ ty, (Builtin.append_ #[42, 42] ty #[.slice (some ⟨g, 0, none⟩) 0 0, .slice (some ⟨G, 0, none⟩) 1 c]).run Tryf.prog w = .ok (.slice (some ⟨w.heap.size, 0, none⟩) 1 c') w1) ∧ 1 ≤ c' ∧
      Blk w1 w.heap.size 41 C ∧ 4 ≤ C.size ∧ C[0]? = some x0 ∧ C[1]? = some x1 ∧ C[2]? = some x2 ∧ C[3]? = some x3 ∧ w1.heap.size = w.heap.size + 1 ∧ Below w.heap.size w w1 := by
  obtain ⟨i, hi, hz, hsz, hb⟩ := info_parts Tryf.info41
  have hcs : ∀ j v, [x0, x1, x2, x3][j]? = some v → w.cell? ((⟨G, 0, none⟩ : Addr).add j) = some v := by
    intro j v hj
    rw [Go.WideShapes.add_plain, Nat.zero_add]
    match j, hj with
    | 0, hj => rw [h.g0]; simpa using hj
    | 1, hj => rw [h.g1]; simpa using hj
    | 2, hj => rw [h.g2]; simpa using hj
    | 3, hj => rw [h.g3]; simpa using hj
    | j + 4, hj => simp at hj
  refine ⟨_, _, _, fun ty => run_append_grow (P := Tryf.prog) (w := w) 42 ty 41 i _ Tryf.underlying42 hi hz ⟨g, 0, none⟩ 0 0 [] (by simp) (by simp) ⟨G, 0, none⟩ 1 c [x0, x1, x2, x3] (by simp [hsz]) hcs (by omega) (by omega) (by rw [hb, nextslicecap_zero (by omega)]; omega), grownCap_ge _ _ _ _, Blk.new _ _ _, ?_, ?_, ?_, ?_, ?_, ?_, ?_⟩
  · simp
  · simp [Array.getElem?_append_left]
  · simp [Array.getElem?_append_left]
  · simp [Array.getElem?_append_left]
  · simp [Array.getElem?_append_left]
  · simp
  · exact ((Below.refl _ w).drew).alloc (Nat.le_refl _) _

/-- what slices.Clone of the one segment hands back -/
def SegCloned (x0 x1 x2 x3 : Value) (w : World) (e : Ending) (w' : World) : Prop :=
  ∃ G' c' C, e = .returned (.slice (some ⟨G', 0, none⟩) 1 c') ∧ 1 ≤ c' ∧ w.heap.size ≤ G' ∧ Blk w' G' 41 C ∧ 4 ≤ C.size ∧ C[0]? = some x0 ∧ C[1]? = some x1 ∧ C[2]? = some x2 ∧ C[3]? = some x3 ∧ Below w.heap.size w w'

set_option maxHeartbeats 1000000 in
theorem clone35 (G c : Nat) (x0 x1 x2 x3 : Value) (w : World) (h : Four w G x0 x1 x2 x3) : Calls Tryf.prog 35 #[.slice (some ⟨G, 0, none⟩) 1 c] w (SegCloned x0 x1 x2 x3 w) := by
  have hb0 : Below w.heap.size w (w.alloc (.cells #[] 41)) := (Below.refl _ _).alloc (Nat.le_refl _) _
  obtain ⟨c', w1, C, happ, hc, hB, hs, k0, k1, k2, k3, hz, hb⟩ := append41 w.heap.size G c x0 x1 x2 x3 (w.alloc (.cells #[] 41)) ⟨cell_later hb0 h.g0, cell_later hb0 h.g1, cell_later hb0 h.g2, cell_later hb0 h.g3⟩
  clear h
  go_enter Tryf.func35, Tryf.ntmps35
  go_wp2_with (first | (at_builtin; refine wpList_append_run rfl _ _ 42 rfl _ _ _ _ rfl rfl happ ?_) | go_in)
  go_ret
  have e1 : (w.alloc (.cells #[] 41)).heap.size = w.heap.size + 1 := by simp
  rw [e1] at hB
  exact ⟨_, c', C, rfl, hc, by omega, hB, hs, k0, k1, k2, k3, hb0.trans (hb.mono hb0.size)⟩

/-- the state of CloneLayout: X the copy of l, X + 1 the result's variable, G the new segments, Z the loop's copy of the segment -/
structure CSt (v : LayV) (L S R : Nat → ByteArray) (w : World) (X G c Z : Nat) (y1 y2 y3 : Value) (wr : World) : Prop where
  b : Below w.heap.size w wr
  has : v.Has wr L S R
  bx : Blk wr X 44 #[.int .u64 v.e, .string v.p, .string v.q, .slice (some ⟨G, 0, none⟩) 1 c]
  by_ : ∃ C, Blk wr (X + 1) 44 C ∧ C.size = 4
  bg : ∃ C, Blk wr G 41 C ∧ 4 ≤ C.size ∧ C[0]? = some (.int .u64 v.st) ∧ C[1]? = some y1 ∧ C[2]? = some y2 ∧ C[3]? = some y3
  bz : Blk wr Z 41 #[.int .u64 v.st, .slice v.aL v.nL v.cL, .slice v.aS v.nS v.cS, .slice v.aR v.nR v.cR]
  x : w.heap.size ≤ X
  xg : X + 1 < G
  gz : G < Z
  kc : 1 ≤ c
theorem CSt.next {v : LayV} {L S R : Nat → ByteArray} {w : World} {X G c Z : Nat} {y1 y2 y3 : Value} {wr w' : World} (h : CSt v L S R w X G c Z y1 y2 y3 wr) (hb : Below wr.heap.size wr w') : CSt v L S R w X G c Z y1 y2 y3 w' := by
  obtain ⟨C, h1, h2⟩ := h.by_
  obtain ⟨D, h3, h4⟩ := h.bg
  exact ⟨h.b.trans (hb.mono h.b.size), h.has.below hb, h.bx.below hb h.bx.lt, ⟨C, h1.below hb h1.lt, h2⟩, ⟨D, h3.below hb h3.lt, h4⟩, h.bz.below hb h.bz.lt, h.x, h.xg, h.gz, h.kc⟩
theorem CSt.drew {v : LayV} {L S R : Nat → ByteArray} {w : World} {X G c Z : Nat} {y1 y2 y3 : Value} {wr : World} (h : CSt v L S R w X G c Z y1 y2 y3 wr) : CSt v L S R w X G c Z y1 y2 y3 wr.drew := h.next (Below.refl _ _).drew
theorem LayV.Has.set {v : LayV} {L S R : Nat → ByteArray} {w wr : World} (h0 : v.Has w L S R) (hb : Below w.heap.size w wr) : v.Has wr L S R := h0.below hb
theorem CSt.set {v : LayV} {L S R : Nat → ByteArray} {w : World} {X G c Z : Nat} {y1 y2 y3 : Value} {wr : World} (h : CSt v L S R w X G c Z y1 y2 y3 wr) (h0 : v.Has w L S R) (k : Nat) (y : Value) (hk : k = 1 ∨ k = 2 ∨ k = 3) :
    CSt v L S R w X G c Z (if k = 1 then y else y1) (if k = 2 then y else y2) (if k = 3 then y else y3) (wr.setCell ⟨G, k, none⟩ y) := by
  obtain ⟨C, h1, h2⟩ := h.by_
  obtain ⟨D, h3, h4, k0, k1, k2, k3⟩ := h.bg
  have hx := h.x
  have hxg := h.xg
  have hgz := h.gz
  have hb : Below w.heap.size w (wr.setCell ⟨G, k, none⟩ y) := h.b.setCell (by show w.heap.size ≤ G; omega) y
  refine ⟨hb, h0.below hb, h.bx.other _ _ (by show X ≠ G; omega), ⟨C, h1.other _ _ (by show X + 1 ≠ G; omega), h2⟩, ⟨_, h3.set k y, by simpa using h4, ?_, ?_, ?_, ?_⟩, h.bz.other _ _ (by show Z ≠ G; omega), hx, hxg, hgz, h.kc⟩
  · rw [Array.getElem?_setIfInBounds, if_neg (by omega)]; exact k0
  · rw [Array.getElem?_setIfInBounds]
    by_cases e : k = 1
    · rw [if_pos e, if_pos e, if_pos (by omega)]
    · rw [if_neg e, if_neg e]; exact k1
  · rw [Array.getElem?_setIfInBounds]
    by_cases e : k = 2
    · rw [if_pos e, if_pos e, if_pos (by omega)]
    · rw [if_neg e, if_neg e]; exact k2
  · rw [Array.getElem?_setIfInBounds]
    by_cases e : k = 3
    · rw [if_pos e, if_pos e, if_pos (by omega)]
    · rw [if_neg e, if_neg e]; exact k3

/-- n strings S in a row of their own at block g -/
def OwnG (w : World) (a : Option Addr) (n : Nat) (S : Nat → ByteArray) (g : Nat) : Prop := n = 0 ∨ ∃ N, a = some ⟨g, 0, none⟩ ∧ n ≤ N ∧ Grows g N n S w
theorem OwnG.of {w : World} {a : Option Addr} {n : Nat} {S : Nat → ByteArray} {d : Nat} (h : Own w a n S d) (hd : d ≤ w.heap.size) : ∃ g, d ≤ g ∧ OwnG w a n S g ∧ g ≤ w.heap.size := by
  rcases h with h | ⟨g, N, h1, h2, h3, h4⟩
  · exact ⟨w.heap.size, hd, Or.inl h, Nat.le_refl _⟩
  · exact ⟨g, h2, Or.inr ⟨N, h1, h3, h4⟩, Nat.le_of_lt h4.lt⟩

end Go.Proofs.Qxb6613521aFmt
