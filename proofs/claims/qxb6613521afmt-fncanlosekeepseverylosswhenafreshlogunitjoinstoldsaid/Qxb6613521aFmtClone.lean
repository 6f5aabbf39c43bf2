/-
  CloneLayout, the walk.
-/
import Derived.Test.Qxb6613521aFmtLost
namespace Go.Proofs.Qxb6613521aFmt
open Go.RowKit Go.Extern.Stop Go.Stop Go.Extern

/-- n strings S in a row of their own, at a block from lo up to hi -/
def OwnI (w : World) (a : Option Addr) (n : Nat) (S : Nat → ByteArray) (lo hi : Nat) : Prop := n = 0 ∨ ∃ g N, a = some ⟨g, 0, none⟩ ∧ lo ≤ g ∧ g < hi ∧ n ≤ N ∧ Grows g N n S w
theorem OwnI.of {w : World} {a : Option Addr} {n : Nat} {S : Nat → ByteArray} {d : Nat} (h : Own w a n S d) : OwnI w a n S d w.heap.size := by
  rcases h with h | ⟨g, N, h1, h2, h3, h4⟩
  · exact Or.inl h
  · exact Or.inr ⟨g, N, h1, h2, h4.lt, h3, h4⟩
theorem OwnI.next {w w' : World} {a : Option Addr} {n : Nat} {S : Nat → ByteArray} {lo hi : Nat} (h : OwnI w a n S lo hi) (hb : Below w.heap.size w w') : OwnI w' a n S lo hi := by
  rcases h with h | ⟨g, N, h1, h2, h3, h4, D, h5, h6⟩
  · exact Or.inl h
  · exact Or.inr ⟨g, N, h1, h2, h3, h4, D, h5.below hb h5.lt, h6⟩
theorem OwnI.set {w : World} {a : Option Addr} {n : Nat} {S : Nat → ByteArray} {lo hi : Nat} (h : OwnI w a n S lo hi) (G k : Nat) (v : Value) (hG : G < lo ∨ hi ≤ G) : OwnI (w.setCell ⟨G, k, none⟩ v) a n S lo hi := by
  rcases h with h | ⟨g, N, h1, h2, h3, h4, D, h5, h6⟩
  · exact Or.inl h
  · exact Or.inr ⟨g, N, h1, h2, h3, h4, D, h5.other _ _ (by show g ≠ G; omega), h6⟩

theorem CSt.held {v : LayV} {L S R : Nat → ByteArray} {w : World} {X G c Z : Nat} {y1 y2 y3 : Value} {wr : World} (h : CSt v L S R w X G c Z y1 y2 y3 wr) :
    wr.cell? ⟨X, 3, none⟩ = some (.slice (some ⟨G, 0, none⟩) 1 c) ∧ wr.cell? ⟨Z, 1, none⟩ = some (.slice v.aL v.nL v.cL) ∧ wr.cell? ⟨Z, 2, none⟩ = some (.slice v.aS v.nS v.cS) := ⟨h.bx.cell 3, h.bz.cell 1, h.bz.cell 2⟩
theorem CSt.place {v : LayV} {L S R : Nat → ByteArray} {w : World} {X G c Z : Nat} {y1 y2 y3 : Value} {wr : World} (h : CSt v L S R w X G c Z y1 y2 y3 wr) :
    wr.cell? ⟨G, 1, none⟩ = some y1 ∧ wr.cell? ⟨G, 2, none⟩ = some y2 ∧ wr.cell? ⟨G, 3, none⟩ = some y3 ∧ wr.frozen? ⟨G, 1, none⟩ = false ∧ wr.frozen? ⟨G, 2, none⟩ = false ∧ wr.frozen? ⟨G, 3, none⟩ = false := by
  obtain ⟨C, h1, h2, k0, k1, k2, k3⟩ := h.bg
  exact ⟨(h1.cell 1).trans k1, (h1.cell 2).trans k2, (h1.cell 3).trans k3, h1.frozen 1, h1.frozen 2, h1.frozen 3⟩

/-- behind the first two copies -/
def Two (v : LayV) (L S R : Nat → ByteArray) (w : World) (X G c Z : Nat) (wr : World) : Prop :=
  ∃ aL cL aS cS m1 m2 m3, CSt v L S R w X G c Z (.slice aL v.nL cL) (.slice aS v.nS cS) (.slice v.aR v.nR v.cR) wr ∧ v.nL ≤ cL ∧ v.nS ≤ cS ∧ Z < m1 ∧ m1 ≤ m2 ∧ m2 ≤ m3 ∧ m3 ≤ wr.heap.size ∧
    OwnI wr aL v.nL L m1 m2 ∧ OwnI wr aS v.nS S m2 m3

/-- behind all three copies -/
def Three (v : LayV) (L S R : Nat → ByteArray) (w : World) (X G c Z : Nat) (wr : World) : Prop :=
  ∃ aL cL aS cS aR cR m1 m2 m3 m4 m5, CSt v L S R w X G c Z (.slice aL v.nL cL) (.slice aS v.nS cS) (.slice aR v.nR cR) wr ∧ v.nL ≤ cL ∧ v.nS ≤ cS ∧ v.nR ≤ cR ∧ Z < m1 ∧ m1 ≤ m2 ∧ m2 ≤ m3 ∧ m3 ≤ m4 ∧ m4 ≤ m5 ∧ m5 ≤ wr.heap.size ∧
    OwnI wr aL v.nL L m1 m2 ∧ OwnI wr aS v.nS S m2 m3 ∧ OwnI wr aR v.nR R m4 m5

/-- what CloneLayout hands back -/
def LCloned (v : LayV) (L S R : Nat → ByteArray) (w : World) (e : Ending) (w' : World) : Prop :=
  ∃ G c aL cL aS cS aR cR m1 m2 m3 m4 m5 C, e = .returned (.agg #[.int .u64 v.e, .string v.p, .string v.q, .slice (some ⟨G, 0, none⟩) 1 c]) ∧ 1 ≤ c ∧ Below w.heap.size w w' ∧ w.heap.size ≤ G ∧
    Blk w' G 41 C ∧ 4 ≤ C.size ∧ C[0]? = some (.int .u64 v.st) ∧ C[1]? = some (.slice aL v.nL cL) ∧ C[2]? = some (.slice aS v.nS cS) ∧ C[3]? = some (.slice aR v.nR cR) ∧
    v.nL ≤ cL ∧ v.nS ≤ cS ∧ v.nR ≤ cR ∧ G < m1 ∧ m1 ≤ m2 ∧ m2 ≤ m3 ∧ m3 ≤ m4 ∧ m4 ≤ m5 ∧ m5 ≤ w'.heap.size ∧ OwnI w' aL v.nL L m1 m2 ∧ OwnI w' aS v.nS S m2 m3 ∧ OwnI w' aR v.nR R m4 m5

set_option maxHeartbeats 4000000 in
set_option maxRecDepth 100000 in
theorem cloneLayout32 (v : LayV) (L S R : Nat → ByteArray) (w : World) (h : Four w v.G (.int .u64 v.st) (.slice v.aL v.nL v.cL) (.slice v.aS v.nS v.cS) (.slice v.aR v.nR v.cR)) (hh : v.Has w L S R) :
    Calls Tryf.prog 32 #[.agg #[.int .u64 v.e, .string v.p, .string v.q, .slice (some ⟨v.G, 0, none⟩) 1 v.cG]] w (LCloned v L S R w) := by
  have hb1 : Below w.heap.size w (w.alloc (.cells #[.int .u64 v.e, .string v.p, .string v.q, .slice (some ⟨v.G, 0, none⟩) 1 v.cG] 44)) := Below.one _
  have hb2 : Below w.heap.size w ((w.alloc (.cells #[.int .u64 v.e, .string v.p, .string v.q, .slice (some ⟨v.G, 0, none⟩) 1 v.cG] 44)).alloc (.cells #[.int .u64 0, .string ByteArray.empty, .string ByteArray.empty, .slice none 0 0] 44)) := hb1.alloc (by simp) _
  go_enter Tryf.func32, Tryf.ntmps32
  go_wp2_with fail
  refine (clone35 v.G v.cG _ _ _ _ ((w.alloc (.cells #[.int .u64 v.e, .string v.p, .string v.q, .slice (some ⟨v.G, 0, none⟩) 1 v.cG] 44)).alloc (.cells #[.int .u64 0, .string ByteArray.empty, .string ByteArray.empty, .slice none 0 0] 44)) ⟨cell_later hb2 h.g0, cell_later hb2 h.g1, cell_later hb2 h.g2, cell_later hb2 h.g3⟩).mono ?_
  rintro e w1 ⟨G', c', C, rfl, hc', hG, hB, hs, k0, k1, k2, k3, hb3⟩
  have e2 : ((w.alloc (.cells #[.int .u64 v.e, .string v.p, .string v.q, .slice (some ⟨v.G, 0, none⟩) 1 v.cG] 44)).alloc (.cells #[.int .u64 0, .string ByteArray.empty, .string ByteArray.empty, .slice none 0 0] 44)).heap.size = w.heap.size + 2 := by simp
  have e1 : (w.alloc (.cells #[.int .u64 v.e, .string v.p, .string v.q, .slice (some ⟨v.G, 0, none⟩) 1 v.cG] 44)).heap.size = w.heap.size + 1 := by simp
  have bx1 : Blk w1 w.heap.size 44 #[.int .u64 v.e, .string v.p, .string v.q, .slice (some ⟨v.G, 0, none⟩) 1 v.cG] := ((Blk.new w 44 _).alloc _).below hb3 (by rw [e2]; omega)
  have by1 : Blk w1 (w.heap.size + 1) 44 #[.int .u64 0, .string ByteArray.empty, .string ByteArray.empty, .slice none 0 0] := by
    have := (Blk.new (w.alloc (.cells #[.int .u64 v.e, .string v.p, .string v.q, .slice (some ⟨v.G, 0, none⟩) 1 v.cG] 44)) 44 #[.int .u64 0, .string ByteArray.empty, .string ByteArray.empty, .slice none 0 0]).below hb3 (by rw [e1, e2]; omega)
    rw [e1] at this
    exact this
  rw [e2] at hG hb3
  have hb13 : Below w.heap.size w w1 := hb2.trans (hb3.mono (by omega))
  have x3 : w1.cell? ⟨w.heap.size, 3, none⟩ = some (.slice (some ⟨v.G, 0, none⟩) 1 v.cG) := bx1.cell 3
  have f3 : w1.frozen? ⟨w.heap.size, 3, none⟩ = false := bx1.frozen 3
  have x3' : (w1.setCell ⟨w.heap.size, 3, none⟩ (.slice (some ⟨G', 0, none⟩) 1 c')).cell? ⟨w.heap.size, 3, none⟩ = some (.slice (some ⟨G', 0, none⟩) 1 c') := World.cell?_setCell_same _ _ _ x3
  have hGl := hB.lt
  have hB2 : Blk (w1.setCell ⟨w.heap.size, 3, none⟩ (.slice (some ⟨G', 0, none⟩) 1 c')) G' 41 C := hB.other _ _ (by show G' ≠ w.heap.size; omega)
  have y0 : (w1.setCell ⟨w.heap.size, 3, none⟩ (.slice (some ⟨G', 0, none⟩) 1 c')).cell? ⟨G', 0, none⟩ = some (.int .u64 v.st) := (hB2.cell 0).trans k0
  have y1 : (w1.setCell ⟨w.heap.size, 3, none⟩ (.slice (some ⟨G', 0, none⟩) 1 c')).cell? ⟨G', 1, none⟩ = some (.slice v.aL v.nL v.cL) := (hB2.cell 1).trans k1
  have y2 : (w1.setCell ⟨w.heap.size, 3, none⟩ (.slice (some ⟨G', 0, none⟩) 1 c')).cell? ⟨G', 2, none⟩ = some (.slice v.aS v.nS v.cS) := (hB2.cell 2).trans k2
  have y3 : (w1.setCell ⟨w.heap.size, 3, none⟩ (.slice (some ⟨G', 0, none⟩) 1 c')).cell? ⟨G', 3, none⟩ = some (.slice v.aR v.nR v.cR) := (hB2.cell 3).trans k3
  have hb14 : Below w.heap.size w (w1.setCell ⟨w.heap.size, 3, none⟩ (.slice (some ⟨G', 0, none⟩) 1 c')) := hb13.setCell (Nat.le_refl _) _
  have z2 : (w1.setCell ⟨w.heap.size, 3, none⟩ (.slice (some ⟨G', 0, none⟩) 1 c')).heap.size = w1.heap.size := by simp
  have hb15 : Below w.heap.size w ((w1.setCell ⟨w.heap.size, 3, none⟩ (.slice (some ⟨G', 0, none⟩) 1 c')).alloc (.cells #[.int .u64 v.st, .slice v.aL v.nL v.cL, .slice v.aS v.nS v.cS, .slice v.aR v.nR v.cR] 41)) := hb14.alloc hb14.size _
  have HH : Hid (v.Has w L S R) := hh
  have bl := hh.bl
  have bs := hh.bs
  have br := hh.br
  have C5 : Hid (CSt v L S R w w.heap.size G' c' w1.heap.size (.slice v.aL v.nL v.cL) (.slice v.aS v.nS v.cS) (.slice v.aR v.nR v.cR) ((w1.setCell ⟨w.heap.size, 3, none⟩ (.slice (some ⟨G', 0, none⟩) 1 c')).alloc (.cells #[.int .u64 v.st, .slice v.aL v.nL v.cL, .slice v.aS v.nS v.cS, .slice v.aR v.nR v.cR] 41))) :=
    ⟨hb15, hh.below hb15, (bx1.set 3 _).alloc _, ⟨_, (by1.other _ _ (by show w.heap.size + 1 ≠ w.heap.size; omega)).alloc _, rfl⟩, ⟨C, hB2.alloc _, hs, k0, k1, k2, k3⟩, by rw [← z2]; exact Blk.new _ _ _, Nat.le_refl _, by omega, hGl, hc'⟩
  clear hb1 hb2 hb3 hb13 hb14 hb15 hB hB2 bx1 by1 hs k0 k1 k2 k3 hh e1 e2 h
  go_wp2
  go_loopw [12] (fun i wr => (i = .int .i64 0 ∧ wr = (w1.setCell ⟨w.heap.size, 3, none⟩ (.slice (some ⟨G', 0, none⟩) 1 c'))) ∨ (i = .int .i64 1 ∧ Hid (Three v L S R w w.heap.size G' c' w1.heap.size wr))) (fun i _ => 1 - (intOf i).toNat)
  case atStart => exact Or.inl ⟨rfl, rfl⟩
  case round =>
    rcases hrel with ⟨rfl, rfl⟩ | ⟨rfl, H1⟩
    · go_wp2_with fail
      go_cut [] from 17 to 32 (fun wr => Hid (Two v L S R w w.heap.size G' c' w1.heap.size wr))
      case first =>
        have C6 : Hid (CSt v L S R w w.heap.size G' c' w1.heap.size (.slice v.aL v.nL v.cL) (.slice v.aS v.nS v.cS) (.slice v.aR v.nR v.cR) ((w1.setCell ⟨w.heap.size, 3, none⟩ (.slice (some ⟨G', 0, none⟩) 1 c')).alloc (.cells #[.int .u64 v.st, .slice v.aL v.nL v.cL, .slice v.aS v.nS v.cS, .slice v.aR v.nR v.cR] 41)).drew) := C5.out.drew
        go_region_held3 (fun w' => w'.cell? ⟨w.heap.size, 3, none⟩ = some (.slice (some ⟨G', 0, none⟩) 1 c') ∧ w'.cell? ⟨w1.heap.size, 1, none⟩ = some (.slice v.aL v.nL v.cL) ∧ w'.cell? ⟨w1.heap.size, 2, none⟩ = some (.slice v.aS v.nS v.cS))
          (first
            | exact ((A2.out.set HH.out 1 _ (by simp)).set HH.out 2 _ (by simp)).held
            | exact (A2.out.set HH.out 1 _ (by simp)).held
            | exact A2.out.held
            | exact A1.out.held
            | exact C6.out.held)
          (first
          | (go_at_call_of 27 v.aS
             refine (clone27 v.aS v.nS v.cS S wa (by omega) A1.out.has.s).mono ?_
             rintro e w9 ⟨a2, c2, rfl, hc2, ho2, hb2⟩
             have A2 : Hid (CSt v L S R w w.heap.size G' c' w1.heap.size (.slice v.aL v.nL v.cL) (.slice v.aS v.nS v.cS) (.slice v.aR v.nR v.cR) w9) := A1.out.next hb2
             have O1' : Hid (OwnI w9 a1 v.nL L ((w1.setCell ⟨w.heap.size, 3, none⟩ (.slice (some ⟨G', 0, none⟩) 1 c')).alloc (.cells #[.int .u64 v.st, .slice v.aL v.nL v.cL, .slice v.aS v.nS v.cS, .slice v.aR v.nR v.cR] 41)).drew.heap.size wa.heap.size) := O1.out.next hb2
             have O2 : Hid (OwnI w9 a2 v.nS S wa.heap.size w9.heap.size) := OwnI.of ho2
             have Z2 : Hid (wa.heap.size ≤ w9.heap.size) := hb2.size
             obtain ⟨p1, p2, p3, q1, q2, q3⟩ := A2.out.place
             clear hb2 ho2)
          | (go_at_call_of 27 v.aL
             refine (clone27 v.aL v.nL v.cL L wb (by omega) A1.out.has.l).mono ?_
             rintro e w9 ⟨a2, c2, rfl, hc2, ho2, hb2⟩
             have A2 : Hid (CSt v L S R w w.heap.size G' c' w1.heap.size (.slice v.aL v.nL v.cL) (.slice v.aS v.nS v.cS) (.slice v.aR v.nR v.cR) w9) := A1.out.next hb2
             have O1' : Hid (OwnI w9 a1 v.nS S ((w1.setCell ⟨w.heap.size, 3, none⟩ (.slice (some ⟨G', 0, none⟩) 1 c')).alloc (.cells #[.int .u64 v.st, .slice v.aL v.nL v.cL, .slice v.aS v.nS v.cS, .slice v.aR v.nR v.cR] 41)).drew.heap.size wb.heap.size) := O1.out.next hb2
             have O2 : Hid (OwnI w9 a2 v.nL L wb.heap.size w9.heap.size) := OwnI.of ho2
             have Z2 : Hid (wb.heap.size ≤ w9.heap.size) := hb2.size
             obtain ⟨p1, p2, p3, q1, q2, q3⟩ := A2.out.place
             clear hb2 ho2)
          | (go_at_call_of 27 v.aL
             refine (clone27 v.aL v.nL v.cL L ((w1.setCell ⟨w.heap.size, 3, none⟩ (.slice (some ⟨G', 0, none⟩) 1 c')).alloc (.cells #[.int .u64 v.st, .slice v.aL v.nL v.cL, .slice v.aS v.nS v.cS, .slice v.aR v.nR v.cR] 41)).drew (by omega) C6.out.has.l).mono ?_
             rintro e wa ⟨a1, c1, rfl, hc1, ho1, hb1⟩
             have A1 : Hid (CSt v L S R w w.heap.size G' c' w1.heap.size (.slice v.aL v.nL v.cL) (.slice v.aS v.nS v.cS) (.slice v.aR v.nR v.cR) wa) := C6.out.next hb1
             have O1 : Hid (OwnI wa a1 v.nL L ((w1.setCell ⟨w.heap.size, 3, none⟩ (.slice (some ⟨G', 0, none⟩) 1 c')).alloc (.cells #[.int .u64 v.st, .slice v.aL v.nL v.cL, .slice v.aS v.nS v.cS, .slice v.aR v.nR v.cR] 41)).drew.heap.size wa.heap.size) := OwnI.of ho1
             have Z1 : Hid (((w1.setCell ⟨w.heap.size, 3, none⟩ (.slice (some ⟨G', 0, none⟩) 1 c')).alloc (.cells #[.int .u64 v.st, .slice v.aL v.nL v.cL, .slice v.aS v.nS v.cS, .slice v.aR v.nR v.cR] 41)).drew.heap.size ≤ wa.heap.size) := hb1.size
             clear hb1 ho1)
          | (go_at_call_of 27 v.aS
             refine (clone27 v.aS v.nS v.cS S ((w1.setCell ⟨w.heap.size, 3, none⟩ (.slice (some ⟨G', 0, none⟩) 1 c')).alloc (.cells #[.int .u64 v.st, .slice v.aL v.nL v.cL, .slice v.aS v.nS v.cS, .slice v.aR v.nR v.cR] 41)).drew (by omega) C6.out.has.s).mono ?_
             rintro e wb ⟨a1, c1, rfl, hc1, ho1, hb1⟩
             have A1 : Hid (CSt v L S R w w.heap.size G' c' w1.heap.size (.slice v.aL v.nL v.cL) (.slice v.aS v.nS v.cS) (.slice v.aR v.nR v.cR) wb) := C6.out.next hb1
             have O1 : Hid (OwnI wb a1 v.nS S ((w1.setCell ⟨w.heap.size, 3, none⟩ (.slice (some ⟨G', 0, none⟩) 1 c')).alloc (.cells #[.int .u64 v.st, .slice v.aL v.nL v.cL, .slice v.aS v.nS v.cS, .slice v.aR v.nR v.cR] 41)).drew.heap.size wb.heap.size) := OwnI.of ho1
             have Z1 : Hid (((w1.setCell ⟨w.heap.size, 3, none⟩ (.slice (some ⟨G', 0, none⟩) 1 c')).alloc (.cells #[.int .u64 v.st, .slice v.aL v.nL v.cL, .slice v.aS v.nS v.cS, .slice v.aR v.nR v.cR] 41)).drew.heap.size ≤ wb.heap.size) := hb1.size
             clear hb1 ho1))
        have zz : Hid (w1.heap.size < ((w1.setCell ⟨w.heap.size, 3, none⟩ (.slice (some ⟨G', 0, none⟩) 1 c')).alloc (.cells #[.int .u64 v.st, .slice v.aL v.nL v.cL, .slice v.aS v.nS v.cS, .slice v.aR v.nR v.cR] 41)).drew.heap.size) := by show w1.heap.size < ((w1.setCell ⟨w.heap.size, 3, none⟩ (.slice (some ⟨G', 0, none⟩) 1 c')).alloc (.cells #[.int .u64 v.st, .slice v.aL v.nL v.cL, .slice v.aS v.nS v.cS, .slice v.aR v.nR v.cR] 41)).drew.heap.size; simp
        have T : Hid (CSt v L S R w w.heap.size G' c' w1.heap.size (.slice a1 v.nL c1) (.slice a2 v.nS c2) (.slice v.aR v.nR v.cR) ((w9.setCell ⟨G', 1, none⟩ (.slice a1 v.nL c1)).setCell ⟨G', 2, none⟩ (.slice a2 v.nS c2))) := by
          have := (A2.out.set HH.out 1 (.slice a1 v.nL c1) (by simp)).set HH.out 2 (.slice a2 v.nS c2) (by simp)
          simp at this
          exact this
        have hgz := C5.out.gz
        go_wp2
        go_meet
        case rel => exact ⟨a1, c1, a2, c2, _, _, _, T.out, hc1, hc2, zz.out, Z1.out, Z2.out, by simp, (O1'.out.set G' 1 _ (Or.inl (by have := zz.out; omega))).set G' 2 _ (Or.inl (by have := zz.out; omega)), (O2.out.set G' 1 _ (Or.inl (by have := zz.out; have := Z1.out; omega))).set G' 2 _ (Or.inl (by have := zz.out; have := Z1.out; omega))⟩
      case rest =>
        obtain ⟨aL, cL, aS, cS, m1, m2, m3, T0, tL, tS, tz, t1, t2, t3, oL, oS⟩ := hcut.out
        have T1 : Hid (CSt v L S R w w.heap.size G' c' w1.heap.size (.slice aL v.nL cL) (.slice aS v.nS cS) (.slice v.aR v.nR v.cR) wc.drew) := T0.drew
        have OO : Hid (OwnI wc.drew aL v.nL L m1 m2 ∧ OwnI wc.drew aS v.nS S m2 m3) := ⟨oL.next (Below.refl _ _).drew, oS.next (Below.refl _ _).drew⟩
        have hgz := T0.gz
        clear hcut T0 oL oS
        go_wp2_with fail
        go_region_held3 (fun w' => w'.cell? ⟨w.heap.size, 3, none⟩ = some (.slice (some ⟨G', 0, none⟩) 1 c') ∧ w'.cell? ⟨w1.heap.size, 3, none⟩ = some (.slice v.aR v.nR v.cR))
          (first
            | exact ⟨(A2.out.set HH.out 3 _ (by simp)).bx.cell 3, (A2.out.set HH.out 3 _ (by simp)).bz.cell 3⟩
            | exact ⟨A2.out.bx.cell 3, A2.out.bz.cell 3⟩
            | exact ⟨T1.out.bx.cell 3, T1.out.bz.cell 3⟩)
          (first
          | (go_at_call_of 27 v.aR
             refine (clone27 v.aR v.nR v.cR R wc.drew (by omega) T1.out.has.r).mono ?_
             rintro e w9 ⟨a2, c2, rfl, hc2, ho2, hb2⟩
             have A2 : Hid (CSt v L S R w w.heap.size G' c' w1.heap.size (.slice aL v.nL cL) (.slice aS v.nS cS) (.slice v.aR v.nR v.cR) w9) := T1.out.next hb2
             have O1 : Hid (OwnI w9 aL v.nL L m1 m2 ∧ OwnI w9 aS v.nS S m2 m3) := ⟨OO.out.1.next hb2, OO.out.2.next hb2⟩
             have O2 : Hid (OwnI w9 a2 v.nR R wc.drew.heap.size w9.heap.size) := OwnI.of ho2
             have Z2 : Hid (wc.drew.heap.size ≤ w9.heap.size) := hb2.size
             obtain ⟨p1, p2, p3, q1, q2, q3⟩ := A2.out.place
             clear hb2 ho2))
        have T : Hid (CSt v L S R w w.heap.size G' c' w1.heap.size (.slice aL v.nL cL) (.slice aS v.nS cS) (.slice a2 v.nR c2) (w9.setCell ⟨G', 3, none⟩ (.slice a2 v.nR c2))) := by
          have := A2.out.set HH.out 3 (.slice a2 v.nR c2) (by simp)
          simp at this
          exact this
        go_wp2
        go_roundw
        case rel => exact Or.inr ⟨by go_num, aL, cL, aS, cS, a2, c2, m1, m2, m3, _, _, T.out, tL, tS, hc2, tz, t1, t2, t3, Z2.out, by simp, O1.out.1.set G' 3 _ (Or.inl (by omega)), O1.out.2.set G' 3 _ (Or.inl (by omega)), O2.out.set G' 3 _ (Or.inl (by have : wc.drew.heap.size = wc.heap.size := rfl; omega))⟩
        case measure => simp [intOf]
    · obtain ⟨aL, cL, aS, cS, aR, cR, m1, m2, m3, m4, m5, T0, tL, tS, tR, tz, t1, t2, t3, t4, t5, oL, oS, oR⟩ := H1.out
      have n0 : wr.cell? ⟨w.heap.size, 0, none⟩ = some (.int .u64 v.e) := T0.bx.cell 0
      have n1 : wr.cell? ⟨w.heap.size, 1, none⟩ = some (.string v.p) := T0.bx.cell 1
      have n2 : wr.cell? ⟨w.heap.size, 2, none⟩ = some (.string v.q) := T0.bx.cell 2
      have n3 : wr.cell? ⟨w.heap.size, 3, none⟩ = some (.slice (some ⟨G', 0, none⟩) 1 c') := T0.bx.cell 3
      obtain ⟨Y, hY, hYs⟩ := T0.by_
      have m0 : ∀ k, k < 4 → ∃ u, wr.cell? ⟨w.heap.size + 1, k, none⟩ = some u := fun k hk => ⟨Y[k]'(by omega), by rw [hY.cell]; exact Array.getElem?_eq_getElem (by omega)⟩
      obtain ⟨u0, hu0⟩ := m0 0 (by omega)
      obtain ⟨u1, hu1⟩ := m0 1 (by omega)
      obtain ⟨u2, hu2⟩ := m0 2 (by omega)
      obtain ⟨u3, hu3⟩ := m0 3 (by omega)
      have hz0 := hY.frozen 0
      have hz1 := hY.frozen 1
      have hz2 := hY.frozen 2
      have hz3 := hY.frozen 3
      have HT : Hid (CSt v L S R w w.heap.size G' c' w1.heap.size (.slice aL v.nL cL) (.slice aS v.nS cS) (.slice aR v.nR cR) wr) := T0
      have HO : Hid (OwnI wr aL v.nL L m1 m2 ∧ OwnI wr aS v.nS S m2 m3 ∧ OwnI wr aR v.nR R m4 m5) := ⟨oL, oS, oR⟩
      clear H1 T0 oL oS oR m0 hY hYs
      go_wp2
      refine bodyPost_ret (v := .agg #[.int .u64 v.e, .string v.p, .string v.q, .slice (some ⟨G', 0, none⟩) 1 c']) (by simp [results, Tryf.results32, go_sem, hu0, hu1, hu2, hu3]) rfl ?_
      have hxg := HT.out.xg
      have hgz := HT.out.gz
      obtain ⟨D, h3, h4, k0, k1, k2, k3⟩ := HT.out.bg
      have bb := HT.out.b
      refine ⟨G', c', aL, cL, aS, cS, aR, cR, m1, m2, m3, m4, m5, D, rfl, hc', ?_, by omega, ?_, h4, k0, k1, k2, k3, tL, tS, tR, by omega, t1, t2, t3, t4, by simpa using t5, ?_, ?_, ?_⟩
      · exact (((bb.setCell (by show w.heap.size ≤ w.heap.size + 1; omega) _).setCell (by show w.heap.size ≤ w.heap.size + 1; omega) _).setCell (by show w.heap.size ≤ w.heap.size + 1; omega) _).setCell (by show w.heap.size ≤ w.heap.size + 1; omega) _
      · exact (((h3.other _ _ (by show G' ≠ w.heap.size + 1; omega)).other _ _ (by show G' ≠ w.heap.size + 1; omega)).other _ _ (by show G' ≠ w.heap.size + 1; omega)).other _ _ (by show G' ≠ w.heap.size + 1; omega)
      · exact (((HO.out.1.set _ _ _ (Or.inl (by omega))).set _ _ _ (Or.inl (by omega))).set _ _ _ (Or.inl (by omega))).set _ _ _ (Or.inl (by omega))
      · exact (((HO.out.2.1.set _ _ _ (Or.inl (by omega))).set _ _ _ (Or.inl (by omega))).set _ _ _ (Or.inl (by omega))).set _ _ _ (Or.inl (by omega))
      · exact (((HO.out.2.2.set _ _ _ (Or.inl (by omega))).set _ _ _ (Or.inl (by omega))).set _ _ _ (Or.inl (by omega))).set _ _ _ (Or.inl (by omega))
end Go.Proofs.Qxb6613521aFmt
