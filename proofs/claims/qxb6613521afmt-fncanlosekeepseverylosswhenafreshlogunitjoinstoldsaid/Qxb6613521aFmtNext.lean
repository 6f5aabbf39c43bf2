/-
  WithUnitLost: what is said of it, and the next layout in memory.
-/
import Derived.Test.Qxb6613521aFmtClone
namespace Go.Proofs.Qxb6613521aFmt
open Go.RowKit Go.Extern.Stop Go.Stop Go.Extern

theorem fmtN (w : World) : (FmtDoors.printed ⟨#[37, 119, 58, 32, 37, 115, 32, 105, 115, 32, 110, 111, 32, 117, 110, 105, 116, 32, 111, 102, 32, 116, 104, 101, 32, 108, 97, 121, 111, 117, 116, 32, 111, 102, 32, 101, 112, 111, 99, 104, 32, 37, 100]⟩ 3).run Tryf.prog w = .ok [(0, 119, false), (1, 115, false), (2, 100, false)] w := by kernel_rfl
theorem fmtO (w : World) : (FmtDoors.printed ⟨#[37, 119, 58, 32, 116, 104, 101, 32, 115, 101, 114, 118, 101, 114, 32, 111, 102, 32, 117, 110, 105, 116, 32, 37, 115, 32, 112, 108, 97, 121, 115, 32, 97, 110, 111, 116, 104, 101, 114, 32, 114, 111, 108, 101, 32, 111, 102, 32, 116, 104, 101, 32, 108, 97, 121, 111, 117, 116, 32, 116, 111, 111]⟩ 2).run Tryf.prog w = .ok [(0, 119, false), (1, 115, false)] w := by kernel_rfl
theorem fmtZ (w : World) : (FmtDoors.printed ⟨#[117, 110, 105, 116, 32, 37, 115, 32, 99, 97, 110, 110, 111, 116, 32, 98, 101, 32, 108, 111, 115, 116, 58, 32, 37, 119]⟩ 2).run Tryf.prog w = .ok [(0, 115, false), (1, 119, false)] w := by kernel_rfl

/-- the state of WithUnitLost behind its looks: the result's variable lies at block w.heap.size -/
structure WSt (F : Interp) (v : LayV) (B : Nat) (L S R : Nat → ByteArray) (adE : Addr) (sE : ByteArray) (w : World) (wr : World) : Prop where
  b : Below w.heap.size w wr
  at_ : v.At wr B
  has : v.Has wr L S R
  err : Err0 wr adE sE
  ans : F.answers wr.tape
  y : Blk wr w.heap.size 44 #[.int .u64 0, .string ⟨#[]⟩, .string ⟨#[]⟩, .slice none 0 0]
theorem WSt.next {F : Interp} {v : LayV} {B : Nat} {L S R : Nat → ByteArray} {adE : Addr} {sE : ByteArray} {w : World} {wr w' : World} (h : WSt F v B L S R adE sE w wr) (hb : Below wr.heap.size wr w') : WSt F v B L S R adE sE w w' :=
  ⟨h.b.trans (hb.mono h.b.size), h.at_.below hb, h.has.below hb, h.err.below hb, by rw [hb.tape]; exact h.ans, h.y.below hb h.y.lt⟩
theorem WSt.drew {F : Interp} {v : LayV} {B : Nat} {L S R : Nat → ByteArray} {adE : Addr} {sE : ByteArray} {w : World} {wr : World} (h : WSt F v B L S R adE sE w wr) : WSt F v B L S R adE sE w wr.drew := h.next (Below.refl _ _).drew

/-- the error is nil just where A holds; the layout beside it is of four cells -/
def LostPost (A : Prop) (w : World) (e : Ending) (w' : World) : Prop :=
  ∃ e' p' q' a n c ev, e = .returned (.tuple #[.agg #[.int .u64 e', .string p', .string q', .slice a n c], ev]) ∧ Below w.heap.size w w' ∧ ((A ∧ ev = .nilIface) ∨ (¬ A ∧ ∃ x, ev = .iface 54 x))

def upd (S : Nat → ByteArray) (k : Nat) (x : ByteArray) (i : Nat) : ByteArray := if i = k then x else S i
/-- Epoch++ -/
def inc (e : Int) : Int := IntKind.u64.wrap (e + 1)
/-- the units being refilled, without y -/
def refN (n : Nat) (R : Nat → ByteArray) (y : ByteArray) : Nat := (flt (isIt y) n R).length
def refS (n : Nat) (R : Nat → ByteArray) (y : ByteArray) (m : Nat) : ByteArray := (flt (isIt y) n R).getD m ByteArray.empty
/-- the layout can do without y -/
def Loses (e : Int) (p q : ByteArray) (st : Int) (nL : Nat) (L : Nat → ByteArray) (nS : Nat) (S : Nat → ByteArray) (nR : Nat) (R : Nat → ByteArray) (y : ByteArray) : Prop :=
  y ≠ lostB ∧ y ≠ p ∧ y ≠ (if q = ByteArray.empty then p else q) ∧
    ((∃ k, k < nL ∧ L k = y ∧ (∀ j, j < k → L j ≠ y) ∧ ¬ Mem nS S y ∧ Valid (inc e) p q st nL (upd L k lostB) nS S (refN nR R y) (refS nR R y)) ∨
     (∃ k, k < nS ∧ S k = y ∧ (∀ j, j < k → S j ≠ y) ∧ ¬ Mem nL L y ∧ Valid (inc e) p q st nL L nS (upd S k lostB) (refN nR R y) (refS nR R y)))


theorem upd_same (S : Nat → ByteArray) (k : Nat) (x : ByteArray) : upd S k x k = x := if_pos rfl
theorem upd_other (S : Nat → ByteArray) {k i : Nat} (x : ByteArray) (h : i ≠ k) : upd S k x i = S i := if_neg h

/-- a place of a row of its own, written -/
theorem OwnI.put {w : World} {a : Option Addr} {n : Nat} {S : Nat → ByteArray} {lo hi : Nat} (h : OwnI w a n S lo hi) {k : Nat} (hk : k < n) (s : ByteArray) :
    ∃ g, a = some ⟨g, 0, none⟩ ∧ lo ≤ g ∧ g < hi ∧ w.cell? ⟨g, k, none⟩ = some (.string (S k)) ∧ w.frozen? ⟨g, k, none⟩ = false ∧ OwnI (w.setCell ⟨g, k, none⟩ (.string s)) a n (upd S k s) lo hi := by
  rcases h with h | ⟨g, N, h1, h2, h3, h4, D, h5, h6, h7⟩
  · omega
  · refine ⟨g, h1, h2, h3, (h5.cell k).trans (h7 k hk), h5.frozen k, Or.inr ⟨g, N, h1, h2, h3, h4, _, h5.set k _, by simp [h6], ?_⟩⟩
    intro j hj
    rw [Array.getElem?_setIfInBounds]
    by_cases e : k = j
    · subst e
      rw [if_pos rfl, if_pos (by omega), upd_same]
    · rw [if_neg e, upd_other _ _ (fun h => e h.symm)]
      exact h7 j hj
theorem OwnI.row {w : World} {a : Option Addr} {n : Nat} {S : Nat → ByteArray} {lo hi : Nat} (h : OwnI w a n S lo hi) : StrRow w a n S := by
  rcases h with h | ⟨g, N, h1, h2, h3, h4, h5⟩
  · exact fun i hi => absurd hi (by omega)
  · rw [h1]
    exact h5.rowOf
/-- the blocks of the row are as they were -/
theorem OwnI.kept {w w' : World} {a : Option Addr} {n : Nat} {S : Nat → ByteArray} {lo hi : Nat} (h : OwnI w a n S lo hi) (hb : ∀ g, lo ≤ g → g < hi → g < w.heap.size → w'.heap[g]? = w.heap[g]?) : OwnI w' a n S lo hi := by
  rcases h with h | ⟨g, N, h1, h2, h3, h4, D, h5, h6⟩
  · exact Or.inl h
  · exact Or.inr ⟨g, N, h1, h2, h3, h4, D, (hb g h2 h3 h5.lt).trans h5, h6⟩
/-- the block of a row, for 'without' -/
theorem OwnI.at_ {w : World} {a : Option Addr} {n : Nat} {S : Nat → ByteArray} {lo hi : Nat} (h : OwnI w a n S lo hi) : ∃ g, (n = 0 ∨ ∃ N, a = some ⟨g, 0, none⟩ ∧ n ≤ N ∧ Grows g N n S w) ∧ ∀ k, k < w.heap.size → k < lo ∨ hi ≤ k → k ≠ g := by
  rcases h with h | ⟨g, N, h1, h2, h3, h4, h5⟩
  · exact ⟨w.heap.size, Or.inl h, fun k hk _ => by omega⟩
  · exact ⟨g, Or.inr ⟨N, h1, h4, h5⟩, fun k _ hk => by omega⟩

/-- the next layout u lies at block N, its rows are its own -/
structure NSt (F : Interp) (u : LayV) (L S R : Nat → ByteArray) (adE : Addr) (sE : ByteArray) (w : World) (N m1 m2 m3 m4 m5 : Nat) (wr : World) : Prop where
  b : Below w.heap.size w wr
  e0 : Err0 w adE sE
  a0 : F.answers w.tape
  y : Blk wr w.heap.size 44 #[.int .u64 0, .string ⟨#[]⟩, .string ⟨#[]⟩, .slice none 0 0]
  n : Blk wr N 44 #[.int .u64 u.e, .string u.p, .string u.q, .slice (some ⟨u.G, 0, none⟩) 1 u.cG]
  g : ∃ C : Array Value, Blk wr u.G 41 C ∧ 4 ≤ C.size ∧ C[0]? = some (.int .u64 u.st) ∧ C[1]? = some (.slice u.aL u.nL u.cL) ∧ C[2]? = some (.slice u.aS u.nS u.cS) ∧ C[3]? = some (.slice u.aR u.nR u.cR)
  l : OwnI wr u.aL u.nL L m1 m2
  s : OwnI wr u.aS u.nS S m2 m3
  r : OwnI wr u.aR u.nR R m4 m5
  bl : u.nL ≤ 65537
  bs : u.nS ≤ 65537
  br : u.nR ≤ 65537
  kl : u.nL ≤ u.cL
  ks : u.nS ≤ u.cS
  kr : u.nR ≤ u.cR
  t0 : w.heap.size < u.G
  t1 : u.G < m1
  t2 : m1 ≤ m2
  t3 : m2 ≤ m3
  t4 : m3 ≤ m4
  t5 : m4 ≤ m5
  t6 : m5 ≤ N
  b1 : w.heap.size < wr.heap.size
theorem NSt.err {F : Interp} {u : LayV} {L S R : Nat → ByteArray} {adE : Addr} {sE : ByteArray} {w : World} {N m1 m2 m3 m4 m5 : Nat} {wr : World} (h : NSt F u L S R adE sE w N m1 m2 m3 m4 m5 wr) : Err0 wr adE sE := h.e0.below h.b
theorem NSt.ans {F : Interp} {u : LayV} {L S R : Nat → ByteArray} {adE : Addr} {sE : ByteArray} {w : World} {N m1 m2 m3 m4 m5 : Nat} {wr : World} (h : NSt F u L S R adE sE w N m1 m2 m3 m4 m5 wr) : F.answers wr.tape := by rw [h.b.tape]; exact h.a0

/-- behind CloneLayout, the next layout laid down -/
theorem NSt.start {F : Interp} {v : LayV} {B : Nat} {L S R : Nat → ByteArray} {adE : Addr} {sE : ByteArray} {w wk w5 : World} (h : WSt F v B L S R adE sE w wk) (e0 : Err0 w adE sE) (a0 : F.answers w.tape) {G c : Nat} {aL aS aR : Option Addr} {cL cS cR m1 m2 m3 m4 m5 : Nat} {C : Array Value}
    (hb5 : Below wk.heap.size wk w5) (hG : wk.heap.size ≤ G) (hBG : Blk w5 G 41 C) (hsC : 4 ≤ C.size) (k0 : C[0]? = some (.int .u64 v.st)) (k1 : C[1]? = some (.slice aL v.nL cL)) (k2 : C[2]? = some (.slice aS v.nS cS)) (k3 : C[3]? = some (.slice aR v.nR cR))
    (kL : v.nL ≤ cL) (kS : v.nS ≤ cS) (kR : v.nR ≤ cR) (t0 : G < m1) (t1 : m1 ≤ m2) (t2 : m2 ≤ m3) (t3 : m3 ≤ m4) (t4 : m4 ≤ m5) (t5 : m5 ≤ w5.heap.size) (oL : OwnI w5 aL v.nL L m1 m2) (oS : OwnI w5 aS v.nS S m2 m3) (oR : OwnI w5 aR v.nR R m4 m5) :
    NSt F ⟨inc v.e, v.p, v.q, v.st, aL, v.nL, cL, aS, v.nS, cS, aR, v.nR, cR, G, c⟩ L S R adE sE w w5.heap.size m1 m2 m3 m4 m5 (w5.alloc (.cells #[.int .u64 (IntKind.u64.wrap (v.e + 1)), .string v.p, .string v.q, .slice (some ⟨G, 0, none⟩) 1 c] 44)) := by
  have hy := h.y.lt
  have hb1 := hb5.size
  have hg := hBG.lt
  have bA : Below w5.heap.size w5 (w5.alloc (.cells #[.int .u64 (IntKind.u64.wrap (v.e + 1)), .string v.p, .string v.q, .slice (some ⟨G, 0, none⟩) 1 c] 44)) := Below.one _
  have bw : Below w.heap.size w (w5.alloc (.cells #[.int .u64 (IntKind.u64.wrap (v.e + 1)), .string v.p, .string v.q, .slice (some ⟨G, 0, none⟩) 1 c] 44)) := (h.b.trans (hb5.mono h.b.size)).alloc (by omega) _
  refine ⟨bw, e0, a0, (h.y.below hb5 h.y.lt).alloc _, Blk.new _ _ _, ⟨C, hBG.alloc _, hsC, k0, k1, k2, k3⟩, oL.next bA, oS.next bA, oR.next bA, h.has.bl, h.has.bs, h.has.br, kL, kS, kR, by show w.heap.size < G; omega, t0, t1, t2, t3, t4, t5, ?_⟩
  have : (w5.alloc (.cells #[.int .u64 (IntKind.u64.wrap (v.e + 1)), .string v.p, .string v.q, .slice (some ⟨G, 0, none⟩) 1 c] 44)).heap.size = w5.heap.size + 1 := by simp
  omega

/-- a place of the log's row is written -/
theorem NSt.putL {F : Interp} {u : LayV} {L S R : Nat → ByteArray} {adE : Addr} {sE : ByteArray} {w : World} {N m1 m2 m3 m4 m5 : Nat} {wr : World} (h : NSt F u L S R adE sE w N m1 m2 m3 m4 m5 wr) {k : Nat} (hk : k < u.nL) (s : ByteArray) :
    ∃ g, u.aL = some ⟨g, 0, none⟩ ∧ wr.cell? ⟨g, k, none⟩ = some (.string (L k)) ∧ wr.frozen? ⟨g, k, none⟩ = false ∧ NSt F u (upd L k s) S R adE sE w N m1 m2 m3 m4 m5 (wr.setCell ⟨g, k, none⟩ (.string s)) := by
  obtain ⟨g, ea, e1, e2, e3, e4, e5⟩ := h.l.put hk s
  have := h.t0; have := h.t1; have := h.t2; have := h.t3; have := h.t4; have := h.t5; have := h.t6
  obtain ⟨C, c0, c1⟩ := h.g
  exact ⟨g, ea, e3, e4, h.b.setCell (by show w.heap.size ≤ g; omega) _, h.e0, h.a0, h.y.other _ _ (by show w.heap.size ≠ g; omega), h.n.other _ _ (by show N ≠ g; omega), ⟨C, c0.other _ _ (by show u.G ≠ g; omega), c1⟩, e5, h.s.set _ _ _ (by omega), h.r.set _ _ _ (by omega), h.bl, h.bs, h.br, h.kl, h.ks, h.kr, h.t0, h.t1, h.t2, h.t3, h.t4, h.t5, h.t6, by simpa using h.b1⟩
/-- a place of the stream's row is written -/
theorem NSt.putS {F : Interp} {u : LayV} {L S R : Nat → ByteArray} {adE : Addr} {sE : ByteArray} {w : World} {N m1 m2 m3 m4 m5 : Nat} {wr : World} (h : NSt F u L S R adE sE w N m1 m2 m3 m4 m5 wr) {k : Nat} (hk : k < u.nS) (s : ByteArray) :
    ∃ g, u.aS = some ⟨g, 0, none⟩ ∧ wr.cell? ⟨g, k, none⟩ = some (.string (S k)) ∧ wr.frozen? ⟨g, k, none⟩ = false ∧ NSt F u L (upd S k s) R adE sE w N m1 m2 m3 m4 m5 (wr.setCell ⟨g, k, none⟩ (.string s)) := by
  obtain ⟨g, ea, e1, e2, e3, e4, e5⟩ := h.s.put hk s
  have := h.t0; have := h.t1; have := h.t2; have := h.t3; have := h.t4; have := h.t5; have := h.t6
  obtain ⟨C, c0, c1⟩ := h.g
  exact ⟨g, ea, e3, e4, h.b.setCell (by show w.heap.size ≤ g; omega) _, h.e0, h.a0, h.y.other _ _ (by show w.heap.size ≠ g; omega), h.n.other _ _ (by show N ≠ g; omega), ⟨C, c0.other _ _ (by show u.G ≠ g; omega), c1⟩, h.l.set _ _ _ (by omega), e5, h.r.set _ _ _ (by omega), h.bl, h.bs, h.br, h.kl, h.ks, h.kr, h.t0, h.t1, h.t2, h.t3, h.t4, h.t5, h.t6, by simpa using h.b1⟩
theorem NSt.drew {F : Interp} {u : LayV} {L S R : Nat → ByteArray} {adE : Addr} {sE : ByteArray} {w : World} {N m1 m2 m3 m4 m5 : Nat} {wr : World} (h : NSt F u L S R adE sE w N m1 m2 m3 m4 m5 wr) : NSt F u L S R adE sE w N m1 m2 m3 m4 m5 wr.drew := by
  have hb : Below wr.heap.size wr wr.drew := (Below.refl _ _).drew
  obtain ⟨C, c0, c1⟩ := h.g
  exact ⟨h.b.trans (hb.mono h.b.size), h.e0, h.a0, h.y.below hb h.y.lt, h.n.below hb h.n.lt, ⟨C, c0.below hb c0.lt, c1⟩, h.l.next hb, h.s.next hb, h.r.next hb, h.bl, h.bs, h.br, h.kl, h.ks, h.kr, h.t0, h.t1, h.t2, h.t3, h.t4, h.t5, h.t6, h.b1⟩
/-- the cells that the rest of the walk reads -/
theorem NSt.cells {F : Interp} {u : LayV} {L S R : Nat → ByteArray} {adE : Addr} {sE : ByteArray} {w : World} {N m1 m2 m3 m4 m5 : Nat} {wr : World} (h : NSt F u L S R adE sE w N m1 m2 m3 m4 m5 wr) :
    wr.cell? ⟨N, 3, none⟩ = some (.slice (some ⟨u.G, 0, none⟩) 1 u.cG) ∧ wr.cell? ⟨u.G, 1, none⟩ = some (.slice u.aL u.nL u.cL) ∧ wr.cell? ⟨u.G, 2, none⟩ = some (.slice u.aS u.nS u.cS) ∧ wr.cell? ⟨u.G, 3, none⟩ = some (.slice u.aR u.nR u.cR) ∧ wr.frozen? ⟨u.G, 3, none⟩ = false := by
  obtain ⟨C, c0, _, k0, k1, k2, k3⟩ := h.g
  exact ⟨h.n.cell 3, (c0.cell 1).trans k1, (c0.cell 2).trans k2, (c0.cell 3).trans k3, c0.frozen 3⟩

theorem StrRow.set {w : World} {a : Option Addr} {n : Nat} {S : Nat → ByteArray} (h : StrRow w a n S) {b : Addr} {b1 : Option Addr} {b2 b3 : Nat} (hb : w.cell? b = some (.slice b1 b2 b3)) (v : Value) : StrRow (w.setCell b v) a n S := fun i hi => by
  obtain ⟨c, off, e, hlt, hc⟩ := h i hi
  refine ⟨c, off, e, by simpa using hlt, ?_⟩
  rw [World.cell?_setCell_other]
  · exact hc
  · intro hh
    rw [hh, hc] at hb
    injection hb with hb
    injection hb

/-- what lies there behind 'without' and the store of its answer -/
structure MSt (F : Interp) (u : LayV) (L S R : Nat → ByteArray) (adE : Addr) (sE : ByteArray) (w : World) (N : Nat) (wr : World) : Prop where
  b : Below w.heap.size w wr
  err : Err0 wr adE sE
  ans : F.answers wr.tape
  y : Blk wr w.heap.size 44 #[.int .u64 0, .string ⟨#[]⟩, .string ⟨#[]⟩, .slice none 0 0]
  at_ : u.At wr N
  has : u.Has wr L S R
theorem MSt.next {F : Interp} {u : LayV} {L S R : Nat → ByteArray} {adE : Addr} {sE : ByteArray} {w : World} {N : Nat} {wr w' : World} (h : MSt F u L S R adE sE w N wr) (hb : Below wr.heap.size wr w') : MSt F u L S R adE sE w N w' :=
  ⟨h.b.trans (hb.mono h.b.size), h.err.below hb, by rw [hb.tape]; exact h.ans, h.y.below hb h.y.lt, h.at_.below hb, h.has.below hb⟩

/-- behind 'without', ahead of the store -/
structure PSt (F : Interp) (u : LayV) (L S R : Nat → ByteArray) (x : ByteArray) (adE : Addr) (sE : ByteArray) (w : World) (N : Nat) (a : Option Addr) (c : Nat) (wr : World) : Prop where
  b : Below w.heap.size w wr
  e0 : Err0 w adE sE
  a0 : F.answers w.tape
  yb : Blk wr w.heap.size 44 #[.int .u64 0, .string ⟨#[]⟩, .string ⟨#[]⟩, .slice none 0 0]
  n : Blk wr N 44 #[.int .u64 u.e, .string u.p, .string u.q, .slice (some ⟨u.G, 0, none⟩) 1 u.cG]
  g : ∃ C : Array Value, Blk wr u.G 41 C ∧ 4 ≤ C.size ∧ C[0]? = some (.int .u64 u.st) ∧ C[1]? = some (.slice u.aL u.nL u.cL) ∧ C[2]? = some (.slice u.aS u.nS u.cS) ∧ C[3]? = some (.slice u.aR u.nR u.cR)
  l : StrRow wr u.aL u.nL L
  s : StrRow wr u.aS u.nS S
  r : StrRow wr a (refN u.nR R x) (refS u.nR R x)
  bl : u.nL ≤ 65537
  bs : u.nS ≤ 65537
  br : refN u.nR R x ≤ 65537
  kl : u.nL ≤ u.cL
  ks : u.nS ≤ u.cS
  kr : refN u.nR R x ≤ c
  t0 : w.heap.size < u.G
  t1 : u.G < N
theorem refN_le (n : Nat) (R : Nat → ByteArray) (y : ByteArray) : refN n R y ≤ n := Nat.le_trans (List.length_filter_le _ _) (Nat.le_of_eq (lst_len n R))
theorem NSt.without {F : Interp} {u : LayV} {L S R : Nat → ByteArray} {adE : Addr} {sE : ByteArray} {w : World} {N m1 m2 m3 m4 m5 : Nat} {wr w' : World} (h : NSt F u L S R adE sE w N m1 m2 m3 m4 m5 wr) {g : Nat} (hg : ∀ k, k < wr.heap.size → k < m4 ∨ m5 ≤ k → k ≠ g) (y : ByteArray) {a : Option Addr} {c : Nat}
    (kc : refN u.nR R y ≤ c) (hr : StrRow w' a (refN u.nR R y) (refS u.nR R y)) (ht : w'.tape = wr.tape) (ho : w'.os = wr.os) (hu : w'.output = wr.output) (hs : wr.heap.size ≤ w'.heap.size) (hb : ∀ k, k < wr.heap.size → k ≠ g → w'.heap[k]? = wr.heap[k]?) : PSt F u L S R y adE sE w N a c w' := by
  have := h.t0; have := h.t1; have := h.t2; have := h.t3; have := h.t4; have := h.t5; have := h.t6; have := h.b1; have hn := h.n.lt
  have hk : ∀ k, k < wr.heap.size → k < m4 ∨ m5 ≤ k → w'.heap[k]? = wr.heap[k]? := fun k h1 h2 => hb k h1 (hg k h1 h2)
  obtain ⟨C, c0, c1⟩ := h.g
  have hgl := c0.lt
  refine ⟨h.b.trans ⟨ho, ht, hu, by omega, fun k hkk => hk k (by omega) (Or.inl (by omega))⟩, h.e0, h.a0, (hk _ h.b1 (Or.inl (by omega))).trans h.y, (hk _ hn (Or.inr (by omega))).trans h.n, ⟨C, (hk _ hgl (Or.inl (by omega))).trans c0, c1⟩, (h.l.kept fun g e1 e2 e3 => hk g e3 (Or.inl (by omega))).row, (h.s.kept fun g e1 e2 e3 => hk g e3 (Or.inl (by omega))).row, hr, h.bl, h.bs, Nat.le_trans (refN_le _ _ _) h.br, h.kl, h.ks, kc, h.t0, by omega⟩
theorem PSt.cells {F : Interp} {u : LayV} {L S R : Nat → ByteArray} {y : ByteArray} {adE : Addr} {sE : ByteArray} {w : World} {N : Nat} {a : Option Addr} {c : Nat} {wr : World} (h : PSt F u L S R y adE sE w N a c wr) :
    wr.cell? ⟨N, 3, none⟩ = some (.slice (some ⟨u.G, 0, none⟩) 1 u.cG) ∧ wr.cell? ⟨u.G, 3, none⟩ = some (.slice u.aR u.nR u.cR) ∧ wr.frozen? ⟨u.G, 3, none⟩ = false := by
  obtain ⟨C, c0, _, k0, k1, k2, k3⟩ := h.g
  exact ⟨h.n.cell 3, (c0.cell 3).trans k3, c0.frozen 3⟩
theorem PSt.store {F : Interp} {u : LayV} {L S R : Nat → ByteArray} {y : ByteArray} {adE : Addr} {sE : ByteArray} {w : World} {N : Nat} {a : Option Addr} {c : Nat} {wr : World} (h : PSt F u L S R y adE sE w N a c wr) :
    MSt F ⟨u.e, u.p, u.q, u.st, u.aL, u.nL, u.cL, u.aS, u.nS, u.cS, a, refN u.nR R y, c, u.G, u.cG⟩ L S (refS u.nR R y) adE sE w N (wr.setCell ⟨u.G, 3, none⟩ (.slice a (refN u.nR R y) c)) := by
  have := h.t0; have := h.t1
  have hc := h.cells.2.1
  have hb : Below w.heap.size w (wr.setCell ⟨u.G, 3, none⟩ (.slice a (refN u.nR R y) c)) := h.b.setCell (by show w.heap.size ≤ u.G; omega) _
  have hn : Blk (wr.setCell ⟨u.G, 3, none⟩ (.slice a (refN u.nR R y) c)) N 44 #[.int .u64 u.e, .string u.p, .string u.q, .slice (some ⟨u.G, 0, none⟩) 1 u.cG] := h.n.other _ _ (by show N ≠ u.G; omega)
  obtain ⟨C, c0, cs, k0, k1, k2, k3⟩ := h.g
  have cg := c0.set 3 (.slice a (refN u.nR R y) c)
  refine ⟨hb, h.e0.below hb, by rw [hb.tape]; exact h.a0, h.yb.other _ _ (by show w.heap.size ≠ u.G; omega), ⟨hn.cell 0, hn.cell 1, hn.cell 2, hn.cell 3, ?_, ?_, ?_, ?_⟩, ⟨h.l.set hc _, h.s.set hc _, h.r.set hc _, h.bl, h.bs, h.br, h.kl, h.ks, h.kr⟩⟩
  · exact (cg.cell 0).trans (by rw [Array.getElem?_setIfInBounds, if_neg (by decide)]; exact k0)
  · exact (cg.cell 1).trans (by rw [Array.getElem?_setIfInBounds, if_neg (by decide)]; exact k1)
  · exact (cg.cell 2).trans (by rw [Array.getElem?_setIfInBounds, if_neg (by decide)]; exact k2)
  · exact (cg.cell 3).trans (by rw [Array.getElem?_setIfInBounds, if_pos rfl, if_pos (by omega)])
end Go.Proofs.Qxb6613521aFmt
