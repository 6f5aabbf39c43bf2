/-
  Validate.
-/
import Derived.Test.Qxb6613521aFmtServe
import Derived.Deep.QuietTactic
import Derived.Deep.RegionWith
import Derived.Deep.RegionHeld3
import Derived.Deep.DeepCutAuto
namespace Go.Proofs.Qxb6613521aFmt
open Go.RowKit Go.Extern.Stop Go.Stop Go.Extern

/-- the sentinel lies in its variable -/
structure Err0 (w : World) (ad : Addr) (s : ByteArray) : Prop where
  g : w.cell? ⟨0, 0, none⟩ = some (.iface 56 (.pointer (some ad)))
  t : w.cell? ad = some (.string s)
theorem Err0.below {w w' : World} {ad : Addr} {s : ByteArray} (h : Err0 w ad s) (hb : Below w.heap.size w w') : Err0 w' ad s := ⟨cell_later hb h.g, cell_later hb h.t⟩

/-- the units of one kind -/
def GoodU (n : Nat) (X : Nat → ByteArray) : Prop := ∀ i, i < n → X i ≠ ByteArray.empty ∧ (X i ≠ lostB → ¬ Mem i X (X i))
/-- the units being refilled -/
def GoodR (nL : Nat) (L : Nat → ByteArray) (nS : Nat) (S : Nat → ByteArray) (nR : Nat) (R : Nat → ByteArray) : Prop := ∀ i, i < nR → R i ≠ lostB ∧ ¬ (Mem nL L (R i) ↔ Mem nS S (R i)) ∧ ¬ Mem i R (R i)
/-- Validate's own word, in plain words -/
structure Valid (e : Int) (p q : ByteArray) (st : Int) (nL : Nat) (L : Nat → ByteArray) (nS : Nat) (S : Nat → ByteArray) (nR : Nat) (R : Nat → ByteArray) : Prop where
  e : e ≠ 0
  p0 : p ≠ ByteArray.empty
  p : p ≠ lostB
  q : q ≠ lostB
  st : st = 0
  l : nL ≠ 0
  s : nS ≠ 0
  serve : servN nR R nL L ≠ 0
  both : ¬ (servN nR R nL L < nL ∧ servN nR R nS S < nS)
  gl : GoodU nL L
  gs : GoodU nS S
  gr : GoodR nL L nS S nR R

/-- nil just where A holds, else an error of Errorf's make -/
def NilIff (A : Prop) (w : World) (e : Ending) (w' : World) : Prop := ∃ v, e = .returned v ∧ Below w.heap.size w w' ∧ ((A ∧ v = .nilIface) ∨ (¬ A ∧ IsErr w' v))
theorem NilIff.yes {A : Prop} {w : World} {e : Ending} {w' : World} (hb : Below w.heap.size w w') (h : A) (he : e = .returned .nilIface) : NilIff A w e w' := ⟨_, he, hb, Or.inl ⟨h, rfl⟩⟩
theorem NilIff.no {A : Prop} {w : World} {e : Ending} {w' : World} (v : Value) (hb : Below w.heap.size w w') (h : ¬ A) (hv : IsErr w' v) (he : e = .returned v) : NilIff A w e w' := ⟨v, he, hb, Or.inr ⟨h, hv⟩⟩

theorem fmtE (w : World) : (FmtDoors.printed ⟨#[37, 119, 58, 32, 101, 112, 111, 99, 104, 32, 48]⟩ 1).run Tryf.prog w = .ok [(0, 119, false)] w := by kernel_rfl
theorem fmtP (w : World) : (FmtDoors.printed ⟨#[37, 119, 58, 32, 110, 111, 32, 115, 101, 113, 117, 101, 110, 99, 101, 114]⟩ 1).run Tryf.prog w = .ok [(0, 119, false)] w := by kernel_rfl
theorem fmtQ (w : World) : (FmtDoors.printed ⟨#[37, 119, 58, 32, 116, 104, 101, 32, 115, 101, 113, 117, 101, 110, 99, 101, 114, 32, 111, 114, 32, 116, 104, 101, 32, 108, 97, 121, 111, 117, 116, 32, 115, 101, 114, 118, 101, 114, 32, 109, 97, 114, 107, 101, 100, 32, 108, 111, 115, 116]⟩ 1).run Tryf.prog w = .ok [(0, 119, false)] w := by kernel_rfl
theorem fmtT (w : World) : (FmtDoors.printed ⟨#[37, 119, 58, 32, 116, 104, 101, 32, 102, 105, 114, 115, 116, 32, 115, 101, 103, 109, 101, 110, 116, 32, 115, 116, 97, 114, 116, 115, 32, 97, 116, 32, 37, 100, 44, 32, 110, 111, 116, 32, 48]⟩ 2).run Tryf.prog w = .ok [(0, 119, false), (1, 100, false)] w := by kernel_rfl
theorem fmtL (w : World) : (FmtDoors.printed ⟨#[37, 119, 58, 32, 110, 111, 32, 108, 111, 103, 32, 117, 110, 105, 116]⟩ 1).run Tryf.prog w = .ok [(0, 119, false)] w := by kernel_rfl
theorem fmtS (w : World) : (FmtDoors.printed ⟨#[37, 119, 58, 32, 110, 111, 32, 115, 116, 114, 101, 97, 109, 32, 117, 110, 105, 116]⟩ 1).run Tryf.prog w = .ok [(0, 119, false)] w := by kernel_rfl
theorem fmtV (w : World) : (FmtDoors.printed ⟨#[37, 119, 58, 32, 101, 118, 101, 114, 121, 32, 108, 111, 103, 32, 117, 110, 105, 116, 32, 109, 97, 114, 107, 101, 100, 32, 108, 111, 115, 116, 32, 111, 114, 32, 98, 101, 105, 110, 103, 32, 114, 101, 102, 105, 108, 108, 101, 100]⟩ 1).run Tryf.prog w = .ok [(0, 119, false)] w := by kernel_rfl
theorem fmtB (w : World) : (FmtDoors.printed ⟨#[37, 119, 58, 32, 97, 32, 108, 111, 103, 32, 117, 110, 105, 116, 32, 97, 110, 100, 32, 97, 32, 115, 116, 114, 101, 97, 109, 32, 117, 110, 105, 116, 32, 98, 111, 116, 104, 32, 109, 97, 114, 107, 101, 100, 32, 108, 111, 115, 116, 32, 111, 114, 32, 98, 101, 105, 110, 103, 32, 114, 101, 102, 105, 108, 108, 101, 100]⟩ 1).run Tryf.prog w = .ok [(0, 119, false)] w := by kernel_rfl
theorem fmtA (w : World) : (FmtDoors.printed ⟨#[37, 119, 58, 32, 97, 32, 117, 110, 105, 116, 32, 119, 105, 116, 104, 32, 110, 111, 32, 97, 100, 100, 114, 101, 115, 115]⟩ 1).run Tryf.prog w = .ok [(0, 119, false)] w := by kernel_rfl
theorem fmtW (w : World) : (FmtDoors.printed ⟨#[37, 119, 58, 32, 117, 110, 105, 116, 32, 37, 115, 32, 108, 105, 115, 116, 101, 100, 32, 116, 119, 105, 99, 101]⟩ 2).run Tryf.prog w = .ok [(0, 119, false), (1, 115, false)] w := by kernel_rfl
theorem fmtH (w : World) : (FmtDoors.printed ⟨#[37, 119, 58, 32, 37, 115, 44, 32, 98, 101, 105, 110, 103, 32, 114, 101, 102, 105, 108, 108, 101, 100, 44, 32, 104, 111, 108, 100, 115, 32, 110, 111, 32, 112, 108, 97, 99, 101, 44, 32, 111, 114, 32, 112, 108, 97, 99, 101, 115, 32, 111, 102, 32, 98, 111, 116, 104, 32, 107, 105, 110, 100, 115]⟩ 2).run Tryf.prog w = .ok [(0, 119, false), (1, 115, false)] w := by kernel_rfl
theorem fmtX (w : World) : (FmtDoors.printed ⟨#[37, 119, 58, 32, 117, 110, 105, 116, 32, 37, 115, 32, 98, 101, 105, 110, 103, 32, 114, 101, 102, 105, 108, 108, 101, 100, 32, 116, 119, 105, 99, 101]⟩ 2).run Tryf.prog w = .ok [(0, 119, false), (1, 115, false)] w := by kernel_rfl

set_option maxHeartbeats 400000 in
theorem errA (F : Interp) (f : ByteArray) (hfr : ∀ w, (FmtDoors.printed f 1).run Tryf.prog w = .ok [(0, 119, false)] w) (adE : Addr) (sE : ByteArray) (w : World) (blk : Nat) (hF : F.answers w.tape) (hE : Err0 w adE sE) (hblk : w.heap.size = blk) :
    Calls Tryf.prog 18 #[.string f, .slice (some ⟨blk, 0, none⟩) 1 1] (w.alloc (.cells #[.iface 56 (.pointer (some adE))] 20)) (RetErr w) := by
  subst hblk
  have hb0 : Below w.heap.size w (w.alloc (.cells #[.iface 56 (.pointer (some adE))] 20)) := (Below.refl _ _).alloc (Nat.le_refl _) _
  refine (errf1 F f hfr adE sE w.heap.size (w.alloc (.cells #[.iface 56 (.pointer (some adE))] 20)) hF ((Blk.new w 20 _).cell 0) (hE.below hb0).t).mono ?_
  rintro e w1 ⟨val, rfl, hv, hb⟩
  exact ⟨val, rfl, hv, hb0.trans (hb.mono hb0.size)⟩
theorem errB (F : Interp) (f : ByteArray) (hfr : ∀ w, (FmtDoors.printed f 2).run Tryf.prog w = .ok [(0, 119, false), (1, 115, false)] w) (adE : Addr) (sE t : ByteArray) (w : World) (blk : Nat) (hF : F.answers w.tape) (hE : Err0 w adE sE) (hblk : w.heap.size = blk) :
    Calls Tryf.prog 18 #[.string f, .slice (some ⟨blk, 0, none⟩) 2 2] (w.alloc (.cells #[.iface 56 (.pointer (some adE)), .iface 9 (.string t)] 20)) (RetErr w) := by
  subst hblk
  have hb0 : Below w.heap.size w (w.alloc (.cells #[.iface 56 (.pointer (some adE)), .iface 9 (.string t)] 20)) := (Below.refl _ _).alloc (Nat.le_refl _) _
  refine (errf2 F f hfr adE sE t w.heap.size (w.alloc (.cells #[.iface 56 (.pointer (some adE)), .iface 9 (.string t)] 20)) hF ((Blk.new w 20 _).cell 0) (hE.below hb0).t ((Blk.new w 20 _).cell 1)).mono ?_
  rintro e w1 ⟨val, rfl, hv, hb⟩
  exact ⟨val, rfl, hv, hb0.trans (hb.mono hb0.size)⟩
theorem errC (F : Interp) (f : ByteArray) (hfr : ∀ w, (FmtDoors.printed f 2).run Tryf.prog w = .ok [(0, 119, false), (1, 100, false)] w) (adE : Addr) (sE : ByteArray) (x : Int) (w : World) (blk : Nat) (hF : F.answers w.tape) (hE : Err0 w adE sE) (hblk : w.heap.size = blk) :
    Calls Tryf.prog 18 #[.string f, .slice (some ⟨blk, 0, none⟩) 2 2] (w.alloc (.cells #[.iface 56 (.pointer (some adE)), .iface 22 (.int .u64 x)] 20)) (RetErr w) := by
  subst hblk
  have hb0 : Below w.heap.size w (w.alloc (.cells #[.iface 56 (.pointer (some adE)), .iface 22 (.int .u64 x)] 20)) := (Below.refl _ _).alloc (Nat.le_refl _) _
  refine (errf3 F f hfr adE sE x w.heap.size (w.alloc (.cells #[.iface 56 (.pointer (some adE)), .iface 22 (.int .u64 x)] 20)) hF ((Blk.new w 20 _).cell 0) (hE.below hb0).t ((Blk.new w 20 _).cell 1)).mono ?_
  rintro e w1 ⟨val, rfl, hv, hb⟩
  exact ⟨val, rfl, hv, hb0.trans (hb.mono hb0.size)⟩
theorem errD (F : Interp) (f : ByteArray) (hfr : ∀ w, (FmtDoors.printed f 3).run Tryf.prog w = .ok [(0, 119, false), (1, 115, false), (2, 100, false)] w) (adE : Addr) (sE t : ByteArray) (x : Int) (w : World) (blk : Nat) (hF : F.answers w.tape) (hE : Err0 w adE sE) (hblk : w.heap.size = blk) :
    Calls Tryf.prog 18 #[.string f, .slice (some ⟨blk, 0, none⟩) 3 3] (w.alloc (.cells #[.iface 56 (.pointer (some adE)), .iface 9 (.string t), .iface 22 (.int .u64 x)] 20)) (RetErr w) := by
  subst hblk
  have hb0 : Below w.heap.size w (w.alloc (.cells #[.iface 56 (.pointer (some adE)), .iface 9 (.string t), .iface 22 (.int .u64 x)] 20)) := (Below.refl _ _).alloc (Nat.le_refl _) _
  refine (errf4 F f hfr adE sE t x w.heap.size (w.alloc (.cells #[.iface 56 (.pointer (some adE)), .iface 9 (.string t), .iface 22 (.int .u64 x)] 20)) hF ((Blk.new w 20 _).cell 0) (hE.below hb0).t ((Blk.new w 20 _).cell 1) ((Blk.new w 20 _).cell 2)).mono ?_
  rintro e w1 ⟨val, rfl, hv, hb⟩
  exact ⟨val, rfl, hv, hb0.trans (hb.mono hb0.size)⟩
theorem errW (F : Interp) (f : ByteArray) (hfr : ∀ w, (FmtDoors.printed f 2).run Tryf.prog w = .ok [(0, 115, false), (1, 119, false)] w) (ad : Addr) (s t : ByteArray) (w : World) (blk : Nat) (hF : F.answers w.tape) (hs : w.cell? ad = some (.string s)) (hblk : w.heap.size = blk) :
    Calls Tryf.prog 18 #[.string f, .slice (some ⟨blk, 0, none⟩) 2 2] (w.alloc (.cells #[.iface 9 (.string t), .iface 54 (.pointer (some ad))] 20)) (RetErr w) := by
  subst hblk
  have hb0 : Below w.heap.size w (w.alloc (.cells #[.iface 9 (.string t), .iface 54 (.pointer (some ad))] 20)) := (Below.refl _ _).alloc (Nat.le_refl _) _
  refine (errf5 F f hfr ad s t w.heap.size (w.alloc (.cells #[.iface 9 (.string t), .iface 54 (.pointer (some ad))] 20)) hF ((Blk.new w 20 _).cell 1) (cell_later hb0 hs) ((Blk.new w 20 _).cell 0)).mono ?_
  rintro e w1 ⟨val, rfl, hv, hb⟩
  exact ⟨val, rfl, hv, hb0.trans (hb.mono hb0.size)⟩

/-- the state of Validate behind its copy of the segment, which lies at block D -/
structure VSt (F : Interp) (v : LayV) (B : Nat) (L S R : Nat → ByteArray) (adE : Addr) (sE : ByteArray) (w : World) (D : Nat) (wr : World) : Prop where
  b : Below w.heap.size w wr
  at_ : v.At wr B
  has : v.Has wr L S R
  err : Err0 wr adE sE
  ans : F.answers wr.tape
  d1 : wr.cell? ⟨D, 1, none⟩ = some (.slice v.aL v.nL v.cL)
  d2 : wr.cell? ⟨D, 2, none⟩ = some (.slice v.aS v.nS v.cS)
  d3 : wr.cell? ⟨D, 3, none⟩ = some (.slice v.aR v.nR v.cR)
theorem VSt.next {F : Interp} {v : LayV} {B : Nat} {L S R : Nat → ByteArray} {adE : Addr} {sE : ByteArray} {w : World} {D : Nat} {wr w' : World} (h : VSt F v B L S R adE sE w D wr) (hb : Below wr.heap.size wr w') : VSt F v B L S R adE sE w D w' :=
  ⟨h.b.trans (hb.mono h.b.size), h.at_.below hb, h.has.below hb, h.err.below hb, by rw [hb.tape]; exact h.ans, cell_later hb h.d1, cell_later hb h.d2, cell_later hb h.d3⟩
theorem VSt.drew {F : Interp} {v : LayV} {B : Nat} {L S R : Nat → ByteArray} {adE : Addr} {sE : ByteArray} {w : World} {D : Nat} {wr : World} (h : VSt F v B L S R adE sE w D wr) : VSt F v B L S R adE sE w D wr.drew := h.next (Below.refl _ _).drew

theorem VSt.drewN {F : Interp} {v : LayV} {B : Nat} {L S R : Nat → ByteArray} {adE : Addr} {sE : ByteArray} {w : World} {D : Nat} {wr : World} (h : VSt F v B L S R adE sE w D wr) (q : Nat) : VSt F v B L S R adE sE w D (wr.drewN q) := h.next (below_drewN (Below.refl _ _) q)
theorem StrRow.drewN {w : World} {a : Option Addr} {n : Nat} {S : Nat → ByteArray} (h : StrRow w a n S) (q : Nat) : StrRow (w.drewN q) a n S := h.below (below_drewN (Below.refl _ _) q)

/-- is x among the first n of S? -/
noncomputable def memB (n : Nat) (S : Nat → ByteArray) (x : ByteArray) : Bool := @decide (Mem n S x) (Classical.propDecidable _)
theorem memB_iff {n : Nat} {S : Nat → ByteArray} {x : ByteArray} : memB n S x = true ↔ Mem n S x := by unfold memB; exact @decide_eq_true_iff _ (Classical.propDecidable _)
theorem memB_no {n : Nat} {S : Nat → ByteArray} {x : ByteArray} (h : memB n S x = false) : ¬ Mem n S x := fun hm => by rw [memB_iff.2 hm] at h; simp at h
theorem contains20r (r : Bool) (a : Option Addr) (n cap : Nat) (S : Nat → ByteArray) (x : ByteArray) (w : World) (hn : n ≤ 1048576) (hr : StrRow w a n S) (h : memB n S x = r) :
    Calls Tryf.prog 20 #[.slice a n cap, .string x] w fun e w' => e = .returned (.bool r) ∧ w' = w := by
  refine (contains20 a n cap S x w hn hr).mono ?_
  rintro e w' ⟨r', rfl, rfl, h'⟩
  refine ⟨?_, rfl⟩
  subst h
  cases r' with
  | true => rw [memB_iff.2 (h'.1 rfl)]
  | false =>
    cases e : memB n S x with
    | false => rfl
    | true => exact absurd (h'.2 (memB_iff.1 e)) (by simp)

theorem Below.one {w : World} (o : Obj) : Below w.heap.size w (w.alloc o) := (Below.refl _ _).alloc (Nat.le_refl _) _

set_option maxHeartbeats 8000000 in
set_option maxRecDepth 100000 in
theorem validate12 (F : Interp) (v : LayV) (B : Nat) (L S R : Nat → ByteArray) (adE : Addr) (sE : ByteArray) (w : World) (hF : F.answers w.tape) (h : v.At w B) (hh : v.Has w L S R) (hE : Err0 w adE sE)
    (A : Prop) (HV : Hid (A ↔ Valid v.e v.p v.q v.st v.nL L v.nS S v.nR R)) :
    Calls Tryf.prog 12 #[.pointer (some ⟨B, 0, none⟩)] w (NilIff A w) := by
  have c0 := h.c0; have c1 := h.c1; have c2 := h.c2; have c3 := h.c3; have g0 := h.g0; have g1 := h.g1; have g2 := h.g2; have g3 := h.g3
  have bl := hh.bl; have bs := hh.bs; have br := hh.br; have kl := hh.kl; have ks := hh.ks; have kr := hh.kr
  have HA : Hid (v.At w B ∧ v.Has w L S R ∧ Err0 w adE sE ∧ F.answers w.tape) := ⟨h, hh, hE, hF⟩
  have hg := hE.g; have ht := hE.t
  clear h hh hE hF
  by_cases he : v.e = 0
  · have he2 := he; rw [he] at c0
    go_enter Tryf.func12, Tryf.ntmps12
    go_wp2_with fail
    refine (errA F _ fmtE adE sE w _ HA.out.2.2.2 HA.out.2.2.1 rfl).mono ?_
    rintro e w1 ⟨val, rfl, hv, hb⟩
    go_wp2
    go_ret
    exact NilIff.no val hb (fun h => (HV.out.1 h).e he2) hv rfl
  have he1 : (v.e == 0) = false := by simpa using he
  have HE1 : Hid (v.e ≠ 0) := he
  clear he
  cases hp0 : v.p.toList.isEmpty
  case true =>
    go_enter Tryf.func12, Tryf.ntmps12
    go_wp2_with fail
    refine (errA F _ fmtP adE sE w _ HA.out.2.2.2 HA.out.2.2.1 rfl).mono ?_
    rintro e w1 ⟨val, rfl, hv, hb⟩
    go_wp2
    go_ret
    exact NilIff.no val hb (fun h => (HV.out.1 h).p0 (isEmpty hp0)) hv rfl
  cases hp1 : (v.p.toList == [108, 111, 115, 116])
  case true =>
    go_enter Tryf.func12, Tryf.ntmps12
    go_wp2_with fail
    refine (errA F _ fmtQ adE sE w _ HA.out.2.2.2 HA.out.2.2.1 rfl).mono ?_
    rintro e w1 ⟨val, rfl, hv, hb⟩
    go_wp2
    go_ret
    exact NilIff.no val hb (fun h => (HV.out.1 h).p (isLost hp1)) hv rfl
  cases hq1 : (v.q.toList == [108, 111, 115, 116])
  case true =>
    go_enter Tryf.func12, Tryf.ntmps12
    go_wp2_with fail
    refine (errA F _ fmtQ adE sE w _ HA.out.2.2.2 HA.out.2.2.1 rfl).mono ?_
    rintro e w1 ⟨val, rfl, hv, hb⟩
    go_wp2
    go_ret
    exact NilIff.no val hb (fun h => (HV.out.1 h).q (isLost hq1)) hv rfl
  have hb9 : Below w.heap.size w (w.alloc (.cells #[.int .u64 v.st, .slice v.aL v.nL v.cL, .slice v.aS v.nS v.cS, .slice v.aR v.nR v.cR] 41)) := Below.one _
  have hg9 : (w.alloc (.cells #[.int .u64 v.st, .slice v.aL v.nL v.cL, .slice v.aS v.nS v.cS, .slice v.aR v.nR v.cR] 41)).cell? ⟨0, 0, none⟩ = some (.iface 56 (.pointer (some adE))) := cell_later hb9 hg
  have H9 : Hid (v.At (w.alloc (.cells #[.int .u64 v.st, .slice v.aL v.nL v.cL, .slice v.aS v.nS v.cS, .slice v.aR v.nR v.cR] 41)) B ∧ v.Has (w.alloc (.cells #[.int .u64 v.st, .slice v.aL v.nL v.cL, .slice v.aS v.nS v.cS, .slice v.aR v.nR v.cR] 41)) L S R ∧ Err0 (w.alloc (.cells #[.int .u64 v.st, .slice v.aL v.nL v.cL, .slice v.aS v.nS v.cS, .slice v.aR v.nR v.cR] 41)) adE sE ∧ F.answers (w.alloc (.cells #[.int .u64 v.st, .slice v.aL v.nL v.cL, .slice v.aS v.nS v.cS, .slice v.aR v.nR v.cR] 41)).tape) := ⟨HA.out.1.below hb9, HA.out.2.1.below hb9, HA.out.2.2.1.below hb9, HA.out.2.2.2⟩
  have HB9 : Hid (Below w.heap.size w (w.alloc (.cells #[.int .u64 v.st, .slice v.aL v.nL v.cL, .slice v.aS v.nS v.cS, .slice v.aR v.nR v.cR] 41))) := hb9
  clear hb9
  by_cases hst : v.st ≠ 0
  · have hst1 : (v.st == 0) = false := by simpa using hst
    have hst2 : (v.st != 0) = true := by simpa using hst
    go_enter Tryf.func12, Tryf.ntmps12
    go_wp2_with fail
    refine (errC F _ fmtT adE sE v.st (w.alloc (.cells #[.int .u64 v.st, .slice v.aL v.nL v.cL, .slice v.aS v.nS v.cS, .slice v.aR v.nR v.cR] 41)) _ H9.out.2.2.2 H9.out.2.2.1 (by simp)).mono ?_
    rintro e w1 ⟨val, rfl, hv, hb⟩
    go_wp2
    go_ret
    exact NilIff.no val (HB9.out.trans (hb.mono HB9.out.size)) (fun h => hst (HV.out.1 h).st) hv rfl
  have hst0 : v.st = 0 := Classical.not_not.1 hst
  have HST : Hid (v.st = 0) := hst0
  have hst1 : (v.st == 0) = true := by simpa using hst0
  have hst2 : (v.st != 0) = false := by simpa using hst0
  clear hst hst0
  by_cases hl : v.nL = 0
  · have hl1 : ((v.nL : Int) == 0) = true := by simpa using hl
    have HX : Hid (v.nL = 0) := hl
    clear hl
    go_enter Tryf.func12, Tryf.ntmps12
    go_wp2_with fail
    refine (errA F _ fmtL adE sE (w.alloc (.cells #[.int .u64 v.st, .slice v.aL v.nL v.cL, .slice v.aS v.nS v.cS, .slice v.aR v.nR v.cR] 41)) _ H9.out.2.2.2 H9.out.2.2.1 (by simp)).mono ?_
    rintro e w1 ⟨val, rfl, hv, hb⟩
    go_wp2
    go_ret
    exact NilIff.no val (HB9.out.trans (hb.mono HB9.out.size)) (fun h => (HV.out.1 h).l HX.out) hv rfl
  have hl1 : ((v.nL : Int) == 0) = false := by simpa using hl
  have HL0 : Hid (v.nL ≠ 0) := hl
  clear hl
  by_cases hs : v.nS = 0
  · have hs1 : ((v.nS : Int) == 0) = true := by simpa using hs
    have HX : Hid (v.nS = 0) := hs
    clear hs
    go_enter Tryf.func12, Tryf.ntmps12
    go_wp2_with fail
    refine (errA F _ fmtS adE sE (w.alloc (.cells #[.int .u64 v.st, .slice v.aL v.nL v.cL, .slice v.aS v.nS v.cS, .slice v.aR v.nR v.cR] 41)) _ H9.out.2.2.2 H9.out.2.2.1 (by simp)).mono ?_
    rintro e w1 ⟨val, rfl, hv, hb⟩
    go_wp2
    go_ret
    exact NilIff.no val (HB9.out.trans (hb.mono HB9.out.size)) (fun h => (HV.out.1 h).s HX.out) hv rfl
  have hs1 : ((v.nS : Int) == 0) = false := by simpa using hs
  have HS0 : Hid (v.nS ≠ 0) := hs
  clear hs
  go_enter Tryf.func12, Tryf.ntmps12
  go_wp2_with fail
  refine (serving19 v B L S R (w.alloc (.cells #[.int .u64 v.st, .slice v.aL v.nL v.cL, .slice v.aS v.nS v.cS, .slice v.aR v.nR v.cR] 41)) H9.out.1 H9.out.2.1 v.aL v.nL v.cL L bl H9.out.2.1.l).mono ?_
  rintro e w2 ⟨a2, k2, rfl, hb2⟩
  have V2 : Hid (VSt F v B L S R adE sE w w.heap.size w2) := ⟨HB9.out.trans (hb2.mono HB9.out.size), H9.out.1.below hb2, H9.out.2.1.below hb2, H9.out.2.2.1.below hb2, by rw [hb2.tape]; exact H9.out.2.2.2,
    cell_later hb2 ((Blk.new w 41 _).cell 1), cell_later hb2 ((Blk.new w 41 _).cell 2), cell_later hb2 ((Blk.new w 41 _).cell 3)⟩
  clear hb2 H9 HB9 hg9 c0 c1 c2 c3 g0 g1 g2 g3 hg ht
  have HP0 : Hid (v.p ≠ ByteArray.empty ∧ v.p ≠ lostB ∧ v.q ≠ lostB) := ⟨notEmpty hp0, notLost hp1, notLost hq1⟩
  clear he1 hp0 hp1 hq1 hst1 hst2 hl1 hs1 HA
  by_cases hs : servN v.nR R v.nL L = 0
  · rw [hs]
    have hg2 := V2.out.err.g
    go_wp2_with fail
    refine (errA F _ fmtV adE sE w2 _ V2.out.ans V2.out.err rfl).mono ?_
    rintro e w1 ⟨val, rfl, hv, hb⟩
    go_wp2
    go_ret
    exact NilIff.no val (V2.out.b.trans (hb.mono V2.out.b.size)) (fun h => (HV.out.1 h).serve hs) hv rfl
  have hs1 : ((servN v.nR R v.nL L : Int) == 0) = false := by simpa using hs
  have HSV : Hid (servN v.nR R v.nL L ≠ 0) := hs
  clear hs
  go_wp2_with fail
  go_cut [104] from 105 to 124 (fun s wr => ∃ b, s = .bool b ∧ Hid ((b = true ↔ servN v.nR R v.nL L < v.nL ∧ servN v.nR R v.nS S < v.nS) ∧ VSt F v B L S R adE sE w w.heap.size wr))
  case first =>
    have V3 : Hid (VSt F v B L S R adE sE w w.heap.size w2.drew) := V2.out.drew
    have d1 := V2.out.d1
    have d2 := V2.out.d2
    by_cases h18 : servN v.nR R v.nL L < v.nL
    · have hd : decide ((servN v.nR R v.nL L : Int) < (v.nL : Int)) = true := by simpa using h18
      have hd' : decide (servN v.nR R v.nL L < v.nL) = true := by simpa using h18
      have H18 : Hid (servN v.nR R v.nL L < v.nL) := h18
      clear h18
      go_region_held3 (fun w' => w'.cell? ⟨w.heap.size, 1, none⟩ = some (.slice v.aL v.nL v.cL) ∧ w'.cell? ⟨w.heap.size, 2, none⟩ = some (.slice v.aS v.nS v.cS))
        (first | exact ⟨V5.out.d1, V5.out.d2⟩ | exact ⟨V4.out.d1, V4.out.d2⟩ | exact ⟨V3.out.d1, V3.out.d2⟩)
        (first
        | (go_at_call_of 19 v.aL
           refine (serving19 v B L S R w2.drew V3.out.at_ V3.out.has v.aL v.nL v.cL L bl V3.out.has.l).mono ?_
           rintro e w3 ⟨a3, k3, rfl, hb3⟩
           have V4 : Hid (VSt F v B L S R adE sE w w.heap.size w3) := V3.out.next hb3
           have e1 := V4.out.d1
           have e2 := V4.out.d2
           clear hb3)
        | (go_at_call_of 19 v.aS
           refine (serving19 v B L S R w3 V4.out.at_ V4.out.has v.aS v.nS v.cS S bs V4.out.has.s).mono ?_
           rintro e w4 ⟨a4, k4, rfl, hb4⟩
           have V5 : Hid (VSt F v B L S R adE sE w w.heap.size w4) := V4.out.next hb4
           have f2 := V5.out.d2
           clear hb4))
      go_wp2
      go_meet
      case rel => exact ⟨_, rfl, ⟨fun h => ⟨H18.out, by simpa using h⟩, fun h => by simpa using h.2⟩, V5.out⟩
    · have hd : decide ((servN v.nR R v.nL L : Int) < (v.nL : Int)) = false := by simpa using h18
      have hd' : decide (servN v.nR R v.nL L < v.nL) = false := by simpa using h18
      have H18 : Hid (¬ servN v.nR R v.nL L < v.nL) := h18
      clear h18
      refine wp_region_held_drew (S := fun w' => w'.cell? ⟨w.heap.size, 1, none⟩ = some (.slice v.aL v.nL v.cL) ∧ w'.cell? ⟨w.heap.size, 2, none⟩ = some (.slice v.aS v.nS v.cS)) (by kernel_rfl) ⟨V3.out.d1, V3.out.d2⟩ (fun hHeld => ?_)
      refine wpAnyH_take (i := 0) (oi := { dst := some 105, op := Op.move (Operand.tmp 0), type := 29, pos := "layout.go:152", after := #[], guard := none }) (v := .pointer (some ⟨B, 0, none⟩)) rfl (by kernel_rfl) (by kernel_rfl) (by kernel_rfl) (fun _ _ _ h => h) (Or.inl ⟨by rfl, ?_⟩) (by assumption) ?_
      · intro w' hSw
        obtain ⟨hS1, hS2⟩ := hSw
        go_simp
      try simp only [Act.put, List.setIfInBounds_toArray, List.set_cons_zero, List.set_cons_succ]
      refine wpAnyH_take (i := 1) (oi := { dst := some 106, op := Op.fieldAddr 41 (Operand.tmp 3) 1, type := 0, pos := "layout.go:152", after := #[], guard := none }) (v := .pointer (some ⟨w.heap.size, 1, none⟩)) rfl (by kernel_rfl) (by kernel_rfl) (by kernel_rfl) (fun _ _ _ h => h) (Or.inl ⟨by rfl, ?_⟩) (by assumption) ?_
      · intro w' hSw
        obtain ⟨hS1, hS2⟩ := hSw
        go_simp
      try simp only [Act.put, List.setIfInBounds_toArray, List.set_cons_zero, List.set_cons_succ]
      refine wpAnyH_take (i := 5) (oi := { dst := some 110, op := Op.fieldAddr 41 (Operand.tmp 3) 1, type := 0, pos := "layout.go:152", after := #[], guard := none }) (v := .pointer (some ⟨w.heap.size, 1, none⟩)) rfl (by kernel_rfl) (by kernel_rfl) (by kernel_rfl) (fun _ _ _ h => h) (Or.inl ⟨by rfl, ?_⟩) (by assumption) ?_
      · intro w' hSw
        obtain ⟨hS1, hS2⟩ := hSw
        go_simp
      try simp only [Act.put, List.setIfInBounds_toArray, List.set_cons_zero, List.set_cons_succ]
      refine wpAnyH_take (i := 2) (oi := { dst := some 107, op := Op.load 23 (Operand.tmp 106), type := 23, pos := "layout.go:152", after := #[{ on := 1, ground := Ground.data }], guard := none }) (v := .slice v.aL v.nL v.cL) rfl (by kernel_rfl) (by kernel_rfl) (by kernel_rfl) (fun _ _ _ h => h) (Or.inl ⟨by rfl, ?_⟩) (by assumption) ?_
      · intro w' hSw
        obtain ⟨hS1, hS2⟩ := hSw
        go_simp
      try simp only [Act.put, List.setIfInBounds_toArray, List.set_cons_zero, List.set_cons_succ]
      refine wpAnyH_take (i := 6) (oi := { dst := some 111, op := Op.load 23 (Operand.tmp 110), type := 23, pos := "layout.go:152", after := #[{ on := 5, ground := Ground.data }], guard := none }) (v := .slice v.aL v.nL v.cL) rfl (by kernel_rfl) (by kernel_rfl) (by kernel_rfl) (fun _ _ _ h => h) (Or.inl ⟨by rfl, ?_⟩) (by assumption) ?_
      · intro w' hSw
        obtain ⟨hS1, hS2⟩ := hSw
        go_simp
      try simp only [Act.put, List.setIfInBounds_toArray, List.set_cons_zero, List.set_cons_succ]
      refine wpAnyH_take (i := 7) (oi := { dst := some 112, op := Op.call { callee := Callee.builtin Builtin.len, args := #[Operand.tmp 111], argTypes := #[23] }, type := 3, pos := "layout.go:152", after := #[{ on := 6, ground := Ground.data }], guard := none }) (v := .int .i64 v.nL) rfl (by kernel_rfl) (by kernel_rfl) (by kernel_rfl) (fun _ _ _ h => h) (Or.inl ⟨by rfl, ?_⟩) (by assumption) ?_
      · intro w' hSw
        obtain ⟨hS1, hS2⟩ := hSw
        go_simp
      try simp only [Act.put, List.setIfInBounds_toArray, List.set_cons_zero, List.set_cons_succ]
      refine wpAnyH_ready (rs := [3]) (by kernel_rfl) (by simp) ?_
      refine AllReadyH.cons (o := { dst := some 108, op := Op.call { callee := Callee.value (Operand.func 19), args := #[Operand.tmp 105, Operand.tmp 107], argTypes := #[29, 23] }, type := 23, pos := "layout.go:152", after := #[{ on := 0, ground := Ground.data }, { on := 2, ground := Ground.data }], guard := none }) rfl (fun K hK => ?_) AllReadyH.nil
      go_simp
      refine (serving19 v B L S R w2.drew V3.out.at_ V3.out.has v.aL v.nL v.cL L bl V3.out.has.l).mono ?_
      rintro e w3 ⟨a3, k3, rfl, hb3⟩
      have V4 : Hid (VSt F v B L S R adE sE w w.heap.size w3) := V3.out.next hb3
      clear hb3 hHeld
      go_wp2_with fail
      refine hK.out _ _ ⟨V4.out.d1, V4.out.d2⟩ (fun hHeld => ?_)
      clear hK K
      try simp only [Act.put, List.setIfInBounds_toArray, List.set_cons_zero, List.set_cons_succ]
      refine wpAnyH_take (i := 4) (oi := { dst := some 109, op := Op.call { callee := Callee.builtin Builtin.len, args := #[Operand.tmp 108], argTypes := #[23] }, type := 3, pos := "layout.go:152", after := #[{ on := 3, ground := Ground.data }], guard := none }) (v := .int .i64 (servN v.nR R v.nL L : Nat)) rfl (by kernel_rfl) (by kernel_rfl) (by kernel_rfl) (fun _ _ _ h => h) (Or.inl ⟨by rfl, ?_⟩) (by assumption) ?_
      · intro w' hSw
        obtain ⟨hS1, hS2⟩ := hSw
        go_simp
      try simp only [Act.put, List.setIfInBounds_toArray, List.set_cons_zero, List.set_cons_succ]
      refine wpAnyH_take (i := 8) (oi := { dst := some 113, op := Op.binOp BinOp.lss 3 (Operand.tmp 109) (Operand.tmp 112) 3, type := 4, pos := "layout.go:152", after := #[{ on := 4, ground := Ground.data }, { on := 7, ground := Ground.data }], guard := none }) (v := .bool false) rfl (by kernel_rfl) (by kernel_rfl) (by kernel_rfl) (fun _ _ _ h => h) (Or.inl ⟨by rfl, ?_⟩) (by assumption) ?_
      · intro w' hSw
        obtain ⟨hS1, hS2⟩ := hSw
        go_simp
      try simp only [Act.put, List.setIfInBounds_toArray, List.set_cons_zero, List.set_cons_succ]
      refine wpAnyH_take (i := 9) (oi := { dst := some 114, op := Op.move (Operand.tmp 113), type := 4, pos := "layout.go:152", after := #[{ on := 8, ground := Ground.data }, { on := 3, ground := Ground.chain }], guard := none }) (v := .bool false) rfl (by kernel_rfl) (by kernel_rfl) (by kernel_rfl) (fun _ _ _ h => h) (Or.inl ⟨by rfl, ?_⟩) (by assumption) ?_
      · intro w' hSw
        obtain ⟨hS1, hS2⟩ := hSw
        go_simp
      try simp only [Act.put, List.setIfInBounds_toArray, List.set_cons_zero, List.set_cons_succ]
      refine wpAnyH_take (i := 10) (oi := { dst := some 115, op := Op.move (Operand.tmp 0), type := 29, pos := "layout.go:152", after := #[{ on := 9, ground := Ground.guard }], guard := some (9, true) }) (v := undef) rfl (by kernel_rfl) (by kernel_rfl) (by kernel_rfl) (fun _ _ _ h => h) (Or.inr ⟨by rfl, rfl⟩) (by assumption) ?_
      try simp only [Act.put, List.setIfInBounds_toArray, List.set_cons_zero, List.set_cons_succ]
      refine wpAnyH_take (i := 11) (oi := { dst := some 116, op := Op.fieldAddr 41 (Operand.tmp 3) 2, type := 0, pos := "layout.go:152", after := #[{ on := 9, ground := Ground.guard }], guard := some (9, true) }) (v := undef) rfl (by kernel_rfl) (by kernel_rfl) (by kernel_rfl) (fun _ _ _ h => h) (Or.inr ⟨by rfl, rfl⟩) (by assumption) ?_
      try simp only [Act.put, List.setIfInBounds_toArray, List.set_cons_zero, List.set_cons_succ]
      refine wpAnyH_take (i := 12) (oi := { dst := some 117, op := Op.load 23 (Operand.tmp 116), type := 23, pos := "layout.go:152", after := #[{ on := 11, ground := Ground.data }, { on := 9, ground := Ground.guard }], guard := some (9, true) }) (v := undef) rfl (by kernel_rfl) (by kernel_rfl) (by kernel_rfl) (fun _ _ _ h => h) (Or.inr ⟨by rfl, rfl⟩) (by assumption) ?_
      try simp only [Act.put, List.setIfInBounds_toArray, List.set_cons_zero, List.set_cons_succ]
      refine wpAnyH_take (i := 15) (oi := { dst := some 120, op := Op.fieldAddr 41 (Operand.tmp 3) 2, type := 0, pos := "layout.go:152", after := #[{ on := 9, ground := Ground.guard }], guard := some (9, true) }) (v := undef) rfl (by kernel_rfl) (by kernel_rfl) (by kernel_rfl) (fun _ _ _ h => h) (Or.inr ⟨by rfl, rfl⟩) (by assumption) ?_
      try simp only [Act.put, List.setIfInBounds_toArray, List.set_cons_zero, List.set_cons_succ]
      refine wpAnyH_take (i := 16) (oi := { dst := some 121, op := Op.load 23 (Operand.tmp 120), type := 23, pos := "layout.go:152", after := #[{ on := 15, ground := Ground.data }, { on := 9, ground := Ground.guard }], guard := some (9, true) }) (v := undef) rfl (by kernel_rfl) (by kernel_rfl) (by kernel_rfl) (fun _ _ _ h => h) (Or.inr ⟨by rfl, rfl⟩) (by assumption) ?_
      try simp only [Act.put, List.setIfInBounds_toArray, List.set_cons_zero, List.set_cons_succ]
      refine wpAnyH_take (i := 17) (oi := { dst := some 122, op := Op.call { callee := Callee.builtin Builtin.len, args := #[Operand.tmp 121], argTypes := #[23] }, type := 3, pos := "layout.go:152", after := #[{ on := 16, ground := Ground.data }, { on := 9, ground := Ground.guard }], guard := some (9, true) }) (v := undef) rfl (by kernel_rfl) (by kernel_rfl) (by kernel_rfl) (fun _ _ _ h => h) (Or.inr ⟨by rfl, rfl⟩) (by assumption) ?_
      try simp only [Act.put, List.setIfInBounds_toArray, List.set_cons_zero, List.set_cons_succ]
      refine wpAnyH_take (i := 13) (oi := { dst := some 118, op := Op.call { callee := Callee.value (Operand.func 19), args := #[Operand.tmp 115, Operand.tmp 117], argTypes := #[29, 23] }, type := 23, pos := "layout.go:152", after := #[{ on := 10, ground := Ground.data }, { on := 12, ground := Ground.data }, { on := 9, ground := Ground.chain }, { on := 9, ground := Ground.guard }], guard := some (9, true) }) (v := undef) rfl (by kernel_rfl) (by kernel_rfl) (by kernel_rfl) (fun _ _ _ h => h) (Or.inr ⟨by rfl, rfl⟩) (by assumption) ?_
      try simp only [Act.put, List.setIfInBounds_toArray, List.set_cons_zero, List.set_cons_succ]
      refine wpAnyH_take (i := 14) (oi := { dst := some 119, op := Op.call { callee := Callee.builtin Builtin.len, args := #[Operand.tmp 118], argTypes := #[23] }, type := 3, pos := "layout.go:152", after := #[{ on := 13, ground := Ground.data }, { on := 9, ground := Ground.guard }], guard := some (9, true) }) (v := undef) rfl (by kernel_rfl) (by kernel_rfl) (by kernel_rfl) (fun _ _ _ h => h) (Or.inr ⟨by rfl, rfl⟩) (by assumption) ?_
      try simp only [Act.put, List.setIfInBounds_toArray, List.set_cons_zero, List.set_cons_succ]
      refine wpAnyH_take (i := 18) (oi := { dst := some 123, op := Op.binOp BinOp.lss 3 (Operand.tmp 119) (Operand.tmp 122) 3, type := 4, pos := "layout.go:152", after := #[{ on := 14, ground := Ground.data }, { on := 17, ground := Ground.data }, { on := 9, ground := Ground.guard }], guard := some (9, true) }) (v := undef) rfl (by kernel_rfl) (by kernel_rfl) (by kernel_rfl) (fun _ _ _ h => h) (Or.inr ⟨by rfl, rfl⟩) (by assumption) ?_
      try simp only [Act.put, List.setIfInBounds_toArray, List.set_cons_zero, List.set_cons_succ]
      refine wpAnyH_take (i := 19) (oi := { dst := some 124, op := Op.pick (Operand.tmp 114) (Operand.tmp 123) (Operand.const (Value.bool false)), type := 4, pos := "layout.go:152", after := #[{ on := 9, ground := Ground.data }, { on := 18, ground := Ground.data }], guard := none }) (v := .bool false) rfl (by kernel_rfl) (by kernel_rfl) (by kernel_rfl) (fun _ _ _ h => h) (Or.inl ⟨by rfl, ?_⟩) (by assumption) ?_
      · intro w' hSw
        obtain ⟨hS1, hS2⟩ := hSw
        go_simp
      try simp only [Act.put, List.setIfInBounds_toArray, List.set_cons_zero, List.set_cons_succ]
      refine wpAnyH_take (i := 20) (oi := { dst := some 104, op := Op.assign (Operand.tmp 124), type := 4, pos := "layout.go:152", after := #[{ on := 19, ground := Ground.data }, { on := 13, ground := Ground.chain }], guard := none }) (v := .bool false) rfl (by kernel_rfl) (by kernel_rfl) (by kernel_rfl) (fun _ _ _ h => h) (Or.inl ⟨by rfl, ?_⟩) (by assumption) ?_
      · intro w' hSw
        obtain ⟨hS1, hS2⟩ := hSw
        go_simp
      try simp only [Act.put, List.setIfInBounds_toArray, List.set_cons_zero, List.set_cons_succ]
      refine wpAnyH_done (by kernel_rfl) ?_ _
      go_wp2
      go_meet
      case rel => exact ⟨_, rfl, ⟨fun h => absurd h (by decide), fun h => absurd h.1 H18.out⟩, V4.out⟩
  case rest =>
    obtain ⟨b, rfl, HC⟩ := hcut
    clear V2
    have hgc := HC.out.2.err.g
    have e1 := HC.out.2.d1
    have e2 := HC.out.2.d2
    cases b
    case true =>
      go_wp2_with fail
      refine (errA F _ fmtB adE sE wc _ HC.out.2.ans HC.out.2.err rfl).mono ?_
      rintro e w1 ⟨val, rfl, hv, hb⟩
      go_wp2
      go_ret
      exact NilIff.no val (HC.out.2.b.trans (hb.mono HC.out.2.b.size)) (fun h => (HV.out.1 h).both (HC.out.1.1 (by trivial))) hv rfl
    have HNB : Hid (¬ (servN v.nR R v.nL L < v.nL ∧ servN v.nR R v.nS S < v.nS)) := fun h => absurd (HC.out.1.2 h) (by decide)
    have V6 : Hid (VSt F v B L S R adE sE w w.heap.size (wc.alloc (.cells #[.slice v.aL v.nL v.cL, .slice v.aS v.nS v.cS] 23))) := HC.out.2.next (Below.one _)
    have r0 : (wc.alloc (.cells #[.slice v.aL v.nL v.cL, .slice v.aS v.nS v.cS] 23)).cell? ⟨wc.heap.size, 0, none⟩ = some (.slice v.aL v.nL v.cL) := (Blk.new wc 23 _).cell 0
    have r1 : (wc.alloc (.cells #[.slice v.aL v.nL v.cL, .slice v.aS v.nS v.cS] 23)).cell? ⟨wc.heap.size, 1, none⟩ = some (.slice v.aS v.nS v.cS) := (Blk.new wc 23 _).cell 1
    have hg6 := V6.out.err.g
    have d3 := V6.out.d3
    have d1 := V6.out.d1
    have d2 := V6.out.d2
    clear HC hgc
    go_wp2
    go_loop [134] (fun k => ∃ m : Nat, m ≤ 2 ∧ k = .int .i64 m ∧ Hid ((1 ≤ m → GoodU v.nL L) ∧ (2 ≤ m → GoodU v.nS S))) (fun k => 2 - (intOf k).toNat)
    case atStart => exact ⟨0, by omega, rfl, fun h => absurd h (by omega), fun h => absurd h (by omega)⟩
    case round =>
      obtain ⟨m, hm, rfl, HG⟩ := hrel
      by_cases hlt : m < 2
      · obtain ⟨a, n, c, X, hc, hX, hn, hnc, hbad, hgood⟩ : ∃ a n c X, (wc.alloc (.cells #[.slice v.aL v.nL v.cL, .slice v.aS v.nS v.cS] 23)).cell? ⟨wc.heap.size, m, none⟩ = some (.slice a n c) ∧ StrRow (wc.alloc (.cells #[.slice v.aL v.nL v.cL, .slice v.aS v.nS v.cS] 23)) a n X ∧ n ≤ 65537 ∧ n ≤ c ∧ (A → GoodU n X) ∧ (GoodU n X → (1 ≤ m + 1 → GoodU v.nL L) ∧ (2 ≤ m + 1 → GoodU v.nS S)) := by
          by_cases h0 : m = 0
          · subst h0
            exact ⟨_, _, _, L, r0, V6.out.has.l, bl, kl, fun h => (HV.out.1 h).gl, fun h => ⟨fun _ => h, fun h' => absurd h' (by omega)⟩⟩
          · obtain rfl : m = 1 := by omega
            exact ⟨_, _, _, S, r1, V6.out.has.s, bs, ks, fun h => (HV.out.1 h).gs, fun h => ⟨fun _ => HG.out.1 (by omega), fun _ => h⟩⟩
        have HBad : Hid (A → GoodU n X) := hbad
        have HGood : Hid (GoodU n X → (1 ≤ m + 1 → GoodU v.nL L) ∧ (2 ≤ m + 1 → GoodU v.nS S)) := hgood
        have HX : Hid (StrRow (wc.alloc (.cells #[.slice v.aL v.nL v.cL, .slice v.aS v.nS v.cS] 23)) a n X) := hX
        clear hbad hgood hX r0 r1
        go_wp2
        go_loop [140] (fun i => ∃ k : Nat, k ≤ n ∧ i = .int .i64 k ∧ Hid (∀ j, j < k → X j ≠ ByteArray.empty ∧ (X j ≠ lostB → ¬ Mem j X (X j)))) (fun i => n - (intOf i).toNat)
        case atStart => exact ⟨0, Nat.zero_le _, rfl, fun j h => absurd h (by omega)⟩
        case round =>
          obtain ⟨k, hk, rfl, HK⟩ := hrel
          by_cases hlt2 : k < n
          · obtain ⟨b, off, rfl, hb, hcx⟩ := HX.out k hlt2
            have step : Hid (X k ≠ ByteArray.empty → (X k ≠ lostB → ¬ Mem k X (X k)) → ∀ j, j < k + 1 → X j ≠ ByteArray.empty ∧ (X j ≠ lostB → ¬ Mem j X (X j))) := fun h1 h2 j hj => by
              by_cases e : j = k
              · subst e; exact ⟨h1, h2⟩
              · exact HK.out j (by omega)
            cases e3 : (X k).toList.isEmpty
            case true =>
              have hno : Hid (¬ A) := fun h => (HBad.out h k hlt2).1 (isEmpty e3)
              go_wp2_with fail
              refine (errA F _ fmtA adE sE (wc.alloc (.cells #[.slice v.aL v.nL v.cL, .slice v.aS v.nS v.cS] 23)) _ V6.out.ans V6.out.err (by simp)).mono ?_
              rintro e w1 ⟨val, rfl, hv, hb⟩
              go_wp2
              go_ret
              exact NilIff.no val (V6.out.b.trans (hb.mono V6.out.b.size)) hno.out hv rfl
            cases e4 : ((X k).toList == [108, 111, 115, 116])
            case true =>
              have hst : Hid (∀ j, j < k + 1 → X j ≠ ByteArray.empty ∧ (X j ≠ lostB → ¬ Mem j X (X j))) := step.out (notEmpty e3) (fun h => absurd (isLost e4) h)
              go_wp2
              go_round
              case rel => exact ⟨k + 1, by omega, by go_num, hst⟩
              case measure => simp [intOf]; omega
            have hrow : StrRow (wc.alloc (.cells #[.slice v.aL v.nL v.cL, .slice v.aS v.nS v.cS] 23)) (some ⟨b, off, none⟩) k X := fun i hi => HX.out i (by omega)
            have HM : Hid (∀ cc, Calls Tryf.prog 20 #[.slice (some ⟨b, off, none⟩) k cc, .string (X k)] (wc.alloc (.cells #[.slice v.aL v.nL v.cL, .slice v.aS v.nS v.cS] 23)) (RetB (fun r => r = true ↔ Mem k X (X k)) (wc.alloc (.cells #[.slice v.aL v.nL v.cL, .slice v.aS v.nS v.cS] 23)))) := fun cc => contains20 _ k cc X (X k) _ (by omega) hrow
            clear hrow
            go_wp2_with fail
            refine (HM.out _).mono ?_
            rintro e w1 ⟨r, rfl, rfl, hr'⟩
            have HR' : Hid (r = true ↔ Mem k X (X k)) := hr'
            clear hr'
            cases r
            · have hst : Hid (∀ j, j < k + 1 → X j ≠ ByteArray.empty ∧ (X j ≠ lostB → ¬ Mem j X (X j))) := step.out (notEmpty e3) (fun _ h => absurd (HR'.out.2 h) (by decide))
              go_wp2
              go_round
              case rel => exact ⟨k + 1, by omega, by go_num, hst⟩
              case measure => simp [intOf]; omega
            · have hno : Hid (¬ A) := fun h => (HBad.out h k hlt2).2 (notLost e4) (HR'.out.1 rfl)
              go_wp2_with fail
              refine (errB F _ fmtW adE sE (X k) (wc.alloc (.cells #[.slice v.aL v.nL v.cL, .slice v.aS v.nS v.cS] 23)) _ V6.out.ans V6.out.err (by simp)).mono ?_
              rintro e w1 ⟨val, rfl, hv, hb⟩
              go_wp2
              go_ret
              exact NilIff.no val (V6.out.b.trans (hb.mono V6.out.b.size)) hno.out hv rfl
          · obtain rfl : k = n := by omega
            have hgd : Hid ((1 ≤ m + 1 → GoodU v.nL L) ∧ (2 ≤ m + 1 → GoodU v.nS S)) := HGood.out HK.out
            go_wp2
            go_round
            case rel => exact ⟨m + 1, by omega, by go_num, hgd⟩
            case measure => simp [intOf]; omega
      · obtain rfl : m = 2 := by omega
        clear r0 r1
        go_wp2
        obtain ⟨aR, hAR⟩ : ∃ aR, Hid (v.aR = aR) := ⟨_, rfl⟩
        rw [show v.aR = aR from hAR.out]
        go_loopw [169] (fun i wr => ∃ k : Nat, k ≤ v.nR ∧ i = .int .i64 k ∧ Hid (VSt F v B L S R adE sE w w.heap.size wr) ∧ Hid (∀ j, j < k → R j ≠ lostB ∧ ¬ (Mem v.nL L (R j) ↔ Mem v.nS S (R j)) ∧ ¬ Mem j R (R j))) (fun i _ => v.nR - (intOf i).toNat)
        case atStart => exact ⟨0, Nat.zero_le _, rfl, V6, fun j h => absurd h (by omega)⟩
        case round =>
          obtain ⟨k, hk, rfl, VW, HK⟩ := hrel
          clear d1 d2 d3 hg6
          have d1 := VW.out.d1
          have d2 := VW.out.d2
          have d3 := VW.out.d3
          have hg6 := VW.out.err.g
          rw [show v.aR = aR from hAR.out] at d3
          by_cases hlt3 : k < v.nR
          · obtain ⟨b, off, hae, hb, hcx⟩ := VW.out.has.r k hlt3
            rw [show v.aR = aR from hAR.out] at hae
            subst hae
            have hrow : StrRow wr (some ⟨b, off, none⟩) v.nR R := by
              have := VW.out.has.r
              rw [show v.aR = some ⟨b, off, none⟩ from hAR.out] at this
              exact this
            have HM : Hid (∀ cc q', Calls Tryf.prog 20 #[.slice (some ⟨b, off, none⟩) k cc, .string (R k)] (wr.drewN q') (RetB (fun r => r = true ↔ Mem k R (R k)) (wr.drewN q'))) :=
              fun cc q' => contains20 _ k cc R (R k) _ (by omega) (StrRow.drewN (fun i hi => hrow i (by omega)) q')
            have RL : Hid (StrRow wr v.aL v.nL L) := VW.out.has.l
            have RS : Hid (StrRow wr v.aS v.nS S) := VW.out.has.s
            have step : Hid (R k ≠ lostB → ¬ (Mem v.nL L (R k) ↔ Mem v.nS S (R k)) → ¬ Mem k R (R k) → ∀ j, j < k + 1 → R j ≠ lostB ∧ ¬ (Mem v.nL L (R j) ↔ Mem v.nS S (R j)) ∧ ¬ Mem j R (R j)) := fun h1 h2 h3 j hj => by
              by_cases e : j = k
              · subst e; exact ⟨h1, h2, h3⟩
              · exact HK.out j (by omega)
            clear hrow hb
            cases e7 : ((R k).toList == [108, 111, 115, 116])
            case true =>
              have hno : Hid (¬ A) := fun h => ((HV.out.1 h).gr k hlt3).1 (isLost e7)
              go_wp2
              go_quiet (first | (go_at_call_of 20 v.aL; skip; exact Calls.quiet_of_same (contains20r (memB v.nL L (R k)) v.aL v.nL v.cL L (R k) _ (by omega) (RL.out.drewN _) rfl)) | (go_at_call_of 20 v.aS; exact Calls.quiet_of_same (contains20r (memB v.nS S (R k)) v.aS v.nS v.cS S (R k) _ (by omega) (RS.out.drewN _) rfl)))
              go_wp2_with fail
              refine (errB F _ fmtH adE sE (R k) (wr.drewN nq) _ (VW.out.drewN _).ans (VW.out.drewN _).err (by simp)).mono ?_
              rintro e w1 ⟨val, rfl, hv, hb⟩
              go_wp2
              go_ret
              exact NilIff.no val ((below_drewN VW.out.b _).trans (hb.mono (below_drewN VW.out.b _).size)) hno.out hv rfl
            cases e8 : (memB v.nL L (R k) == memB v.nS S (R k))
            case true =>
              have hno : Hid (¬ A) := fun h => ((HV.out.1 h).gr k hlt3).2.1 (by
                have e9 : memB v.nL L (R k) = memB v.nS S (R k) := by simpa using e8
                rw [← memB_iff, ← memB_iff, e9])
              go_wp2
              go_quiet (first | (go_at_call_of 20 v.aL; exact Calls.quiet_of_same (contains20r (memB v.nL L (R k)) v.aL v.nL v.cL L (R k) _ (by omega) (RL.out.drewN _) rfl)) | (go_at_call_of 20 v.aS; exact Calls.quiet_of_same (contains20r (memB v.nS S (R k)) v.aS v.nS v.cS S (R k) _ (by omega) (RS.out.drewN _) rfl)))
              go_wp2_with fail
              refine (errB F _ fmtH adE sE (R k) (wr.drewN nq) _ (VW.out.drewN _).ans (VW.out.drewN _).err (by simp)).mono ?_
              rintro e w1 ⟨val, rfl, hv, hb⟩
              go_wp2
              go_ret
              exact NilIff.no val ((below_drewN VW.out.b _).trans (hb.mono (below_drewN VW.out.b _).size)) hno.out hv rfl
            have H8 : Hid (¬ (Mem v.nL L (R k) ↔ Mem v.nS S (R k))) := fun h => by
              have e9 : memB v.nL L (R k) = memB v.nS S (R k) := by
                rw [← memB_iff, ← memB_iff] at h
                cases h1 : memB v.nL L (R k) <;> cases h2 : memB v.nS S (R k) <;> simp_all
              rw [e9] at e8
              simp at e8
            go_wp2
            go_quiet (first | (go_at_call_of 20 v.aL; exact Calls.quiet_of_same (contains20r (memB v.nL L (R k)) v.aL v.nL v.cL L (R k) _ (by omega) (RL.out.drewN _) rfl)) | (go_at_call_of 20 v.aS; exact Calls.quiet_of_same (contains20r (memB v.nS S (R k)) v.aS v.nS v.cS S (R k) _ (by omega) (RS.out.drewN _) rfl)))
            go_wp2_with fail
            refine (HM.out _ _).mono ?_
            rintro e w1 ⟨r, rfl, rfl, hr'⟩
            have HR' : Hid (r = true ↔ Mem k R (R k)) := hr'
            clear hr'
            cases r
            · have hst : Hid (∀ j, j < k + 1 → R j ≠ lostB ∧ ¬ (Mem v.nL L (R j) ↔ Mem v.nS S (R j)) ∧ ¬ Mem j R (R j)) := step.out (notLost e7) H8.out (fun h => absurd (HR'.out.2 h) (by decide))
              go_wp2
              go_roundw
              case rel => exact ⟨k + 1, by omega, by go_num, VW.out.drewN _, hst⟩
              case measure => simp [intOf]; omega
            · have hno : Hid (¬ A) := fun h => ((HV.out.1 h).gr k hlt3).2.2 (HR'.out.1 rfl)
              go_wp2_with fail
              refine (errB F _ fmtX adE sE (R k) (wr.drewN nq) _ (VW.out.drewN _).ans (VW.out.drewN _).err (by simp)).mono ?_
              rintro e w1 ⟨val, rfl, hv, hb⟩
              go_wp2
              go_ret
              exact NilIff.no val ((below_drewN VW.out.b _).trans (hb.mono (below_drewN VW.out.b _).size)) hno.out hv rfl
          · obtain rfl : k = v.nR := by omega
            have hyes : Hid A := HV.out.2 ⟨HE1.out, HP0.out.1, HP0.out.2.1, HP0.out.2.2, HST.out, HL0.out, HS0.out, HSV.out, HNB.out, HG.out.1 (by omega), HG.out.2 (by omega), HK.out⟩
            go_wp2
            go_ret
            exact NilIff.yes VW.out.b hyes.out rfl
end Go.Proofs.Qxb6613521aFmt
