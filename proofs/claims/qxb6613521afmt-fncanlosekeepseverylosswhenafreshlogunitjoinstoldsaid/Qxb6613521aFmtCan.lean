/-
  canLose, ZZcanLose, ZZlayout.
-/
import Derived.Test.Qxb6613521aFmtWul
namespace Go.Proofs.Qxb6613521aFmt
open Go.RowKit Go.Extern.Stop Go.Stop Go.Extern

/-- true just where A holds -/
def Says (A : Prop) (w : World) (e : Ending) (w' : World) : Prop := ∃ r : Bool, e = .returned (.bool r) ∧ (r = true ↔ A) ∧ Below w.heap.size w w'

set_option maxHeartbeats 1000000 in
theorem canLose17 (F : Interp) (v : LayV) (B : Nat) (L S R : Nat → ByteArray) (adE : Addr) (sE y : ByteArray) (w : World) (hF : F.answers w.tape) (h : v.At w B) (hh : v.Has w L S R) (hE : Err0 w adE sE) (A : Prop) (HV : Hid (A ↔ Loses v.e v.p v.q v.st v.nL L v.nS S v.nR R y)) :
    Calls Tryf.prog 17 #[.pointer (some ⟨B, 0, none⟩), .string y] w (Says A w) := by
  have H : Hid (Calls Tryf.prog 24 #[.pointer (some ⟨B, 0, none⟩), .string y] w (LostPost A w)) := lost24 F v B L S R adE sE y w hF h hh hE A HV
  clear HV hE hh h hF
  go_enter Tryf.func17, Tryf.ntmps17
  go_wp2_with fail
  refine H.out.mono ?_
  rintro e w1 ⟨e', p', q', a, n, c, ev, rfl, hb, hev⟩
  have HB : Hid (Below w.heap.size w w1) := hb
  clear hb
  rcases hev with ⟨hA, rfl⟩ | ⟨hA, x, rfl⟩
  · have HA : Hid A := hA
    clear hA
    go_wp2
    go_ret
    exact ⟨true, rfl, ⟨fun _ => HA.out, fun _ => rfl⟩, HB.out.alloc HB.out.size _⟩
  · have HA : Hid (¬ A) := hA
    clear hA
    go_wp2
    go_ret
    exact ⟨false, rfl, ⟨fun h => absurd h (by simp), fun h => absurd h HA.out⟩, HB.out.alloc HB.out.size _⟩

set_option maxHeartbeats 1000000 in
theorem zzCanLose9 (F : Interp) (v : LayV) (B : Nat) (L S R : Nat → ByteArray) (adE : Addr) (sE y : ByteArray) (w : World) (hF : F.answers w.tape) (h : v.At w B) (hh : v.Has w L S R) (hE : Err0 w adE sE) (A : Prop) (HV : Hid (A ↔ Loses v.e v.p v.q v.st v.nL L v.nS S v.nR R y)) :
    Calls Tryf.prog 9 #[.pointer (some ⟨B, 0, none⟩), .string y] w (Says A w) := by
  have H : Hid (Calls Tryf.prog 17 #[.pointer (some ⟨B, 0, none⟩), .string y] w (Says A w)) := canLose17 F v B L S R adE sE y w hF h hh hE A HV
  clear HV hE hh h hF
  go_enter Tryf.func9, Tryf.ntmps9
  go_wp2_with fail
  refine H.out.mono ?_
  rintro e w1 ⟨r, rfl, hr, hb⟩
  have HB : Hid ((r = true ↔ A) ∧ Below w.heap.size w w1) := ⟨hr, hb⟩
  clear hb hr
  go_wp2
  go_ret
  exact ⟨r, rfl, HB.out⟩

/-- a layout is made -/
def Made (e : Int) (p q : ByteArray) (st : Int) (aL : Option Addr) (nL cL : Nat) (aS : Option Addr) (nS cS : Nat) (aR : Option Addr) (nR cR : Nat) (w : World) (en : Ending) (w' : World) : Prop :=
  ∃ B G, en = .returned (.pointer (some ⟨B, 0, none⟩)) ∧ Below w.heap.size w w' ∧ (LayV.mk e p q st aL nL cL aS nS cS aR nR cR G 1).At w' B

set_option maxHeartbeats 1000000 in
theorem zzLayout10 (e : Int) (p q : ByteArray) (st : Int) (aL : Option Addr) (nL cL : Nat) (aS : Option Addr) (nS cS : Nat) (aR : Option Addr) (nR cR : Nat) (w : World) :
    Calls Tryf.prog 10 #[.int .u64 e, .string p, .string q, .int .u64 st, .slice aL nL cL, .slice aS nS cS, .slice aR nR cR] w (Made e p q st aL nL cL aS nS cS aR nR cR w) := by
  have hb1 : Below w.heap.size w (w.alloc (.cells #[.int .u64 st, .slice aL nL cL, .slice aS nS cS, .slice aR nR cR] 41)) := Below.one _
  have hb2 : Below w.heap.size w ((w.alloc (.cells #[.int .u64 st, .slice aL nL cL, .slice aS nS cS, .slice aR nR cR] 41)).alloc (.cells #[.int .u64 e, .string p, .string q, .slice (some ⟨w.heap.size, 0, none⟩) 1 1] 44)) := hb1.alloc hb1.size _
  have g1 : Blk ((w.alloc (.cells #[.int .u64 st, .slice aL nL cL, .slice aS nS cS, .slice aR nR cR] 41)).alloc (.cells #[.int .u64 e, .string p, .string q, .slice (some ⟨w.heap.size, 0, none⟩) 1 1] 44)) w.heap.size 41 #[.int .u64 st, .slice aL nL cL, .slice aS nS cS, .slice aR nR cR] := (Blk.new w 41 _).alloc _
  have g2 : Blk ((w.alloc (.cells #[.int .u64 st, .slice aL nL cL, .slice aS nS cS, .slice aR nR cR] 41)).alloc (.cells #[.int .u64 e, .string p, .string q, .slice (some ⟨w.heap.size, 0, none⟩) 1 1] 44)) (w.heap.size + 1) 44 #[.int .u64 e, .string p, .string q, .slice (some ⟨w.heap.size, 0, none⟩) 1 1] := by
    have := Blk.new (w.alloc (.cells #[.int .u64 st, .slice aL nL cL, .slice aS nS cS, .slice aR nR cR] 41)) 44 #[.int .u64 e, .string p, .string q, .slice (some ⟨w.heap.size, 0, none⟩) 1 1]
    rw [show (w.alloc (.cells #[.int .u64 st, .slice aL nL cL, .slice aS nS cS, .slice aR nR cR] 41)).heap.size = w.heap.size + 1 by simp] at this
    exact this
  have HM : Hid (Below w.heap.size w ((w.alloc (.cells #[.int .u64 st, .slice aL nL cL, .slice aS nS cS, .slice aR nR cR] 41)).alloc (.cells #[.int .u64 e, .string p, .string q, .slice (some ⟨w.heap.size, 0, none⟩) 1 1] 44)) ∧ (LayV.mk e p q st aL nL cL aS nS cS aR nR cR w.heap.size 1).At ((w.alloc (.cells #[.int .u64 st, .slice aL nL cL, .slice aS nS cS, .slice aR nR cR] 41)).alloc (.cells #[.int .u64 e, .string p, .string q, .slice (some ⟨w.heap.size, 0, none⟩) 1 1] 44)) (w.heap.size + 1)) :=
    ⟨hb2, g2.cell 0, g2.cell 1, g2.cell 2, g2.cell 3, g1.cell 0, g1.cell 1, g1.cell 2, g1.cell 3⟩
  clear hb1 hb2 g1 g2
  go_enter Tryf.func10, Tryf.ntmps10
  go_wp2
  go_ret
  exact ⟨w.heap.size + 1, w.heap.size, rfl, HM.out⟩
end Go.Proofs.Qxb6613521aFmt
