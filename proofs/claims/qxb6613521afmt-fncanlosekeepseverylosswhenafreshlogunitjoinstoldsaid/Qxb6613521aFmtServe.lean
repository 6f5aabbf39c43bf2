/-
  A layout in memory; KeptBy, Refills, Serving, without.
-/
import Derived.Test.Qxb6613521aFmtDel
namespace Go.Proofs.Qxb6613521aFmt
open Go.RowKit

/-- the outer form of a layout of one segment -/
structure LayV where
  e : Int
  p : ByteArray
  q : ByteArray
  st : Int
  aL : Option Addr
  nL : Nat
  cL : Nat
  aS : Option Addr
  nS : Nat
  cS : Nat
  aR : Option Addr
  nR : Nat
  cR : Nat
  G : Nat
  cG : Nat

/-- it lies at block B -/
structure LayV.At (v : LayV) (w : World) (B : Nat) : Prop where
  c0 : w.cell? ⟨B, 0, none⟩ = some (.int .u64 v.e)
  c1 : w.cell? ⟨B, 1, none⟩ = some (.string v.p)
  c2 : w.cell? ⟨B, 2, none⟩ = some (.string v.q)
  c3 : w.cell? ⟨B, 3, none⟩ = some (.slice (some ⟨v.G, 0, none⟩) 1 v.cG)
  g0 : w.cell? ⟨v.G, 0, none⟩ = some (.int .u64 v.st)
  g1 : w.cell? ⟨v.G, 1, none⟩ = some (.slice v.aL v.nL v.cL)
  g2 : w.cell? ⟨v.G, 2, none⟩ = some (.slice v.aS v.nS v.cS)
  g3 : w.cell? ⟨v.G, 3, none⟩ = some (.slice v.aR v.nR v.cR)
theorem LayV.At.below {v : LayV} {w w' : World} {B : Nat} (h : v.At w B) (hb : Below w.heap.size w w') : v.At w' B :=
  ⟨cell_later hb h.c0, cell_later hb h.c1, cell_later hb h.c2, cell_later hb h.c3, cell_later hb h.g0, cell_later hb h.g1, cell_later hb h.g2, cell_later hb h.g3⟩

/-- what its three slices hold -/
structure LayV.Has (v : LayV) (w : World) (L S R : Nat → ByteArray) : Prop where
  l : StrRow w v.aL v.nL L
  s : StrRow w v.aS v.nS S
  r : StrRow w v.aR v.nR R
  bl : v.nL ≤ 65537
  bs : v.nS ≤ 65537
  br : v.nR ≤ 65537
  kl : v.nL ≤ v.cL
  ks : v.nS ≤ v.cS
  kr : v.nR ≤ v.cR
theorem LayV.Has.below {v : LayV} {w w' : World} {L S R : Nat → ByteArray} (h : v.Has w L S R) (hb : Below w.heap.size w w') : v.Has w' L S R :=
  ⟨h.l.below hb, h.s.below hb, h.r.below hb, h.bl, h.bs, h.br, h.kl, h.ks, h.kr⟩

/-- KeptBy -/
theorem keptBy31 (v : LayV) (B : Nat) (w : World) (h : v.At w B) : Calls Tryf.prog 31 #[.pointer (some ⟨B, 0, none⟩)] w fun e w' => e = .returned (.string (if v.q = ByteArray.empty then v.p else v.q)) ∧ w' = w := by
  have c1 := h.c1
  have c2 := h.c2
  clear h
  by_cases hq : v.q = ByteArray.empty
  · rw [if_pos hq]
    rw [hq] at c2
    clear hq
    go_enter Tryf.func31, Tryf.ntmps31
    go_wp2
    go_ret
    exact ⟨rfl, rfl⟩
  · rw [if_neg hq]
    have hq' := empty_false hq
    clear hq
    go_enter Tryf.func31, Tryf.ntmps31
    go_wp2
    go_ret
    exact ⟨rfl, rfl⟩

set_option maxHeartbeats 400000 in
/-- Refills -/
theorem refills29 (v : LayV) (B : Nat) (R : Nat → ByteArray) (x : ByteArray) (w : World) (h : v.At w B) (hr : StrRow w v.aR v.nR R) (hn : v.nR ≤ 65537) :
    Calls Tryf.prog 29 #[.pointer (some ⟨B, 0, none⟩), .string x] w (RetB (fun r => r = true ↔ Mem v.nR R x) w) := by
  have c3 := h.c3
  have g3 := h.g3
  clear h
  go_enter Tryf.func29, Tryf.ntmps29
  go_wp2_with fail
  refine (contains20 v.aR v.nR v.cR R x w (by omega) hr).mono ?_
  rintro e w' ⟨r, rfl, rfl, hr'⟩
  have H : Hid (r = true ↔ Mem v.nR R x) := hr'
  clear hr'
  go_wp2
  go_ret
  exact RetB.mk r rfl rfl H.out

/-- x serves no place: it is "lost", or it is being refilled -/
noncomputable def away (n : Nat) (R : Nat → ByteArray) (x : ByteArray) : Bool := @decide (x = lostB ∨ Mem n R x) (Classical.propDecidable _)
theorem away_true {n : Nat} {R : Nat → ByteArray} {x : ByteArray} : away n R x = true ↔ x = lostB ∨ Mem n R x := by unfold away; exact @decide_eq_true_iff _ (Classical.propDecidable _)
theorem away_eq {n : Nat} {R : Nat → ByteArray} {x : ByteArray} {r : Bool} (h : r = true ↔ x = lostB ∨ Mem n R x) : r = away n R x := by
  cases r with
  | true => exact (away_true.2 (h.1 rfl)).symm
  | false =>
    cases e : away n R x with
    | false => rfl
    | true => exact absurd (h.2 (away_true.1 e)) (by simp)

set_option maxHeartbeats 400000 in
/-- Serving's closure -/
theorem asks28 (v : LayV) (B P : Nat) (R : Nat → ByteArray) (w : World) (h : v.At w B) (hr : StrRow w v.aR v.nR R) (hn : v.nR ≤ 65537) (hp : w.cell? ⟨P, 0, none⟩ = some (.pointer (some ⟨B, 0, none⟩))) :
    Asks 28 (.pointer (some ⟨P, 0, none⟩)) (away v.nR R) w := by
  intro x
  have HC : Hid (Calls Tryf.prog 29 #[.pointer (some ⟨B, 0, none⟩), .string x] w (RetB (fun r => r = true ↔ Mem v.nR R x) w)) := refills29 v B R x w h hr hn
  clear h hr
  cases el : (x.toList == [108, 111, 115, 116])
  · have hx := notLost el
    go_enter Tryf.func28, Tryf.ntmps28
    go_wp2_with fail
    refine HC.out.mono ?_
    rintro e w' ⟨r, rfl, rfl, hr'⟩
    have H : Hid (r = away v.nR R x) := away_eq ⟨fun h => Or.inr (hr'.1 h), fun h => by
      rcases h with h | h
      · exact absurd h hx
      · exact hr'.2 h⟩
    clear hr' hx
    go_wp2
    go_ret
    exact ⟨by rw [← H.out]; rfl, rfl⟩
  · have hx : Hid (true = away v.nR R x) := away_eq ⟨fun _ => Or.inl (isLost el), fun _ => rfl⟩
    go_enter Tryf.func28, Tryf.ntmps28
    go_wp2
    go_ret
    exact ⟨by rw [← hx.out]; rfl, rfl⟩

/-- how many serve -/
noncomputable def servN (n : Nat) (R : Nat → ByteArray) (k : Nat) (S : Nat → ByteArray) : Nat := (flt (away n R) k S).length
theorem servN_le (n : Nat) (R : Nat → ByteArray) (k : Nat) (S : Nat → ByteArray) : servN n R k S ≤ k := by
  unfold servN flt
  exact Nat.le_trans (List.length_filter_le _ _) (Nat.le_of_eq (lst_len k S))

/-- a slice of k elements comes back -/
def RetLen (k : Nat) (w : World) (e : Ending) (w' : World) : Prop := ∃ a c, e = .returned (.slice a k c) ∧ Below w.heap.size w w'

theorem enter28 (args : Array Value) (w : World) : (callFunc 28 args).run Tryf.prog w = .ok (.enter 28 args) w := by simp
theorem enter36 (args : Array Value) (w : World) : (callFunc 36 args).run Tryf.prog w = .ok (.enter 36 args) w := by simp

set_option maxHeartbeats 1000000 in
/-- Serving -/
theorem serving19 (v : LayV) (B : Nat) (L S R : Nat → ByteArray) (w : World) (h : v.At w B) (hh : v.Has w L S R) (a : Option Addr) (n cap : Nat) (X : Nat → ByteArray) (hn : n ≤ 65537) (hX : StrRow w a n X) :
    Calls Tryf.prog 19 #[.pointer (some ⟨B, 0, none⟩), .slice a n cap] w (RetLen (servN v.nR R n X) w) := by
  have hb0 : Below w.heap.size w (w.alloc (.cells #[.pointer (some ⟨B, 0, none⟩)] 29)) := (Below.refl _ _).alloc (Nat.le_refl _) _
  have h1 := h.below hb0
  have r1 := hh.r.below hb0
  have x1 := hX.below hb0
  have p1 : (w.alloc (.cells #[.pointer (some ⟨B, 0, none⟩)] 29)).cell? ⟨w.heap.size, 0, none⟩ = some (.pointer (some ⟨B, 0, none⟩)) := (Blk.new w 29 _).cell 0
  have bn := hh.br
  clear h hh hX
  go_enter Tryf.func19, Tryf.ntmps19
  go_wp2_with fail
  refine (clone27 a n cap X _ (by omega) x1).mono ?_
  rintro e w2 ⟨a2, c2, rfl, hc2, ho, hb2⟩
  obtain ⟨g, hg, ho2⟩ : ∃ g, (w.alloc (.cells #[.pointer (some ⟨B, 0, none⟩)] 29)).heap.size ≤ g ∧ (n = 0 ∨ ∃ N, a2 = some ⟨g, 0, none⟩ ∧ n ≤ N ∧ Grows g N n X w2) := by
    rcases ho with h0 | ⟨g, N, e1, e2, e3, e4⟩
    · exact ⟨w2.heap.size, hb2.size, Or.inl h0⟩
    · exact ⟨g, e2, Or.inr ⟨N, e1, e3, e4⟩⟩
  have hd : ∀ W, OnlyAt g w2 W → Asks 28 (.pointer (some ⟨w.heap.size, 0, none⟩)) (away v.nR R) W := by
    intro W hW
    have hbW := hb2.trans (hW.below hg)
    exact asks28 v B w.heap.size R W (h1.below hbW) (r1.below hbW) bn (cell_later hbW p1)
  have HC : Hid (Calls Tryf.prog 26 #[.slice a2 n c2, .func (.func 28) #[] #[.pointer (some ⟨w.heap.size, 0, none⟩)]] w2 (Deleted g a2 n c2 X (away v.nR R) w2)) := deleteFunc26 28 _ enter28 (away v.nR R) g a2 n c2 X w2 (by omega) ho2 hc2 hd
  clear hd ho ho2 h1 r1 x1
  go_wp2_with fail
  refine HC.out.mono ?_
  rintro e w3 ⟨rfl, hr3, ho3⟩
  clear hr3
  go_wp2
  go_ret
  exact ⟨_, _, rfl, hb0.trans ((hb2.trans (ho3.below hg)).mono hb0.size)⟩

/-- x is y -/
def isIt (y x : ByteArray) : Bool := decide (x = y)
theorem isIt_true {y x : ByteArray} : isIt y x = true ↔ x = y := by unfold isIt; exact decide_eq_true_iff

theorem asks36 (P : Nat) (y : ByteArray) (w : World) (hp : w.cell? ⟨P, 0, none⟩ = some (.string y)) : Asks 36 (.pointer (some ⟨P, 0, none⟩)) (isIt y) w := by
  intro x
  cases el : (x.toList == y.toList)
  · have hx : Hid (isIt y x = false) := by
      show isIt y x = false
      cases e : isIt y x with
      | false => rfl
      | true => exact absurd (isIt_true.1 e) (neq_of el)
    go_enter Tryf.func36, Tryf.ntmps36
    go_wp2
    go_ret
    exact ⟨by rw [hx.out]; rfl, rfl⟩
  · have hx : Hid (isIt y x = true) := isIt_true.2 (eq_of el)
    go_enter Tryf.func36, Tryf.ntmps36
    go_wp2
    go_ret
    exact ⟨by rw [hx.out]; rfl, rfl⟩

/-- what without hands back: the row without y; block g alone, and new blocks, are written -/
def Without (g : Nat) (n : Nat) (S : Nat → ByteArray) (y : ByteArray) (w : World) (e : Ending) (w' : World) : Prop :=
  ∃ a c, e = .returned (.slice a (flt (isIt y) n S).length c) ∧ (flt (isIt y) n S).length ≤ c ∧ StrRow w' a (flt (isIt y) n S).length (fun m => (flt (isIt y) n S).getD m ByteArray.empty) ∧
    w'.tape = w.tape ∧ w'.os = w.os ∧ w'.output = w.output ∧ w.heap.size ≤ w'.heap.size ∧ ∀ k, k < w.heap.size → k ≠ g → w'.heap[k]? = w.heap[k]?

set_option maxHeartbeats 1000000 in
/-- without -/
theorem without33 (g : Nat) (a : Option Addr) (n cap : Nat) (S : Nat → ByteArray) (y : ByteArray) (w : World) (hn : n ≤ 65537) (ho : n = 0 ∨ ∃ N, a = some ⟨g, 0, none⟩ ∧ n ≤ N ∧ Grows g N n S w) (hcap : n ≤ cap) :
    Calls Tryf.prog 33 #[.slice a n cap, .string y] w (Without g n S y w) := by
  have hb0 : Below w.heap.size w (w.alloc (.cells #[.string y] 9)) := (Below.refl _ _).alloc (Nat.le_refl _) _
  obtain ⟨g', hg', hgg, ho'⟩ : ∃ g', g' ≠ w.heap.size ∧ (∀ k, k < w.heap.size → k ≠ g → k ≠ g') ∧ (n = 0 ∨ ∃ N, a = some ⟨g', 0, none⟩ ∧ n ≤ N ∧ Grows g' N n S (w.alloc (.cells #[.string y] 9))) := by
    rcases ho with h0 | ⟨N, e1, e2, D, e3, e4⟩
    · exact ⟨w.heap.size + 1, by omega, fun k hk _ => by omega, Or.inl h0⟩
    · have := e3.lt
      exact ⟨g, by omega, fun k _ h => h, Or.inr ⟨N, e1, e2, D, e3.alloc _, e4⟩⟩
  have p1 : (w.alloc (.cells #[.string y] 9)).cell? ⟨w.heap.size, 0, none⟩ = some (.string y) := (Blk.new w 9 _).cell 0
  have hd : ∀ W, OnlyAt g' (w.alloc (.cells #[.string y] 9)) W → Asks 36 (.pointer (some ⟨w.heap.size, 0, none⟩)) (isIt y) W := by
    intro W hW
    exact asks36 w.heap.size y W (by rw [hW.cell (by exact fun h => hg' h.symm)]; exact p1)
  have HC : Hid (Calls Tryf.prog 26 #[.slice a n cap, .func (.func 36) #[] #[.pointer (some ⟨w.heap.size, 0, none⟩)]] (w.alloc (.cells #[.string y] 9)) (Deleted g' a n cap S (isIt y) (w.alloc (.cells #[.string y] 9)))) :=
    deleteFunc26 36 _ enter36 (isIt y) g' a n cap S _ (by omega) ho' hcap hd
  have hle : (flt (isIt y) n S).length ≤ n := Nat.le_trans (List.length_filter_le _ _) (Nat.le_of_eq (lst_len n S))
  clear hd ho ho'
  go_enter Tryf.func33, Tryf.ntmps33
  go_wp2_with fail
  refine HC.out.mono ?_
  rintro e w3 ⟨rfl, hr3, ho3⟩
  have HR : Hid (StrRow w3 a (flt (isIt y) n S).length (fun m => (flt (isIt y) n S).getD m ByteArray.empty)) := hr3
  have HO : Hid (w3.tape = w.tape ∧ w3.os = w.os ∧ w3.output = w.output ∧ w.heap.size ≤ w3.heap.size ∧ ∀ k, k < w.heap.size → k ≠ g → w3.heap[k]? = w.heap[k]?) :=
    ⟨ho3.tape, ho3.os, ho3.output, by rw [ho3.size]; exact hb0.size, fun k hk hkg => (ho3.block k (hgg k hk hkg)).trans (hb0.block k hk)⟩
  clear hr3 ho3 HC
  generalize hl : (flt (isIt y) n S).length = m at HR hle
  by_cases h0 : m = 0
  · subst h0
    go_wp2
    go_ret
    exact ⟨none, 0, by rw [hl]; rfl, by rw [hl]; exact Nat.le_refl _, by rw [hl]; exact fun i hi => absurd hi (by omega), HO.out⟩
  · have hm : ((m : Int) == 0) = false := by simp; omega
    go_wp2
    go_ret
    exact ⟨a, cap, by rw [hl]; rfl, by rw [hl]; omega, by rw [hl]; exact HR.out, HO.out⟩
end Go.Proofs.Qxb6613521aFmt
