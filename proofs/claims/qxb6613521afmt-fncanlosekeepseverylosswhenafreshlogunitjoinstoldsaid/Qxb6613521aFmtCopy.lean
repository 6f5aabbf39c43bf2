/-
  The functions that copy slices of strings; zzIsFresh; zzBytes.
-/
import Derived.Test.Qxb6613521aFmtBase
import Derived.LoopTactic
import Derived.Lib.Walk
import Derived.Lib.SliceRun
import Derived.Laws.AppendOwn
namespace Go.Proofs.Qxb6613521aFmt
open Go.RowKit

/-- the row at g holds G 0 .. G (k-1), and has N cells -/
def Grows (g N k : Nat) (G : Nat → ByteArray) (wr : World) : Prop := ∃ D, Blk wr g 9 D ∧ D.size = N ∧ ∀ j, j < k → D[j]? = some (.string (G j))
theorem Grows.start (N : Nat) (G : Nat → ByteArray) (w : World) : Grows w.heap.size N 0 G (w.alloc (.cells (blankS N) 9)) := ⟨_, Blk.new _ _ _, size_blankS N, fun j h => absurd h (by omega)⟩
theorem Grows.rowOf {g N k : Nat} {G : Nat → ByteArray} {wr : World} (h : Grows g N k G wr) : StrRow wr (some ⟨g, 0, none⟩) k G := fun i hi => by
  obtain ⟨D, hB, hs, hD⟩ := h
  exact ⟨g, 0, rfl, hB.lt, by rw [Nat.zero_add, hB.cell]; exact hD i hi⟩
theorem Grows.lt {g N k : Nat} {G : Nat → ByteArray} {wr : World} (h : Grows g N k G wr) : g < wr.heap.size := by
  obtain ⟨D, hB, _⟩ := h
  exact hB.lt
theorem Grows.room {g N k : Nat} {G : Nat → ByteArray} {wr : World} (h : Grows g N k G wr) (j : Nat) (hj : j < N) : ∃ v, wr.cell? ⟨g, j, none⟩ = some v ∧ wr.frozen? ⟨g, j, none⟩ = false := by
  obtain ⟨D, hB, hs, hD⟩ := h
  exact ⟨D[j]'(by omega), by rw [hB.cell]; exact Array.getElem?_eq_getElem (by omega), hB.frozen j⟩
theorem Grows.put {g N k : Nat} {G : Nat → ByteArray} {wr : World} (h : Grows g N k G wr) (hk : k < N) (s : ByteArray) (hs : G k = s) : Grows g N (k + 1) G (wr.setCell ⟨g, k, none⟩ (.string s)) := by
  obtain ⟨D, hB, hz, hD⟩ := h
  refine ⟨_, hB.set k _, by simp [hz], fun j hj => ?_⟩
  rw [Array.getElem?_setIfInBounds]
  by_cases e : k = j
  · subst e; rw [if_pos rfl, if_pos (by omega), hs]
  · rw [if_neg e]; exact hD j (by omega)

theorem eqlNil23 (w : World) (a : Option Addr) (n c n' c' : Nat) : (binOp .eql 23 (.slice a n c) (.slice none n' c')).run Tryf.prog w = .ok (.bool a.isNone) w := Lib.run_eql_slice_nil w _ _ a n c n' c' Tryf.underlying23
attribute [local go_sem] eqlNil23

/-- a slice of n strings S comes back, in memory that is new -/
def Copied (n : Nat) (S : Nat → ByteArray) (w : World) (e : Ending) (w' : World) : Prop := ∃ a c, e = .returned (.slice a n c) ∧ n ≤ c ∧ StrRow w' a n S ∧ Below w.heap.size w w'

theorem none_zero {w : World} {n : Nat} {S : Nat → ByteArray} (h : StrRow w none n S) : n = 0 := by
  rcases Nat.eq_zero_or_pos n with h0 | h0
  · exact h0
  · obtain ⟨b, off, e, _⟩ := h 0 h0
    exact absurd e (by simp)

set_option maxHeartbeats 1000000 in
/-- zzCloneStrings -/
theorem clone8 (a : Option Addr) (n cap : Nat) (S : Nat → ByteArray) (w : World) (hn : n ≤ 65536) (hr : StrRow w a n S) : Calls Tryf.prog 8 #[.slice a n cap] w (Copied n S w) := by
  cases a with
  | none =>
    obtain rfl := none_zero hr
    go_enter Tryf.func8, Tryf.ntmps8
    go_wp2
    go_ret
    exact ⟨none, 0, rfl, Nat.le_refl _, hr, Below.refl _ _⟩
  | some ad =>
    have hmk := make23 n (by omega) w
    have HR : Hid (StrRow w (some ad) n S) := hr
    clear hr
    go_enter Tryf.func8, Tryf.ntmps8
    go_wp2
    go_loopw [4] (fun i wr => ∃ k : Nat, k ≤ n ∧ i = .int .i64 k ∧ Hid (Grows w.heap.size n k S wr ∧ Below w.heap.size w wr)) (fun i _ => n - (intOf i).toNat)
    case atStart => exact ⟨0, Nat.zero_le _, rfl, Grows.start n S w, (Below.refl _ _).alloc (Nat.le_refl _) _⟩
    case round =>
      obtain ⟨k, hk, rfl, GK⟩ := hrel
      by_cases hlt : k < n
      · obtain ⟨b, off, e, hb, hc⟩ := (HR.out.below GK.out.2) k hlt
        injection e with e
        subst e
        obtain ⟨v, hv, hf⟩ := GK.out.1.room k hlt
        have G1 : Hid (Grows w.heap.size n (k + 1) S (wr.setCell ⟨w.heap.size, k, none⟩ (.string (S k))) ∧ Below w.heap.size w (wr.setCell ⟨w.heap.size, k, none⟩ (.string (S k)))) :=
          ⟨GK.out.1.put hlt _ rfl, GK.out.2.setCell (Nat.le_refl _) _⟩
        go_wp2
        go_roundw
        case rel => exact ⟨k + 1, by omega, by go_num, G1⟩
        case measure => simp [intOf]; omega
      · obtain rfl : k = n := by omega
        go_wp2
        go_ret
        exact ⟨_, _, rfl, Nat.le_refl _, GK.out.1.rowOf, GK.out.2⟩

/-- S, and x behind the n -/
def endS (n : Nat) (S : Nat → ByteArray) (x : ByteArray) (i : Nat) : ByteArray := if i < n then S i else x

set_option maxHeartbeats 1000000 in
/-- zzWithEnd -/
theorem withEnd11 (a : Option Addr) (n cap : Nat) (S : Nat → ByteArray) (x : ByteArray) (w : World) (hn : n ≤ 65536) (hr : StrRow w a n S) : Calls Tryf.prog 11 #[.slice a n cap, .string x] w (Copied (n + 1) (endS n S x) w) := by
  have hmk : (Instr.makeSlice 23 (.int .i64 ((n : Int) + 1)) (.int .i64 ((n : Int) + 1))).run Tryf.prog w = _ := make23 (n + 1) (by omega) w
  have HR : Hid (StrRow w a n S) := hr
  clear hr
  go_enter Tryf.func11, Tryf.ntmps11
  go_wp2
  go_loopw [6] (fun i wr => ∃ k : Nat, k ≤ n ∧ i = .int .i64 k ∧ Hid (Grows w.heap.size (n + 1) k (endS n S x) wr ∧ Below w.heap.size w wr)) (fun i _ => n - (intOf i).toNat)
  case atStart => exact ⟨0, Nat.zero_le _, rfl, Grows.start (n + 1) _ w, (Below.refl _ _).alloc (Nat.le_refl _) _⟩
  case round =>
    obtain ⟨k, hk, rfl, GK⟩ := hrel
    by_cases hlt : k < n
    · obtain ⟨b, off, rfl, hb, hc⟩ := (HR.out.below GK.out.2) k hlt
      obtain ⟨v, hv, hf⟩ := GK.out.1.room k (by omega)
      have G1 : Hid (Grows w.heap.size (n + 1) (k + 1) (endS n S x) (wr.setCell ⟨w.heap.size, k, none⟩ (.string (S k))) ∧ Below w.heap.size w (wr.setCell ⟨w.heap.size, k, none⟩ (.string (S k)))) :=
        ⟨GK.out.1.put (by omega) _ (by unfold endS; rw [if_pos hlt]), GK.out.2.setCell (Nat.le_refl _) _⟩
      go_wp2
      go_roundw
      case rel => exact ⟨k + 1, by omega, by go_num, G1⟩
      case measure => simp [intOf]; omega
    · obtain rfl : k = n := by omega
      obtain ⟨v, hv, hf⟩ := GK.out.1.room k (by omega)
      have G1 : Hid (Grows w.heap.size (k + 1) (k + 1) (endS k S x) (wr.setCell ⟨w.heap.size, k, none⟩ (.string x)) ∧ Below w.heap.size w (wr.setCell ⟨w.heap.size, k, none⟩ (.string x))) :=
        ⟨GK.out.1.put (by omega) _ (by unfold endS; rw [if_neg (by omega)]), GK.out.2.setCell (Nat.le_refl _) _⟩
      go_wp2
      go_ret
      exact ⟨_, _, rfl, Nat.le_refl _, G1.out.1.rowOf, G1.out.2⟩

/-- a slice of n strings S in a row of its own, from block d on -/
def Own (w : World) (a : Option Addr) (n : Nat) (S : Nat → ByteArray) (d : Nat) : Prop := n = 0 ∨ ∃ g N, a = some ⟨g, 0, none⟩ ∧ d ≤ g ∧ n ≤ N ∧ Grows g N n S w
theorem Own.row {w : World} {a : Option Addr} {n : Nat} {S : Nat → ByteArray} {d : Nat} (h : Own w a n S d) : StrRow w a n S := by
  rcases h with rfl | ⟨g, N, rfl, _, _, h⟩
  · exact fun i hi => absurd hi (by omega)
  · exact h.rowOf

/-- an append whose run is known, at the operation, for the walk -/
theorem wpList_append_run {P : Program} {w : World} {ops : Array Oper} {rest : List Oper} {o : Oper} {a : Act} {Q : Exit → Act → World → Prop}
    (hg : o.guard = none) (s x : Operand) (t : TypeId) (hop : o.op = Op.call { callee := Callee.builtin Builtin.append, args := #[s, x], argTypes := #[t, t] })
    (vs vx v : Value) (w' : World) (hs : a.eval s = vs) (hx : a.eval x = vx) (hrun : ∀ ty, (Builtin.append_ #[t, t] ty #[vs, vx]).run P w = .ok v w')
    (h : wpList P ops Q rest (a.put o.dst v) w') : wpList P ops Q (o :: rest) a w := by
  refine wpList_plain hg fun K hK => ?_
  unfold Oper.wp
  simp [execOp, hop, resolve, invoke, builtin, hs, hx, hrun, Result.andThen]
  exact hK _ _ h

theorem append0 (g : Nat) (ad : Addr) (n c : Nat) (S : Nat → ByteArray) (w : World) (hn : n ≤ 1048576) (hr : StrRow w (some ad) n S) :
    ∃ a' c' w1, (∀ ty, (Builtin.append_ #[23, 23] ty #[.slice (some ⟨g, 0, none⟩) 0 0, .slice (some ad) n c]).run Tryf.prog w = .ok (.slice a' n c') w1) ∧ n ≤ c' ∧ Own w1 a' n S w.heap.size ∧ Below w.heap.size w w1 := by
  obtain ⟨i, hi, hz, hsz, hb⟩ := info_parts Tryf.info9
  rcases Nat.eq_zero_or_pos n with rfl | hp
  · refine ⟨some ⟨g, 0, none⟩, 0, w, fun ty => ?_, Nat.le_refl _, Or.inl rfl, Below.refl _ _⟩
    have hf := run_firstCells_some (P := Tryf.prog) w i.size 0 ad 0 c [] (by simp) (by simp)
    simp [Builtin.append_, run_underlying Tryf.underlying23, sizeOf, typeInfo, hi, Builtin.lenOf, hf, storeCells]
  · obtain ⟨b, off, e, hlt, _⟩ := hr 0 hp
    injection e with e
    subst e
    have hcs : ∀ j v, (rowS n S).toList[j]? = some v → w.cell? ((⟨b, off, none⟩ : Addr).add j) = some v := by
      intro j v hj
      have hjn : j < n := by
        have := (List.getElem?_eq_some_iff.1 hj).1
        simpa [size_rowS] using this
      obtain ⟨b', off', e', hlt', hc⟩ := hr j hjn
      simp only [Option.some.injEq, Addr.mk.injEq] at e'
      obtain ⟨rfl, rfl, _⟩ := e'
      rw [Go.WideShapes.add_plain, hc, ← hj]
      have := rowS_at n S j hjn
      simpa using this.symm
    refine ⟨_, _, _, fun ty => by
      have := run_append_grow (P := Tryf.prog) (w := w) 23 ty 9 i _ Tryf.underlying23 hi hz ⟨g, 0, none⟩ 0 0 [] (by simp) (by simp) ⟨b, off, none⟩ n c (rowS n S).toList (by simp [size_rowS, hsz]) hcs (by omega) (by omega) (by rw [hb, Nat.zero_add, nextslicecap_zero hp]; omega)
      rw [this, Nat.zero_add], grownCap_ge _ _ _ _, ?_, ?_⟩
    · refine Or.inr ⟨w.heap.size, _, rfl, Nat.le_refl _, ?_, _, Blk.new _ _ _, rfl, fun j hj => ?_⟩
      · simp [size_rowS]
      · rw [Array.getElem?_append_left (by simp [size_rowS]; omega)]
        simpa using rowS_at n S j hj
    · exact ((Below.refl _ w).drew).alloc (Nat.le_refl _) _

/-- a slice of n strings S comes back, in a row of its own that is new -/
def Cloned (n : Nat) (S : Nat → ByteArray) (w : World) (e : Ending) (w' : World) : Prop := ∃ a c, e = .returned (.slice a n c) ∧ n ≤ c ∧ Own w' a n S w.heap.size ∧ Below w.heap.size w w'

set_option maxHeartbeats 1000000 in
/-- slices.Clone at strings -/
theorem clone27 (a : Option Addr) (n cap : Nat) (S : Nat → ByteArray) (w : World) (hn : n ≤ 1048576) (hr : StrRow w a n S) : Calls Tryf.prog 27 #[.slice a n cap] w (Cloned n S w) := by
  cases a with
  | none =>
    obtain rfl := none_zero hr
    go_enter Tryf.func27, Tryf.ntmps27
    go_wp2
    go_ret
    exact ⟨none, 0, rfl, Nat.le_refl _, Or.inl rfl, Below.refl _ _⟩
  | some ad =>
    have hb0 : Below w.heap.size w (w.alloc (.cells #[] 9)) := (Below.refl _ _).alloc (Nat.le_refl _) _
    obtain ⟨a', c', w1, happ, hc', ho, hb⟩ := append0 w.heap.size ad n cap S (w.alloc (.cells #[] 9)) hn (hr.below hb0)
    clear hr
    go_enter Tryf.func27, Tryf.ntmps27
    go_wp2_with (first | (at_builtin; refine wpList_append_run rfl _ _ 23 rfl _ _ _ _ rfl rfl happ ?_) | go_in)
    go_ret
    refine ⟨a', c', rfl, hc', ?_, hb0.trans (hb.mono hb0.size)⟩
    rcases ho with h | ⟨g, N, h1, h2, h3⟩
    · exact Or.inl h
    · exact Or.inr ⟨g, N, h1, Nat.le_trans hb0.size h2, h3⟩

/-- "lost" -/
def lostB : ByteArray := ⟨#[108, 111, 115, 116]⟩
theorem lost_list : lostB.toList = [108, 111, 115, 116] := by kernel_rfl
theorem isLost {x : ByteArray} (h : (x.toList == [108, 111, 115, 116]) = true) : x = lostB := by
  rw [← lost_list] at h
  exact eq_of h
theorem notLost {x : ByteArray} (h : (x.toList == [108, 111, 115, 116]) = false) : x ≠ lostB := by
  rw [← lost_list] at h
  exact neq_of h
theorem lost_true {x : ByteArray} (h : x = lostB) : (x.toList == [108, 111, 115, 116]) = true := by
  subst h; rw [lost_list]; rfl
theorem lost_false {x : ByteArray} (h : x ≠ lostB) : (x.toList == [108, 111, 115, 116]) = false := by
  rw [← lost_list]; exact (Lib.bytes_beq_false_iff _ _).2 h
theorem isEmpty {x : ByteArray} (h : x.toList.isEmpty = true) : x = ByteArray.empty := by
  apply eq_of
  rw [List.isEmpty_iff.1 h]
  simp
theorem notEmpty {x : ByteArray} (h : x.toList.isEmpty = false) : x ≠ ByteArray.empty := by
  rintro rfl
  simp at h
theorem empty_false {x : ByteArray} (h : x ≠ ByteArray.empty) : x.toList.isEmpty = false := by
  cases e : x.toList.isEmpty with
  | false => rfl
  | true => exact absurd (isEmpty e) h

/-- fresh is a new name -/
def Fresh (x p q : ByteArray) (n4 : Nat) (S4 : Nat → ByteArray) (n5 : Nat) (S5 : Nat → ByteArray) (n6 : Nat) (S6 : Nat → ByteArray) : Prop :=
  x ≠ ByteArray.empty ∧ x ≠ lostB ∧ x ≠ p ∧ x ≠ q ∧ ¬ Mem n4 S4 x ∧ ¬ Mem n5 S5 x ∧ ¬ Mem n6 S6 x

end Go.Proofs.Qxb6613521aFmt
