/-
  Plain facts for the two laws on checkKindKeys, and what appending within the capacity does.
-/
import Derived.Test.Qxb6613513aFmtCheck
namespace Go.Proofs.Qxb6613513aFmt
open Go.RowKit

def memB (n : Nat) (S : Nat → ByteArray) (x : ByteArray) : Bool := (List.range n).any fun i => decide (S i = x)
theorem memB_iff (n : Nat) (S : Nat → ByteArray) (x : ByteArray) : memB n S x = true ↔ Mem n S x := by simp [memB, Mem]
theorem memB_of {n : Nat} {S : Nat → ByteArray} {x : ByteArray} {r : Bool} (h : r = true ↔ Mem n S x) : r = memB n S x := by
  rw [Bool.eq_iff_iff, h, memB_iff]

theorem contains12' (a : Option Addr) (n cap : Nat) (S : Nat → ByteArray) (x : ByteArray) (w : World) (hn : n ≤ 1048576) (hr : StrRow w a n S) :
    Calls Tryf.prog 12 #[.slice a n cap, .string x] w fun e w' => e = .returned (.bool (memB n S x)) ∧ w' = w := by
  refine (contains12 a n cap S x w hn hr).mono ?_
  rintro e w' ⟨r, rfl, rfl, h⟩
  rw [memB_of h]
  exact ⟨rfl, rfl⟩

theorem contains12r (r : Bool) (a : Option Addr) (n cap : Nat) (S : Nat → ByteArray) (x : ByteArray) (w : World) (hn : n ≤ 1048576) (hm : Hid (memB n S x = r)) (hr : StrRow w a n S) :
    Calls Tryf.prog 12 #[.slice a n cap, .string x] w fun e w' => e = .returned (.bool r) ∧ w' = w := by
  have h := hm.out
  subst h
  exact contains12' a n cap S x w hn hr
theorem StrRow.drewN {w : World} {a : Option Addr} {n : Nat} {S : Nat → ByteArray} (h : StrRow w a n S) (q : Nat) : StrRow (w.drewN q) a n S := h.below (below_drewN (Below.refl _ _) q)

/-- S with x put at place p -/
def ins (S : Nat → ByteArray) (x : ByteArray) (p : Nat) (j : Nat) : ByteArray := if j < p then S j else if j = p then x else S (j - 1)

theorem mem_ins (n : Nat) (S : Nat → ByteArray) (x : ByteArray) (p : Nat) (hp : p ≤ n) (y : ByteArray) : Mem (n + 1) (ins S x p) y ↔ Mem n S y ∨ x = y := by
  constructor
  · rintro ⟨i, hi, e⟩
    unfold ins at e
    by_cases h1 : i < p
    · rw [if_pos h1] at e; exact Or.inl ⟨i, by omega, e⟩
    · rw [if_neg h1] at e
      by_cases h2 : i = p
      · rw [if_pos h2] at e; exact Or.inr e
      · rw [if_neg h2] at e; exact Or.inl ⟨i - 1, by omega, e⟩
  · rintro (⟨i, hi, e⟩ | e)
    · by_cases h1 : i < p
      · exact ⟨i, by omega, by unfold ins; rw [if_pos h1]; exact e⟩
      · exact ⟨i + 1, by omega, by unfold ins; rw [if_neg (by omega), if_neg (by omega)]; simpa using e⟩
    · exact ⟨p, by omega, by unfold ins; rw [if_neg (by omega), if_pos rfl]; exact e⟩

theorem all_ins (n : Nat) (S : Nat → ByteArray) (x : ByteArray) (p : Nat) (hp : p ≤ n) (Q : ByteArray → Prop) : (∀ i, i < n + 1 → Q (ins S x p i)) ↔ (∀ i, i < n → Q (S i)) ∧ Q x := by
  constructor
  · intro h
    refine ⟨fun i hi => ?_, ?_⟩
    · obtain ⟨j, hj, e⟩ := (mem_ins n S x p hp (S i)).2 (Or.inl ⟨i, hi, rfl⟩)
      rw [← e]; exact h j hj
    · obtain ⟨j, hj, e⟩ := (mem_ins n S x p hp x).2 (Or.inr rfl)
      have := h j hj
      rw [e] at this; exact this
  · rintro ⟨h, hx⟩ i hi
    rcases (mem_ins n S x p hp (ins S x p i)).1 ⟨i, hi, rfl⟩ with ⟨j, hj, e⟩ | e
    · rw [← e]; exact h j hj
    · rw [← e]; exact hx

/-- THE LAW: one more seen key that takes does not hold -/
theorem acc_ins (nS : Nat) (S : Nat → ByteArray) (nC : Nat) (C : Nat → ByteArray) (nT : Nat) (T : Nat → ByteArray) (nM : Nat) (M : Nat → ByteArray) (x : ByteArray) (p : Nat) (hp : p ≤ nS) (hx : ¬ Mem nT T x) :
    Acc (nS + 1) (ins S x p) nC C nT T nM M ↔ Acc nS S nC C nT T nM M ∧ (Mem nC C x ∨ Mem nM M x) := by
  unfold Acc
  rw [all_ins nS S x p hp (fun s => Mem nC C s ∨ Mem nT T s ∨ Mem nM M s)]
  constructor
  · rintro ⟨h1, h2, h3⟩
    refine ⟨⟨fun i hi => ?_, h2⟩, ?_⟩
    · rcases (mem_ins nS S x p hp (T i)).1 (h1 i hi) with h | h
      · exact h
      · exact absurd ⟨i, hi, h.symm⟩ hx
    · rcases h3 with h | h | h
      · exact Or.inl h
      · exact absurd h hx
      · exact Or.inr h
  · rintro ⟨⟨h1, h2⟩, h3⟩
    refine ⟨fun i hi => (mem_ins nS S x p hp (T i)).2 (Or.inl (h1 i hi)), h2, ?_⟩
    rcases h3 with h | h
    · exact Or.inl h
    · exact Or.inr (Or.inr h)

/-- the row at g holds G 0 .. G (k-1), and has N cells -/
def Grows (g N k : Nat) (G : Nat → ByteArray) (wr : World) : Prop := ∃ D, Blk wr g 9 D ∧ D.size = N ∧ ∀ j, j < k → D[j]? = some (.string (G j))

theorem make0 (N : Nat) (c : Int) (hc : c = (N : Int)) (h : N ≤ 1048576) (w : World) : (Instr.makeSlice 22 (.int .i64 0) (.int .i64 c)).run Tryf.prog w = .ok (.slice (some ⟨w.heap.size, 0, none⟩) 0 N) (w.alloc (.cells (blankS N) 9)) := by
  subst hc
  obtain ⟨i, hi, hz, hs, hb⟩ := info_parts Tryf.info9
  have := run_make (P := Tryf.prog) w 22 9 i _ Tryf.underlying22 hi hz .i64 .i64 0 N (by omega) (by omega) (by rw [hb]; omega) (by omega)
  rw [this, hs]
  simp [blankS, Value.cells]

theorem Grows.start (N : Nat) (G : Nat → ByteArray) (w : World) : Grows w.heap.size N 0 G (w.alloc (.cells (blankS N) 9)) := ⟨_, Blk.new _ _ _, size_blankS N, fun j h => absurd h (by omega)⟩

theorem Grows.rowOf {g N k : Nat} {G : Nat → ByteArray} {wr : World} (h : Grows g N k G wr) : StrRow wr (some ⟨g, 0, none⟩) k G := fun i hi => by
  obtain ⟨D, hB, hs, hD⟩ := h
  exact ⟨g, 0, rfl, hB.lt, by rw [Nat.zero_add, hB.cell]; exact hD i hi⟩

/-- 'append(grown, s)' with room: the value, and a world in which the row has grown and nothing below g has turned -/
theorem Grows.append {g N k : Nat} {G : Nat → ByteArray} {wr : World} (h : Grows g N k G wr) (hk : k < N) (s : ByteArray) (hs : G k = s) :
    ∃ w1, (∀ ty, (Builtin.append_ #[22, 22] ty #[.slice (some ⟨g, 0, none⟩) k N, .slice (some ⟨wr.heap.size, 0, none⟩) 1 1]).run Tryf.prog (wr.alloc (.cells #[.string s] 9)) = .ok (.slice (some ⟨g, 0, none⟩) (k + 1) N) w1) ∧
      Grows g N (k + 1) G w1 ∧ Below g wr w1 := by
  obtain ⟨D, hB, hDs, hD⟩ := h
  obtain ⟨i, hi, hz, hsz, hb⟩ := info_parts Tryf.info9
  have hB' := hB.alloc (.cells #[.string s] 9)
  refine ⟨_, fun ty => run_append_room (P := Tryf.prog) (wr.alloc (.cells #[.string s] 9)) 22 ty 9 i Tryf.underlying22 hi g k N D hB' ⟨wr.heap.size, 0, none⟩ 1 1 [.string s] (by simp [hsz]) (cell_one_new _ _ _) (by simp; rfl) (by omega) (by simp [hsz, hDs]; omega), ?_, ?_⟩
  · refine ⟨_, setRow_heap _ g D _ 9 _ hB', ?_, fun j hj => ?_⟩
    · simp [hsz, hDs]; omega
    · rw [hsz]
      simp only [Nat.mul_one, List.getElem?_toArray]
      by_cases e : j = k
      · subst e
        rw [List.append_assoc, List.getElem?_append_right (by simp; omega)]
        simp [hDs, Nat.min_eq_left (Nat.le_of_lt hk), hs]
      · rw [List.append_assoc, List.getElem?_append_left (by simp [hDs]; omega), List.getElem?_take_of_lt (by omega)]
        have := hD j (by omega)
        simpa using this
  · have hgl := hB.lt
    exact below_setRow ((Below.refl g wr).alloc (by omega) _) (Nat.le_refl _) _

/-- an append whose run is known, at the operation, for the walk -/
theorem wpList_append_run {P : Program} {w : World} {ops : Array Oper} {rest : List Oper} {o : Oper} {a : Act} {Q : Exit → Act → World → Prop}
    (hg : o.guard = none) (s x : Operand) (t : TypeId) (hop : o.op = Op.call { callee := Callee.builtin Builtin.append, args := #[s, x], argTypes := #[t, t] })
    (vs vx v : Value) (w' : World) (hs : a.eval s = vs) (hx : a.eval x = vx) (hrun : ∀ ty, (Builtin.append_ #[t, t] ty #[vs, vx]).run P w = .ok v w')
    (h : wpList P ops Q rest (a.put o.dst v) w') : wpList P ops Q (o :: rest) a w := by
  refine wpList_plain hg fun K hK => ?_
  unfold Oper.wp
  simp [execOp, hop, resolve, invoke, builtin, hs, hx, hrun, Result.andThen]
  exact hK _ _ h
end Go.Proofs.Qxb6613513aFmt
