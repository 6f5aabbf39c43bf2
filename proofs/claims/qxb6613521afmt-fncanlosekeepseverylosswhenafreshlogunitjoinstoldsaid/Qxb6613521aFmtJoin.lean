/-
  The plain law: a fresh log unit joins. No Go in sight.
-/
import Derived.Test.Qxb6613521aFmtNext
namespace Go.Proofs.Qxb6613521aFmt
open Go.RowKit

theorem Mem.congr {n : Nat} {S S' : Nat → ByteArray} (h : ∀ i, i < n → S i = S' i) (x : ByteArray) : Mem n S x ↔ Mem n S' x :=
  ⟨fun ⟨i, hi, e⟩ => ⟨i, hi, (h i hi).symm.trans e⟩, fun ⟨i, hi, e⟩ => ⟨i, hi, (h i hi).trans e⟩⟩
theorem lst_congr {n : Nat} {S S' : Nat → ByteArray} (h : ∀ i, i < n → S i = S' i) : lst n S = lst n S' := by
  unfold lst
  exact List.map_congr_left fun i hi => h i (List.mem_range.1 hi)
theorem away_congr {n : Nat} {R R' : Nat → ByteArray} (h : ∀ i, i < n → R i = R' i) : away n R = away n R' := by
  funext x
  unfold away
  have : (x = lostB ∨ Mem n R x) = (x = lostB ∨ Mem n R' x) := propext (or_congr Iff.rfl (Mem.congr h x))
  rw [this]
theorem servN_congr {n k : Nat} {R R' S S' : Nat → ByteArray} (h : ∀ i, i < n → R i = R' i) (h' : ∀ i, i < k → S i = S' i) : servN n R k S = servN n R' k S' := by
  unfold servN flt
  rw [away_congr h, lst_congr h']
theorem GoodU.congr {n : Nat} {X X' : Nat → ByteArray} (h : ∀ i, i < n → X i = X' i) (g : GoodU n X) : GoodU n X' := fun i hi => by
  have := g i hi
  rw [← h i hi]
  exact ⟨this.1, fun hl hm => this.2 hl ((Mem.congr (fun j hj => h j (by omega)) _).2 hm)⟩

theorem Valid.congr {e : Int} {p q : ByteArray} {st : Int} {nL : Nat} {L L' : Nat → ByteArray} {nS : Nat} {S : Nat → ByteArray} {nR : Nat} {R R' : Nat → ByteArray} (hL : ∀ i, i < nL → L i = L' i) (hR : ∀ i, i < nR → R i = R' i)
    (h : Valid e p q st nL L nS S nR R) : Valid e p q st nL L' nS S nR R' := by
  have e1 : servN nR R' nL L' = servN nR R nL L := (servN_congr hR hL).symm
  have e2 : servN nR R' nS S = servN nR R nS S := (servN_congr hR (fun _ _ => rfl)).symm
  refine ⟨h.e, h.p0, h.p, h.q, h.st, h.l, h.s, by rw [e1]; exact h.serve, by rw [e1, e2]; exact h.both, h.gl.congr hL, h.gs, fun i hi => ?_⟩
  have := h.gr i hi
  rw [← hR i hi]
  refine ⟨this.1, ?_, fun hm => this.2.2 ((Mem.congr (fun j hj => hR j (by omega)) _).2 hm)⟩
  rw [← Mem.congr hL]
  exact this.2.1

theorem endS_lt {n : Nat} {S : Nat → ByteArray} {x : ByteArray} {i : Nat} (h : i < n) : endS n S x i = S i := if_pos h
theorem endS_at (n : Nat) (S : Nat → ByteArray) (x : ByteArray) : endS n S x n = x := if_neg (Nat.lt_irrefl n)
theorem mem_endS_le {n k : Nat} {S : Nat → ByteArray} {x y : ByteArray} (h : k ≤ n) : Mem k (endS n S x) y ↔ Mem k S y := Mem.congr (fun i hi => endS_lt (by omega)) y
theorem mem_endS {n : Nat} {S : Nat → ByteArray} {x y : ByteArray} : Mem (n + 1) (endS n S x) y ↔ Mem n S y ∨ x = y := by
  constructor
  · rintro ⟨i, hi, e⟩
    by_cases h : i < n
    · exact Or.inl ⟨i, h, by rw [← e, endS_lt h]⟩
    · have : i = n := by omega
      subst this
      rw [endS_at] at e
      exact Or.inr e
  · rintro (⟨i, hi, e⟩ | rfl)
    · exact ⟨i, by omega, by rw [endS_lt hi]; exact e⟩
    · exact ⟨n, by omega, endS_at _ _ _⟩
theorem lst_endS (n : Nat) (S : Nat → ByteArray) (x : ByteArray) : lst (n + 1) (endS n S x) = lst n S ++ [x] := by
  have h : lst n (endS n S x) = lst n S := lst_congr fun i hi => endS_lt hi
  unfold lst at h ⊢
  rw [List.range_succ, List.map_append, h]
  simp [endS_at]
theorem servN_endS {n : Nat} {R : Nat → ByteArray} {k : Nat} {S : Nat → ByteArray} {x : ByteArray} (h : x ≠ lostB) (h' : ¬ Mem n R x) : servN n R (k + 1) (endS k S x) = servN n R k S + 1 := by
  have ha : away n R x = false := by
    unfold away
    exact @decide_eq_false _ (Classical.propDecidable _) (fun h2 => h2.elim h h')
  unfold servN flt
  rw [lst_endS, List.filter_append, List.length_append]
  simp [ha]

/-- a valid layout stays valid when a fresh unit joins its log -/
theorem Valid.join {e : Int} {p q : ByteArray} {st : Int} {nL : Nat} {L : Nat → ByteArray} {nS : Nat} {S : Nat → ByteArray} {nR : Nat} {R : Nat → ByteArray} {x : ByteArray}
    (h : Valid e p q st nL L nS S nR R) (x0 : x ≠ ByteArray.empty) (x1 : x ≠ lostB) (xL : ¬ Mem nL L x) (xR : ¬ Mem nR R x) : Valid e p q st (nL + 1) (endS nL L x) nS S nR R := by
  have e1 := servN_endS (k := nL) (S := L) x1 xR
  refine ⟨h.e, h.p0, h.p, h.q, h.st, by omega, h.s, by rw [e1]; omega, by rw [e1]; have := h.both; omega, fun i hi => ?_, h.gs, fun i hi => ?_⟩
  · by_cases hlt : i < nL
    · rw [endS_lt hlt, mem_endS_le (by omega)]
      exact h.gl i hlt
    · have : i = nL := by omega
      subst this
      rw [endS_at, mem_endS_le (by omega)]
      exact ⟨x0, fun _ => xL⟩
  · have := h.gr i hi
    refine ⟨this.1, ?_, this.2.2⟩
    have hne : ¬ x = R i := fun hx => xR ⟨i, hi, hx.symm⟩
    rw [mem_endS]
    simpa [hne] using this.2.1

theorem mem_upd {n : Nat} {S : Nat → ByteArray} {k : Nat} {z y : ByteArray} (hz : y ≠ z) (h : Mem n (upd S k z) y) : Mem n S y := by
  obtain ⟨i, hi, e⟩ := h
  by_cases hk : i = k
  · subst hk
    rw [upd_same] at e
    exact absurd e.symm hz
  · rw [upd_other _ _ hk] at e
    exact ⟨i, hi, e⟩
theorem mem_ref {n : Nat} {R : Nat → ByteArray} {y x : ByteArray} (h : Mem (refN n R y) (refS n R y) x) : Mem n R x := by
  obtain ⟨i, hi, e⟩ := h
  unfold refS at e
  unfold refN at hi
  have hm : x ∈ flt (isIt y) n R := by
    rw [← e, List.getD_eq_getElem?_getD, List.getElem?_eq_getElem hi]
    exact List.getElem_mem hi
  unfold flt at hm
  have h2 := (List.mem_filter.1 hm).1
  unfold lst at h2
  obtain ⟨j, hj, ej⟩ := List.mem_map.1 h2
  exact ⟨j, List.mem_range.1 hj, ej⟩
theorem flt_all {n : Nat} {R : Nat → ByteArray} {y : ByteArray} (h : ¬ Mem n R y) : flt (isIt y) n R = lst n R := by
  unfold flt
  rw [List.filter_eq_self]
  intro x hx
  unfold lst at hx
  obtain ⟨j, hj, ej⟩ := List.mem_map.1 hx
  have : isIt y x = false := by
    cases hi : isIt y x
    · rfl
    · exact absurd ⟨j, List.mem_range.1 hj, ej.trans (isIt_true.1 hi)⟩ h
  simp [this]
theorem refN_all {n : Nat} {R : Nat → ByteArray} {y : ByteArray} (h : ¬ Mem n R y) : refN n R y = n := by
  unfold refN
  rw [flt_all h]
  exact lst_len n R
theorem refS_all {n : Nat} {R : Nat → ByteArray} {y : ByteArray} (h : ¬ Mem n R y) {i : Nat} (hi : i < n) : refS n R y i = R i := by
  unfold refS
  rw [flt_all h]
  unfold lst
  rw [List.getD_eq_getElem?_getD, List.getElem?_map, List.getElem?_range hi]
  rfl

/-- no possible loss is taken away -/
theorem Loses.join {e : Int} {p q : ByteArray} {st : Int} {nL : Nat} {L : Nat → ByteArray} {nS : Nat} {S : Nat → ByteArray} {nR : Nat} {R : Nat → ByteArray} {y x : ByteArray} (hf : Fresh x p q nL L nS S nR R)
    (h : Loses e p q st nL L nS S nR R y) : Loses e p q st (nL + 1) (endS nL L x) nS S nR R y := by
  obtain ⟨x0, x1, _, _, xL, xS, xR⟩ := hf
  obtain ⟨h1, h2, h3, ⟨k, hk, he, hf, hm, hv⟩ | ⟨k, hk, he, hf, hm, hv⟩⟩ := h
  · refine ⟨h1, h2, h3, Or.inl ⟨k, by omega, by rw [endS_lt hk]; exact he, fun j hj => by rw [endS_lt (by omega)]; exact hf j hj, hm, ?_⟩⟩
    have := hv.join x0 x1 (fun hu => xL (mem_upd x1 hu)) (fun hu => xR (mem_ref hu))
    refine this.congr (fun i hi => ?_) (fun i hi => rfl)
    by_cases hik : i = k
    · subst hik
      rw [endS_lt hk, upd_same, upd_same]
    · rw [upd_other _ _ hik]
      by_cases hlt : i < nL
      · rw [endS_lt hlt, endS_lt hlt, upd_other _ _ hik]
      · have : i = nL := by omega
        subst this
        rw [endS_at, endS_at]
  · refine ⟨h1, h2, h3, Or.inr ⟨k, hk, he, hf, ?_, ?_⟩⟩
    · rw [mem_endS]
      rintro (h | h)
      · exact hm h
      · exact xS ⟨k, hk, he.trans h.symm⟩
    · exact hv.join x0 x1 xL (fun hu => xR (mem_ref hu))

/-- the fresh unit itself -/
theorem Loses.fresh {e : Int} {p q : ByteArray} {st : Int} {nL : Nat} {L : Nat → ByteArray} {nS : Nat} {S : Nat → ByteArray} {nR : Nat} {R : Nat → ByteArray} {x : ByteArray} (hf : Fresh x p q nL L nS S nR R) :
    Loses e p q st (nL + 1) (endS nL L x) nS S nR R x ↔ Valid (inc e) p q st (nL + 1) (endS nL L lostB) nS S nR R := by
  obtain ⟨x0, x1, x2, x3, xL, xS, xR⟩ := hf
  have hu : ∀ i, i < nL + 1 → upd (endS nL L x) nL lostB i = endS nL L lostB i := fun i hi => by
    by_cases hlt : i < nL
    · rw [upd_other _ _ (by omega), endS_lt hlt, endS_lt hlt]
    · have : i = nL := by omega
      subst this
      rw [upd_same, endS_at]
  have hr : ∀ i, i < nR → refS nR R x i = R i := fun i hi => refS_all xR hi
  constructor
  · rintro ⟨_, _, _, ⟨k, hk, he, hf, hm, hv⟩ | ⟨k, hk, he, _⟩⟩
    · have : k = nL := by
        by_cases hlt : k < nL
        · rw [endS_lt hlt] at he
          exact absurd ⟨k, hlt, he⟩ xL
        · omega
      subst this
      rw [refN_all xR] at hv
      exact hv.congr hu hr
    · exact absurd ⟨k, hk, he⟩ xS
  · intro hv
    refine ⟨x1, x2, by split <;> assumption, Or.inl ⟨nL, by omega, endS_at _ _ _, fun j hj => by rw [endS_lt hj]; exact fun h => xL ⟨j, hj, h⟩, xS, ?_⟩⟩
    rw [refN_all xR]
    exact hv.congr (fun i hi => (hu i hi).symm) (fun i hi => (hr i hi).symm)
end Go.Proofs.Qxb6613521aFmt
