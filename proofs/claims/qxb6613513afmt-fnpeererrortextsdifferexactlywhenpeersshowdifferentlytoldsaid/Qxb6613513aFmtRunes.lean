/-
  Plain: characters of a string as 'range' walks them; the first forty; what an excerpt shows.
-/
import Derived.Test.Qxb6613513aFmtRows
import Derived.Lib.RuneCount
import Derived.Lib.ItoaNum
import Derived.Lib.Strings
namespace Go.Proofs.Qxb6613513aFmt

/-! ### one character -/
/-- the width of a character off four bytes, and whether the three behind the first are continuations -/
def wdF (b0 b1 b2 b3 : Nat) (c1 c2 c3 : Bool) : Nat :=
  if b0 < 0x80 then 1
  else if b0 / 32 == 6 && c1 then (if (b0 % 32) * 64 + b1 % 64 ≥ 0x80 then 2 else 1)
  else if b0 / 16 == 14 && c1 && c2 then (if ((b0 % 16) * 4096 + (b1 % 64) * 64 + b2 % 64 ≥ 0x800 && Utf8.valid ((b0 % 16) * 4096 + (b1 % 64) * 64 + b2 % 64 : Nat)) then 3 else 1)
  else if b0 / 8 == 30 && c1 && c2 && c3 then (if ((b0 % 8) * 262144 + (b1 % 64) * 4096 + (b2 % 64) * 64 + b3 % 64 ≥ 0x10000 && Utf8.valid ((b0 % 8) * 262144 + (b1 % 64) * 4096 + (b2 % 64) * 64 + b3 % 64 : Nat)) then 4 else 1)
  else 1

def byteAt (s : ByteArray) (i : Nat) : Nat := (s.get! i).toNat
def contAt (s : ByteArray) (i : Nat) : Bool := decide (i < s.size) && byteAt s i / 64 == 2
def wd (s : ByteArray) (p : Nat) : Nat := (Utf8.decode s p).2

theorem wd_eq (s : ByteArray) (p : Nat) : wd s p = wdF (byteAt s p) (byteAt s (p + 1)) (byteAt s (p + 2)) (byteAt s (p + 3)) (contAt s (p + 1)) (contAt s (p + 2)) (contAt s (p + 3)) := by
  unfold wd Utf8.decode wdF byteAt contAt byteAt
  simp only [Nat.add_zero]
  split
  · rfl
  · split
    · split <;> rfl
    · split
      · split <;> rfl
      · split
        · split <;> rfl
        · rfl

theorem wdF_1 (b0 b1 b2 b3 : Nat) (c2 c3 : Bool) : wdF b0 b1 b2 b3 false c2 c3 = 1 := by simp [wdF]
theorem wdF_2 (b0 b1 b2 b3 b2' b3' : Nat) (c1 c2 c3 c3' : Bool) (h : wdF b0 b1 b2 b3 c1 c2 c3 ≤ 2) : wdF b0 b1 b2' b3' c1 false c3' = wdF b0 b1 b2 b3 c1 c2 c3 := by
  unfold wdF at *
  by_cases h1 : b0 < 0x80
  · simp [h1]
  · rw [if_neg h1] at h
    rw [if_neg h1, if_neg h1]
    cases h2 : (b0 / 32 == 6 && c1)
    · simp only [h2, Bool.false_eq_true, if_false, Bool.and_false, Bool.false_and] at h ⊢
      cases h3 : (b0 / 16 == 14 && c1 && c2)
      · simp only [h3, Bool.false_eq_true, if_false] at h ⊢
        cases h4 : (b0 / 8 == 30 && c1 && c2 && c3)
        · simp
        · simp only [h4, if_true] at h ⊢
          split at h
          · omega
          · rename_i h5; rw [if_neg h5]
      · simp only [h3, if_true] at h ⊢
        split at h
        · omega
        · rename_i h5; rw [if_neg h5]
    · simp
theorem wdF_3 (b0 b1 b2 b3 b3' : Nat) (c1 c2 c3 : Bool) (h : wdF b0 b1 b2 b3 c1 c2 c3 ≤ 3) : wdF b0 b1 b2 b3' c1 c2 false = wdF b0 b1 b2 b3 c1 c2 c3 := by
  unfold wdF at *
  by_cases h1 : b0 < 0x80
  · simp [h1]
  · rw [if_neg h1] at h
    rw [if_neg h1, if_neg h1]
    cases h2 : (b0 / 32 == 6 && c1)
    · simp only [h2, Bool.false_eq_true, if_false, Bool.and_false] at h ⊢
      cases h3 : (b0 / 16 == 14 && c1 && c2)
      · simp only [h3, Bool.false_eq_true, if_false] at h ⊢
        cases h4 : (b0 / 8 == 30 && c1 && c2 && c3)
        · simp
        · simp only [h4, if_true] at h ⊢
          split at h
          · omega
          · rename_i h5; rw [if_neg h5]
      · simp
    · simp

theorem wd_pos (s : ByteArray) (p : Nat) (h : p < s.size) : 1 ≤ wd s p := Lib.decode_width_pos s p h

theorem cont_lt {s : ByteArray} {i : Nat} (h : contAt s i = true) : i < s.size := by
  unfold contAt at h
  simp at h; exact h.1

theorem wd_le (s : ByteArray) (p : Nat) (h : p < s.size) : p + wd s p ≤ s.size := by
  rw [wd_eq]
  unfold wdF
  split
  · omega
  · split
    · rename_i h1
      simp only [Bool.and_eq_true] at h1
      have := cont_lt h1.2
      split <;> omega
    · split
      · rename_i h1
        simp only [Bool.and_eq_true] at h1
        have := cont_lt h1.2
        split <;> omega
      · split
        · rename_i h1
          simp only [Bool.and_eq_true] at h1
          have := cont_lt h1.2
          split <;> omega
        · omega

/-! ### the places of the characters -/
def adv (s : ByteArray) : Nat → Nat
  | 0 => 0
  | k + 1 => if adv s k < s.size then adv s k + wd s (adv s k) else adv s k
theorem adv_zero (s : ByteArray) : adv s 0 = 0 := rfl
theorem adv_succ (s : ByteArray) (k : Nat) (h : adv s k < s.size) : adv s (k + 1) = adv s k + wd s (adv s k) := by rw [adv, if_pos h]
theorem adv_le (s : ByteArray) : ∀ k, adv s k ≤ s.size
  | 0 => Nat.zero_le _
  | k + 1 => by
    by_cases h : adv s k < s.size
    · rw [adv_succ s k h]; exact wd_le s _ h
    · rw [adv, if_neg h]; exact adv_le s k
theorem adv_mono1 (s : ByteArray) (k : Nat) : adv s k ≤ adv s (k + 1) := by
  rw [adv]
  split <;> omega
theorem adv_mono (s : ByteArray) (k d : Nat) : adv s k ≤ adv s (k + d) := by
  induction d with
  | zero => exact Nat.le_refl _
  | succ d ih => exact Nat.le_trans ih (adv_mono1 s (k + d))

/-- s has n characters -/
def IsCnt (s : ByteArray) (n : Nat) : Prop := adv s n = s.size ∧ ∀ k, k < n → adv s k < s.size

theorem IsCnt.unique {s : ByteArray} {n m : Nat} (h : IsCnt s n) (h' : IsCnt s m) : n = m := by
  rcases Nat.lt_trichotomy n m with h1 | h1 | h1
  · have := h'.2 n h1; rw [h.1] at this; omega
  · exact h1
  · have := h.2 m h1; rw [h'.1] at this; omega
theorem IsCnt.le {s : ByteArray} {n : Nat} (h : IsCnt s n) : n ≤ s.size := by
  have key : ∀ k, k ≤ n → k ≤ adv s k := by
    intro k
    induction k with
    | zero => intro _; exact Nat.zero_le _
    | succ k ih =>
      intro hk
      have h1 := ih (by omega)
      have h2 := h.2 k (by omega)
      rw [adv_succ s k h2]
      have := wd_pos s _ h2
      omega
  have := key n (Nat.le_refl _)
  rw [h.1] at this; exact this

/-! ### the bytes of a cut string with something behind it -/
theorem get_list (s : ByteArray) (i : Nat) : s.get! i = s.data.toList.getD i 0 := by
  cases s with
  | mk d =>
    show d[i]! = _
    by_cases h : i < d.size
    · simp [h]
    · simp [h]; rfl

def headOf (s : ByteArray) : ByteArray := s.extract 0 (adv s 40)
theorem data_extract (s : ByteArray) (a : Nat) (_ : a ≤ s.size) : (s.extract 0 a).data.toList = s.data.toList.take a := by
  rw [Lib.extract_data s 0 a, List.drop_zero, Nat.sub_zero]

/-- the first a bytes of s, then t -/
def cut (s : ByteArray) (a : Nat) (t : ByteArray) : ByteArray := s.extract 0 a ++ t
theorem cut_data (s : ByteArray) (a : Nat) (t : ByteArray) (h : a ≤ s.size) : (cut s a t).data.toList = s.data.toList.take a ++ t.data.toList := by
  unfold cut
  rw [ByteArray.data_append, Array.toList_append, data_extract s a h]
theorem len_data (s : ByteArray) : s.data.toList.length = s.size := by cases s; rfl
theorem cut_size (s : ByteArray) (a : Nat) (t : ByteArray) (h : a ≤ s.size) : (cut s a t).size = a + t.size := by
  rw [← len_data, cut_data s a t h, List.length_append, List.length_take, len_data, len_data]
  omega
theorem byteAt_cut {s : ByteArray} {a : Nat} (t : ByteArray) (h : a ≤ s.size) {i : Nat} (hi : i < a) : byteAt (cut s a t) i = byteAt s i := by
  unfold byteAt
  have hl := len_data s
  rw [get_list, get_list, cut_data s a t h]
  simp only [List.getD]
  rw [List.getElem?_append_left (by rw [List.length_take]; omega), List.getElem?_take_of_lt hi]
theorem byteAt_cut_at {s : ByteArray} {a : Nat} (t : ByteArray) (h : a ≤ s.size) : byteAt (cut s a t) a = byteAt t 0 := by
  unfold byteAt
  have hl := len_data s
  rw [get_list, get_list, cut_data s a t h]
  simp only [List.getD]
  rw [List.getElem?_append_right (by rw [List.length_take]; omega), List.length_take]
  have : a - min a s.data.toList.length = 0 := by omega
  rw [this]
theorem contAt_cut {s : ByteArray} {a : Nat} (t : ByteArray) (h : a ≤ s.size) {i : Nat} (hi : i < a) : contAt (cut s a t) i = contAt s i := by
  unfold contAt
  rw [byteAt_cut t h hi, cut_size s a t h]
  have h1 : decide (i < a + t.size) = true := by simp; omega
  have h2 : decide (i < s.size) = true := by simp; omega
  rw [h1, h2]
theorem contAt_cut_at {s : ByteArray} {a : Nat} {t : ByteArray} (h : a ≤ s.size) (h0 : byteAt t 0 < 128) : contAt (cut s a t) a = false := by
  unfold contAt
  rw [byteAt_cut_at t h]
  have : (byteAt t 0 / 64 == 2) = false := by simp; omega
  rw [this]; simp

theorem wd_cut {s : ByteArray} {a : Nat} {t : ByteArray} (h : a ≤ s.size) (h0 : byteAt t 0 < 128) (p : Nat) (hp : p < a) (hw : p + wd s p ≤ a) : wd (cut s a t) p = wd s p := by
  rw [wd_eq] at hw ⊢
  rw [wd_eq s p, byteAt_cut t h hp]
  by_cases h1 : p + 1 = a
  · have c1 : contAt (cut s a t) (p + 1) = false := by rw [h1]; exact contAt_cut_at h h0
    rw [c1, wdF_1]
    have hpos := wd_pos s p (by omega)
    rw [wd_eq] at hpos
    omega
  · have b1 := byteAt_cut t h (show p + 1 < a by omega)
    have c1 := contAt_cut t h (show p + 1 < a by omega)
    rw [b1, c1]
    by_cases h2 : p + 2 = a
    · have c2 : contAt (cut s a t) (p + 2) = false := by rw [h2]; exact contAt_cut_at h h0
      rw [c2]
      exact wdF_2 _ _ _ _ _ _ _ _ _ _ (by omega)
    · have b2 := byteAt_cut t h (show p + 2 < a by omega)
      have c2 := contAt_cut t h (show p + 2 < a by omega)
      rw [b2, c2]
      by_cases h3 : p + 3 = a
      · have c3 : contAt (cut s a t) (p + 3) = false := by rw [h3]; exact contAt_cut_at h h0
        rw [c3]
        exact wdF_3 _ _ _ _ _ _ _ _ (by omega)
      · rw [byteAt_cut t h (show p + 3 < a by omega), contAt_cut t h (show p + 3 < a by omega)]

/-- the first K characters of s are found again in what begins with them and goes on in ASCII -/
theorem adv_cut {s : ByteArray} {K : Nat} {t : ByteArray} (ht : 0 < t.size) (h0 : byteAt t 0 < 128) (hK : ∀ k, k < K → adv s k < s.size) : ∀ k, k ≤ K → adv (cut s (adv s K) t) k = adv s k
  | 0, _ => rfl
  | k + 1, hk => by
    have ih := adv_cut ht h0 hK k (by omega)
    have hlt := hK k (by omega)
    have hle := adv_le s K
    have h1 := adv_succ s k hlt
    have h2 : adv s (k + 1) ≤ adv s K := by
      have := adv_mono s (k + 1) (K - (k + 1))
      rwa [show k + 1 + (K - (k + 1)) = K by omega] at this
    have hpos := wd_pos s _ hlt
    have hsz := cut_size s (adv s K) t hle
    rw [adv_succ _ k (by rw [ih, hsz]; omega), ih, wd_cut hle h0 _ (by omega) (by omega), ← h1]

/-! ### the note of a length -/
def dval (l : List UInt8) : Nat := l.foldl (fun acc c => acc * 10 + (c.toNat - 48)) 0
theorem dval_snoc (l : List UInt8) (c : UInt8) : dval (l ++ [c]) = dval l * 10 + (c.toNat - 48) := by simp [dval]
theorem digit_val (d : Nat) (h : d < 10) : (UInt8.ofNat (48 + d)).toNat - 48 = d := by
  have : (UInt8.ofNat (48 + d)).toNat = 48 + d := by
    rw [UInt8.toNat_ofNat']
    omega
  omega
theorem dval_dec (u : Nat) : dval (Lib.decDigits u) = u := by
  induction u using Nat.strongRecOn with
  | _ u ih =>
    rw [Lib.decDigits]
    by_cases h : u < 10
    · rw [dif_pos h]
      have h1 := digit_val u h
      show 0 * 10 + ((UInt8.ofNat (48 + u)).toNat - 48) = u
      rw [h1]; omega
    · rw [dif_neg h, dval_snoc, ih (u / 10) (by omega), digit_val _ (by omega)]
      omega
theorem itoa_inj {n m : Nat} (h : Lib.itoa (n : Int) = Lib.itoa (m : Int)) : n = m := by
  have e : ∀ k : Nat, Lib.itoa (k : Int) = Lib.decDigits k := fun k => by unfold Lib.itoa; rw [if_neg (by omega)]; simp
  rw [e, e] at h
  rw [← dval_dec n, h, dval_dec]

/-- " (the first 40 of n characters)" -/
def noteL (n : Nat) : List UInt8 := [32, 40, 116, 104, 101, 32, 102, 105, 114, 115, 116, 32, 52, 48, 32, 111, 102, 32] ++ Lib.itoa (n : Int) ++ [32, 99, 104, 97, 114, 97, 99, 116, 101, 114, 115, 41]
def noteB (n : Nat) : ByteArray := ⟨(noteL n).toArray⟩
theorem noteB_inj {n m : Nat} (h : noteB n = noteB m) : n = m := by
  have h1 : noteL n = noteL m := by
    have := congrArg (fun b : ByteArray => b.data.toList) h
    simpa [noteB] using this
  unfold noteL at h1
  exact itoa_inj (List.append_cancel_left (List.append_cancel_right h1))
theorem noteB_pos (n : Nat) : 0 < (noteB n).size := by
  rw [← len_data]; simp [noteB, noteL]
theorem noteB_first (n : Nat) : byteAt (noteB n) 0 < 128 := by
  unfold byteAt
  rw [get_list]
  simp [noteB, noteL]

/-! ### what an excerpt shows -/
def PlainIs (s r : ByteArray) : Prop := (∃ n, n ≤ 40 ∧ IsCnt s n ∧ r = s) ∨ ∃ n, 40 < n ∧ IsCnt s n ∧ r = headOf s ++ noteB n
def Same (p q : ByteArray) : Prop := p = q ∨ ∃ n, 40 < n ∧ IsCnt p n ∧ IsCnt q n ∧ headOf p = headOf q

theorem forty {s : ByteArray} {n : Nat} (h : IsCnt s n) (hn : 40 < n) : adv (headOf s ++ noteB n) 40 = adv s 40 :=
  adv_cut (s := s) (K := 40) (noteB_pos n) (noteB_first n) (fun k hk => h.2 k (by omega)) 40 (Nat.le_refl _)
theorem long_size {s : ByteArray} {n : Nat} : (headOf s ++ noteB n).size = adv s 40 + (noteB n).size := cut_size s _ _ (adv_le s 40)

theorem short_long {p q : ByteArray} {n m : Nat} (hn : n ≤ 40) (hp : IsCnt p n) (hm : 40 < m) (hq : IsCnt q m) : p ≠ headOf q ++ noteB m := fun e => by
  have h1 := forty hq hm
  have h2 := long_size (s := q) (n := m)
  rw [← e] at h1 h2
  have h3 := adv_mono p n (40 - n)
  rw [show n + (40 - n) = 40 by omega, hp.1, h1] at h3
  have := noteB_pos m
  omega

theorem long_long {p q : ByteArray} {n m : Nat} (hn : 40 < n) (hp : IsCnt p n) (hm : 40 < m) (hq : IsCnt q m) (e : headOf p ++ noteB n = headOf q ++ noteB m) : headOf p = headOf q ∧ n = m := by
  have h1 := forty hp hn
  have h2 := forty hq hm
  rw [e, h2] at h1
  have d1 := cut_data p (adv p 40) (noteB n) (adv_le p 40)
  have d2 := cut_data q (adv q 40) (noteB m) (adv_le q 40)
  have e' : cut p (adv p 40) (noteB n) = cut q (adv q 40) (noteB m) := e
  rw [e', d2] at d1
  have l1 : (p.data.toList.take (adv p 40)).length = (q.data.toList.take (adv q 40)).length := by
    have a1 := adv_le p 40
    have a2 := adv_le q 40
    rw [List.length_take, List.length_take, len_data, len_data]; omega
  obtain ⟨t1, t2⟩ := List.append_inj d1 l1.symm
  refine ⟨?_, ?_⟩
  · have : (headOf p).data.toList = (headOf q).data.toList := by
      unfold headOf
      rw [data_extract _ _ (adv_le p 40), data_extract _ _ (adv_le q 40), t1]
    exact ByteArray.ext (Array.toList_inj.mp this)
  · exact (noteB_inj (ByteArray.ext (Array.toList_inj.mp t2))).symm

theorem plain_same {p q x y : ByteArray} (hx : PlainIs p x) (hy : PlainIs q y) : x = y ↔ Same p q := by
  rcases hx with ⟨n, hn, hp, rfl⟩ | ⟨n, hn, hp, rfl⟩ <;> rcases hy with ⟨m, hm, hq, rfl⟩ | ⟨m, hm, hq, rfl⟩
  · constructor
    · intro e; exact Or.inl e
    · rintro (e | ⟨k, hk, h1, _⟩)
      · exact e
      · have := hp.unique h1; omega
  · constructor
    · intro e; exact absurd e (short_long hn hp hm hq)
    · rintro (e | ⟨k, hk, h1, _⟩)
      · subst e; have := hp.unique hq; omega
      · have := hp.unique h1; omega
  · constructor
    · intro e; exact absurd e.symm (short_long hm hq hn hp)
    · rintro (e | ⟨k, hk, _, h1, _⟩)
      · subst e; have := hp.unique hq; omega
      · have := hq.unique h1; omega
  · constructor
    · intro e
      obtain ⟨h1, h2⟩ := long_long hn hp hm hq e
      subst h2
      exact Or.inr ⟨n, hn, hp, hq, h1⟩
    · rintro (e | ⟨k, hk, h1, h2, h3⟩)
      · subst e; have := hp.unique hq; subst this; rfl
      · have e1 := hp.unique h1
        have e2 := hq.unique h2
        subst e1; subst e2; rw [h3]

/-! ### the text of a peer's error -/
def peerL (x msg : List UInt8) : List UInt8 := [112, 101, 101, 114, 32] ++ x ++ [58, 32] ++ msg
def peerB (x msg : ByteArray) : ByteArray := ⟨(peerL x.data.toList msg.data.toList).toArray⟩
def TextIs (p msg r : ByteArray) : Prop := (p = ByteArray.empty ∧ r = msg) ∨ (p ≠ ByteArray.empty ∧ ∃ x, PlainIs p x ∧ r = peerB x msg)

theorem peerB_data (x msg : ByteArray) : (peerB x msg).data.toList = peerL x.data.toList msg.data.toList := by simp [peerB]
theorem peerB_inj {x y msg : ByteArray} (h : peerB x msg = peerB y msg) : x = y := by
  have h1 := congrArg (fun b : ByteArray => b.data.toList) h
  simp only [peerB_data] at h1
  unfold peerL at h1
  have := List.append_cancel_left (List.append_cancel_right (List.append_cancel_right h1))
  exact ByteArray.ext (Array.toList_inj.mp this)
theorem peerB_long (x msg : ByteArray) : (peerB x msg).size = 7 + x.size + msg.size := by
  rw [← len_data, peerB_data]
  unfold peerL
  simp; omega

theorem cnt_empty {n : Nat} (h : IsCnt ByteArray.empty n) : n = 0 := by
  have := h.le
  simpa using this

theorem text_same {p q msg x y : ByteArray} (hx : TextIs p msg x) (hy : TextIs q msg y) : x = y ↔ Same p q := by
  rcases hx with ⟨rfl, rfl⟩ | ⟨hp, a, ha, rfl⟩ <;> rcases hy with ⟨rfl, rfl⟩ | ⟨hq, b, hb, rfl⟩
  · exact ⟨fun _ => Or.inl rfl, fun _ => rfl⟩
  · constructor
    · intro e
      have := peerB_long b x
      rw [← e] at this; omega
    · rintro (e | ⟨n, hn, h1, _⟩)
      · exact absurd e.symm hq
      · have := cnt_empty h1; omega
  · constructor
    · intro e
      have := peerB_long a y
      rw [e] at this; omega
    · rintro (e | ⟨n, hn, _, h1, _⟩)
      · exact absurd e hp
      · have := cnt_empty h1; omega
  · exact ⟨fun e => (plain_same ha hb).1 (peerB_inj e), fun h => by rw [(plain_same ha hb).2 h]⟩

/-- every text ends with its cause -/
theorem text_suffix {p msg x : ByteArray} (h : TextIs p msg x) : msg.size ≤ x.size ∧ x.extract (x.size - msg.size) x.size = msg := by
  rcases h with ⟨_, rfl⟩ | ⟨_, a, _, rfl⟩
  · refine ⟨Nat.le_refl _, ?_⟩
    apply ByteArray.ext
    apply Array.toList_inj.mp
    rw [Lib.extract_data, Nat.sub_self, List.drop_zero, Nat.sub_zero]
    exact List.take_of_length_le (Nat.le_of_eq (len_data x))
  · have hl := peerB_long a msg
    refine ⟨by omega, ?_⟩
    apply ByteArray.ext
    apply Array.toList_inj.mp
    rw [Lib.extract_data, peerB_data]
    unfold peerL
    have e1 : (peerB a msg).size - msg.size = ([112, 101, 101, 114, 32] ++ a.data.toList ++ [58, 32] : List UInt8).length := by
      rw [hl]; simp; omega
    rw [e1, List.drop_left]
    apply List.take_of_length_le
    rw [len_data, hl]; simp; omega
end Go.Proofs.Qxb6613513aFmt
