/-
  zzSameExcerpt, zzHasSuffix, zzBytes; the law.
-/
import Derived.Test.Qxb6613513aFmtPeer
namespace Go.Proofs.Qxb6613513aFmt
open Go.RowKit Go.Kit Go.Extern.Stop Go.Stop Go.Extern

/-- a bool with Q comes back, the world as it was below -/
def RetBB (Q : Bool → Prop) (w : World) (e : Ending) (w' : World) : Prop := ∃ r, e = .returned (.bool r) ∧ Below w.heap.size w w' ∧ Q r

theorem same_of {p q : ByteArray} {n m : Nat} (hn : IsCnt p n) (hm : IsCnt q m) (hpq : p ≠ q) (h : Same p q) : 40 < n ∧ n = m ∧ headOf p = headOf q := by
  rcases h with h | ⟨k, hk, h1, h2, h3⟩
  · exact absurd h hpq
  · rw [hn.unique h1, hm.unique h2]
    exact ⟨hk, rfl, h3⟩

set_option maxHeartbeats 1000000 in
theorem same15 (p q : ByteArray) (w : World) (hp : p.size ≤ 1048576) (hq : q.size ≤ 1048576) : Calls Tryf.prog 15 #[.string p, .string q] w (RetBB (fun r => r = true ↔ Same p q) w) := by
  by_cases h : p = q
  · subst h
    go_enter Tryf.func15, Tryf.ntmps15
    go_wp2
    go_ret
    exact ⟨true, rfl, Below.refl _ _, fun _ => Or.inl rfl, fun _ => rfl⟩
  have hne : (p.toList == q.toList) = false := (Lib.bytes_beq_false_iff p q).2 h
  go_enter Tryf.func15, Tryf.ntmps15
  go_wp2_with fail
  refine (head20 p _ hp).mono ?_
  rintro e w1 ⟨n, hn, rfl, hb1⟩
  go_wp2_with fail
  refine (head20 q _ hq).mono ?_
  rintro e w2 ⟨m, hm, rfl, hb2⟩
  have hb := hb1.trans (hb2.mono hb1.size)
  have hn1 := hn.le
  have hm1 := hm.le
  by_cases h1 : 40 < n
  · by_cases h2 : n = m
    · subst h2
      have e1 : endOf p n = adv p 40 := by unfold endOf; rw [if_pos h1]
      have e2 : endOf q n = adv q 40 := by unfold endOf; rw [if_pos h1]
      rw [e1, e2]
      by_cases h3 : p.extract 0 (adv p 40) = q.extract 0 (adv q 40)
      · rw [h3]
        go_wp2
        go_ret
        exact ⟨true, rfl, hb, fun _ => Or.inr ⟨n, h1, hn, hm, h3⟩, fun _ => rfl⟩
      · have h4 : ((p.extract 0 (adv p 40)).toList == (q.extract 0 (adv q 40)).toList) = false := (Lib.bytes_beq_false_iff _ _).2 h3
        go_wp2
        go_ret
        exact ⟨false, rfl, hb, fun h => absurd h (by decide), fun hs => absurd (same_of hn hm h hs).2.2 h3⟩
    · have hx : ((n : Int) == (m : Int)) = false := by simp; omega
      go_wp2
      all_goals go_ret
      all_goals exact ⟨false, rfl, hb, fun h => absurd h (by decide), fun hs => absurd (same_of hn hm h hs).2.1 h2⟩
  · go_wp2
    all_goals go_ret
    all_goals exact ⟨false, rfl, hb, fun h => absurd h (by decide), fun hs => absurd (same_of hn hm h hs).1 h1⟩

set_option maxHeartbeats 1000000 in
theorem suffix16 (s t : ByteArray) (w : World) (hs : s.size ≤ 4000000) (ht : t.size ≤ s.size) (he : s.extract (s.size - t.size) s.size = t) : Calls Tryf.prog 16 #[.string s, .string t] w fun e w' => e = .returned (.bool true) ∧ w' = w := by
  go_enter Tryf.func16, Tryf.ntmps16
  go_wp2
  go_ret
  exact ⟨rfl, rfl⟩

set_option maxHeartbeats 1000000 in
theorem bytes13 (p q m : ByteArray) (w : World) (hp : p.size ≤ maxLen) (hq : q.size ≤ maxLen) (hm : m.size ≤ maxLen) : Calls Tryf.prog 13 #[.string p, .string q, .string m] w (RetB (fun _ => True) w) := by
  unfold maxLen at hp hq hm
  go_enter Tryf.func13, Tryf.ntmps13
  go_wp2
  all_goals go_ret
  all_goals exact RetB.mk _ rfl rfl trivial

/-- the law: true comes back -/
def PeerTrue (w : World) (e : Ending) (w' : World) : Prop := e = .returned (.bool true) ∧ Below w.heap.size w w'

set_option maxHeartbeats 4000000 in
theorem peer (F : Interp) (p q m : ByteArray) (w : World) (hF : F.told.answers w.tape) (hp : p.size ≤ maxLen) (hq : q.size ≤ maxLen) (hm : m.size ≤ maxLen) :
    Calls Tryf.prog 5 #[.string p, .string q, .string m] w (PeerTrue w) := by
  have hp' := hp
  have hq' := hq
  have hm' := hm
  unfold maxLen at hp' hq' hm'
  go_enter Tryf.func5, Tryf.ntmps5
  go_wp2_with fail
  refine (bytes13 p q m _ hp hq hm).mono ?_
  rintro e w1 ⟨r, rfl, rfl, _⟩
  cases r
  · go_wp2
    go_ret
    exact ⟨rfl, Below.refl _ _⟩
  by_cases h1 : 1048576 < p.size
  · go_wp2
    go_ret
    exact ⟨rfl, Below.refl _ _⟩
  by_cases h2 : 1048576 < q.size
  · go_wp2
    go_ret
    exact ⟨rfl, Below.refl _ _⟩
  by_cases h3 : 1048576 < m.size
  · go_wp2
    go_ret
    exact ⟨rfl, Below.refl _ _⟩
  by_cases h4 : 1048576 < p.size + q.size + m.size
  · go_wp2
    go_ret
    exact ⟨rfl, Below.refl _ _⟩
  clear hp hq hm hp' hq' hm'
  go_wp2_with fail
  refine (text14 F p m _ (by omega) (by omega) hF).mono ?_
  rintro e w1 ⟨x, hx, hxs, rfl, hb1⟩
  go_wp2_with fail
  refine (text14 F q m _ (by omega) (by omega) (by rw [hb1.tape]; exact hF)).mono ?_
  rintro e w2 ⟨y, hy, hys, rfl, hb2⟩
  have hb := hb1.trans (hb2.mono hb1.size)
  have HS : Hid (x = y ↔ Same p q) := text_same hx hy
  have HX : Hid (m.size ≤ x.size ∧ x.extract (x.size - m.size) x.size = m) := text_suffix hx
  have HY : Hid (m.size ≤ y.size ∧ y.extract (y.size - m.size) y.size = m) := text_suffix hy
  have HE : Hid (p ≠ ByteArray.empty ∨ x = m) := by
    rcases hx with ⟨_, h⟩ | ⟨h, _⟩
    · exact Or.inr h
    · exact Or.inl h
  clear hx hy
  have h5 : p.size ≤ 1048576 := by omega
  have h6 : q.size ≤ 1048576 := by omega
  clear hb1 hb2 hF h1 h2 h3 h4
  by_cases hxy : x = y
  · subst hxy
    go_wp2_with fail
    refine (same15 p q _ h5 h6).mono ?_
    rintro e w3 ⟨r, rfl, hb3, hr⟩
    obtain rfl : r = true := hr.2 (HS.out.1 (by trivial))
    clear hr
    go_wp2_with fail
    refine (suffix16 x m _ hxs HX.out.1 HX.out.2).mono ?_
    rintro e w4 ⟨rfl, rfl⟩
    go_wp2_with fail
    refine (suffix16 x m _ hxs HX.out.1 HX.out.2).mono ?_
    rintro e w4 ⟨rfl, rfl⟩
    rcases HE.out with hE | hE
    · have hne : p.toList.isEmpty = false := by
        cases e : p.toList.isEmpty with
        | false => rfl
        | true =>
          refine absurd ?_ hE
          apply (Lib.bytes_beq_iff _ _).1
          have : p.toList = [] := List.isEmpty_iff.1 e
          rw [this]
          simp
      go_wp2
      go_ret
      exact ⟨rfl, hb.trans (hb3.mono hb.size)⟩
    · subst hE
      go_wp2
      all_goals go_ret
      all_goals exact ⟨rfl, hb.trans (hb3.mono hb.size)⟩
  · have hxy2 : (x.toList == y.toList) = false := (Lib.bytes_beq_false_iff _ _).2 hxy
    go_wp2_with fail
    refine (same15 p q _ h5 h6).mono ?_
    rintro e w3 ⟨r, rfl, hb3, hr⟩
    obtain rfl : r = false := by
      cases r with
      | false => rfl
      | true => exact absurd (HS.out.2 (hr.1 rfl)) hxy
    clear hr
    go_wp2_with fail
    refine (suffix16 x m _ hxs HX.out.1 HX.out.2).mono ?_
    rintro e w4 ⟨rfl, rfl⟩
    go_wp2_with fail
    refine (suffix16 y m _ hys HY.out.1 HY.out.2).mono ?_
    rintro e w4 ⟨rfl, rfl⟩
    rcases HE.out with hE | hE
    · have hne : p.toList.isEmpty = false := by
        cases e : p.toList.isEmpty with
        | false => rfl
        | true =>
          refine absurd ?_ hE
          apply (Lib.bytes_beq_iff _ _).1
          have : p.toList = [] := List.isEmpty_iff.1 e
          rw [this]
          simp
      go_wp2
      go_ret
      exact ⟨rfl, hb.trans (hb3.mono hb.size)⟩
    · subst hE
      go_wp2
      all_goals go_ret
      all_goals exact ⟨rfl, hb.trans (hb3.mono hb.size)⟩
end Go.Proofs.Qxb6613513aFmt
