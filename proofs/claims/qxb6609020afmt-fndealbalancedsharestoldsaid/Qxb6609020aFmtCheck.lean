/-
  (Map).Check by its contract, at a map that Deal lays.
-/
import Derived.Test.Qxb6609020aFmtSeen
import Derived.Test.Qxb6609020aFmtErrf
namespace Go.Proofs.Qxb6609020aFmt
open Go.RowKit Go.Extern.Stop Go.Stop Go.Extern

/-- the map that Deal lays: servers, the row of shards at block h -/
def mapV (a : Option Addr) (n cap h : Nat) : Array Value := #[.slice a n cap, .slice (some ⟨h, 0, none⟩) 4096 4096, .map none, .int .u64 0, .int .u8 2]

/-- what Check answers -/
def Checked (n : Nat) (S : Nat → ByteArray) (w : World) (e : Ending) (w' : World) : Prop :=
  Below w.heap.size w w' ∧ ((Fits n S ∧ e = .returned .nilIface) ∨ (¬ Fits n S ∧ ∃ p, e = .returned (.iface 42 p)))

set_option maxHeartbeats 800000 in
theorem check_count (F : Interp) (a : Option Addr) (n cap h : Nat) (S : Nat → ByteArray) (w : World) (hF : F.answers w.tape) (hn : n ≤ 1048576) (hbad : n = 0 ∨ 255 < n) :
    Calls Tryf.prog 10 #[.agg #[.slice a n cap, .slice (some ⟨h, 0, none⟩) 4096 4096, .map none, .int .u64 0, .int .u8 2]] w (Checked n S w) := by
  have hnf : ¬ Fits n S := fun f => by have := f.1; have := f.2.1; omega
  have fin : ∀ (p : Value) (o o' : Obj) (w' : World), Below ((w.alloc o).alloc o').heap.size ((w.alloc o).alloc o') w' → Checked n S w (.returned (.iface 42 p)) w' := fun p o o' w' hb =>
    ⟨(((Below.refl _ _).alloc (Nat.le_refl _) _).alloc (by simp) _).trans (hb.mono (by simp; omega)), Or.inr ⟨hnf, p, rfl⟩⟩
  rcases hbad with rfl | h2
  · go_enter Tryf.func10, Tryf.ntmps10
    go_wp2_with fail
    refine (errorf_servers F 0 255 _ _ (by exact hF) (by go_simp) (by go_simp)).mono ?_
    rintro e w' ⟨p, rfl, hb⟩
    go_wp2
    go_ret
    exact fin p _ _ _ hb
  · go_enter Tryf.func10, Tryf.ntmps10
    go_wp2_with fail
    refine (errorf_servers F n 255 _ _ (by exact hF) (by go_simp) (by go_simp)).mono ?_
    rintro e w' ⟨p, rfl, hb⟩
    go_wp2
    go_ret
    exact fin p _ _ _ hb

/-- what holds at the head of the k-th round over the servers -/
def Loop1 (w : World) (C : Array Value) (S : Nat → ByteArray) (k : Nat) (wr : World) : Prop :=
  Below w.heap.size w wr ∧ Blk wr w.heap.size 31 C ∧ Seen wr (w.heap.size + 1) k S ∧ ∀ i j, i < j → j < k → S i ≠ S j

theorem Loop1.start (w : World) (C : Array Value) (S : Nat → ByteArray) : Loop1 w C S 0 ((w.alloc (.cells C 31)).alloc (.map #[] 0)) :=
  ⟨((Below.refl _ _).alloc (Nat.le_refl _) _).alloc (by simp) _, (Blk.new w 31 C).alloc _, by have := Seen.made (w.alloc (.cells C 31)) S; simpa using this, fun i j _ h => absurd h (by omega)⟩

theorem Loop1.step {w : World} {C : Array Value} {S : Nat → ByteArray} {k : Nat} {wr : World} (h : Loop1 w C S k wr) (hk : k < maxLen) (hs : (S k).size ≤ maxLen) (hno : seenB k S (S k) = false) :
    ∃ w', (Instr.mapUpdate 27 (.map (some (w.heap.size + 1))) (.string (S k)) (.bool true)).run Tryf.prog wr = .ok () w' ∧ Hid (Loop1 w C S (k + 1) w') := by
  obtain ⟨hb, hB, hS, hd⟩ := h
  obtain ⟨w', hrun, hS', hg⟩ := hS.store hk hs
  have hsz := hS.lt
  refine ⟨w', hrun, hb.grown hg (by omega) (fun j e => by simp at e; omega), (hg.block _ (by omega) (by simp)).trans hB, hS', fun i j hij hj => ?_⟩
  by_cases e : j = k
  · subst e; exact seenB_false _ _ _ hno i hij
  · exact hd i j hij (by omega)

set_option maxRecDepth 20000 in
set_option maxHeartbeats 2000000 in
theorem check_main (F : Interp) (a : Option Addr) (n cap h : Nat) (S : Nat → ByteArray) (w : World) (hF : F.answers w.tape) (h1 : 1 ≤ n) (h2 : n ≤ 255) (hr : StrRow w a n S) (hs : ∀ i, i < n → (S i).size ≤ maxLen)
    (hh : ∀ i, i < 4096 → w.cell? ⟨h, i, none⟩ = some (.int .u8 ((i % n : Nat) : Int))) :
    Calls Tryf.prog 10 #[.agg #[.slice a n cap, .slice (some ⟨h, 0, none⟩) 4096 4096, .map none, .int .u64 0, .int .u8 2]] w (Checked n S w) := by
  have hz0 : ((n : Int) == 0) = false := by simp; omega
  have hmm := @run_makeMap Tryf.prog
  have H0 : Hid (Loop1 w (mapV a n cap h) S 0 ((w.alloc (.cells (mapV a n cap h) 31)).alloc (.map #[] 0))) := Loop1.start w _ S
  unfold mapV at H0
  go_enter Tryf.func10, Tryf.ntmps10
  go_wp2
  go_loopw [43] (fun i wr => ∃ k : Nat, k ≤ n ∧ i = .int .i64 k ∧ Hid (Loop1 w (mapV a n cap h) S k wr)) (fun i _ => n - (intOf i).toNat)
  case atStart => exact ⟨0, Nat.zero_le _, rfl, H0⟩
  case round =>
    obtain ⟨k, hk, rfl, H⟩ := hrel
    clear hmm H0
    by_cases hlt : k < n
    · obtain ⟨hb, hB, hS, hd⟩ := H.out
      obtain ⟨b, off, rfl, hbl, hc⟩ := hr k hlt
      have hc' : wr.cell? ⟨b, off + k, none⟩ = some (.string (S k)) := cell_later hb hc
      have hlook := hS.look (S k) (hs k hlt)
      cases hsn : seenB k S (S k)
      · rw [hsn] at hlook
        obtain ⟨w1, hupd, H1⟩ := H.out.step (by unfold maxLen; omega) (hs k hlt) hsn
        clear H hb hB hS hd hr hc hsn hs hh hF
        go_wp2
        go_roundw
        case rel => exact ⟨k + 1, by omega, by go_num, H1⟩
        case measure => simp [intOf]; omega
      · rw [hsn] at hlook
        have hnf : ¬ Fits n S := fun f => by
          obtain ⟨i, hi, e⟩ := (seenB_iff _ _ _).1 hsn
          exact f.2.2 i k hi hlt e
        have hFr : F.answers wr.tape := by rw [hb.tape]; exact hF
        have HB : Hid (Below w.heap.size w wr) := hb
        clear H hb hB hS hd hr hc hsn hs hh hF
        go_wp2_with fail
        refine (errorf_twice F (S k) _ _ (by exact hFr) (by go_simp)).mono ?_
        rintro e w' ⟨p, rfl, hb⟩
        go_wp2
        go_ret
        exact ⟨(HB.out.alloc HB.out.size _).trans (hb.mono (by have := HB.out.size; simp; omega)), Or.inr ⟨hnf, p, rfl⟩⟩
    · have e : k = n := by omega
      subst e
      obtain ⟨hb, hB, hS, hd⟩ := H.out
      have hfit : Fits k S := ⟨h1, h2, hd⟩
      have c0 : wr.cell? ⟨w.heap.size, 0, none⟩ = some (.slice a k cap) := by rw [hB.cell]; rfl
      have c1 : wr.cell? ⟨w.heap.size, 1, none⟩ = some (.slice (some ⟨h, 0, none⟩) 4096 4096) := by rw [hB.cell]; rfl
      have c2 : wr.cell? ⟨w.heap.size, 2, none⟩ = some (.map none) := by rw [hB.cell]; rfl
      have hh' : ∀ i, i < 4096 → wr.cell? ⟨h, i, none⟩ = some (.int .u8 ((i % k : Nat) : Int)) := fun i hi => cell_later hb (hh i hi)
      have HB : Hid (Below w.heap.size w wr) := hb
      clear H hb hB hS hd hr hs hh hF
      go_wp2
      go_loop [71] (fun i => ∃ m : Nat, m ≤ 4096 ∧ i = .int .i64 m) (fun i => 4096 - (intOf i).toNat)
      case atStart => exact ⟨0, Nat.zero_le _, rfl⟩
      case round =>
        obtain ⟨m, hm, rfl⟩ := hrel
        by_cases hmt : m < 4096
        · have hcm := hh' m hmt
          have hml : m % k < k := Nat.mod_lt _ (by omega)
          have hml' : ((m % k : Nat) : Int) < k := by omega
          clear hh'
          go_wp2
          go_round
          case rel => exact ⟨m + 1, by omega, by go_num⟩
          case measure => simp [intOf]; omega
        · clear hh'
          go_wp2
          go_ret
          exact ⟨HB.out, Or.inl ⟨hfit, rfl⟩⟩
end Go.Proofs.Qxb6609020aFmt
