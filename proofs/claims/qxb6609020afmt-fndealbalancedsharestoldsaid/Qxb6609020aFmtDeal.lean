/-
  layout.Deal by its contract.
-/
import Derived.Test.Qxb6609020aFmtCheck
import Derived.RegionTactic
import Derived.BigRegion
namespace Go.Proofs.Qxb6609020aFmt
open Go.RowKit Go.Extern.Stop Go.Stop Go.Extern

theorem Tryf.info5 : (Tryf.prog.info? 5).map (fun i => (i.zero, i.size, i.bytes)) = some (some (.int .u8 0), 1, 1) := by kernel_rfl
/-- 4096 noughts -/
def blank8 : Array Value := madeCells #[.int .u8 0] 4096
theorem size_blank8 : blank8.size = 4096 := by simp [blank8, madeCells]
theorem make26 (w : World) : (Instr.makeSlice 26 (.int .i64 4096) (.int .i64 4096)).run Tryf.prog w = .ok (.slice (some ⟨w.heap.size, 0, none⟩) 4096 4096) (w.alloc (.cells blank8 5)) := by
  obtain ⟨i, hi, hz, hs, hb⟩ := info_parts Tryf.info5
  have := run_make (P := Tryf.prog) w 26 5 i _ Tryf.underlying26 hi hz .i64 .i64 4096 4096 (by omega) (by omega) (by rw [hb]; omega) (by omega)
  rw [this, hs]
  simp [blank8, Value.cells]

/-- the map's zero value, as cells -/
def zeroMap : Array Value := #[.slice none 0 0, .slice none 0 0, .map none, .int .u64 0, .int .u8 0]

/-- what holds at the head of the k-th round over the shards; under g the cells so far hold V -/
def Loop2 (g : Prop) (w : World) (M : Array Value) (V : Nat → Value) (k : Nat) (wr : World) : Prop :=
  Below w.heap.size w wr ∧ Blk wr w.heap.size 31 zeroMap ∧ Blk wr (w.heap.size + 1 + 1) 31 M ∧ ∃ C, Blk wr (w.heap.size + 1) 5 C ∧ C.size = 4096 ∧ (g → ∀ j, j < k → C[j]? = some (V j))

theorem Loop2.start (g : Prop) (w : World) (M : Array Value) (V : Nat → Value) : Loop2 g w M V 0 (((w.alloc (.cells zeroMap 31)).alloc (.cells blank8 5)).alloc (.cells M 31)) := by
  refine ⟨((((Below.refl _ _).alloc (Nat.le_refl _) _).alloc (by simp) _).alloc (by simp; omega) _), ((Blk.new w 31 _).alloc _).alloc _, ?_, blank8, ?_, size_blank8, fun _ j h => absurd h (by omega)⟩
  · have := Blk.new ((w.alloc (.cells zeroMap 31)).alloc (.cells blank8 5)) 31 M
    simpa using this
  · have := (Blk.new (w.alloc (.cells zeroMap 31)) 5 blank8).alloc (.cells M 31)
    simpa using this

theorem Loop2.step {g : Prop} {w : World} {M : Array Value} {V : Nat → Value} {k : Nat} {wr : World} (h : Loop2 g w M V k wr) (hk : k < 4096) (X : Value) (hX : g → X = V k) : Loop2 g w M V (k + 1) (wr.setCell ⟨w.heap.size + 1, k, none⟩ X).drew := by
  obtain ⟨hb, h0, h2, C, h1, hs, hC⟩ := h
  refine ⟨(hb.setCell (by simp) _).drew, (h0.other _ _ (by simp)).drew, (h2.other _ _ (by simp)).drew, _, (h1.set k X).drew, by simpa using hs, fun hg j hj => ?_⟩
  by_cases e : j = k
  · subst e; rw [← hX hg]; simp [hs, hk]
  · rw [Array.getElem?_setIfInBounds_ne (fun h => e h.symm)]; exact hC hg j (by omega)

theorem u8_mod (k n : Nat) (h1 : 1 ≤ n) (h2 : n ≤ 255) : Value.int .u8 ((k : Int) % n % 256) = .int .u8 ((k % n : Nat) : Int) := by
  have : (k : Int) % n % 256 = ((k % n : Nat) : Int) := by
    have := Nat.mod_lt k h1
    rw [← Int.natCast_emod]; omega
  rw [this]

/-- what Deal answers -/
def Dealt (a : Option Addr) (n cap : Nat) (S : Nat → ByteArray) (w : World) (e : Ending) (w' : World) : Prop :=
  Below w.heap.size w w' ∧ ((Fits n S ∧ w.heap.size + 1 < w'.heap.size ∧ e = .returned (.tuple #[.agg #[.slice a n cap, .slice (some ⟨w.heap.size + 1, 0, none⟩) 4096 4096, .map none, .int .u64 0, .int .u8 2], .nilIface]) ∧
      ∀ i, i < 4096 → w'.cell? ⟨w.heap.size + 1, i, none⟩ = some (.int .u8 ((i % n : Nat) : Int))) ∨
    (¬ Fits n S ∧ ∃ p, e = .returned (.tuple #[.agg #[.slice none 0 0, .slice none 0 0, .map none, .int .u64 0, .int .u8 0], .iface 42 p])))

theorem five_below {B : Nat} {w w2 : World} (h : Below B w w2) (v0 v1 v2 v3 v4 : Value) :
    Below B w (((((w2.setCell ⟨B, 0, none⟩ v0).setCell ⟨B, 1, none⟩ v1).setCell ⟨B, 2, none⟩ v2).setCell ⟨B, 3, none⟩ v3).setCell ⟨B, 4, none⟩ v4) :=
  ((((h.setCell (Nat.le_refl _) _).setCell (Nat.le_refl _) _).setCell (Nat.le_refl _) _).setCell (Nat.le_refl _) _).setCell (Nat.le_refl _) _
theorem five_other {B D : Nat} {w2 : World} {t : TypeId} {C : Array Value} (h : Blk w2 D t C) (hne : D ≠ B) (v0 v1 v2 v3 v4 : Value) :
    Blk (((((w2.setCell ⟨B, 0, none⟩ v0).setCell ⟨B, 1, none⟩ v1).setCell ⟨B, 2, none⟩ v2).setCell ⟨B, 3, none⟩ v3).setCell ⟨B, 4, none⟩ v4) D t C :=
  ((((h.other _ _ hne).other _ _ hne).other _ _ hne).other _ _ hne).other _ _ hne

theorem dealt_ok {a : Option Addr} {n cap : Nat} {S : Nat → ByteArray} {w wr w2 : World} {M : Array Value} (h : Loop2 True w M (fun j => .int .u8 ((j % n : Nat) : Int)) 4096 wr) (hb2 : Below wr.heap.size wr w2) (hf : Fits n S) (v0 v1 v2 v3 v4 : Value) :
    Dealt a n cap S w (.returned (.tuple #[.agg #[.slice a n cap, .slice (some ⟨w.heap.size + 1, 0, none⟩) 4096 4096, .map none, .int .u64 0, .int .u8 2], .nilIface]))
      (((((w2.setCell ⟨w.heap.size, 0, none⟩ v0).setCell ⟨w.heap.size, 1, none⟩ v1).setCell ⟨w.heap.size, 2, none⟩ v2).setCell ⟨w.heap.size, 3, none⟩ v3).setCell ⟨w.heap.size, 4, none⟩ v4) := by
  obtain ⟨hb, hz, hM, C, hB, hCs, hC⟩ := h
  have hB' := five_other (B := w.heap.size) (hB.below hb2 hB.lt) (by omega) v0 v1 v2 v3 v4
  refine ⟨five_below (hb.trans (hb2.mono hb.size)) _ _ _ _ _, Or.inl ⟨hf, hB'.lt, rfl, fun i hi => ?_⟩⟩
  rw [hB'.cell]; exact hC trivial i hi

theorem dealt_bad {g : Prop} {a : Option Addr} {n cap : Nat} {S : Nat → ByteArray} {w wr w2 : World} {M : Array Value} {V : Nat → Value} (h : Loop2 g w M V 4096 wr) (hb2 : Below wr.heap.size wr w2) (hf : ¬ Fits n S) (p v0 v1 v2 v3 v4 : Value) :
    Dealt a n cap S w (.returned (.tuple #[.agg #[.slice none 0 0, .slice none 0 0, .map none, .int .u64 0, .int .u8 0], .iface 42 p]))
      (((((w2.setCell ⟨w.heap.size, 0, none⟩ v0).setCell ⟨w.heap.size, 1, none⟩ v1).setCell ⟨w.heap.size, 2, none⟩ v2).setCell ⟨w.heap.size, 3, none⟩ v3).setCell ⟨w.heap.size, 4, none⟩ v4) := by
  obtain ⟨hb, hz, hM, C, hB, hCs, hC⟩ := h
  exact ⟨five_below (hb.trans (hb2.mono hb.size)) _ _ _ _ _, Or.inr ⟨hf, p, rfl⟩⟩

set_option maxRecDepth 20000 in
set_option maxHeartbeats 2000000 in
theorem deal_main (F : Interp) (a : Option Addr) (n cap : Nat) (S : Nat → ByteArray) (w : World) (hF : F.answers w.tape) (h1 : 1 ≤ n) (h2 : n ≤ 255) (hr : StrRow w a n S) (hs : ∀ i, i < n → (S i).size ≤ maxLen) :
    Calls Tryf.prog 9 #[.slice a n cap] w (Dealt a n cap S w) := by
  have hmk := make26
  have H0 : Hid (Loop2 True w #[.slice a n cap, .slice (some ⟨w.heap.size + 1, 0, none⟩) 4096 4096, .map none, .int .u64 0, .int .u8 2] (fun j => .int .u8 ((j % n : Nat) : Int)) 0 _) := Loop2.start _ _ _ _
  unfold zeroMap at H0
  go_enter Tryf.func9, Tryf.ntmps9
  go_wp2
  go_loopw [13] (fun i wr => ∃ k : Nat, k ≤ 4096 ∧ i = .int .i64 k ∧ Hid (Loop2 True w #[.slice a n cap, .slice (some ⟨w.heap.size + 1, 0, none⟩) 4096 4096, .map none, .int .u64 0, .int .u8 2] (fun j => .int .u8 ((j % n : Nat) : Int)) k wr)) (fun i _ => 4096 - (intOf i).toNat)
  case atStart => exact ⟨0, Nat.zero_le _, rfl, H0⟩
  case round =>
    obtain ⟨k, hk, rfl, H⟩ := hrel
    clear hmk H0
    by_cases hlt : k < 4096
    · obtain ⟨hb, hz, hM, C, hB, hCs, hC⟩ := H.out
      have c1 : wr.cell? ⟨w.heap.size + 1 + 1, 1, none⟩ = some (.slice (some ⟨w.heap.size + 1, 0, none⟩) 4096 4096) := by rw [hM.cell]; rfl
      have hd : wr.cell? ⟨w.heap.size + 1, k, none⟩ = some (C[k]'(by omega)) := by rw [hB.cell]; exact Array.getElem?_eq_getElem (by omega)
      have hf : wr.frozen? ⟨w.heap.size + 1, k, none⟩ = false := hB.frozen k
      clear hb hz hM hB hC hr hs hF
      go_wp2
      go_region
      all_goals go_wp2
      go_roundw
      case rel => exact ⟨k + 1, by omega, by go_num, H.out.step hlt _ (fun _ => u8_mod k n h1 h2)⟩
      case measure => simp [intOf]; omega
    · have e : k = 4096 := by omega
      subst e
      obtain ⟨hb, hz, hM, C, hB, hCs, hC⟩ := H.out
      have c0 : wr.cell? ⟨w.heap.size + 1 + 1, 0, none⟩ = some (.slice a n cap) := by rw [hM.cell]; rfl
      have c1 : wr.cell? ⟨w.heap.size + 1 + 1, 1, none⟩ = some (.slice (some ⟨w.heap.size + 1, 0, none⟩) 4096 4096) := by rw [hM.cell]; rfl
      have c2 : wr.cell? ⟨w.heap.size + 1 + 1, 2, none⟩ = some (.map none) := by rw [hM.cell]; rfl
      have c3 : wr.cell? ⟨w.heap.size + 1 + 1, 3, none⟩ = some (.int .u64 0) := by rw [hM.cell]; rfl
      have c4 : wr.cell? ⟨w.heap.size + 1 + 1, 4, none⟩ = some (.int .u8 2) := by rw [hM.cell]; rfl
      have hFr : F.answers wr.tape := by rw [hb.tape]; exact hF
      have hrr : StrRow wr a n S := hr.below hb
      have hhh : ∀ i, i < 4096 → wr.cell? ⟨w.heap.size + 1, i, none⟩ = some (.int .u8 ((i % n : Nat) : Int)) := fun i hi => by rw [hB.cell]; exact hC trivial i hi
      clear hb hz hM hB hC
      go_wp2_with fail
      refine (check_main F a n cap (w.heap.size + 1) S wr hFr h1 h2 hrr hs hhh).mono ?_
      rintro e w2 ⟨hb2, ⟨hf, rfl⟩ | ⟨hnf, p, rfl⟩⟩
      · clear hhh hrr c0 c1 c2 c3 c4
        obtain ⟨hb, hz, hM, C', hB, hCs', hC⟩ := H.out
        have hM' := hM.below hb2 hM.lt
        have hz' := hz.below hb2 hz.lt
        have c0 : w2.cell? ⟨w.heap.size + 1 + 1, 0, none⟩ = some (.slice a n cap) := by rw [hM'.cell]; rfl
        have c1 : w2.cell? ⟨w.heap.size + 1 + 1, 1, none⟩ = some (.slice (some ⟨w.heap.size + 1, 0, none⟩) 4096 4096) := by rw [hM'.cell]; rfl
        have c2 : w2.cell? ⟨w.heap.size + 1 + 1, 2, none⟩ = some (.map none) := by rw [hM'.cell]; rfl
        have c3 : w2.cell? ⟨w.heap.size + 1 + 1, 3, none⟩ = some (.int .u64 0) := by rw [hM'.cell]; rfl
        have c4 : w2.cell? ⟨w.heap.size + 1 + 1, 4, none⟩ = some (.int .u8 2) := by rw [hM'.cell]; rfl
        have z0 : w2.cell? ⟨w.heap.size, 0, none⟩ = some (.slice none 0 0) := by rw [hz'.cell]; rfl
        have z1 : w2.cell? ⟨w.heap.size, 1, none⟩ = some (.slice none 0 0) := by rw [hz'.cell]; rfl
        have z2 : w2.cell? ⟨w.heap.size, 2, none⟩ = some (.map none) := by rw [hz'.cell]; rfl
        have z3 : w2.cell? ⟨w.heap.size, 3, none⟩ = some (.int .u64 0) := by rw [hz'.cell]; rfl
        have z4 : w2.cell? ⟨w.heap.size, 4, none⟩ = some (.int .u8 0) := by rw [hz'.cell]; rfl
        have f0 := hz'.frozen 0
        have f1 := hz'.frozen 1
        have f2 := hz'.frozen 2
        have f3 := hz'.frozen 3
        have f4 := hz'.frozen 4
        clear hb hz hM hB hC hM' hz'
        go_wp2
        refine bodyPost_ret (v := .tuple #[.agg #[.slice a n cap, .slice (some ⟨w.heap.size + 1, 0, none⟩) 4096 4096, .map none, .int .u64 0, .int .u8 2], .nilIface]) (by simp [results, Tryf.results9, go_sem, z0, z1, z2, z3, z4]) rfl ?_
        exact dealt_ok H.out hb2 hf _ _ _ _ _
      · clear hhh hrr c0 c1 c2 c3 c4
        obtain ⟨hb, hz, hM, C', hB, hCs', hC⟩ := H.out
        have hz' := hz.below hb2 hz.lt
        have z0 : w2.cell? ⟨w.heap.size, 0, none⟩ = some (.slice none 0 0) := by rw [hz'.cell]; rfl
        have z1 : w2.cell? ⟨w.heap.size, 1, none⟩ = some (.slice none 0 0) := by rw [hz'.cell]; rfl
        have z2 : w2.cell? ⟨w.heap.size, 2, none⟩ = some (.map none) := by rw [hz'.cell]; rfl
        have z3 : w2.cell? ⟨w.heap.size, 3, none⟩ = some (.int .u64 0) := by rw [hz'.cell]; rfl
        have z4 : w2.cell? ⟨w.heap.size, 4, none⟩ = some (.int .u8 0) := by rw [hz'.cell]; rfl
        have f0 := hz'.frozen 0
        have f1 := hz'.frozen 1
        have f2 := hz'.frozen 2
        have f3 := hz'.frozen 3
        have f4 := hz'.frozen 4
        clear hb hz hM hB hC hz'
        go_wp2
        refine bodyPost_ret (v := .tuple #[.agg #[.slice none 0 0, .slice none 0 0, .map none, .int .u64 0, .int .u8 0], .iface 42 p]) (by simp [results, Tryf.results9, go_sem, z0, z1, z2, z3, z4]) rfl ?_
        exact dealt_bad H.out hb2 hnf p _ _ _ _ _

set_option maxRecDepth 20000 in
set_option maxHeartbeats 2000000 in
theorem deal_zero (F : Interp) (a : Option Addr) (cap : Nat) (S : Nat → ByteArray) (w : World) (hF : F.answers w.tape) :
    Calls Tryf.prog 9 #[.slice a 0 cap] w (Dealt a 0 cap S w) := by
  have hmk := make26
  have H0 : Hid (Loop2 False w #[.slice a 0 cap, .slice (some ⟨w.heap.size + 1, 0, none⟩) 4096 4096, .map none, .int .u64 0, .int .u8 2] (fun _ => .nilIface) 0 _) := Loop2.start _ _ _ _
  unfold zeroMap at H0
  go_enter Tryf.func9, Tryf.ntmps9
  go_wp2
  go_loopw [13] (fun i wr => ∃ k : Nat, k ≤ 4096 ∧ i = .int .i64 k ∧ Hid (Loop2 False w #[.slice a 0 cap, .slice (some ⟨w.heap.size + 1, 0, none⟩) 4096 4096, .map none, .int .u64 0, .int .u8 2] (fun _ => .nilIface) k wr)) (fun i _ => 4096 - (intOf i).toNat)
  case atStart => exact ⟨0, Nat.zero_le _, rfl, H0⟩
  case round =>
    obtain ⟨k, hk, rfl, H⟩ := hrel
    clear hmk H0
    by_cases hlt : k < 4096
    · obtain ⟨hb, hz, hM, C, hB, hCs, hC⟩ := H.out
      have c1 : wr.cell? ⟨w.heap.size + 1 + 1, 1, none⟩ = some (.slice (some ⟨w.heap.size + 1, 0, none⟩) 4096 4096) := by rw [hM.cell]; rfl
      have hd : wr.cell? ⟨w.heap.size + 1, k, none⟩ = some (C[k]'(by omega)) := by rw [hB.cell]; exact Array.getElem?_eq_getElem (by omega)
      have hf : wr.frozen? ⟨w.heap.size + 1, k, none⟩ = false := hB.frozen k
      clear hb hz hM hB hC hF
      go_wp2
      go_region
      all_goals go_wp2
      go_roundw
      case rel => exact ⟨k + 1, by omega, by go_num, H.out.step hlt _ (fun h => h.elim)⟩
      case measure => simp [intOf]; omega
    · have e : k = 4096 := by omega
      subst e
      obtain ⟨hb, hz, hM, C, hB, hCs, hC⟩ := H.out
      have c0 : wr.cell? ⟨w.heap.size + 1 + 1, 0, none⟩ = some (.slice a 0 cap) := by rw [hM.cell]; rfl
      have c1 : wr.cell? ⟨w.heap.size + 1 + 1, 1, none⟩ = some (.slice (some ⟨w.heap.size + 1, 0, none⟩) 4096 4096) := by rw [hM.cell]; rfl
      have c2 : wr.cell? ⟨w.heap.size + 1 + 1, 2, none⟩ = some (.map none) := by rw [hM.cell]; rfl
      have c3 : wr.cell? ⟨w.heap.size + 1 + 1, 3, none⟩ = some (.int .u64 0) := by rw [hM.cell]; rfl
      have c4 : wr.cell? ⟨w.heap.size + 1 + 1, 4, none⟩ = some (.int .u8 2) := by rw [hM.cell]; rfl
      have hFr : F.answers wr.tape := by rw [hb.tape]; exact hF
      clear hb hz hM hB hC
      go_wp2_with fail
      refine (check_count F a 0 cap (w.heap.size + 1) S wr hFr (by omega) (Or.inl rfl)).mono ?_
      rintro e w2 ⟨hb2, ⟨hf, rfl⟩ | ⟨hnf, p, rfl⟩⟩
      · exact absurd hf (fun f => by have := f.1; have := f.2.1; omega)
      · clear c0 c1 c2 c3 c4
        obtain ⟨hb, hz, hM, C', hB, hCs', hC⟩ := H.out
        have hz' := hz.below hb2 hz.lt
        have z0 : w2.cell? ⟨w.heap.size, 0, none⟩ = some (.slice none 0 0) := by rw [hz'.cell]; rfl
        have z1 : w2.cell? ⟨w.heap.size, 1, none⟩ = some (.slice none 0 0) := by rw [hz'.cell]; rfl
        have z2 : w2.cell? ⟨w.heap.size, 2, none⟩ = some (.map none) := by rw [hz'.cell]; rfl
        have z3 : w2.cell? ⟨w.heap.size, 3, none⟩ = some (.int .u64 0) := by rw [hz'.cell]; rfl
        have z4 : w2.cell? ⟨w.heap.size, 4, none⟩ = some (.int .u8 0) := by rw [hz'.cell]; rfl
        have f0 := hz'.frozen 0
        have f1 := hz'.frozen 1
        have f2 := hz'.frozen 2
        have f3 := hz'.frozen 3
        have f4 := hz'.frozen 4
        clear hb hz hM hB hC hz'
        go_wp2
        refine bodyPost_ret (v := .tuple #[.agg #[.slice none 0 0, .slice none 0 0, .map none, .int .u64 0, .int .u8 0], .iface 42 p]) (by simp [results, Tryf.results9, go_sem, z0, z1, z2, z3, z4]) rfl ?_
        exact dealt_bad H.out hb2 hnf p _ _ _ _ _

set_option maxRecDepth 20000 in
set_option maxHeartbeats 2000000 in
theorem deal_many (F : Interp) (a : Option Addr) (n cap : Nat) (hn : n ≤ 1048576) (h2 : 255 < n) (S : Nat → ByteArray) (w : World) (hF : F.answers w.tape) :
    Calls Tryf.prog 9 #[.slice a n cap] w (Dealt a n cap S w) := by
  have hmk := make26
  have H0 : Hid (Loop2 False w #[.slice a n cap, .slice (some ⟨w.heap.size + 1, 0, none⟩) 4096 4096, .map none, .int .u64 0, .int .u8 2] (fun _ => .nilIface) 0 _) := Loop2.start _ _ _ _
  unfold zeroMap at H0
  go_enter Tryf.func9, Tryf.ntmps9
  go_wp2
  go_loopw [13] (fun i wr => ∃ k : Nat, k ≤ 4096 ∧ i = .int .i64 k ∧ Hid (Loop2 False w #[.slice a n cap, .slice (some ⟨w.heap.size + 1, 0, none⟩) 4096 4096, .map none, .int .u64 0, .int .u8 2] (fun _ => .nilIface) k wr)) (fun i _ => 4096 - (intOf i).toNat)
  case atStart => exact ⟨0, Nat.zero_le _, rfl, H0⟩
  case round =>
    obtain ⟨k, hk, rfl, H⟩ := hrel
    clear hmk H0
    by_cases hlt : k < 4096
    · obtain ⟨hb, hz, hM, C, hB, hCs, hC⟩ := H.out
      have c1 : wr.cell? ⟨w.heap.size + 1 + 1, 1, none⟩ = some (.slice (some ⟨w.heap.size + 1, 0, none⟩) 4096 4096) := by rw [hM.cell]; rfl
      have hd : wr.cell? ⟨w.heap.size + 1, k, none⟩ = some (C[k]'(by omega)) := by rw [hB.cell]; exact Array.getElem?_eq_getElem (by omega)
      have hf : wr.frozen? ⟨w.heap.size + 1, k, none⟩ = false := hB.frozen k
      clear hb hz hM hB hC hF
      go_wp2
      go_region
      all_goals go_wp2
      go_roundw
      case rel => exact ⟨k + 1, by omega, by go_num, H.out.step hlt _ (fun h => h.elim)⟩
      case measure => simp [intOf]; omega
    · have e : k = 4096 := by omega
      subst e
      obtain ⟨hb, hz, hM, C, hB, hCs, hC⟩ := H.out
      have c0 : wr.cell? ⟨w.heap.size + 1 + 1, 0, none⟩ = some (.slice a n cap) := by rw [hM.cell]; rfl
      have c1 : wr.cell? ⟨w.heap.size + 1 + 1, 1, none⟩ = some (.slice (some ⟨w.heap.size + 1, 0, none⟩) 4096 4096) := by rw [hM.cell]; rfl
      have c2 : wr.cell? ⟨w.heap.size + 1 + 1, 2, none⟩ = some (.map none) := by rw [hM.cell]; rfl
      have c3 : wr.cell? ⟨w.heap.size + 1 + 1, 3, none⟩ = some (.int .u64 0) := by rw [hM.cell]; rfl
      have c4 : wr.cell? ⟨w.heap.size + 1 + 1, 4, none⟩ = some (.int .u8 2) := by rw [hM.cell]; rfl
      have hFr : F.answers wr.tape := by rw [hb.tape]; exact hF
      clear hb hz hM hB hC
      go_wp2_with fail
      refine (check_count F a n cap (w.heap.size + 1) S wr hFr hn (Or.inr h2)).mono ?_
      rintro e w2 ⟨hb2, ⟨hf, rfl⟩ | ⟨hnf, p, rfl⟩⟩
      · exact absurd hf (fun f => by have := f.1; have := f.2.1; omega)
      · clear c0 c1 c2 c3 c4
        obtain ⟨hb, hz, hM, C', hB, hCs', hC⟩ := H.out
        have hz' := hz.below hb2 hz.lt
        have z0 : w2.cell? ⟨w.heap.size, 0, none⟩ = some (.slice none 0 0) := by rw [hz'.cell]; rfl
        have z1 : w2.cell? ⟨w.heap.size, 1, none⟩ = some (.slice none 0 0) := by rw [hz'.cell]; rfl
        have z2 : w2.cell? ⟨w.heap.size, 2, none⟩ = some (.map none) := by rw [hz'.cell]; rfl
        have z3 : w2.cell? ⟨w.heap.size, 3, none⟩ = some (.int .u64 0) := by rw [hz'.cell]; rfl
        have z4 : w2.cell? ⟨w.heap.size, 4, none⟩ = some (.int .u8 0) := by rw [hz'.cell]; rfl
        have f0 := hz'.frozen 0
        have f1 := hz'.frozen 1
        have f2 := hz'.frozen 2
        have f3 := hz'.frozen 3
        have f4 := hz'.frozen 4
        clear hb hz hM hB hC hz'
        go_wp2
        refine bodyPost_ret (v := .tuple #[.agg #[.slice none 0 0, .slice none 0 0, .map none, .int .u64 0, .int .u8 0], .iface 42 p]) (by simp [results, Tryf.results9, go_sem, z0, z1, z2, z3, z4]) rfl ?_
        exact dealt_bad H.out hb2 hnf p _ _ _ _ _

theorem deal (F : Interp) (a : Option Addr) (n cap : Nat) (S : Nat → ByteArray) (w : World) (hF : F.answers w.tape) (hn : n ≤ 1048576) (hr : StrRow w a n S) (hs : ∀ i, i < n → (S i).size ≤ maxLen) :
    Calls Tryf.prog 9 #[.slice a n cap] w (Dealt a n cap S w) := by
  by_cases h0 : n = 0
  · subst h0; exact deal_zero F a cap S w hF
  by_cases h2 : 255 < n
  · exact deal_many F a n cap hn h2 S w hF
  · exact deal_main F a n cap S w hF (by omega) (by omega) hr hs
end Go.Proofs.Qxb6609020aFmt
