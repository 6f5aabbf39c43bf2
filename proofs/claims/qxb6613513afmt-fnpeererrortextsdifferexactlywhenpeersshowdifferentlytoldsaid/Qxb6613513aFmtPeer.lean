/-
  The text of a peer's error, by contracts.
-/
import Derived.Test.Qxb6613513aFmtSpr
namespace Go.Proofs.Qxb6613513aFmt
open Go.RowKit Go.Kit Go.Extern.Stop Go.Stop Go.Extern

theorem noteB_size (n : Nat) (hn : n ≤ 1048576) : (noteB n).size ≤ 1000 := by
  have w2 : (Lit.int .i64 (n : Int)).wf = true := by simp [Lit.wf, IntKind.min, IntKind.max, IntKind.signed, IntKind.bits]; omega
  have := FmtText.itoa_length_le w2
  unfold noteB noteL
  simp [ByteArray.size]
  omega

/-- what Plain hands back -/
def Plained (s : ByteArray) (w : World) (e : Ending) (w' : World) : Prop := ∃ x : ByteArray, PlainIs s x ∧ x.size ≤ 2000000 ∧ e = .returned (.string x) ∧ Below w.heap.size w w'

theorem headOf_size (s : ByteArray) : (headOf s).size ≤ s.size := by
  unfold headOf
  rw [ByteArray.size_extract]
  omega

set_option maxHeartbeats 1000000 in
theorem plain24 (F : Interp) (s : ByteArray) (w : World) (hs : s.size ≤ 1048576) (hF : F.told.answers w.tape) : Calls Tryf.prog 24 #[.string s] w (Plained s w) := by
  go_enter Tryf.func24, Tryf.ntmps24
  go_wp2_with fail
  refine (first27 s _ hs).mono ?_
  rintro e w1 ⟨hb1, ⟨n, hn, hc, rfl⟩ | ⟨n, hn, hc, rfl⟩⟩
  · go_wp2
    go_ret
    exact ⟨s, Or.inl ⟨n, hn, hc, rfl⟩, by omega, rfl, hb1⟩
  · have hn2 := hc.le
    go_wp2_with fail
    refine (note28 F n _ (by omega) (by rw [hb1.tape]; exact hF)).mono ?_
    rintro e w2 ⟨rfl, hb2⟩
    have h1 := noteB_size n (by omega)
    have h2 := headOf_size s
    go_wp2
    go_ret
    exact ⟨_, Or.inr ⟨n, hn, hc, rfl⟩, by rw [ByteArray.size_append]; omega, rfl, hb1.trans (hb2.mono hb1.size)⟩

/-- errors.New -/
theorem new18 (s : ByteArray) (w : World) : Calls Tryf.prog 18 #[.string s] w fun e w' => e = .returned (.iface 44 (.pointer (some ⟨w.heap.size, 0, none⟩))) ∧ w' = w.alloc (.cells #[.string s] 46) := by
  go_enter Tryf.func18, Tryf.ntmps18
  go_wp2
  go_ret
  exact ⟨rfl, rfl⟩

/-- (*errorString).Error -/
theorem error45 (a : Addr) (s : ByteArray) (w : World) (hc : w.cell? a = some (.string s)) : Calls Tryf.prog 45 #[.pointer (some a)] w fun e w' => e = .returned (.string s) ∧ w' = w := by
  go_enter Tryf.func45, Tryf.ntmps45
  go_wp2
  go_ret
  exact ⟨rfl, rfl⟩

attribute [local go_sem] Tryf.call23 Tryf.guardS Tryf.fmtP Tryf.fmtPr Tryf.act9_115 Tryf.op9_115 Tryf.strS Tryf.act44_118 Tryf.strE

theorem peer_text (x msg : ByteArray) (hx : x.size ≤ 2000000) : FmtText.text "fmt.Sprintf" (peerReading x.data.toList msg.data.toList) = some (peerL x.data.toList msg.data.toList) := by
  have h1 := FmtText.operand_str_at (sh := Tryf.shapeS) rfl rfl x.data.toList (by have := x.size_data; simp; omega)
  have h2 := FmtText.operand_plain_at (sh := Tryf.plain44) rfl (FmtText.unpack_pack _ (by decide)) msg.data.toList
  rw [peerReading, FmtText.text_sprintf_glued parseP (FmtText.operands_cons h1 (FmtText.operands_cons h2 FmtText.operands_nil))]
  simp [FmtText.render, FmtText.printArg_s_str, FmtText.printArg_v_said, peerL]

theorem peerL_length (x msg : ByteArray) (hx : x.size ≤ 2000000) (hm : msg.size ≤ 1048576) : (peerL x.data.toList msg.data.toList).length < 2 ^ 63 := by
  unfold peerL
  simp only [List.length_append, List.length_cons, List.length_nil, Array.length_toList, ByteArray.size_data]
  omega
theorem peerB_size (x msg : ByteArray) (hx : x.size ≤ 2000000) (hm : msg.size ≤ 1048576) : (peerB x msg).size ≤ 4000000 := by
  rw [← ByteArray.size_data, ← Array.length_toList, peerB_data]
  unfold peerL
  simp only [List.length_append, List.length_cons, List.length_nil, Array.length_toList, ByteArray.size_data]
  omega

/-- Sprintf of the peer's line, told -/
theorem peer_rows (F : Interp) (x msg : ByteArray) (D : Nat) (w1 : World) (hF : F.told.answers w1.tape) (c2 : w1.cell? ⟨D, 0, none⟩ = some (.string msg)) (hx : x.size ≤ 2000000) (hm : msg.size ≤ 1048576)
    {R : Value → World → Prop} (h : R (.string (peerB x msg)) (w1.alloc (.cells #[.iface 9 (.string x), .iface 44 (.pointer (some ⟨D, 0, none⟩))] 20)).drew) :
    Rows Tryf.prog FmtCalls.turnsRow (FmtCalls.save 0 0 (.slice (some ⟨w1.heap.size, 0, none⟩) 2 2) ⟨#[112, 101, 101, 114, 32, 37, 115, 58, 32, 37, 118]⟩ [] [(0, 115, false), (1, 118, false)])
      (w1.alloc (.cells #[.iface 9 (.string x), .iface 44 (.pointer (some ⟨D, 0, none⟩))] 20)) R := by
  have hF' := answers_open hF
  have c2' : (w1.alloc (.cells #[.iface 9 (.string x), .iface 44 (.pointer (some ⟨D, 0, none⟩))] 20)).cell? ⟨D, 0, none⟩ = some (.string msg) := cell_later ((Below.refl _ _).alloc (Nat.le_refl _) _) c2
  have hop := fun name => Tryf.opPlain44_118 name ⟨D, 0, none⟩ msg _ c2'
  have ht := textOf_eq (told_string F (peer_text x msg hx) (peerL_length x msg hx hm))
  apply rows_value Tryf.nextTurnsS (v := .string (peerB x msg)) (w' := (w1.alloc (.cells #[.iface 9 (.string x), .iface 44 (.pointer (some ⟨D, 0, none⟩))] 20)).drew) _ h
  go_simp
  exact ht

/-- what (*PeerError).Error hands back -/
def Texted (p msg : ByteArray) (w : World) (e : Ending) (w' : World) : Prop := ∃ x : ByteArray, TextIs p msg x ∧ x.size ≤ 4000000 ∧ e = .returned (.string x) ∧ Below w.heap.size w w'

theorem Tryf.methE (a : Value) (w : World) : (method 174 44 a "Error").run Tryf.prog w = .ok (45, a) w := by kernel_rfl

set_option maxHeartbeats 2000000 in
theorem error19 (F : Interp) (p msg : ByteArray) (B D : Nat) (w : World) (hp : p.size ≤ 1048576) (hm : msg.size ≤ 1048576) (hF : F.told.answers w.tape)
    (hB : Blk w B 39 #[.string p, .iface 44 (.pointer (some ⟨D, 0, none⟩))]) (hD : Blk w D 46 #[.string msg]) : Calls Tryf.prog 19 #[.pointer (some ⟨B, 0, none⟩)] w (Texted p msg w) := by
  have c0 : w.cell? ⟨B, 0, none⟩ = some (.string p) := hB.cell 0
  have c1 : w.cell? ⟨B, 1, none⟩ = some (.iface 44 (.pointer (some ⟨D, 0, none⟩))) := hB.cell 1
  have c2 : w.cell? ⟨D, 0, none⟩ = some (.string msg) := hD.cell 0
  have hF' := answers_open hF
  by_cases h : p = ByteArray.empty
  · subst h
    have hmeth := fun w => Tryf.methE (.pointer (some ⟨D, 0, none⟩)) w
    go_enter Tryf.func19, Tryf.ntmps19
    go_wp2_with fail
    refine (error45 _ msg _ c2).mono ?_
    rintro e w1 ⟨rfl, rfl⟩
    go_wp2
    go_ret
    exact ⟨msg, Or.inl ⟨rfl, rfl⟩, by omega, rfl, Below.refl _ _⟩
  · have hne : p.toList.isEmpty = false := by
      cases e : p.toList.isEmpty with
      | false => rfl
      | true =>
        refine absurd ?_ h
        apply (Lib.bytes_beq_iff _ _).1
        have : p.toList = [] := List.isEmpty_iff.1 e
        rw [this]
        simp
    have hBl := hB.lt
    have hDl := hD.lt
    go_enter Tryf.func19, Tryf.ntmps19
    go_wp2_with fail
    go_region_with (first
      | (go_at_call 24
         refine (plain24 F p w.drew hp hF).mono ?_
         rintro e w1 ⟨x, hx, hsz, rfl, hb⟩
         have c1' := cell_later (w := w.drew) hb c1
         have c2' := cell_later (w := w.drew) hb c2
         have ht := hb.tape
         have hs1 := hb.size)
      | (refine peer_rows F x msg D w1 (by rw [ht]; exact hF) c2' hsz hm ?_))
    all_goals go_wp2
    all_goals go_ret
    all_goals exact ⟨_, Or.inr ⟨h, x, hx, rfl⟩, peerB_size x msg hsz hm, rfl, ((Below.refl _ w).drew.trans ((hb.alloc (by simpa using hs1) _).drew))⟩

set_option maxHeartbeats 2000000 in
/-- ZZpeerErrorText -/
theorem text14 (F : Interp) (p msg : ByteArray) (w : World) (hp : p.size ≤ 1048576) (hm : msg.size ≤ 1048576) (hF : F.told.answers w.tape) : Calls Tryf.prog 14 #[.string p, .string msg] w (Texted p msg w) := by
  go_enter Tryf.func14, Tryf.ntmps14
  go_wp2_with fail
  refine (new18 msg _).mono ?_
  rintro e w1 ⟨rfl, rfl⟩
  go_wp2_with fail
  have e1 : (w.alloc (.cells #[.string msg] 46)).heap.size = w.heap.size + 1 := by simp
  refine (error19 F p msg (w.heap.size + 1) w.heap.size ((w.alloc (.cells #[.string msg] 46)).alloc (.cells #[.string p, .iface 44 (.pointer (some ⟨w.heap.size, 0, none⟩))] 39)) hp hm hF ?_ ?_).mono ?_
  · rw [← e1]; exact Blk.new _ 39 _
  · exact (Blk.new w 46 _).alloc _
  rintro e w2 ⟨x, hx, hs, rfl, hb⟩
  go_wp2
  go_ret
  have hb0 : Below w.heap.size w ((w.alloc (.cells #[.string msg] 46)).alloc (.cells #[.string p, .iface 44 (.pointer (some ⟨w.heap.size, 0, none⟩))] 39)) := ((Below.refl _ _).alloc (Nat.le_refl _) _).alloc (by rw [e1]; omega) _
  exact ⟨x, hx, hs, rfl, hb0.trans (hb.mono hb0.size)⟩
end Go.Proofs.Qxb6613513aFmt
