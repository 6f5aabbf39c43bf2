/-
  fmt.Sprintf over this seat's stop, told: the note of a length, the line of a peer's error.
-/
import Derived.Test.Qxb6613513aFmtChars
import Derived.Stop.CallBack
import Derived.Stop.IfaceNil
import Derived.Stop.Texts
import Derived.Stop.Told
import Derived.Stop.FmtTextKit
import Derived.BigCall
import GoSem.ClaimData
namespace Go.Proofs.Qxb6613513aFmt
open Go.RowKit Go.Kit Go.Extern.Stop Go.Stop Go.Extern

theorem Tryf.call23 (args : Array Value) (w : World) : (callFunc 23 args).run Tryf.prog w = (FmtCalls.sprintf #[9, 50] #[9] args).run Tryf.prog w :=
  run_callFunc_next Tryf.func23 (by kernel_rfl) (by kernel_rfl) (by kernel_rfl) args w
theorem Tryf.guardS (name : String) (w : World) : (FmtStop.guard name).run Tryf.prog w = .ok () w := by kernel_rfl
theorem Tryf.nextTurnsS : Extern.next FmtCalls.turnsRow = some (FmtCalls.begun #[] #[]) := by kernel_rfl
theorem Tryf.fmtN : FmtStop.printed? ⟨#[32, 40, 116, 104, 101, 32, 102, 105, 114, 115, 116, 32, 37, 100, 32, 111, 102, 32, 37, 100, 32, 99, 104, 97, 114, 97, 99, 116, 101, 114, 115, 41]⟩ 2 = some [(0, 100, false), (1, 100, false)] := by kernel_rfl
theorem Tryf.fmtNr (w : World) : (FmtDoors.printed ⟨#[32, 40, 116, 104, 101, 32, 102, 105, 114, 115, 116, 32, 37, 100, 32, 111, 102, 32, 37, 100, 32, 99, 104, 97, 114, 97, 99, 116, 101, 114, 115, 41]⟩ 2).run Tryf.prog w = .ok [(0, 100, false), (1, 100, false)] w := by kernel_rfl
theorem Tryf.fmtP : FmtStop.printed? ⟨#[112, 101, 101, 114, 32, 37, 115, 58, 32, 37, 118]⟩ 2 = some [(0, 115, false), (1, 118, false)] := by kernel_rfl
theorem Tryf.fmtPr (w : World) : (FmtDoors.printed ⟨#[112, 101, 101, 114, 32, 37, 115, 58, 32, 37, 118]⟩ 2).run Tryf.prog w = .ok [(0, 115, false), (1, 118, false)] w := by kernel_rfl
def Tryf.shapeI : List UInt8 := [5, 3, 0, 0, 0, 0, 0, 0, 0, 105, 110, 116]
theorem Tryf.act3_100 (name : String) (x : Value) (w : World) : (FmtCalls.act name false 100 false (.iface 3 x)).run Tryf.prog w = .ok (.closed false) w := by kernel_rfl
theorem Tryf.op3_100 (name : String) (x : Int) (w : World) : (FmtStop.operand name false 100 false (.iface 3 (.int .i64 x))).run Tryf.prog w = .ok (Tryf.shapeI, Go.Extern.Stop.digits 8 (x % 2 ^ 64).toNat) w := by kernel_rfl
theorem Tryf.strI (w : World) : (typeStr 3).run Tryf.prog w = .ok "int" w := by kernel_rfl
def Tryf.shapeS : List UInt8 := [12, 6, 0, 0, 0, 0, 0, 0, 0, 115, 116, 114, 105, 110, 103]
theorem Tryf.act9_115 (name : String) (x : Value) (w : World) : (FmtCalls.act name false 115 false (.iface 9 x)).run Tryf.prog w = .ok (.closed false) w := by kernel_rfl
theorem Tryf.op9_115 (name : String) (x : ByteArray) (w : World) : (FmtStop.operand name false 115 false (.iface 9 (.string x))).run Tryf.prog w = .ok (Tryf.shapeS, FmtStop.pack x.data.toList) w := by kernel_rfl
theorem Tryf.strS (w : World) : (typeStr 9).run Tryf.prog w = .ok "string" w := by kernel_rfl
theorem Tryf.act44_118 (name : String) (x : Value) (w : World) : (FmtCalls.act name false 118 false (.iface 44 x)).run Tryf.prog w = .ok (.closed false) w := by kernel_rfl
theorem Tryf.strE (w : World) : (typeStr 44).run Tryf.prog w = .ok "*errors.errorString" w := by kernel_rfl
def Tryf.plain44 : List UInt8 := 14 :: FmtStop.pack "*errors.errorString".toUTF8.data.toList
theorem Tryf.opPlain44_118 (name : String) (a : Addr) (s : ByteArray) (w : World) (hc : w.cell? a = some (.string s)) :
    (FmtStop.operand name false 118 false (.iface 44 (.pointer (some a)))).run Tryf.prog w = .ok (Tryf.plain44, s.data.toList) w := by
  have h1 : (typeStr 44).run Tryf.prog w = .ok "*errors.errorString" w := by kernel_rfl
  have d2 : Tryf.t44.desc = .pointer 46 := rfl
  have d3 : Tryf.t46.desc = .named "errors.errorString" 45 := rfl
  simp [FmtStop.operand, h1, d2, d3, run_load, hc, Tryf.plain44]

attribute [local go_sem] Tryf.call23 Tryf.guardS Tryf.fmtN Tryf.fmtNr Tryf.fmtP Tryf.fmtPr Tryf.act3_100 Tryf.op3_100 Tryf.strI Tryf.act9_115 Tryf.op9_115 Tryf.strS Tryf.act44_118 Tryf.strE

def noteReading (n : Int) : List (List UInt8) := [[32, 40, 116, 104, 101, 32, 102, 105, 114, 115, 116, 32, 37, 100, 32, 111, 102, 32, 37, 100, 32, 99, 104, 97, 114, 97, 99, 116, 101, 114, 115, 41], Tryf.shapeI, digits 8 40, Tryf.shapeI, digits 8 (n % 18446744073709551616).toNat]
def peerReading (x msg : List UInt8) : List (List UInt8) := [[112, 101, 101, 114, 32, 37, 115, 58, 32, 37, 118], Tryf.shapeS, FmtStop.pack x, Tryf.plain44, msg]

set_option maxHeartbeats 800000 in
theorem note_F (F : Interp) (n : Int) (w : World) (hF : F.answers w.tape) :
    Calls Tryf.prog 28 #[.int .i64 n] w fun e w' => e = .returned (.string (FmtStop.textOf (F "fmt.Sprintf" (noteReading n) 0))) ∧ Below w.heap.size w w' := by
  have hF' := answers_open hF
  go_enter Tryf.func28, Tryf.ntmps28
  go_wp2
  apply rows_value Tryf.nextTurnsS
  case hr =>
    go_simp
    exact ⟨rfl, rfl⟩
  case h =>
    go_wp2
    go_ret
    exact ⟨rfl, ((Below.refl _ _).alloc (Nat.le_refl _) _).drew⟩

theorem parseN : (FmtText.parse [32, 40, 116, 104, 101, 32, 102, 105, 114, 115, 116, 32, 37, 100, 32, 111, 102, 32, 37, 100, 32, 99, 104, 97, 114, 97, 99, 116, 101, 114, 115, 41]).map FmtText.glue = some [.lit [32, 40, 116, 104, 101, 32, 102, 105, 114, 115, 116, 32], .verb {} 100, .lit [32, 111, 102, 32], .verb {} 100, .lit [32, 99, 104, 97, 114, 97, 99, 116, 101, 114, 115, 41]] := by rfl
theorem parseP : (FmtText.parse [112, 101, 101, 114, 32, 37, 115, 58, 32, 37, 118]).map FmtText.glue = some [.lit [112, 101, 101, 114, 32], .verb {} 115, .lit [58, 32], .verb {} 118] := by rfl

theorem note_text (n : Nat) (hn : n ≤ 1048576) : FmtText.text "fmt.Sprintf" (noteReading n) = some (noteL n) := by
  have w1 : (Lit.int .i64 40).wf = true := by decide
  have w2 : (Lit.int .i64 (n : Int)).wf = true := by simp [Lit.wf, IntKind.min, IntKind.max, IntKind.signed, IntKind.bits]; omega
  have h1 := FmtText.operand_int_at (sh := Tryf.shapeI) (k := .i64) rfl rfl 40 w1
  have h2 := FmtText.operand_int_at (sh := Tryf.shapeI) (k := .i64) rfl rfl (n : Int) w2
  have h1' : FmtText.operand Tryf.shapeI (digits 8 40) = _ := h1
  rw [noteReading, FmtText.text_sprintf_glued parseN (FmtText.operands_cons h1' (FmtText.operands_cons h2 FmtText.operands_nil))]
  have e40 : Lib.itoa 40 = [52, 48] := by
    unfold Lib.itoa
    rw [if_neg (by omega)]
    show Lib.decDigits 40 = _
    rw [Lib.decDigits, dif_neg (by omega), Lib.decDigits, dif_pos (by omega)]
    rfl
  have p40 : FmtText.printArg false {} 100 (FmtText.Operand.int [105, 110, 116] IntKind.i64.signed 40) = some [52, 48] := by
    have := FmtText.printArg_d false [105, 110, 116] w1
    rw [e40] at this; exact this
  simp [FmtText.render, p40, FmtText.printArg_d _ _ w2, noteL]

theorem textOf_eq {F : Interp} {name : String} {reading : List (List UInt8)} {t : List UInt8} (h : F.string name reading 0 = t) : FmtStop.textOf (F name reading 0) = ⟨t.toArray⟩ := by
  apply ByteArray.ext
  apply Array.toList_inj.mp
  rw [textOf_list, h]

theorem noteL_length (n : Nat) (hn : n ≤ 1048576) : (noteL n).length < 2 ^ 63 := by
  have w2 : (Lit.int .i64 (n : Int)).wf = true := by simp [Lit.wf, IntKind.min, IntKind.max, IntKind.signed, IntKind.bits]; omega
  have := FmtText.itoa_length_le w2
  unfold noteL
  simp only [List.length_append, List.length_cons, List.length_nil]
  omega

/-- note, told -/
theorem note28 (F : Interp) (n : Nat) (w : World) (hn : n ≤ 1048576) (hF : F.told.answers w.tape) :
    Calls Tryf.prog 28 #[.int .i64 n] w fun e w' => e = .returned (.string (noteB n)) ∧ Below w.heap.size w w' := by
  refine (note_F F.told n w hF).mono ?_
  rintro e w' ⟨rfl, hb⟩
  rw [textOf_eq (told_string F (note_text n hn) (noteL_length n hn))]
  exact ⟨rfl, hb⟩
end Go.Proofs.Qxb6613513aFmt
