/-
  fmt.Errorf over this seat's stop, by two contracts: two ints under %d; one string under %q. The text stays open (for every F).
-/
import Derived.Test.Qxb6609020aFmtStrs
import Derived.Stop.CallBack
import Derived.Stop.IfaceNil
import Derived.BigCall
import GoSem.ClaimData
namespace Go.Proofs.Qxb6609020aFmt
open Go.RowKit Go.Extern.Stop Go.Stop Go.Extern

theorem Tryf.call13 (args : Array Value) (w : World) : (callFunc 13 args).run Tryf.prog w = (FmtCalls.errorf #[9, 39] #[33] args).run Tryf.prog w :=
  run_callFunc_next Tryf.func13 (by kernel_rfl) (by kernel_rfl) (by kernel_rfl) args w
theorem Tryf.guard (name : String) (w : World) : (FmtStop.guard name).run Tryf.prog w = .ok () w := by kernel_rfl
theorem Tryf.nextTurns : Extern.next FmtCalls.turnsRow = some (FmtCalls.begun #[] #[]) := by kernel_rfl
-- the two formats
def fmtServers : ByteArray := ⟨#[115, 104, 97, 114, 100, 32, 109, 97, 112, 58, 32, 37, 100, 32, 109, 101, 116, 97, 100, 97, 116, 97, 32, 115, 101, 114, 118, 101, 114, 115, 44, 32, 119, 97, 110, 116, 32, 49, 32, 116, 111, 32, 37, 100]⟩
def fmtTwice : ByteArray := ⟨#[115, 104, 97, 114, 100, 32, 109, 97, 112, 58, 32, 115, 101, 114, 118, 101, 114, 32, 37, 113, 32, 105, 115, 32, 108, 105, 115, 116, 101, 100, 32, 116, 119, 105, 99, 101]⟩
theorem Tryf.fmt0 : FmtStop.printed? ⟨#[115, 104, 97, 114, 100, 32, 109, 97, 112, 58, 32, 37, 100, 32, 109, 101, 116, 97, 100, 97, 116, 97, 32, 115, 101, 114, 118, 101, 114, 115, 44, 32, 119, 97, 110, 116, 32, 49, 32, 116, 111, 32, 37, 100]⟩ 2 = some [(0, 100, false), (1, 100, false)] := by kernel_rfl
theorem Tryf.fmt0r (w : World) : (FmtDoors.printed ⟨#[115, 104, 97, 114, 100, 32, 109, 97, 112, 58, 32, 37, 100, 32, 109, 101, 116, 97, 100, 97, 116, 97, 32, 115, 101, 114, 118, 101, 114, 115, 44, 32, 119, 97, 110, 116, 32, 49, 32, 116, 111, 32, 37, 100]⟩ 2).run Tryf.prog w = .ok [(0, 100, false), (1, 100, false)] w := by kernel_rfl
theorem Tryf.fmt1 : FmtStop.printed? ⟨#[115, 104, 97, 114, 100, 32, 109, 97, 112, 58, 32, 115, 101, 114, 118, 101, 114, 32, 37, 113, 32, 105, 115, 32, 108, 105, 115, 116, 101, 100, 32, 116, 119, 105, 99, 101]⟩ 1 = some [(0, 113, false)] := by kernel_rfl
theorem Tryf.fmt1r (w : World) : (FmtDoors.printed ⟨#[115, 104, 97, 114, 100, 32, 109, 97, 112, 58, 32, 115, 101, 114, 118, 101, 114, 32, 37, 113, 32, 105, 115, 32, 108, 105, 115, 116, 101, 100, 32, 116, 119, 105, 99, 101]⟩ 1).run Tryf.prog w = .ok [(0, 113, false)] w := by kernel_rfl
-- the two operand types
def Tryf.shape3 : List UInt8 := [5, 3, 0, 0, 0, 0, 0, 0, 0, 105, 110, 116]
theorem Tryf.act3_100w (name : String) (x : Value) (w : World) : (FmtCalls.act name true 100 false (.iface 3 x)).run Tryf.prog w = .ok (.closed true) w := by kernel_rfl
theorem Tryf.op3_100w (name : String) (x : Int) (w : World) : (FmtStop.operand name true 100 false (.iface 3 (.int .i64 x))).run Tryf.prog w = .ok (Tryf.shape3, Go.Extern.Stop.digits 8 (x % 2 ^ 64).toNat) w := by kernel_rfl
theorem Tryf.str3 (w : World) : (typeStr 3).run Tryf.prog w = .ok "int" w := by kernel_rfl
def Tryf.shape9 : List UInt8 := [12, 6, 0, 0, 0, 0, 0, 0, 0, 115, 116, 114, 105, 110, 103]
theorem Tryf.act9_113w (name : String) (x : Value) (w : World) : (FmtCalls.act name true 113 false (.iface 9 x)).run Tryf.prog w = .ok (.closed true) w := by kernel_rfl
theorem Tryf.op9_113w (name : String) (x : ByteArray) (w : World) : (FmtStop.operand name true 113 false (.iface 9 (.string x))).run Tryf.prog w = .ok (Tryf.shape9, FmtStop.pack x.data.toList) w := by kernel_rfl
theorem Tryf.str9 (w : World) : (typeStr 9).run Tryf.prog w = .ok "string" w := by kernel_rfl
theorem Tryf.ptr42 (w : World) : (FmtStop.ptrTo "errors.errorString").run Tryf.prog w = .ok 42 w := by kernel_rfl
theorem Tryf.elem42 (w : World) : (elemOf 42).run Tryf.prog w = .ok 44 w := by kernel_rfl
theorem Tryf.isError42 (w : World) : (FmtDoors.textMethod 42 "Error").run Tryf.prog w = .ok true w := by kernel_rfl

attribute [local go_sem] Tryf.call13 Tryf.guard Tryf.fmt0 Tryf.fmt0r Tryf.fmt1 Tryf.fmt1r Tryf.act3_100w Tryf.op3_100w Tryf.str3 Tryf.act9_113w Tryf.op9_113w Tryf.str9 Tryf.ptr42 Tryf.elem42 Tryf.isError42

/-- an error comes back, in new memory -/
def RetErr (w : World) (e : Ending) (w' : World) : Prop := ∃ p, e = .returned (.iface 42 p) ∧ Below w.heap.size w w'
theorem RetErr.mk {w : World} {e : Ending} {w' : World} (p : Value) (he : e = .returned (.iface 42 p)) (hb : Below w.heap.size w w') : RetErr w e w' := ⟨p, he, hb⟩

set_option maxHeartbeats 800000 in
theorem errorf_servers (F : Interp) (x y : Int) (blk : Nat) (w : World) (hF : F.answers w.tape)
    (hc0 : w.cell? ⟨blk, 0, none⟩ = some (.iface 3 (.int .i64 x))) (hc1 : w.cell? ⟨blk, 1, none⟩ = some (.iface 3 (.int .i64 y))) :
    Calls Tryf.prog 12 #[.string ⟨#[115, 104, 97, 114, 100, 32, 109, 97, 112, 58, 32, 37, 100, 32, 109, 101, 116, 97, 100, 97, 116, 97, 32, 115, 101, 114, 118, 101, 114, 115, 44, 32, 119, 97, 110, 116, 32, 49, 32, 116, 111, 32, 37, 100]⟩, .slice (some ⟨blk, 0, none⟩) 2 2] w (RetErr w) := by
  have hF' := answers_open hF
  go_enter Tryf.func12, Tryf.ntmps12
  go_wp2
  apply rows_value Tryf.nextTurns
  case hr =>
    go_simp
    exact ⟨rfl, rfl⟩
  case h =>
    go_wp2
    go_ret
    exact RetErr.mk _ rfl ((Below.refl _ _).alloc (Nat.le_refl _) _).drew

set_option maxHeartbeats 800000 in
theorem errorf_twice (F : Interp) (s : ByteArray) (blk : Nat) (w : World) (hF : F.answers w.tape)
    (hc0 : w.cell? ⟨blk, 0, none⟩ = some (.iface 9 (.string s))) :
    Calls Tryf.prog 12 #[.string ⟨#[115, 104, 97, 114, 100, 32, 109, 97, 112, 58, 32, 115, 101, 114, 118, 101, 114, 32, 37, 113, 32, 105, 115, 32, 108, 105, 115, 116, 101, 100, 32, 116, 119, 105, 99, 101]⟩, .slice (some ⟨blk, 0, none⟩) 1 1] w (RetErr w) := by
  have hF' := answers_open hF
  go_enter Tryf.func12, Tryf.ntmps12
  go_wp2
  apply rows_value Tryf.nextTurns
  case hr =>
    go_simp
    exact ⟨rfl, rfl⟩
  case h =>
    go_wp2
    go_ret
    exact RetErr.mk _ rfl ((Below.refl _ _).alloc (Nat.le_refl _) _).drew
end Go.Proofs.Qxb6609020aFmt
