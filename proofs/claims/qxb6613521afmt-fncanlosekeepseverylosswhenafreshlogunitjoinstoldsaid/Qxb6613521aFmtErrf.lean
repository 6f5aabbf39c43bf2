/-
  fmt.Errorf over this seat's stop, by the shapes of its operands. The text stays open (for every F).
-/
import Derived.Test.Qxb6613521aFmtPre
import Derived.Stop.CallBack
import Derived.Stop.IfaceNil
import Derived.BigCall
import GoSem.ClaimData
namespace Go.Proofs.Qxb6613521aFmt
open Go.RowKit Go.Extern.Stop Go.Stop Go.Extern

theorem Tryf.call25 (args : Array Value) (w : World) : (callFunc 25 args).run Tryf.prog w = ((FmtStop.errorf #[9, 53] #[33] args).run Tryf.prog w).andThen fun v w' => .ok (.value v) w' :=
  run_callFunc_extern Tryf.func25 (by kernel_rfl) (by kernel_rfl) (by kernel_rfl) (by kernel_rfl) args w
theorem Tryf.guard (name : String) (w : World) : (FmtStop.guard name).run Tryf.prog w = .ok () w := by kernel_rfl
def Tryf.shape22 : List UInt8 := [9, 6, 0, 0, 0, 0, 0, 0, 0, 117, 105, 110, 116, 54, 52]
theorem Tryf.op22_100w (name : String) (x : Int) (w : World) : (FmtStop.operand name true 100 false (.iface 22 (.int .u64 x))).run Tryf.prog w = .ok (Tryf.shape22, Go.Extern.Stop.digits 8 (x % 2 ^ 64).toNat) w := by kernel_rfl
theorem Tryf.str22 (w : World) : (typeStr 22).run Tryf.prog w = .ok "uint64" w := by kernel_rfl
def Tryf.shape9 : List UInt8 := [12, 6, 0, 0, 0, 0, 0, 0, 0, 115, 116, 114, 105, 110, 103]
theorem Tryf.op9_115w (name : String) (x : ByteArray) (w : World) : (FmtStop.operand name true 115 false (.iface 9 (.string x))).run Tryf.prog w = .ok (Tryf.shape9, FmtStop.pack x.data.toList) w := by kernel_rfl
theorem Tryf.str9 (w : World) : (typeStr 9).run Tryf.prog w = .ok "string" w := by kernel_rfl
theorem Tryf.str56 (w : World) : (typeStr 56).run Tryf.prog w = .ok "*errors.errorString" w := by kernel_rfl
theorem Tryf.str54 (w : World) : (typeStr 54).run Tryf.prog w = .ok "*fmt.wrapError" w := by kernel_rfl
theorem Tryf.ptr54 (w : World) : (FmtStop.ptrTo "fmt.wrapError").run Tryf.prog w = .ok 54 w := by kernel_rfl
theorem Tryf.elem54 (w : World) : (elemOf 54).run Tryf.prog w = .ok 82 w := by kernel_rfl
theorem Tryf.isError54 (w : World) : (FmtDoors.textMethod 54 "Error").run Tryf.prog w = .ok true w := by kernel_rfl
theorem Tryf.isError56 (w : World) : (FmtDoors.textMethod 56 "Error").run Tryf.prog w = .ok true w := by kernel_rfl
def Tryf.plain56 : List UInt8 := 14 :: FmtStop.pack "*errors.errorString".toUTF8.data.toList
theorem Tryf.opPlain56_119w (name : String) (a : Addr) (s : ByteArray) (w : World) (hc : w.cell? a = some (.string s)) :
    (FmtStop.operand name true 119 false (.iface 56 (.pointer (some a)))).run Tryf.prog w = .ok (Tryf.plain56, s.data.toList) w := by
  have h1 : (typeStr 56).run Tryf.prog w = .ok "*errors.errorString" w := by kernel_rfl
  have d2 : Tryf.t56.desc = .pointer 58 := rfl
  have d3 : Tryf.t58.desc = .named "errors.errorString" 57 := rfl
  simp [FmtStop.operand, h1, d2, d3, run_load, hc, Tryf.plain56]
def Tryf.plain54 : List UInt8 := 14 :: FmtStop.pack "*fmt.wrapError".toUTF8.data.toList
theorem Tryf.opPlain54_119w (name : String) (a : Addr) (s : ByteArray) (w : World) (hc : w.cell? a = some (.string s)) :
    (FmtStop.operand name true 119 false (.iface 54 (.pointer (some a)))).run Tryf.prog w = .ok (Tryf.plain54, s.data.toList) w := by
  have h1 : (typeStr 54).run Tryf.prog w = .ok "*fmt.wrapError" w := by kernel_rfl
  have d2 : Tryf.t54.desc = .pointer 82 := rfl
  have d3 : Tryf.t82.desc = .named "fmt.wrapError" 81 := rfl
  simp [FmtStop.operand, h1, d2, d3, run_load, hc, Tryf.plain54]

attribute [local go_sem] Tryf.call25 Tryf.guard Tryf.op22_100w Tryf.str22 Tryf.op9_115w Tryf.str9 Tryf.str56 Tryf.str54 Tryf.ptr54 Tryf.elem54 Tryf.isError54 Tryf.isError56

/-- an error of fmt.Errorf's make: its text lies in memory -/
def IsErr (w : World) (v : Value) : Prop := ∃ ad s, v = .iface 54 (.pointer (some ad)) ∧ w.cell? ad = some (.string s)
/-- an error comes back, in new memory -/
def RetErr (w : World) (e : Ending) (w' : World) : Prop := ∃ v, e = .returned v ∧ IsErr w' v ∧ Below w.heap.size w w'

theorem cell_two_new0 (w : World) (u v : Value) (t : TypeId) : (w.alloc (.cells #[u, v] t)).drew.cell? ⟨w.heap.size, 0, none⟩ = some u := (Blk.new w t #[u, v]).cell 0

set_option maxHeartbeats 1000000 in
/-- "%w: .." -/
theorem errf1 (F : Interp) (f : ByteArray) (hfr : ∀ w, (FmtDoors.printed f 1).run Tryf.prog w = .ok [(0, 119, false)] w)
    (ad : Addr) (s : ByteArray) (blk : Nat) (w : World) (hF : F.answers w.tape)
    (hc0 : w.cell? ⟨blk, 0, none⟩ = some (.iface 56 (.pointer (some ad)))) (hs : w.cell? ad = some (.string s)) :
    Calls Tryf.prog 18 #[.string f, .slice (some ⟨blk, 0, none⟩) 1 1] w (RetErr w) := by
  have hF' := answers_open hF
  have hop := fun name => Tryf.opPlain56_119w name ad s w hs
  go_enter Tryf.func18, Tryf.ntmps18
  go_wp2
  go_ret
  exact ⟨_, rfl, ⟨_, _, rfl, cell_two_new0 w _ _ 82⟩, ((Below.refl _ _).alloc (Nat.le_refl _) _).drew⟩

set_option maxHeartbeats 1000000 in
/-- "%w: .. %s" -/
theorem errf2 (F : Interp) (f : ByteArray) (hfr : ∀ w, (FmtDoors.printed f 2).run Tryf.prog w = .ok [(0, 119, false), (1, 115, false)] w)
    (ad : Addr) (s : ByteArray) (t : ByteArray) (blk : Nat) (w : World) (hF : F.answers w.tape)
    (hc0 : w.cell? ⟨blk, 0, none⟩ = some (.iface 56 (.pointer (some ad)))) (hs : w.cell? ad = some (.string s)) (hc1 : w.cell? ⟨blk, 1, none⟩ = some (.iface 9 (.string t))) :
    Calls Tryf.prog 18 #[.string f, .slice (some ⟨blk, 0, none⟩) 2 2] w (RetErr w) := by
  have hF' := answers_open hF
  have hop := fun name => Tryf.opPlain56_119w name ad s w hs
  go_enter Tryf.func18, Tryf.ntmps18
  go_wp2
  go_ret
  exact ⟨_, rfl, ⟨_, _, rfl, cell_two_new0 w _ _ 82⟩, ((Below.refl _ _).alloc (Nat.le_refl _) _).drew⟩

set_option maxHeartbeats 1000000 in
/-- "%w: .. %d" -/
theorem errf3 (F : Interp) (f : ByteArray) (hfr : ∀ w, (FmtDoors.printed f 2).run Tryf.prog w = .ok [(0, 119, false), (1, 100, false)] w)
    (ad : Addr) (s : ByteArray) (x : Int) (blk : Nat) (w : World) (hF : F.answers w.tape)
    (hc0 : w.cell? ⟨blk, 0, none⟩ = some (.iface 56 (.pointer (some ad)))) (hs : w.cell? ad = some (.string s)) (hc1 : w.cell? ⟨blk, 1, none⟩ = some (.iface 22 (.int .u64 x))) :
    Calls Tryf.prog 18 #[.string f, .slice (some ⟨blk, 0, none⟩) 2 2] w (RetErr w) := by
  have hF' := answers_open hF
  have hop := fun name => Tryf.opPlain56_119w name ad s w hs
  go_enter Tryf.func18, Tryf.ntmps18
  go_wp2
  go_ret
  exact ⟨_, rfl, ⟨_, _, rfl, cell_two_new0 w _ _ 82⟩, ((Below.refl _ _).alloc (Nat.le_refl _) _).drew⟩

set_option maxHeartbeats 1000000 in
/-- "%w: %s .. %d" -/
theorem errf4 (F : Interp) (f : ByteArray) (hfr : ∀ w, (FmtDoors.printed f 3).run Tryf.prog w = .ok [(0, 119, false), (1, 115, false), (2, 100, false)] w)
    (ad : Addr) (s : ByteArray) (t : ByteArray) (x : Int) (blk : Nat) (w : World) (hF : F.answers w.tape)
    (hc0 : w.cell? ⟨blk, 0, none⟩ = some (.iface 56 (.pointer (some ad)))) (hs : w.cell? ad = some (.string s)) (hc1 : w.cell? ⟨blk, 1, none⟩ = some (.iface 9 (.string t))) (hc2 : w.cell? ⟨blk, 2, none⟩ = some (.iface 22 (.int .u64 x))) :
    Calls Tryf.prog 18 #[.string f, .slice (some ⟨blk, 0, none⟩) 3 3] w (RetErr w) := by
  have hF' := answers_open hF
  have hop := fun name => Tryf.opPlain56_119w name ad s w hs
  go_enter Tryf.func18, Tryf.ntmps18
  go_wp2
  go_ret
  exact ⟨_, rfl, ⟨_, _, rfl, cell_two_new0 w _ _ 82⟩, ((Below.refl _ _).alloc (Nat.le_refl _) _).drew⟩

set_option maxHeartbeats 1000000 in
/-- ".. %s: %w" -/
theorem errf5 (F : Interp) (f : ByteArray) (hfr : ∀ w, (FmtDoors.printed f 2).run Tryf.prog w = .ok [(0, 115, false), (1, 119, false)] w)
    (ad : Addr) (s : ByteArray) (t : ByteArray) (blk : Nat) (w : World) (hF : F.answers w.tape)
    (hc1 : w.cell? ⟨blk, 1, none⟩ = some (.iface 54 (.pointer (some ad)))) (hs : w.cell? ad = some (.string s)) (hc0 : w.cell? ⟨blk, 0, none⟩ = some (.iface 9 (.string t))) :
    Calls Tryf.prog 18 #[.string f, .slice (some ⟨blk, 0, none⟩) 2 2] w (RetErr w) := by
  have hF' := answers_open hF
  have hop := fun name => Tryf.opPlain54_119w name ad s w hs
  go_enter Tryf.func18, Tryf.ntmps18
  go_wp2
  go_ret
  exact ⟨_, rfl, ⟨_, _, rfl, cell_two_new0 w _ _ 82⟩, ((Below.refl _ _).alloc (Nat.le_refl _) _).drew⟩

end Go.Proofs.Qxb6613521aFmt
