/-
  fmt.Errorf over this seat's stop, by two contracts. The text stays open (for every F).
-/
import Derived.Test.Qxb6613513aFmtBase
import Derived.Stop.CallBack
import Derived.Stop.IfaceNil
import Derived.BigCall
import GoSem.ClaimData
namespace Go.Proofs.Qxb6613513aFmt
open Go.RowKit Go.Extern.Stop Go.Stop Go.Extern

theorem Tryf.call26 (args : Array Value) (w : World) : (callFunc 26 args).run Tryf.prog w = (FmtCalls.errorf #[9, 50] #[26] args).run Tryf.prog w :=
  run_callFunc_next Tryf.func26 (by kernel_rfl) (by kernel_rfl) (by kernel_rfl) args w
theorem Tryf.guard (name : String) (w : World) : (FmtStop.guard name).run Tryf.prog w = .ok () w := by kernel_rfl
theorem Tryf.nextTurns : Extern.next FmtCalls.turnsRow = some (FmtCalls.begun #[] #[]) := by kernel_rfl
theorem Tryf.fmt0 : FmtStop.printed? ⟨#[37, 115, 32, 105, 115, 32, 109, 105, 115, 115, 105, 110, 103, 44, 32, 97, 110, 100, 32, 97, 32, 37, 118, 32, 37, 115, 32, 110, 101, 101, 100, 115, 32, 105, 116]⟩ 3 = some [(0, 115, false), (1, 118, false), (2, 115, false)] := by kernel_rfl
theorem Tryf.fmt0r (w : World) : (FmtDoors.printed ⟨#[37, 115, 32, 105, 115, 32, 109, 105, 115, 115, 105, 110, 103, 44, 32, 97, 110, 100, 32, 97, 32, 37, 118, 32, 37, 115, 32, 110, 101, 101, 100, 115, 32, 105, 116]⟩ 3).run Tryf.prog w = .ok [(0, 115, false), (1, 118, false), (2, 115, false)] w := by kernel_rfl
theorem Tryf.fmt1 : FmtStop.printed? ⟨#[37, 115, 32, 105, 115, 32, 103, 105, 118, 101, 110, 44, 32, 97, 110, 100, 32, 97, 32, 37, 118, 32, 37, 115, 32, 116, 97, 107, 101, 115, 32, 110, 111, 110, 101]⟩ 3 = some [(0, 115, false), (1, 118, false), (2, 115, false)] := by kernel_rfl
theorem Tryf.fmt1r (w : World) : (FmtDoors.printed ⟨#[37, 115, 32, 105, 115, 32, 103, 105, 118, 101, 110, 44, 32, 97, 110, 100, 32, 97, 32, 37, 118, 32, 37, 115, 32, 116, 97, 107, 101, 115, 32, 110, 111, 110, 101]⟩ 3).run Tryf.prog w = .ok [(0, 115, false), (1, 118, false), (2, 115, false)] w := by kernel_rfl
def Tryf.shape3 : List UInt8 := [5, 3, 0, 0, 0, 0, 0, 0, 0, 105, 110, 116]
theorem Tryf.act3_118w (name : String) (x : Value) (w : World) : (FmtCalls.act name true 118 false (.iface 3 x)).run Tryf.prog w = .ok (.closed true) w := by kernel_rfl
theorem Tryf.op3_118w (name : String) (x : Int) (w : World) : (FmtStop.operand name true 118 false (.iface 3 (.int .i64 x))).run Tryf.prog w = .ok (Tryf.shape3, Go.Extern.Stop.digits 8 (x % 2 ^ 64).toNat) w := by kernel_rfl
theorem Tryf.str3 (w : World) : (typeStr 3).run Tryf.prog w = .ok "int" w := by kernel_rfl
def Tryf.shape9 : List UInt8 := [12, 6, 0, 0, 0, 0, 0, 0, 0, 115, 116, 114, 105, 110, 103]
theorem Tryf.act9_115w (name : String) (x : Value) (w : World) : (FmtCalls.act name true 115 false (.iface 9 x)).run Tryf.prog w = .ok (.closed true) w := by kernel_rfl
theorem Tryf.op9_115w (name : String) (x : ByteArray) (w : World) : (FmtStop.operand name true 115 false (.iface 9 (.string x))).run Tryf.prog w = .ok (Tryf.shape9, FmtStop.pack x.data.toList) w := by kernel_rfl
theorem Tryf.str9 (w : World) : (typeStr 9).run Tryf.prog w = .ok "string" w := by kernel_rfl
theorem Tryf.ptr44 (w : World) : (FmtStop.ptrTo "errors.errorString").run Tryf.prog w = .ok 44 w := by kernel_rfl
theorem Tryf.elem44 (w : World) : (elemOf 44).run Tryf.prog w = .ok 46 w := by kernel_rfl
theorem Tryf.isError44 (w : World) : (FmtDoors.textMethod 44 "Error").run Tryf.prog w = .ok true w := by kernel_rfl

attribute [local go_sem] Tryf.call26 Tryf.guard Tryf.fmt0 Tryf.fmt0r Tryf.fmt1 Tryf.fmt1r Tryf.act3_118w Tryf.op3_118w Tryf.str3 Tryf.act9_115w Tryf.op9_115w Tryf.str9 Tryf.ptr44 Tryf.elem44 Tryf.isError44

/-- an error comes back, in new memory -/
def RetErr (w : World) (e : Ending) (w' : World) : Prop := ∃ p, e = .returned (.iface 44 p) ∧ Below w.heap.size w w'
theorem RetErr.mk {w : World} {e : Ending} {w' : World} (p : Value) (he : e = .returned (.iface 44 p)) (hb : Below w.heap.size w w') : RetErr w e w' := ⟨p, he, hb⟩

set_option maxHeartbeats 800000 in
theorem errorf_missing (F : Interp) (s t : ByteArray) (x : Int) (blk : Nat) (w : World) (hF : F.answers w.tape)
    (hc0 : w.cell? ⟨blk, 0, none⟩ = some (.iface 9 (.string s))) (hc1 : w.cell? ⟨blk, 1, none⟩ = some (.iface 3 (.int .i64 x))) (hc2 : w.cell? ⟨blk, 2, none⟩ = some (.iface 9 (.string t))) :
    Calls Tryf.prog 22 #[.string ⟨#[37, 115, 32, 105, 115, 32, 109, 105, 115, 115, 105, 110, 103, 44, 32, 97, 110, 100, 32, 97, 32, 37, 118, 32, 37, 115, 32, 110, 101, 101, 100, 115, 32, 105, 116]⟩, .slice (some ⟨blk, 0, none⟩) 3 3] w (RetErr w) := by
  have hF' := answers_open hF
  go_enter Tryf.func22, Tryf.ntmps22
  go_wp2
  apply rows_value Tryf.nextTurns
  case hr =>
    go_simp
    exact ⟨rfl, rfl⟩
  case h =>
    go_wp2
    go_ret
    exact RetErr.mk _ rfl ((Below.refl _ _).alloc (Nat.le_refl _) _).drew

set_option maxHeartbeats 800000 in
theorem errorf_given (F : Interp) (s t : ByteArray) (x : Int) (blk : Nat) (w : World) (hF : F.answers w.tape)
    (hc0 : w.cell? ⟨blk, 0, none⟩ = some (.iface 9 (.string s))) (hc1 : w.cell? ⟨blk, 1, none⟩ = some (.iface 3 (.int .i64 x))) (hc2 : w.cell? ⟨blk, 2, none⟩ = some (.iface 9 (.string t))) :
    Calls Tryf.prog 22 #[.string ⟨#[37, 115, 32, 105, 115, 32, 103, 105, 118, 101, 110, 44, 32, 97, 110, 100, 32, 97, 32, 37, 118, 32, 37, 115, 32, 116, 97, 107, 101, 115, 32, 110, 111, 110, 101]⟩, .slice (some ⟨blk, 0, none⟩) 3 3] w (RetErr w) := by
  have hF' := answers_open hF
  go_enter Tryf.func22, Tryf.ntmps22
  go_wp2
  apply rows_value Tryf.nextTurns
  case hr =>
    go_simp
    exact ⟨rfl, rfl⟩
  case h =>
    go_wp2
    go_ret
    exact RetErr.mk _ rfl ((Below.refl _ _).alloc (Nat.le_refl _) _).drew

/-- checkKindKeys accepts: every key of takes is seen; every seen key is in common, takes or may -/
def Acc (nS : Nat) (S : Nat → ByteArray) (nC : Nat) (C : Nat → ByteArray) (nT : Nat) (T : Nat → ByteArray) (nM : Nat) (M : Nat → ByteArray) : Prop :=
  (∀ i, i < nT → Mem nS S (T i)) ∧ ∀ i, i < nS → Mem nC C (S i) ∨ Mem nT T (S i) ∨ Mem nM M (S i)

/-- nil just where A holds, else an error -/
def NilIff (A : Prop) (w : World) (e : Ending) (w' : World) : Prop := Below w.heap.size w w' ∧ ((A ∧ e = .returned .nilIface) ∨ (¬ A ∧ ∃ p, e = .returned (.iface 44 p)))
theorem NilIff.yes {A : Prop} {w : World} {e : Ending} {w' : World} (hb : Below w.heap.size w w') (h : A) (he : e = .returned .nilIface) : NilIff A w e w' := ⟨hb, Or.inl ⟨h, he⟩⟩
theorem NilIff.no {A : Prop} {w : World} {e : Ending} {w' : World} (p : Value) (hb : Below w.heap.size w w') (h : ¬ A) (he : e = .returned (.iface 44 p)) : NilIff A w e w' := ⟨hb, Or.inr ⟨h, p, he⟩⟩

set_option maxHeartbeats 2000000 in
theorem check17 (F : Interp) (aS aC aT aM : Option Addr) (nS cS nC cC nT cT nM cM : Nat) (S C T M : Nat → ByteArray) (noun : ByteArray) (w : World) (hF : F.answers w.tape)
    (bS : nS ≤ 1048576) (bC : nC ≤ 1048576) (bT : nT ≤ 1048576) (bM : nM ≤ 1048576)
    (hS : StrRow w aS nS S) (hC : StrRow w aC nC C) (hT : StrRow w aT nT T) (hM : StrRow w aM nM M) :
    Calls Tryf.prog 17 #[.slice aS nS cS, .slice aC nC cC, .slice aT nT cT, .slice aM nM cM, .iface 3 (.int .i64 0), .string noun] w (NilIff (Acc nS S nC C nT T nM M) w) := by
  go_enter Tryf.func17, Tryf.ntmps17
  go_wp2
  go_loop [19] (fun i => ∃ k : Nat, k ≤ nT ∧ i = .int .i64 k ∧ Hid (∀ j, j < k → Mem nS S (T j))) (fun i => nT - (intOf i).toNat)
  case atStart => exact ⟨0, Nat.zero_le _, rfl, fun j h => absurd h (by omega)⟩
  case round =>
    obtain ⟨k, hk, rfl, H⟩ := hrel
    by_cases hlt : k < nT
    · obtain ⟨b, off, hab, hb, hc⟩ := hT k hlt
      subst hab
      go_wp2_with fail
      refine (contains21 aS nS cS S (T k) w bS hS).mono ?_
      rintro e w' ⟨r, rfl, rfl, hr⟩
      cases r
      · have hno : ¬ Acc nS S nC C nT T nM M := fun A => by have := hr.2 (A.1 k hlt); simp at this
        clear hr
        go_wp2_with fail
        refine (errorf_missing F (T k) noun 0 _ _ (by exact hF) (by go_simp) (by go_simp) (by go_simp)).mono ?_
        rintro e w2 ⟨p, rfl, hb⟩
        go_wp2
        go_ret
        exact NilIff.no p (((Below.refl _ _).alloc (Nat.le_refl _) _).trans (hb.mono (by simp))) hno rfl
      · have hyes := hr.1 rfl
        clear hr
        go_wp2
        go_round
        case rel => exact ⟨k + 1, by omega, by go_num, fun j hj => by
          by_cases e : j = k
          · subst e; exact hyes
          · exact H.out j (by omega)⟩
        case measure => simp [intOf]; omega
    · have e : k = nT := by omega
      subst e
      go_wp2
      go_loop [37] (fun i => ∃ m : Nat, m ≤ nS ∧ i = .int .i64 m ∧ Hid (∀ j, j < m → Mem nC C (S j) ∨ Mem k T (S j) ∨ Mem nM M (S j))) (fun i => nS - (intOf i).toNat)
      case atStart => exact ⟨0, Nat.zero_le _, rfl, fun j h => absurd h (by omega)⟩
      case round =>
        obtain ⟨m, hm, rfl, H2⟩ := hrel
        by_cases hmt : m < nS
        · obtain ⟨b, off, hab, hb, hc⟩ := hS m hmt
          have step : (Mem nC C (S m) ∨ Mem k T (S m) ∨ Mem nM M (S m)) → ∀ j, j < m + 1 → Mem nC C (S j) ∨ Mem k T (S j) ∨ Mem nM M (S j) := fun h j hj => by
            by_cases e : j = m
            · subst e; exact h
            · exact H2.out j (by omega)
          have STEP : Hid ((Mem nC C (S m) ∨ Mem k T (S m) ∨ Mem nM M (S m)) → ∀ j, j < m + 1 → Mem nC C (S j) ∨ Mem k T (S j) ∨ Mem nM M (S j)) := step
          clear step
          subst hab
          go_wp2_with fail
          refine (contains21 aC nC cC C (S m) w bC hC).mono ?_
          rintro e w' ⟨r, rfl, rfl, hr1⟩
          cases r
          rotate_left
          · have h1 := hr1.1 rfl
            clear hr1
            go_wp2
            go_round
            case rel => exact ⟨m + 1, by omega, by go_num, STEP.out (Or.inl h1)⟩
            case measure => simp [intOf]; omega
          have n1 : Hid (¬ Mem nC C (S m)) := fun h => by have := hr1.2 h; simp at this
          clear hr1
          go_wp2_with fail
          refine (contains21 aT k cT T (S m) _ bT hT).mono ?_
          rintro e w' ⟨r, rfl, rfl, hr1⟩
          cases r
          rotate_left
          · have h1 := hr1.1 rfl
            clear hr1
            go_wp2
            go_round
            case rel => exact ⟨m + 1, by omega, by go_num, STEP.out (Or.inr (Or.inl h1))⟩
            case measure => simp [intOf]; omega
          have n2 : Hid (¬ Mem k T (S m)) := fun h => by have := hr1.2 h; simp at this
          clear hr1
          go_wp2_with fail
          refine (contains21 aM nM cM M (S m) _ bM hM).mono ?_
          rintro e w' ⟨r, rfl, rfl, hr1⟩
          cases r
          rotate_left
          · have h1 := hr1.1 rfl
            clear hr1
            go_wp2
            go_round
            case rel => exact ⟨m + 1, by omega, by go_num, STEP.out (Or.inr (Or.inr h1))⟩
            case measure => simp [intOf]; omega
          have n3 : Hid (¬ Mem nM M (S m)) := fun h => by have := hr1.2 h; simp at this
          clear hr1
          have hno : ¬ Acc nS S nC C k T nM M := fun A => by
            rcases A.2 m hmt with h | h | h
            · exact n1.out h
            · exact n2.out h
            · exact n3.out h
          go_wp2_with fail
          refine (errorf_given F (S m) noun 0 _ _ (by exact hF) (by go_simp) (by go_simp) (by go_simp)).mono ?_
          rintro e w2 ⟨p, rfl, hb⟩
          go_wp2
          go_ret
          exact NilIff.no p (((Below.refl _ _).alloc (Nat.le_refl _) _).trans (hb.mono (by simp))) hno rfl
        · go_wp2
          go_ret
          exact NilIff.yes (Below.refl _ _) ⟨fun i hi => H.out i hi, fun i hi => H2.out i (by omega)⟩ rfl

/-- ZZcheckKindKeys -/
theorem check8 (F : Interp) (aS aC aT aM : Option Addr) (nS cS nC cC nT cT nM cM : Nat) (S C T M : Nat → ByteArray) (noun : ByteArray) (w : World) (hF : F.answers w.tape)
    (bS : nS ≤ 1048576) (bC : nC ≤ 1048576) (bT : nT ≤ 1048576) (bM : nM ≤ 1048576)
    (hS : StrRow w aS nS S) (hC : StrRow w aC nC C) (hT : StrRow w aT nT T) (hM : StrRow w aM nM M) :
    Calls Tryf.prog 8 #[.slice aS nS cS, .slice aC nC cC, .slice aT nT cT, .slice aM nM cM, .string noun] w (NilIff (Acc nS S nC C nT T nM M) w) := by
  go_enter Tryf.func8, Tryf.ntmps8
  go_wp2_with fail
  refine (check17 F aS aC aT aM nS cS nC cC nT cT nM cM S C T M noun w hF bS bC bT bM hS hC hT hM).mono ?_
  rintro e w' ⟨hb, ⟨hA, rfl⟩ | ⟨hA, p, rfl⟩⟩
  · go_wp2
    go_ret
    exact NilIff.yes hb hA rfl
  · go_wp2
    go_ret
    exact NilIff.no p hb hA rfl
end Go.Proofs.Qxb6613513aFmt
