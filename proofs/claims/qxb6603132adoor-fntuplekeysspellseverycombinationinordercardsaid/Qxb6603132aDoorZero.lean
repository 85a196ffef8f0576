/- No lists at all, nil or empty. -/
import Derived.Test.Qxb6603132aDoorHolds
namespace Go.Proofs.Qxb6603132aDoor
open Go Go.RowKit

def RZ (w : World) (_g : Nat) (s : Value) (wx : World) : Prop := w = wx ∧ s = .int .i64 0

set_option maxRecDepth 100000 in
set_option maxHeartbeats 2000000 in
theorem bytes_zero (a : Option Addr) (cap : Nat) (w : World) : Calls Tryd.prog 5 #[.slice a 0 cap] w (RetBool w) := by
  go_enter Tryd.func5, Tryd.ntmps5
  go_wp2
  go_loopg [4] 0 (fun g s4 wx => RZ w g s4 wx)
  case atStart => exact ⟨rfl, rfl⟩
  case round =>
    obtain ⟨rfl, rfl⟩ := hrel
    go_wp2
    go_ret
    exact RetBool.mk _

def RZ2 (w : World) (_g : Nat) (s s' : Value) (wx : World) : Prop := w = wx ∧ s = .int .i64 0 ∧ s' = .int .i64 0
def RZ3 (w : World) (_g : Nat) (s s' s'' : Value) (wx : World) : Prop := w = wx ∧ s = .int .i64 1 ∧ s' = .int .i64 0 ∧ s'' = .int .i64 0
def RetZ (w : World) (e : Ending) (w' : World) : Prop := e = .returned (.tuple #[.bool true, .int .i64 0]) ∧ w = w'

set_option maxRecDepth 100000 in
set_option maxHeartbeats 2000000 in
theorem fit_zero (a : Option Addr) (cap : Nat) (w : World) : Calls Tryd.prog 11 #[.slice a 0 cap] w (RetZ w) := by
  go_enter Tryd.func11, Tryd.ntmps11
  go_wp2
  go_loopg [5, 20] 0 (fun g s5 s20 wx => RZ2 w g s5 s20 wx)
  case atStart => exact ⟨rfl, rfl, rfl⟩
  case round =>
    obtain ⟨rfl, rfl, rfl⟩ := hrel
    go_wp2
    go_ret2
    exact ⟨rfl, rfl⟩

set_option maxRecDepth 100000 in
set_option maxHeartbeats 2000000 in
theorem bound_zero (a : Option Addr) (cap : Nat) (ln : Nat → Nat) (S : Nat → Nat → ByteArray) (w : World) : Calls Tryd.prog 6 #[.slice a 0 cap] w (RetTB 0 ln S w) := by
  go_enter Tryd.func6, Tryd.ntmps6
  go_wp2_with (first | (go_at_call 11; refine (fit_zero _ _ _).mono ?_; rintro e w' ⟨rfl, rfl⟩))
  go_loopg [31] 0 (fun g s31 wx => RZ w g s31 wx)
  case atStart => exact ⟨rfl, rfl⟩
  case round =>
    obtain ⟨rfl, rfl⟩ := hrel
    go_wp2
    go_loopg [8, 9, 41] 0 (fun g s8 s9 s41 wx => RZ3 w g s8 s9 s41 wx)
    case atStart => exact ⟨rfl, rfl, rfl, rfl⟩
    case round =>
      obtain ⟨rfl, rfl, rfl, rfl⟩ := hrel
      go_wp2_with (first | (go_at_call 14; refine (sat_any _ _ _ _).mono ?_; rintro e w' ⟨t, rfl, rfl⟩))
      · go_ret2
        exact RetTB.no
      · go_ret2
        exact ⟨true, _, rfl, Below.refl _ _, fun _ => ⟨by omega, fun i hi => by omega, fun h => by omega, fun _ => ⟨rfl, by simp [pr]⟩⟩⟩

def RetCZ (w : World) (e : Ending) (w' : World) : Prop := ∃ a' : Option Addr, e = .returned (.slice a' 0 0) ∧ Below w.heap.size w w'

set_option maxRecDepth 100000 in
set_option maxHeartbeats 2000000 in
theorem clone_zero (a : Option Addr) (cap : Nat) (w : World) : Calls Tryd.prog 7 #[.slice a 0 cap] w (RetCZ w) := by
  obtain ⟨i27, hi27, hz27, hs27, hb27⟩ := info_parts Tryd.info27'
  have hE22 : ∀ (W : World) (a : Option Addr) (l c : Nat), (binOp .eql 22 (.slice a l c) (.slice none 0 0)).run Tryd.prog W = .ok (.bool a.isNone) W := fun W a l c => Lib.run_eql_slice_nil W 22 27 a l c 0 0 Tryd.underlying22
  cases a with
  | none =>
    go_enter Tryd.func7, Tryd.ntmps7
    go_wp2
    go_ret
    exact ⟨none, rfl, Below.refl _ _⟩
  | some a =>
    go_enter Tryd.func7, Tryd.ntmps7
    go_wp2_with (at_make; refine wpList_make_full _ rfl _ _ 22 rfl w.heap.size 27 i27 (.slice none 0 0) 1 Tryd.underlying22 hi27 hz27 hs27 .i64 .i64 _ _ 0 rfl rfl rfl rfl (by omega) (by unfold maxLen; omega) (Nat.le_refl _) ?_)
    intro w1 hown1 hgrow1
    have HB1 := hid ((Below.refl w.heap.size w).grown hgrow1 (Nat.le_refl _) (fun _ e => by cases e))
    clear hown1 hgrow1
    go_wp2
    go_loopg [4] 0 (fun g s4 wx => RZ w1 g s4 wx)
    case atStart => exact ⟨rfl, rfl⟩
    case round =>
      obtain ⟨rfl, rfl⟩ := hrel
      go_wp2
      go_ret
      exact ⟨_, rfl, HB1.out⟩

def R9z (w : World) (_g : Nat) (s : Value) (wx : World) : Prop := w = wx ∧ s = .int .i64 (-1)

set_option maxRecDepth 100000 in
set_option maxHeartbeats 2000000 in
theorem holds_zero (a : Option Addr) (cap : Nat) (k : Int) (w : World) : Calls Tryd.prog 9 #[.string ⟨#[]⟩, .slice a 0 cap, .int .i64 k] w (RetTrue w) := by
  obtain ⟨i3, hi3, hz3, hs3, hb3⟩ := info_parts Tryd.info3'
  go_enter Tryd.func9, Tryd.ntmps9
  go_wp2_with (at_make; refine wpList_make_full _ rfl _ _ 35 rfl w.heap.size 3 i3 (.int .i64 0) 1 Tryd.underlying35 hi3 hz3 hs3 .i64 .i64 _ _ 0 rfl rfl rfl rfl (by omega) (by unfold maxLen; omega) (Nat.le_refl _) ?_)
  intro w1 hown1 hgrow1
  have HB1 := hid ((Below.refl w.heap.size w).grown hgrow1 (Nat.le_refl _) (fun _ e => by cases e))
  clear hown1 hgrow1
  go_wp2
  go_loopg [9] 0 (fun g s9 wx => R9z w1 g s9 wx)
  case atStart => exact ⟨rfl, rfl⟩
  case round =>
    obtain ⟨rfl, rfl⟩ := hrel
    go_wp2
    go_loopg [11] 0 (fun g s11 wx => RZ w1 g s11 wx)
    case atStart => exact ⟨rfl, rfl⟩
    case round =>
      obtain ⟨rfl, rfl⟩ := hrel
      go_wp2
      go_ret
      exact ⟨rfl, HB1.out⟩
end Go.Proofs.Qxb6603132aDoor
