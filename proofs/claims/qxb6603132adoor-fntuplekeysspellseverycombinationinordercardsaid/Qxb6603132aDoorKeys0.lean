/- tupleKeys of no lists: one empty key. -/
import Derived.Test.Qxb6603132aDoorZero
namespace Go.Proofs.Qxb6603132aDoor
open Go Go.RowKit

def R15z (w : World) (_g : Nat) (s3 s21 : Value) (wx : World) : Prop := w = wx ∧ s3 = .int .i64 1 ∧ s21 = .int .i64 0
def R15y (T B : Nat) (w : World) (_g : Nat) (s6 : Value) (wx : World) : Prop :=
  s6 = .slice (some ⟨T, 0, none⟩) 0 1 ∧ wx.ownsRow T 9 1 (.slice (some ⟨T, 0, none⟩) 0 1) 0 [] ∧ Scr B wx ∧ Below T w wx
def R15x (B : Nat) (w : World) (_g : Nat) (s9 s41 : Value) (wx : World) : Prop := w = wx ∧ s9 = .slice (some ⟨B, 0, none⟩) 0 64 ∧ s41 = .int .i64 0

set_option maxRecDepth 100000 in
set_option maxHeartbeats 4000000 in
theorem keys_zero (a : Option Addr) (cap : Nat) (ln : Nat → Nat) (S : Nat → Nat → ByteArray) (w : World) : Calls Tryd.prog 15 #[.slice a 0 cap] w (RetTK 0 ln S w) := by
  obtain ⟨i9, hi9, hz9, hs9, hb9⟩ := info_parts Tryd.info9'
  obtain ⟨i3, hi3, hz3, hs3, hb3⟩ := info_parts Tryd.info3'
  go_enter Tryd.func15, Tryd.ntmps15
  go_wp2
  go_loopg [3, 21] 0 (fun g s3 s21 wx => R15z w g s3 s21 wx)
  case atStart => exact ⟨rfl, rfl, rfl⟩
  case round =>
    obtain ⟨rfl, rfl, rfl⟩ := hrel
    go_wp2_with (at_make; refine wpList_make_own _ rfl _ _ 27 rfl w.heap.size 9 i9 (.string ⟨#[]⟩) 1 Tryd.underlying27 hi9 hz9 hs9 .i64 .i64 _ 1 rfl rfl rfl (by rw [hb9]; omega) (by unfold maxLen; omega) (Nat.le_refl _) ?_)
    intro w1 hown1 hgrow1
    go_wp2_with (at_make; refine wpList_make_full _ rfl _ _ 35 rfl w1.heap.size 3 i3 (.int .i64 0) 1 Tryd.underlying35 hi3 hz3 hs3 .i64 .i64 _ _ 0 rfl rfl rfl rfl (by omega) (by unfold maxLen; omega) (Nat.le_refl _) ?_)
    intro w2 hown2 hgrow2
    have hal : Tryd.prog.arrayLen 36 = 64 := by kernel_rfl
    have hsl : ∀ W, (Instr.sliceAt 36 (.pointer (some ⟨w2.heap.size, 0, none⟩)) none (some (.int .i64 0)) none).run Tryd.prog W = .ok (.slice (some ⟨w2.heap.size, 0, none⟩) 0 64) W := fun W => by
      rw [run_sliceAt_array_h W 36 ⟨w2.heap.size, 0, none⟩ (by kernel_rfl) .i64 0 (by omega) (by rw [hal]; omega)]
      rw [hal]
      go_simp
    have hT1 : w.heap.size < w1.heap.size := owns_lt hown1
    have hA2 : w1.heap.size ≤ w2.heap.size := hgrow2.size
    have HB2 := hid (((Below.refl w.heap.size w).grown hgrow1 (Nat.le_refl _) (fun _ e => by cases e)).grown hgrow2 (by omega) (fun _ e => by cases e))
    have HO2 := hid (owns_below hown1 (hgrow2.block w.heap.size hT1 (by simp)))
    clear hown1 hgrow1 hown2 hgrow2 hal
    go_wp2
    go_loopg [6] 0 (fun g s6 wx => R15y w.heap.size w2.heap.size w g s6 wx)
    case atStart => exact ⟨rfl, owns_below HO2.out (Below.heap_alloc w2 _ _ (by omega)), Scr.made w2 _ 36 rfl, HB2.out.alloc (by omega) _⟩
    case round =>
      obtain ⟨rfl, hown, hscr, hbel⟩ := hrel
      obtain ⟨wo, hwo⟩ : ∃ wo, wo = wr := ⟨_, rfl⟩
      subst hwo
      have HOwn := hid hown
      have hws : w2.heap.size < wo.heap.size := hscr.1
      have HBel := hid hbel
      clear hown hscr hbel HB2 HO2
      go_wp2
      go_loopg [9, 41] 0 (fun g s9 s41 wx => R15x w2.heap.size wo g s9 s41 wx)
      case atStart => exact ⟨rfl, rfl, rfl⟩
      case round =>
        obtain ⟨rfl, rfl, rfl⟩ := hrel
        have hcv : ∀ W, (convert 37 9 (.slice (some ⟨w2.heap.size, 0, none⟩) 0 64)).run Tryd.prog W = .ok (.string ⟨#[]⟩) W := fun W =>
          run_convert_bytes_back (P := Tryd.prog) W 37 9 5 ⟨w2.heap.size, 0, none⟩ 64 [] Tryd.underlying37 Tryd.underlying5 Tryd.underlying9 (fun j' hj' => by simp at hj')
        have HO2 := hid (owns_below HOwn.out (Below.heap_alloc wo (Obj.cells #[Value.string ⟨#[]⟩] 9) w.heap.size (by omega)))
        go_wp2_with (at_builtin; refine wpList_append_fits _ rfl _ _ 27 rfl w.heap.size 9 i9 1 Tryd.underlying27 hi9 hs9 w.heap.size 0 1 _ rfl HO2.out ⟨wo.heap.size, 0, none⟩ 1 1 [Value.string ⟨#[]⟩] rfl rfl (by intro j' u' hj'; match j', hj' with | 0, hj' => simp at hj'; subst hj'; simp [Addr.add]) (by intro u' hu'; simp at hu'; subst hu'; rfl) (by omega) ?_)
        intro w7 hown7 hgrow7
        have HO7 := hid hown7
        have hal : Below wo.heap.size wo (wo.alloc (Obj.cells #[Value.string ⟨#[]⟩] 9)) := (Below.refl wo.heap.size wo).alloc (Nat.le_refl _) _
        have HB7 := hid ((HBel.out.trans (hal.mono (by omega))).grown hgrow7 (by simp; omega) (fun k' e => by cases e; exact Nat.le_refl _))
        clear hown7 hgrow7 hal HO2 hcv
        go_wp2
        go_loopg [12] 0 (fun g s12 wx => R9z w7 g s12 wx)
        case atStart => exact ⟨rfl, rfl⟩
        case round =>
          obtain ⟨rfl, rfl⟩ := hrel
          go_wp2
          go_ret
          refine ⟨rfl, HB7.out, fun k hk => ?_⟩
          have hk1 : k < 1 := hk
          obtain rfl : k = 0 := by omega
          rw [HO7.out.cellAt 0 (by omega)]
          rfl
end Go.Proofs.Qxb6603132aDoor
