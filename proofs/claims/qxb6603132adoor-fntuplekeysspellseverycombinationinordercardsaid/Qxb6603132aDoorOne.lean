/- The law's own function, for one list. -/
import Derived.Test.Qxb6603132aDoorTop
namespace Go.Proofs.Qxb6603132aDoor
open Go Go.RowKit

def RetSl (v : Value) (w : World) (e : Ending) (w' : World) : Prop := e = .returned v ∧ w = w'

set_option maxRecDepth 100000 in
set_option maxHeartbeats 2000000 in
theorem keys_one {b o cap : Nat} {ad : Option Addr} {ln cp : Nat} (w : World) (hc : w.cell? ⟨b, o, none⟩ = some (.slice ad ln cp)) :
    Calls Tryd.prog 15 #[.slice (some ⟨b, o, none⟩) 1 cap] w (RetSl (.slice ad ln cp) w) := by
  go_enter Tryd.func15, Tryd.ntmps15
  go_wp2
  go_ret
  exact ⟨rfl, rfl⟩

set_option maxRecDepth 100000 in
theorem zz_one {b o cap : Nat} {ad : Option Addr} {ln cp : Nat} (w : World) (hc : w.cell? ⟨b, o, none⟩ = some (.slice ad ln cp)) :
    Calls Tryd.prog 8 #[.slice (some ⟨b, o, none⟩) 1 cap] w (RetSl (.slice ad ln cp) w) := by
  go_enter Tryd.func8, Tryd.ntmps8
  go_wp2_with (first | (go_at_call 15; refine (keys_one _ hc).mono ?_; rintro e w' ⟨rfl, rfl⟩))
  go_ret
  exact ⟨rfl, rfl⟩

def R3a (l : Nat) (w : World) (g : Nat) (s6 : Value) (wx : World) : Prop :=
  ∃ i : Nat, i ≤ l ∧ g = l - i ∧ s6 = .int .i64 (i : Nat) ∧ Below w.heap.size w wx

set_option maxRecDepth 100000 in
set_option maxHeartbeats 4000000 in
theorem law_one {b o cap : Nat} {ad : Nat → Option Addr} {ln cp : Nat → Nat} {S : Nat → Nat → ByteArray} (w : World) (h : Ls b o 1 ad ln cp S w) :
    Calls Tryd.prog 3 #[.slice (some ⟨b, o, none⟩) 1 cap] w (RetTrue w) := by
  have hE27 : ∀ (W : World) (a : Option Addr) (l c : Nat), (binOp .eql 27 (.slice a l c) (.slice none 0 0)).run Tryd.prog W = .ok (.bool a.isNone) W := fun W a l c => Lib.run_eql_slice_nil W 27 9 a l c 0 0 Tryd.underlying27
  have H := hid h
  clear h
  go_enter Tryd.func3, Tryd.ntmps3
  go_wp2_with (first | (go_at_call 5; refine (bytes_any _ H.out).mono ?_; rintro e w' ⟨ok, rfl, rfl⟩; refine Hid.out ?_))
  cases ok with
  | false =>
    refine Lib.hid ?_
    go_wp2
    go_ret
    exact ⟨rfl, Below.refl _ _⟩
  | true =>
    refine Lib.hid ?_
    go_wp2_with (first | (go_at_call 6; refine (bound_any _ H.out (by omega)).mono ?_; rintro e w1 ⟨ok, c, rfl, hb1, htb⟩; refine Hid.out ?_))
    have HB1 := hid hb1
    have HL1 := hid (H.out.below hb1)
    clear hb1
    cases ok with
    | false =>
      clear htb
      refine Lib.hid ?_
      go_wp2
      go_ret
      exact ⟨rfl, HB1.out⟩
    | true =>
      obtain ⟨hn6, hF, hc, _⟩ := htb rfl
      obtain rfl := hc rfl
      have HF := hid hF
      have hl0 := (hF 0 (by omega)).1
      clear htb hF hc
      refine Lib.hid ?_
      go_wp2_with (first | (go_at_call 7; refine (clone_any w1 HL1.out (by omega) (by omega) HF.out).mono ?_; rintro e w2 ⟨ad', cp', rfl, hb2, hl2⟩; refine Hid.out ?_))
      have HB2 := hid (HB1.out.trans (hb2.mono HB1.out.size))
      have HL2 := hid hl2
      have hc2 : w2.cell? ⟨w1.heap.size, 0, none⟩ = some (.slice (ad' 0) (ln 0) (cp' 0)) := hl2.out 0 (by omega)
      clear hb2 hl2 HB1 HL1
      obtain ⟨a, ha⟩ : ∃ a, a = ad' 0 := ⟨_, rfl⟩
      rw [← ha] at hc2
      have HA := hid ha
      obtain ⟨l, hl⟩ : ∃ l, l = ln 0 := ⟨_, rfl⟩
      rw [← hl] at hc2 hl0 ⊢
      have HLn := hid hl
      clear ha hl
      refine Lib.hid ?_
      go_wp2_with (first | (go_at_call 8; refine (zz_one w2 hc2).mono ?_; rintro e w3 ⟨rfl, rfl⟩))
      go_loopg [6] l (fun g s6 wx => R3a l w2 g s6 wx)
      case atStart => exact ⟨0, by omega, by omega, rfl, Below.refl _ _⟩
      case round =>
        obtain ⟨i, hi, rfl, rfl, hb⟩ := hrel
        have HB := hid hb
        by_cases hil : i < l
        · obtain ⟨bi, oi, ea, hcs⟩ := HL2.out.inn 0 (by omega) (by rw [← HLn.out]; omega)
          rw [← HA.out] at ea
          rw [← HLn.out] at hcs
          subst ea
          have hst : wr.cell? ⟨bi, oi + i, none⟩ = some (.string (S 0 i)) := by rw [hb.cell (World.block_lt_of_cell? w2 _ (hcs i hil))]; exact hcs i hil
          have hcw : wr.cell? ⟨w1.heap.size, 0, none⟩ = some (.slice (some ⟨bi, oi, none⟩) l (cp' 0)) := by rw [hb.cell (World.block_lt_of_cell? w2 _ hc2)]; exact hc2
          clear hcs hb hc2
          go_upto_region 14 with (fail)
          go_quiet (fail)
          go_wp2
          go_roundg (l - (i + 1))
          case rel => exact ⟨i + 1, by omega, rfl, by go_num, below_drewN HB.out _⟩
          case measure => omega
        · clear hb
          go_wp2
          go_ret
          exact ⟨rfl, HB2.out.trans (HB.out.mono HB2.out.size)⟩
end Go.Proofs.Qxb6603132aDoor
