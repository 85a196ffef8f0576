/- The law's own function, for no lists and for two lists or more. -/
import Derived.Test.Qxb6603132aDoorKeys0
namespace Go.Proofs.Qxb6603132aDoor
open Go Go.RowKit

set_option maxRecDepth 100000 in
theorem zz_any {a : Option Addr} {n cap : Nat} {ln : Nat → Nat} {S : Nat → Nat → ByteArray} (w : World) (h : Calls Tryd.prog 15 #[.slice a n cap] w (RetTK n ln S w)) : Calls Tryd.prog 8 #[.slice a n cap] w (RetTK n ln S w) := by
  have H := hid h
  clear h
  go_enter Tryd.func8, Tryd.ntmps8
  go_wp2_with (first | (go_at_call 15; refine H.out.mono ?_; rintro e w' ⟨rfl, h2, h3⟩; have H2 := hid h2; have H3 := hid h3; clear h2 h3))
  go_ret
  exact ⟨rfl, H2.out, H3.out⟩

def RetG (n : Nat) (Inv : Option Addr → World → Prop) (w : World) (e : Ending) (w' : World) : Prop :=
  ∃ a' : Option Addr, e = .returned (.slice a' n n) ∧ Below w.heap.size w w' ∧ Inv a' w'

def R3b (n : Nat) (ln : Nat → Nat) (S : Nat → Nat → ByteArray) (Inv : Option Addr → World → Prop) (a' : Option Addr) (T : Nat) (w : World) (g : Nat) (s7 : Value) (wx : World) : Prop :=
  ∃ k : Nat, k ≤ pr ln n ∧ g = pr ln n - k ∧ s7 = .int .i64 (k : Nat) ∧ Inv a' wx ∧ Below w.heap.size w wx ∧ ∀ i, i < pr ln n → wx.cell? ⟨T, i, none⟩ = some (.string ⟨(tx n S (dig ln n i) n).toArray⟩)

set_option maxRecDepth 100000 in
set_option maxHeartbeats 4000000 in
theorem law_gen {n cap : Nat} {a : Option Addr} {ln : Nat → Nat} {S : Nat → Nat → ByteArray} (w : World) (Inv : Option Addr → World → Prop) (hne : n ≠ 1)
    (h5 : Calls Tryd.prog 5 #[.slice a n cap] w (RetBool w))
    (h6 : Calls Tryd.prog 6 #[.slice a n cap] w (RetTB n ln S w))
    (h7 : ∀ w1, Below w.heap.size w w1 → n ≤ 65536 → FitB n ln S → Calls Tryd.prog 7 #[.slice a n cap] w1 (RetG n Inv w1))
    (h15 : ∀ a' w2, Below w.heap.size w w2 → Inv a' w2 → n ≤ 65536 → FitB n ln S → pr ln n ≤ 65536 → Calls Tryd.prog 15 #[.slice a' n n] w2 (RetTK n ln S w2))
    (h9 : ∀ a' w3 (k : Nat), Inv a' w3 → n ≤ 65536 → FitB n ln S → pr ln n ≤ 65536 → k < pr ln n → Calls Tryd.prog 9 #[.string ⟨(tx n S (dig ln n k) n).toArray⟩, .slice a' n n, .int .i64 (k : Nat)] w3 (RetTrue w3))
    (hinv : ∀ a' w w', Inv a' w → Below w.heap.size w w' → Inv a' w') :
    Calls Tryd.prog 3 #[.slice a n cap] w (RetTrue w) := by
  have hE27 : ∀ (W : World) (a : Option Addr) (l c : Nat), (binOp .eql 27 (.slice a l c) (.slice none 0 0)).run Tryd.prog W = .ok (.bool a.isNone) W := fun W a l c => Lib.run_eql_slice_nil W 27 9 a l c 0 0 Tryd.underlying27
  have hne1 : ((n : Int) == 1) = false := by simp; omega
  have H5 := hid h5
  have H6 := hid h6
  have H7 := hid h7
  have H15 := hid h15
  have H9 := hid h9
  have HI := hid hinv
  clear h5 h6 h7 h15 h9 hinv
  go_enter Tryd.func3, Tryd.ntmps3
  go_wp2_with (first | (go_at_call 5; refine H5.out.mono ?_; rintro e w' ⟨ok, rfl, rfl⟩; refine Hid.out ?_))
  cases ok with
  | false =>
    refine Lib.hid ?_
    go_wp2
    go_ret
    exact ⟨rfl, Below.refl _ _⟩
  | true =>
    refine Lib.hid ?_
    go_wp2_with (first | (go_at_call 6; refine H6.out.mono ?_; rintro e w1 ⟨ok, c, rfl, hb1, htb⟩; refine Hid.out ?_))
    have HB1 := hid hb1
    clear hb1
    cases ok with
    | false =>
      clear htb
      refine Lib.hid ?_
      go_wp2
      go_ret
      exact ⟨rfl, HB1.out⟩
    | true =>
      obtain ⟨hn6, hF, _, hc⟩ := htb rfl
      obtain ⟨rfl, hpr⟩ := hc hne
      have HF := hid hF
      clear htb hF
      refine Lib.hid ?_
      go_wp2_with (first | (go_at_call 7; refine (H7.out w1 HB1.out hn6 HF.out).mono ?_; rintro e w2 ⟨a', rfl, hb2, hi2⟩; refine Hid.out ?_))
      have HB2 := hid (HB1.out.trans (hb2.mono HB1.out.size))
      have HI2 := hid hi2
      clear hb2 hi2 HB1
      refine Lib.hid ?_
      go_wp2_with (first | (go_at_call 8; refine (zz_any w2 (H15.out a' w2 HB2.out HI2.out hn6 HF.out hpr)).mono ?_; rintro e w3 ⟨rfl, hb3, hk3⟩; refine Hid.out ?_))
      have HB3 := hid (HB2.out.trans (hb3.mono HB2.out.size))
      have HI3 := hid (HI.out _ _ _ HI2.out hb3)
      have HK3 := hid hk3
      clear hb3 hk3 HB2 HI2
      refine Lib.hid ?_
      go_wp2
      go_loopg [7] (pr ln n) (fun g s7 wx => R3b n ln S Inv a' w2.heap.size w g s7 wx)
      case atStart => exact ⟨0, by omega, by omega, rfl, HI3.out, HB3.out, HK3.out⟩
      case round =>
        clear HB3 HI3 HK3
        obtain ⟨k, hk, rfl, rfl, hi, hb, hkk⟩ := hrel
        have HI4 := hid hi
        have HB4 := hid hb
        have HK4 := hid hkk
        clear hi hb hkk
        by_cases hk2 : k < pr ln n
        · have hck := HK4.out k hk2
          go_wp2_with (first | (go_at_call 9; refine (H9.out a' wr k HI4.out hn6 HF.out hpr hk2).mono ?_; rintro e w5 ⟨rfl, hb5⟩; refine Hid.out ?_))
          have HB5 := hid (HB4.out.trans (hb5.mono HB4.out.size))
          have HI5 := hid (HI.out _ _ _ HI4.out hb5)
          have HK5 : Hid (∀ i, i < pr ln n → w5.cell? ⟨w2.heap.size, i, none⟩ = some (.string ⟨(tx n S (dig ln n i) n).toArray⟩)) :=
            hid (fun i hi => by rw [hb5.cell (World.block_lt_of_cell? wr _ (HK4.out i hi))]; exact HK4.out i hi)
          clear hb5 hck HK4 HI4 HB4
          refine Lib.hid ?_
          go_wp2
          go_roundg (pr ln n - (k + 1))
          case rel => exact ⟨k + 1, by omega, rfl, by go_num, HI5.out, HB5.out, HK5.out⟩
          case measure => omega
        · obtain rfl : k = pr ln n := by omega
          go_wp2
          go_ret
          exact ⟨rfl, HB4.out⟩

theorem law_zero (a : Option Addr) (cap : Nat) (w : World) : Calls Tryd.prog 3 #[.slice a 0 cap] w (RetTrue w) :=
  law_gen (ln := fun _ => 0) (S := fun _ _ => ⟨#[]⟩) w (fun _ _ => True) (by omega) (bytes_zero a cap w) (bound_zero a cap _ _ w)
    (fun w1 _ _ _ => (clone_zero a cap w1).mono (fun _ _ ⟨a', he, hb⟩ => ⟨a', he, hb, trivial⟩))
    (fun a' w2 _ _ _ _ _ => keys_zero a' 0 _ _ w2)
    (fun a' w3 k _ _ _ _ _ => holds_zero a' 0 k w3)
    (fun _ _ _ _ _ => trivial)

def Inv2 (n : Nat) (ln : Nat → Nat) (S : Nat → Nat → ByteArray) (a' : Option Addr) (w : World) : Prop :=
  ∃ (b : Nat) (ad : Nat → Option Addr) (cp : Nat → Nat), a' = some ⟨b, 0, none⟩ ∧ Ls b 0 n ad ln cp S w

theorem law_two {b o n cap : Nat} {ad : Nat → Option Addr} {ln cp : Nat → Nat} {S : Nat → Nat → ByteArray} (w : World) (h : Ls b o n ad ln cp S w) (h2 : 2 ≤ n)
    (htab : Lib.TabBelow Tryd.prog w.heap.size w "internal/strconv.uint64pow10" .u64 Lib.pow10Tab) :
    Calls Tryd.prog 3 #[.slice (some ⟨b, o, none⟩) n cap] w (RetTrue w) :=
  law_gen (ln := ln) (S := S) w (Inv2 n ln S) (by omega) (bytes_any w h) (bound_any w h (by omega))
    (fun w1 hb hn6 hF => (clone_any w1 (h.below hb) (by omega) hn6 hF).mono (fun _ _ ⟨ad', cp', he, hb, hl⟩ => ⟨_, he, hb, _, ad', cp', rfl, hl⟩))
    (fun a' w2 hb ⟨b', ad', cp', ea, hl⟩ hn6 hF hpr => by
      subst ea
      refine keys_any w2 hl h2 hn6 hF hpr (fun W hW => htab W (hb.trans (hW.mono hb.size))))
    (fun a' w3 k ⟨b', ad', cp', ea, hl⟩ hn6 hF hpr hk => by
      subst ea
      refine holds_any w3 hl h2 hn6 hF (fun i hi e => ?_) k (by omega)
      rw [pr_zero e n hi] at hk
      omega)
    (fun a' w w' ⟨b', ad', cp', ea, hl⟩ hb => ⟨b', ad', cp', ea, hl.below hb⟩)
end Go.Proofs.Qxb6603132aDoor
