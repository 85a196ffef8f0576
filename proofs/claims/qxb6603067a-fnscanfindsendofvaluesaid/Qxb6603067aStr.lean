/- (*zzIndentModelB1).str, with emit off: where it says yes, the bytes are a string to the scanner. -/
import Derived.Test.Qxb6603067aSmall
import Derived.Deep.DeepCutAuto
namespace Go.Proofs.Qxb6603067a
open Go Go.RowKit

theorem hid {p : Prop} (h : p) : Hid p := h

def RetS (c : Nat → Int) (p n : Nat) (w : World) (e : Ending) (w' : World) : Prop :=
  ∃ (q : Int) (ok : Bool), e = .returned (.tuple #[.int .i64 q, .bool ok]) ∧ w = w' ∧ (ok = true → ∃ q' : Nat, q = q' ∧ q' ≤ n ∧ Str c p q')

theorem RetS.no {c : Nat → Int} {p n : Nat} {w : World} {q : Int} : RetS c p n w (.returned (.tuple #[.int .i64 q, .bool false])) w := ⟨q, false, rfl, rfl, fun h => by cases h⟩
theorem RetS.yes {c : Nat → Int} {p n : Nat} {w : World} {q : Int} {q' : Nat} (hq : q = q') (hn : q' ≤ n) (h : Str c p q') : RetS c p n w (.returned (.tuple #[.int .i64 q, .bool true])) w := ⟨q, true, rfl, rfl, fun _ => ⟨q', hq, hn, h⟩⟩

def RS (c : Nat → Int) (p n : Nat) (w : World) (g : Nat) (s1 : Value) (wx : World) : Prop :=
  w = wx ∧ ∃ p' : Nat, p + 1 ≤ p' ∧ p' ≤ n ∧ g = n - p' ∧ s1 = .int .i64 p' ∧ InS c (p + 1) p'

def RX (c : Nat → Int) (r : Nat) (w : World) (g : Nat) (s8 : Value) (wx : World) : Prop :=
  w = wx ∧ ∃ i : Nat, i ≤ 4 ∧ g = 4 - i ∧ s8 = .int .i64 ((r : Int) + 2 + i) ∧ ∀ k, k < i → c (r + 2 + k) ≠ 34 ∧ c (r + 2 + k) ≠ 92
def RK (r : Nat) (w : World) (g : Nat) (s10 : Value) (wx : World) : Prop :=
  w = wx ∧ ∃ i : Nat, i ≤ 6 ∧ g = 6 - i ∧ s10 = .int .i64 ((r : Int) + i)

theorem html_at (cb co n cap p : Nat) (P : Int) (hP : P = (p : Nat)) (b0 b1 b2 b3 : Int) (w : World) (hn : n ≤ 1048576) (hp : p + 4 ≤ n) (h0 : w.cell? ⟨cb, co + p, none⟩ = some (.int .u8 b0)) (h1 : w.cell? ⟨cb, co + (p + 1), none⟩ = some (.int .u8 b1)) (h2 : w.cell? ⟨cb, co + (p + 2), none⟩ = some (.int .u8 b2)) (h3 : w.cell? ⟨cb, co + (p + 3), none⟩ = some (.int .u8 b3)) :
    Calls Try.prog 51 #[.slice (some ⟨cb, co, none⟩) n cap, .int .i64 P] w (RetU8 w) := by
  subst hP
  exact html_any cb co n cap p b0 b1 b2 b3 w hn hp h0 h1 h2 h3

def escB (b : Int) : Bool := b == 34 || (b == 92 || (b == 47 || (b == 98 || (b == 102 || (b == 110 || (b == 114 || b == 116))))))

set_option maxRecDepth 100000 in
set_option maxHeartbeats 4000000 in
theorem str_any {bm cb co n cap : Nat} {c : Nat → Int} (p : Nat) (w : World) (h : MB bm cb co n cap c w) (hp : p < n) (hq : c p = 34) :
    Calls Try.prog 42 #[.pointer (some ⟨bm, 0, none⟩), .int .i64 (p : Nat)] w (RetS c p n w) := by
  have m0 := h.m0
  have m3 := h.m3
  have hn := h.hn
  have HQ := hid hq
  clear hq
  go_enter Try.func42, Try.ntmps42
  go_wp2_with (first | (go_at_call 31; refine (put_any _ _ _ m3).mono ?_; rintro e w' ⟨rfl, rfl⟩))
  go_loopg [1] (n - (p + 1)) (fun g s1 wx => RS c p n w g s1 wx)
  case atStart => exact ⟨rfl, p + 1, Nat.le_refl _, by omega, rfl, by go_num, InS.refl _ _⟩
  case round =>
    obtain ⟨rfl, r, hr1, hr2, rfl, rfl, hins⟩ := hrel
    have HI := hid hins
    clear hins
    by_cases hrn : r < n
    · have hc := h.ch r hrn
      obtain ⟨hr3, hr4⟩ := h.rg r hrn
      obtain ⟨b, hb⟩ : ∃ b, b = c r := ⟨_, rfl⟩
      rw [← hb] at hc hr3 hr4
      have HB := hid hb
      clear hb
      rcases (show b = 34 ∨ (b < 32) ∨ (32 ≤ b ∧ b ≠ 34 ∧ b ≠ 92) ∨ b = 92 by omega) with h1 | h1 | ⟨h1, h2, h3⟩ | h1
      · subst h1
        go_wp2_with (first | (go_at_call 31; refine (put_any _ _ _ m3).mono ?_; rintro e w' ⟨rfl, rfl⟩))
        go_ret2
        exact RetS.yes (q' := r + 1) (by omega) (by omega) (Str.mk' HQ.out HI.out HB.out.symm)
      · have e1 : (b == 34) = false := by simp; omega
        go_wp2_with (first | (go_at_call 31; refine (put_any _ _ _ m3).mono ?_; rintro e w' ⟨rfl, rfl⟩))
        go_ret2
        exact RetS.no
      · have e1 : (b == 34) = false := by simp; omega
        have e2 : (b != 92) = true := by simp; omega
        go_wp2_with (first | (go_at_call 31; refine (put_any _ _ _ m3).mono ?_; rintro e w' ⟨rfl, rfl⟩))
        go_roundg (n - (r + 1))
        case rel => exact ⟨rfl, r + 1, by omega, by omega, rfl, by go_num, HI.out.trans (InS.one (by rw [← HB.out]; exact h2) (by rw [← HB.out]; exact h3))⟩
        case measure => omega
      · subst h1
        by_cases hr5 : r + 1 < n
        · have hc1 := h.ch (r + 1) hr5
          obtain ⟨x, hx⟩ : ∃ x, x = c (r + 1) := ⟨_, rfl⟩
          rw [← hx] at hc1
          have hxr := h.rg (r + 1) hr5
          rw [← hx] at hxr
          obtain ⟨hx1, hx2⟩ := hxr
          have HX := hid hx
          clear hx
          go_upto_region 16 with (first | (go_at_call 31; refine (put_any _ _ _ m3).mono ?_; rintro e w' ⟨rfl, rfl⟩))
          go_cut [91] (fun s91 wx => s91 = .bool (escB x) ∧ wx = w)
          case first =>
            rcases (show x = 34 ∨ x = 92 ∨ x = 47 ∨ x = 98 ∨ x = 102 ∨ x = 110 ∨ x = 114 ∨ x = 116 ∨ (x ≠ 34 ∧ x ≠ 92 ∧ x ≠ 47 ∧ x ≠ 98 ∧ x ≠ 102 ∧ x ≠ 110 ∧ x ≠ 114 ∧ x ≠ 116) by omega) with e | e | e | e | e | e | e | e | ⟨e1, e2, e3, e4, e5, e6, e7, e8⟩
            iterate 8
              · subst e
                go_wp2
                go_meet
                case rel => exact ⟨rfl, rfl⟩
            · have f1 : (x == 34) = false := by simpa using e1
              have f2 : (x == 92) = false := by simpa using e2
              have f3 : (x == 47) = false := by simpa using e3
              have f4 : (x == 98) = false := by simpa using e4
              have f5 : (x == 102) = false := by simpa using e5
              have f6 : (x == 110) = false := by simpa using e6
              have f7 : (x == 114) = false := by simpa using e7
              have f8 : (x == 116) = false := by simpa using e8
              have fe : escB x = false := by simp [escB, f1, f2, f3, f4, f5, f6, f7, f8]
              have FE := hid fe
              clear fe e1 e2 e3 e4 e5 e6 e7 e8
              go_wp2
              go_meet
              case rel => exact ⟨by rw [FE.out], rfl⟩
          case rest =>
            obtain ⟨rfl, rfl⟩ := hcut
            cases hesc : escB x with
            | true =>
              go_wp2_with (first | (go_at_call 31; refine (put_any _ _ _ m3).mono ?_; rintro e w' ⟨rfl, rfl⟩))
              go_roundg (n - (r + 2))
              case rel => exact ⟨rfl, r + 2, by omega, by omega, rfl, by go_num, HI.out.trans (InS.two HB.out.symm)⟩
              case measure => omega
            | false =>
              by_cases hu : x = 117 ∧ r + 6 ≤ n
              · obtain ⟨hu1, hu2⟩ := hu
                subst hu1
                go_wp2_with (first | (go_at_call 31; refine (put_any _ _ _ m3).mono ?_; rintro e w' ⟨rfl, rfl⟩))
                go_loopg [8] 4 (fun g s8 wx => RX c r wc g s8 wx)
                case atStart => exact ⟨rfl, 0, by omega, rfl, by go_num, fun k hk => by omega⟩
                case round =>
                  obtain ⟨rfl, i, hi, rfl, rfl, hall⟩ := hrel
                  have HALL := hid hall
                  clear hall
                  by_cases hi4 : i < 4
                  · have hci := h.ch (r + 2 + i) (by omega)
                    go_wp2_with (first | (go_at_call 50; refine (hex_any _ _).mono ?_; rintro e w' ⟨ok, rfl, rfl, hok⟩; have HOK := hid hok; clear hok; cases ok))
                    · go_ret2
                      exact RetS.no
                    · go_roundg (4 - (i + 1))
                      case rel =>
                        refine ⟨rfl, i + 1, by omega, rfl, by go_num, fun k hk => ?_⟩
                        by_cases e : k = i
                        · subst e; exact HOK.out trivial
                        · exact HALL.out k (by omega)
                      case measure => omega
                  · obtain rfl : i = 4 := by omega
                    have hins : InS c (p + 1) (r + 6) := (HI.out.trans (InS.two HB.out.symm)).trans (by have := InS.run 4 (r + 2) HALL.out; rwa [show r + 2 + 4 = r + 6 by omega] at this)
                    have HINS := hid hins
                    clear hins HALL
                    have hd0 := h.ch (r + 2) (by omega)
                    have hd1 := h.ch (r + 2 + 1) (by omega)
                    have hd2 := h.ch (r + 2 + 2) (by omega)
                    have hd3 := h.ch (r + 2 + 3) (by omega)
                    go_wp2_with (first | (go_at_call 51; refine (html_at cb co n cap (r + 2) _ (by omega) _ _ _ _ _ hn (by omega) hd0 hd1 hd2 hd3).mono ?_; rintro e w' ⟨x9, rfl, rfl⟩; obtain ⟨e9, h9⟩ : ∃ e9 : Bool, (x9 != 0) = e9 := ⟨_, rfl⟩; clear hd0 hd1 hd2 hd3; cases e9) | (go_at_call 31; refine (put_any _ _ _ m3).mono ?_; rintro e w' ⟨rfl, rfl⟩))
                    · go_loopg [10] 6 (fun g s10 wx => RK r wc g s10 wx)
                      case atStart => exact ⟨rfl, 0, by omega, rfl, by go_num⟩
                      case round =>
                        obtain ⟨rfl, i, hi, rfl, rfl⟩ := hrel
                        by_cases hi6 : i < 6
                        · have hci := h.ch (r + i) (by omega)
                          go_wp2_with (first | (go_at_call 31; refine (put_any _ _ _ m3).mono ?_; rintro e w' ⟨rfl, rfl⟩))
                          go_roundg (6 - (i + 1))
                          case rel => exact ⟨rfl, i + 1, by omega, rfl, by go_num⟩
                          case measure => omega
                        · go_wp2
                          go_roundg (n - (r + 6))
                          case rel => exact ⟨rfl, r + 6, by omega, by omega, rfl, by go_num, HINS.out⟩
                          case measure => omega
                    · go_roundg (n - (r + 6))
                      case rel => exact ⟨rfl, r + 6, by omega, by omega, rfl, by go_num, HINS.out⟩
                      case measure => omega
              · rcases (show x ≠ 117 ∨ (x = 117 ∧ n < r + 6) by omega) with hv | ⟨hv, hv2⟩
                · have f9 : (x != 117) = true := by simpa using hv
                  clear hu
                  go_wp2_with (first | (go_at_call 31; refine (put_any _ _ _ m3).mono ?_; rintro e w' ⟨rfl, rfl⟩))
                  go_ret2
                  exact RetS.no
                · subst hv
                  go_wp2_with (first | (go_at_call 31; refine (put_any _ _ _ m3).mono ?_; rintro e w' ⟨rfl, rfl⟩))
                  go_ret2
                  exact RetS.no
        · go_wp2_with (first | (go_at_call 31; refine (put_any _ _ _ m3).mono ?_; rintro e w' ⟨rfl, rfl⟩))
          go_ret2
          exact RetS.no
    · go_wp2_with (first | (go_at_call 31; refine (put_any _ _ _ m3).mono ?_; rintro e w' ⟨rfl, rfl⟩))
      go_ret2
      exact RetS.no
end Go.Proofs.Qxb6603067a
