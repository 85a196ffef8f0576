/- (*scanner).scan and ZZScan. -/
import Derived.Test.Qxb6603067aWord
namespace Go.Proofs.Qxb6603067a
open Go Go.RowKit

/-- From i on, in this state, the value ends with byte n - 1. -/
def Goes (c : Nat → Int) (n i : Nat) (st : Sst) : Prop := i < n ∧ ∃ stE : Sst, pass c (n - 1 - i) i st = some stE ∧ ends stE (c (n - 1)) = true

theorem Goes.next {c : Nat → Int} {n i : Nat} {st st' : Sst} (h : Goes c n i st) (he : ends st (c i) = false) (hs : step st (c i) = st') : Goes c n (i + 1) st' := by
  obtain ⟨hi, stE, h1, h2⟩ := h
  by_cases e : i = n - 1
  · rw [show n - 1 - i = 0 by omega] at h1
    simp only [pass, Option.some.injEq] at h1
    subst h1
    rw [← e, he] at h2
    cases h2
  · rw [show n - 1 - i = (n - 1 - (i + 1)) + 1 by omega] at h1
    simp only [pass, he, hs] at h1
    exact ⟨by omega, stE, by simpa using h1, h2⟩
theorem Goes.last {c : Nat → Int} {n i : Nat} {st : Sst} (h : Goes c n i st) (he : ends st (c i) = true) : i + 1 = n := by
  obtain ⟨hi, stE, h1, h2⟩ := h
  by_cases e : i = n - 1
  · omega
  · rw [show n - 1 - i = (n - 1 - (i + 1)) + 1 by omega] at h1
    simp [pass, he] at h1
theorem Whole.goes {c : Nat → Int} {n : Nat} (h : Whole c n) : Goes c n 0 (0, false, false) := by
  obtain ⟨st, h0, h1, h2⟩ := h
  exact ⟨h0, st, by simpa using h1, h2⟩

/-- The scanner's struct at block bs, beside N bytes c. -/
structure SB (bs gb go N : Nat) (c : Nat → Int) (st : Sst) (w : World) : Prop where
  c0 : w.cell? ⟨bs, 0, none⟩ = some (.int .i64 st.1)
  c1 : w.cell? ⟨bs, 1, none⟩ = some (.bool st.2.1)
  c2 : w.cell? ⟨bs, 2, none⟩ = some (.bool st.2.2)
  fr : ∀ i, w.frozen? ⟨bs, i, none⟩ = false
  ch : ∀ i, i < N → w.cell? ⟨gb, go + i, none⟩ = some (.int .u8 (c i))
  ne : gb ≠ bs

theorem SB.set0 {bs gb go N : Nat} {c : Nat → Int} {d : Int} {s e : Bool} {w : World} (h : SB bs gb go N c (d, s, e) w) (u : Int) : SB bs gb go N c (u, s, e) (w.setCell ⟨bs, 0, none⟩ (.int .i64 u)) := by
  have hne := h.ne
  refine ⟨World.cell?_setCell_same _ _ _ h.c0, ?_, ?_, fun i => by rw [World.frozen?_setCell]; exact h.fr i, fun i hi => ?_, h.ne⟩
  · rw [World.cell?_setCell_other _ _ _ _ (by simp)]; exact h.c1
  · rw [World.cell?_setCell_other _ _ _ _ (by simp)]; exact h.c2
  · rw [World.cell?_setCell_other _ _ _ _ (by simp)]; exact h.ch i hi
theorem SB.set1 {bs gb go N : Nat} {c : Nat → Int} {d : Int} {s e : Bool} {w : World} (h : SB bs gb go N c (d, s, e) w) (u : Bool) : SB bs gb go N c (d, u, e) (w.setCell ⟨bs, 1, none⟩ (.bool u)) := by
  have hne := h.ne
  refine ⟨?_, World.cell?_setCell_same _ _ _ h.c1, ?_, fun i => by rw [World.frozen?_setCell]; exact h.fr i, fun i hi => ?_, h.ne⟩
  · rw [World.cell?_setCell_other _ _ _ _ (by simp)]; exact h.c0
  · rw [World.cell?_setCell_other _ _ _ _ (by simp)]; exact h.c2
  · rw [World.cell?_setCell_other _ _ _ _ (by simp)]; exact h.ch i hi
theorem SB.set2 {bs gb go N : Nat} {c : Nat → Int} {d : Int} {s e : Bool} {w : World} (h : SB bs gb go N c (d, s, e) w) (u : Bool) : SB bs gb go N c (d, s, u) (w.setCell ⟨bs, 2, none⟩ (.bool u)) := by
  have hne := h.ne
  refine ⟨?_, ?_, World.cell?_setCell_same _ _ _ h.c2, fun i => by rw [World.frozen?_setCell]; exact h.fr i, fun i hi => ?_, h.ne⟩
  · rw [World.cell?_setCell_other _ _ _ _ (by simp)]; exact h.c0
  · rw [World.cell?_setCell_other _ _ _ _ (by simp)]; exact h.c1
  · rw [World.cell?_setCell_other _ _ _ _ (by simp)]; exact h.ch i hi

def RSc (bs gb go N n : Nat) (c : Nat → Int) (w : World) (g : Nat) (s6 s7 : Value) (wx : World) : Prop :=
  ∃ (i : Nat) (d : Int) (s e : Bool), i ≤ n ∧ g = n - i ∧ s6 = .int .i64 i ∧ Goes c n i (d, s, e) ∧ -(i : Int) ≤ d ∧ d ≤ i ∧ SB bs gb go N c (d, s, e) wx ∧ w.grownBy wx (some bs) ∧ s7 = s7

def RJ (n : Nat) (c : Nat → Int) (i : Nat) (d : Int) (w : World) (g : Nat) (s6 s7 : Value) (wx : World) : Prop :=
  w = wx ∧ ∃ j : Nat, i ≤ j ∧ j < n ∧ g = n - j ∧ s6 = .int .i64 j ∧ s7 = .int .u8 (c j) ∧ Goes c n j (d, true, false)

/-- What scan hands back where the value ends with byte n - 1. -/
def RetSc (bs gb go N n : Nat) (c : Nat → Int) (w : World) (e : Ending) (w' : World) : Prop :=
  e = .returned (.tuple #[.int .i64 n, .bool true]) ∧ SB bs gb go N c (0, false, false) w' ∧ w.grownBy w' (some bs)

set_option maxRecDepth 100000 in
set_option maxHeartbeats 4000000 in
theorem scan_any {bs gb go N n cap : Nat} {c : Nat → Int} (w : World) (h : SB bs gb go N c (0, false, false) w) (hG : Goes c n 0 (0, false, false)) (hnN : n ≤ N) (hN : N ≤ 1048576) :
    Calls Try.prog 39 #[.pointer (some ⟨bs, 0, none⟩), .slice (some ⟨gb, go, none⟩) N cap] w (RetSc bs gb go N n c w) := by
  have HG0 := hid hG
  clear hG
  go_enter Try.func39, Try.ntmps39
  go_wp2
  go_loopg [6, 7] n (fun g s6 s7 wx => RSc bs gb go N n c w g s6 s7 wx)
  case atStart => exact ⟨0, 0, false, false, Nat.zero_le _, rfl, rfl, HG0.out, by omega, by omega, h, World.grownBy.refl _ _, rfl⟩
  case round =>
    obtain ⟨i, d, s, e, hin, rfl, rfl, hgo, hd1, hd2, hB, hgw, -⟩ := hrel
    have HG := hid hgo
    have HW := hid hgw
    have hi : i < n := hgo.1
    have hiN : i < N := by omega
    clear hgo hgw h HG0
    have c0 := hB.c0
    have c1 := hB.c1
    have c2 := hB.c2
    have f0 := hB.fr 0
    have f1 := hB.fr 1
    have f2 := hB.fr 2
    have hc := hB.ch i hiN
    have hne := hB.ne
    cases e with
    | true =>
      go_wp2
      go_roundg (n - (i + 1))
      case rel => exact ⟨i + 1, d, s, false, by omega, rfl, by go_num, HG.out.next (by simp [ends]) (by simp [step]), by omega, by omega, hB.set2 false, HW.out.trans (grown_set _ bs 2 (.bool false)), rfl⟩
      case measure => omega
    | false =>
      cases s with
      | true =>
        go_wp2
        go_loopg [6, 7] (n - i) (fun g s6 s7 wx => RJ n c i d wr g s6 s7 wx)
        case atStart => exact ⟨rfl, i, Nat.le_refl _, hi, rfl, rfl, rfl, HG.out⟩
        case round =>
          obtain ⟨rfl, j, hij, hjn, rfl, rfl, rfl, hgj⟩ := hrel
          have HJ := hid hgj
          clear hgj HG
          have hjN : j < N := by omega
          cases e34 : (c j != 34) with
          | true =>
            have E34 := hid (show c j ≠ 34 by simpa using e34)
            cases e92 : (c j != 92) with
            | true =>
              have E92 := hid (show c j ≠ 92 by simpa using e92)
              have hg2 := HJ.out.next (st' := (d, true, false)) (by simp [ends, E34.out]) (by simp [step, E34.out, E92.out])
              have HJ2 := hid hg2
              have hj1 : j + 1 < n := hg2.1
              have hj2 : j + 1 < N := by omega
              clear hg2
              have hcj := hB.ch (j + 1) hj2
              go_wp2
              go_roundg (n - (j + 1))
              case rel => exact ⟨rfl, j + 1, by omega, hj1, rfl, by go_num, rfl, HJ2.out⟩
              case measure => omega
            | false =>
              have e92' : c j = 92 := by simpa using e92
              have E92 := hid e92'
              have e92'' : (c j == 92) = true := by rw [e92']; rfl
              clear e92'
              go_wp2
              go_roundg (n - (j + 1))
              case rel => exact ⟨j + 1, d, true, true, by omega, rfl, by go_num, HJ.out.next (by simp [ends, E92.out]) (by simp [step, E92.out]), by omega, by omega, hB.set2 true, HW.out.trans (grown_set _ bs 2 (.bool true)), rfl⟩
              case measure => omega
          | false =>
            have e34' : c j = 34 := by simpa using e34
            have E34 := hid e34'
            have e92 : (c j == 92) = false := by rw [e34']; rfl
            clear e34'
            cases ez : (d == 0) with
            | true =>
              have EZ := hid (show d = 0 by simpa using ez)
              have HL := hid (HJ.out.last (by simp [ends, E34.out, EZ.out]))
              have hB1 := hB.set1 false
              go_wp2
              go_ret2
              have e0 := EZ.out
              have e1 := HL.out
              rw [e0] at hB1
              refine ⟨by simp; omega, hB1, HW.out.trans (grown_set _ bs 1 _)⟩
            | false =>
              have EZ := hid (show d ≠ 0 by intro e; rw [e] at ez; cases ez)
              go_wp2
              go_roundg (n - (j + 1))
              case rel => exact ⟨j + 1, d, false, false, by omega, rfl, by go_num, HJ.out.next (by simp [ends, E34.out, EZ.out]) (by simp [step, E34.out]), by omega, by omega, hB.set1 false, HW.out.trans (grown_set _ bs 1 (.bool false)), rfl⟩
              case measure => omega
      | false =>
        cases e34 : (c i == 34) with
        | true =>
          have E := hid (show c i = 34 by simpa using e34)
          go_wp2
          go_roundg (n - (i + 1))
          case rel => exact ⟨i + 1, d, true, false, by omega, rfl, by go_num, HG.out.next (by simp [ends, E.out]) (by simp [step, E.out]), by omega, by omega, hB.set1 true, HW.out.trans (grown_set _ bs 1 (.bool true)), rfl⟩
          case measure => omega
        | false =>
          have E34 := hid (show c i ≠ 34 by intro e; rw [e] at e34; cases e34)
          cases e123 : (c i == 123) with
          | true =>
            have E := hid (show c i = 123 by simpa using e123)
            have hw1 : IntKind.i64.wrap (d + 1) = d + 1 := wrap_in _ (by omega) (by omega)
            go_wp2
            go_roundg (n - (i + 1))
            case rel => exact ⟨i + 1, d + 1, false, false, by omega, rfl, by go_num, HG.out.next (by simp [ends, E.out]) (by simp [step, E.out]), by omega, by omega, hB.set0 (d + 1), HW.out.trans (grown_set _ bs 0 (.int .i64 (d + 1))), rfl⟩
            case measure => omega
          | false =>
            have E123 := hid (show c i ≠ 123 by intro e; rw [e] at e123; cases e123)
            cases e91 : (c i == 91) with
            | true =>
              have E := hid (show c i = 91 by simpa using e91)
              have hw1 : IntKind.i64.wrap (d + 1) = d + 1 := wrap_in _ (by omega) (by omega)
              go_wp2
              go_roundg (n - (i + 1))
              case rel => exact ⟨i + 1, d + 1, false, false, by omega, rfl, by go_num, HG.out.next (by simp [ends, E.out]) (by simp [step, E.out]), by omega, by omega, hB.set0 (d + 1), HW.out.trans (grown_set _ bs 0 (.int .i64 (d + 1))), rfl⟩
              case measure => omega
            | false =>
              have E91 := hid (show c i ≠ 91 by intro e; rw [e] at e91; cases e91)
              cases e125 : (c i == 125) with
              | true =>
                have E := hid (show c i = 125 by simpa using e125)
                have hw1 : IntKind.i64.wrap (d - 1) = d - 1 := wrap_in _ (by omega) (by omega)
                cases ez : (d - 1 == 0) with
                | true =>
                  have EZ := hid (show d - 1 = 0 by simpa using ez)
                  have HL := hid (HG.out.last (by simp [ends, E.out, EZ.out]))
                  have hB1 := hB.set0 (d - 1)
                  go_wp2
                  go_ret2
                  have e0 := EZ.out
                  have e1 := HL.out
                  rw [e0] at hB1
                  have e2 : IntKind.i64.wrap ((i : Int) + 1) = (n : Int) := by rw [wrap_in _ (by omega) (by omega)]; omega
                  refine ⟨by simp; omega, ?_, ?_⟩
                  · first | (rw [e0]; exact hB1) | exact hB1
                  · exact HW.out.trans (grown_set _ bs 0 _)
                | false =>
                  have EZ := hid (show d - 1 ≠ 0 by intro e; rw [e] at ez; cases ez)
                  go_wp2
                  go_roundg (n - (i + 1))
                  case rel => exact ⟨i + 1, d - 1, false, false, by omega, rfl, by go_num, HG.out.next (by simp [ends, E.out, EZ.out]) (by simp [step, E.out]), by omega, by omega, hB.set0 (d - 1), HW.out.trans (grown_set _ bs 0 (.int .i64 (d - 1))), rfl⟩
                  case measure => omega
              | false =>
                have E125 := hid (show c i ≠ 125 by intro e; rw [e] at e125; cases e125)
                cases e93 : (c i == 93) with
                | true =>
                  have E := hid (show c i = 93 by simpa using e93)
                  have hw1 : IntKind.i64.wrap (d - 1) = d - 1 := wrap_in _ (by omega) (by omega)
                  cases ez : (d - 1 == 0) with
                  | true =>
                    have EZ := hid (show d - 1 = 0 by simpa using ez)
                    have HL := hid (HG.out.last (by simp [ends, E.out, EZ.out]))
                    have hB1 := hB.set0 (d - 1)
                    go_wp2
                    go_ret2
                    have e0 := EZ.out
                    have e1 := HL.out
                    rw [e0] at hB1
                    have e2 : IntKind.i64.wrap ((i : Int) + 1) = (n : Int) := by rw [wrap_in _ (by omega) (by omega)]; omega
                    refine ⟨by simp; omega, ?_, ?_⟩
                    · first | (rw [e0]; exact hB1) | exact hB1
                    · exact HW.out.trans (grown_set _ bs 0 _)
                  | false =>
                    have EZ := hid (show d - 1 ≠ 0 by intro e; rw [e] at ez; cases ez)
                    go_wp2
                    go_roundg (n - (i + 1))
                    case rel => exact ⟨i + 1, d - 1, false, false, by omega, rfl, by go_num, HG.out.next (by simp [ends, E.out, EZ.out]) (by simp [step, E.out]), by omega, by omega, hB.set0 (d - 1), HW.out.trans (grown_set _ bs 0 (.int .i64 (d - 1))), rfl⟩
                    case measure => omega
                | false =>
                  have E93 := hid (show c i ≠ 93 by intro e; rw [e] at e93; cases e93)
                  go_wp2
                  go_roundg (n - (i + 1))
                  case rel => exact ⟨i + 1, d, false, false, by omega, rfl, by go_num, HG.out.next (by simp [ends, E125.out, E93.out]) (by simp [step, E34.out, E123.out, E91.out, E125.out, E93.out]), by omega, by omega, hB, HW.out, rfl⟩
                  case measure => omega
end Go.Proofs.Qxb6603067a
