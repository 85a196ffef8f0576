/- The model's small functions, with emit off: put, putString, newline, zzDigitB1, zzHexDigitB1, zzHTMLCharB1. -/
import Derived.Test.Qxb6603067aScan
import Derived.WalkKit
import Derived.ProofKit
import Derived.WalkLawsBesides
import Derived.Deep.LoopGhost
import Derived.Maps.AppendAt
namespace Go.Proofs.Qxb6603067a
open Go Go.RowKit

/-- The model's struct at block bm (emit off), over n bytes c at ⟨cb, co⟩. -/
structure MB (bm cb co n cap : Nat) (c : Nat → Int) (w : World) : Prop where
  m0 : w.cell? ⟨bm, 0, none⟩ = some (.slice (some ⟨cb, co, none⟩) n cap)
  m3 : w.cell? ⟨bm, 3, none⟩ = some (.bool false)
  m5 : ∃ i : Int, w.cell? ⟨bm, 5, none⟩ = some (.int .i64 i)
  m6 : ∃ i : Int, w.cell? ⟨bm, 6, none⟩ = some (.int .i64 i)
  fr : ∀ i, w.frozen? ⟨bm, i, none⟩ = false
  ch : ∀ i, i < n → w.cell? ⟨cb, co + i, none⟩ = some (.int .u8 (c i))
  rg : ∀ i, i < n → 0 ≤ c i ∧ c i ≤ 255
  ne : cb ≠ bm
  hn : n ≤ 1048576
  m4 : w.cell? ⟨bm, 4, none⟩ = some (.slice none 0 0)

theorem put_any (bm : Nat) (b : Int) (w : World) (m3 : w.cell? ⟨bm, 3, none⟩ = some (.bool false)) :
    Calls Try.prog 31 #[.pointer (some ⟨bm, 0, none⟩), .int .u8 b] w fun e w' => e = .returned (.tuple #[]) ∧ w = w' := by
  go_enter Try.func31, Try.ntmps31
  go_wp2
  go_end0
  exact ⟨rfl, rfl⟩

theorem putString_any (bm : Nat) (s : ByteArray) (w : World) (m3 : w.cell? ⟨bm, 3, none⟩ = some (.bool false)) :
    Calls Try.prog 29 #[.pointer (some ⟨bm, 0, none⟩), .string s] w fun e w' => e = .returned (.tuple #[]) ∧ w = w' := by
  go_enter Try.func29, Try.ntmps29
  go_wp2
  go_end0
  exact ⟨rfl, rfl⟩

def digB (b : Int) : Bool := decide (48 ≤ b) && decide (b ≤ 57)

theorem digit_any (b : Int) (w : World) : Calls Try.prog 24 #[.int .u8 b] w fun e w' => e = .returned (.bool (digB b)) ∧ w = w' := by
  by_cases h1 : 48 ≤ b
  · by_cases h2 : b ≤ 57
    · have e : digB b = true := by simp [digB, h1, h2]
      rw [e]
      clear e
      go_enter Try.func24, Try.ntmps24
      go_wp2
      go_ret
      exact ⟨by simp, rfl⟩
    · have e : digB b = false := by simp [digB, h2]
      rw [e]
      clear e
      go_enter Try.func24, Try.ntmps24
      go_wp2
      go_ret
      exact ⟨by simp, rfl⟩
  · have e : digB b = false := by simp [digB, h1]
    rw [e]
    clear e
    have h1' : b < 48 := by omega
    go_enter Try.func24, Try.ntmps24
    go_wp2
    go_ret
    exact ⟨by simp, rfl⟩

/-- zzHexDigitB1: where it says yes the byte is neither a quote nor a backslash. -/
def RetH (b : Int) (w : World) (e : Ending) (w' : World) : Prop := ∃ r : Bool, e = .returned (.bool r) ∧ w = w' ∧ (r = true → b ≠ 34 ∧ b ≠ 92)

theorem RetH.mk {b : Int} {r : Bool} {w : World} (h : r = true → b ≠ 34 ∧ b ≠ 92) : RetH b w (.returned (.bool r)) w := ⟨r, rfl, rfl, h⟩

set_option maxHeartbeats 1000000 in
theorem hex_any (b : Int) (w : World) : Calls Try.prog 50 #[.int .u8 b] w (RetH b w) := by
  rcases (show b < 48 ∨ (48 ≤ b ∧ b ≤ 57) ∨ (57 < b ∧ b < 65) ∨ (65 ≤ b ∧ b ≤ 70) ∨ (70 < b ∧ b < 97) ∨ (97 ≤ b ∧ b ≤ 102) ∨ 102 < b by omega) with h | ⟨h, h'⟩ | ⟨h, h'⟩ | ⟨h, h'⟩ | ⟨h, h'⟩ | ⟨h, h'⟩ | h
  · have hd : digB b = false := by simp [digB]; omega
    go_enter Try.func50, Try.ntmps50
    go_wp2_with (go_at_call 24; refine (digit_any _ _).mono ?_; rintro e w' ⟨rfl, rfl⟩; rw [hd])
    go_ret
    exact RetH.mk (fun h => by first | (exact absurd h (by decide)) | (simp at h; omega))
  · have hd : digB b = true := by simp [digB]; omega
    go_enter Try.func50, Try.ntmps50
    go_wp2_with (go_at_call 24; refine (digit_any _ _).mono ?_; rintro e w' ⟨rfl, rfl⟩; rw [hd])
    go_ret
    exact RetH.mk (fun _ => by omega)
  · have hd : digB b = false := by simp [digB]; omega
    go_enter Try.func50, Try.ntmps50
    go_wp2_with (go_at_call 24; refine (digit_any _ _).mono ?_; rintro e w' ⟨rfl, rfl⟩; rw [hd])
    go_ret
    exact RetH.mk (fun h => by first | (exact absurd h (by decide)) | (simp at h; omega))
  · have hd : digB b = false := by simp [digB]; omega
    go_enter Try.func50, Try.ntmps50
    go_wp2_with (go_at_call 24; refine (digit_any _ _).mono ?_; rintro e w' ⟨rfl, rfl⟩; rw [hd])
    go_ret
    exact RetH.mk (fun _ => by omega)
  · have hd : digB b = false := by simp [digB]; omega
    go_enter Try.func50, Try.ntmps50
    go_wp2_with (go_at_call 24; refine (digit_any _ _).mono ?_; rintro e w' ⟨rfl, rfl⟩; rw [hd])
    go_ret
    exact RetH.mk (fun h => by first | (exact absurd h (by decide)) | (simp at h; omega))
  · have hd : digB b = false := by simp [digB]; omega
    go_enter Try.func50, Try.ntmps50
    go_wp2_with (go_at_call 24; refine (digit_any _ _).mono ?_; rintro e w' ⟨rfl, rfl⟩; rw [hd])
    go_ret
    exact RetH.mk (fun _ => by omega)
  · have hd : digB b = false := by simp [digB]; omega
    go_enter Try.func50, Try.ntmps50
    go_wp2_with (go_at_call 24; refine (digit_any _ _).mono ?_; rintro e w' ⟨rfl, rfl⟩; rw [hd])
    go_ret
    exact RetH.mk (fun h => by first | (exact absurd h (by decide)) | (simp at h; omega))

/-- zzHTMLCharB1 over four bytes: some byte comes back. -/
def RetU8 (w : World) (e : Ending) (w' : World) : Prop := ∃ r : Int, e = .returned (.int .u8 r) ∧ w = w'

set_option maxRecDepth 100000 in
set_option maxHeartbeats 2000000 in
theorem html_any (cb co n cap p : Nat) (b0 b1 b2 b3 : Int) (w : World) (hn : n ≤ 1048576) (hp : p + 4 ≤ n) (h0 : w.cell? ⟨cb, co + p, none⟩ = some (.int .u8 b0)) (h1 : w.cell? ⟨cb, co + (p + 1), none⟩ = some (.int .u8 b1)) (h2 : w.cell? ⟨cb, co + (p + 2), none⟩ = some (.int .u8 b2)) (h3 : w.cell? ⟨cb, co + (p + 3), none⟩ = some (.int .u8 b3)) :
    Calls Try.prog 51 #[.slice (some ⟨cb, co, none⟩) n cap, .int .i64 (p : Nat)] w (RetU8 w) := by
  cases e0 : (b0 != 48) with
  | true => (go_enter Try.func51, Try.ntmps51; go_wp2; go_ret; exact ⟨_, rfl, rfl⟩)
  | false =>
    cases e1 : (b1 != 48) with
    | true => (go_enter Try.func51, Try.ntmps51; go_wp2; go_ret; exact ⟨_, rfl, rfl⟩)
    | false =>
      cases e2 : (b2 == 51) with
      | true =>
        cases e3 : (b3 == 99) with
        | true => (go_enter Try.func51, Try.ntmps51; go_wp2; go_ret; exact ⟨_, rfl, rfl⟩)
        | false =>
          cases e4 : (b3 == 101) with
          | true => (go_enter Try.func51, Try.ntmps51; go_wp2; go_ret; exact ⟨_, rfl, rfl⟩)
          | false =>
            cases e5 : (b2 == 50) with
            | true => cases e6 : (b3 == 54) <;> (go_enter Try.func51, Try.ntmps51; go_wp2; go_ret; exact ⟨_, rfl, rfl⟩)
            | false => (go_enter Try.func51, Try.ntmps51; go_wp2; go_ret; exact ⟨_, rfl, rfl⟩)
      | false =>
        cases e5 : (b2 == 50) with
        | true => cases e6 : (b3 == 54) <;> (go_enter Try.func51, Try.ntmps51; go_wp2; go_ret; exact ⟨_, rfl, rfl⟩)
        | false => (go_enter Try.func51, Try.ntmps51; go_wp2; go_ret; exact ⟨_, rfl, rfl⟩)

theorem grown_set (w : World) (b o : Nat) (u : Value) : w.grownBy (w.setCell ⟨b, o, none⟩ u) (some b) :=
  ⟨rfl, rfl, rfl, by simp [World.setCell], fun k _ hk => Below.heap_setCell w ⟨b, o, none⟩ u k (fun e => hk (by rw [e]))⟩

theorem MB.set5 {bm cb co n cap : Nat} {c : Nat → Int} {w : World} (h : MB bm cb co n cap c w) (u : Int) : MB bm cb co n cap c (w.setCell ⟨bm, 5, none⟩ (.int .i64 u)) := by
  obtain ⟨i5, h5⟩ := h.m5
  obtain ⟨i6, h6⟩ := h.m6
  have hne := h.ne
  refine ⟨?_, ?_, ⟨u, World.cell?_setCell_same _ _ _ h5⟩, ⟨i6, ?_⟩, fun i => by rw [World.frozen?_setCell]; exact h.fr i, fun i hi => ?_, h.rg, h.ne, h.hn, ?_⟩
  · rw [World.cell?_setCell_other _ _ _ _ (by simp)]; exact h.m0
  · rw [World.cell?_setCell_other _ _ _ _ (by simp)]; exact h.m3
  · rw [World.cell?_setCell_other _ _ _ _ (by simp)]; exact h6
  · rw [World.cell?_setCell_other _ _ _ _ (by simp)]; exact h.ch i hi
  · rw [World.cell?_setCell_other _ _ _ _ (by simp)]; exact h.m4
theorem MB.set6 {bm cb co n cap : Nat} {c : Nat → Int} {w : World} (h : MB bm cb co n cap c w) (u : Int) : MB bm cb co n cap c (w.setCell ⟨bm, 6, none⟩ (.int .i64 u)) := by
  obtain ⟨i5, h5⟩ := h.m5
  obtain ⟨i6, h6⟩ := h.m6
  have hne := h.ne
  refine ⟨?_, ?_, ⟨i5, ?_⟩, ⟨u, World.cell?_setCell_same _ _ _ h6⟩, fun i => by rw [World.frozen?_setCell]; exact h.fr i, fun i hi => ?_, h.rg, h.ne, h.hn, ?_⟩
  · rw [World.cell?_setCell_other _ _ _ _ (by simp)]; exact h.m0
  · rw [World.cell?_setCell_other _ _ _ _ (by simp)]; exact h.m3
  · rw [World.cell?_setCell_other _ _ _ _ (by simp)]; exact h5
  · rw [World.cell?_setCell_other _ _ _ _ (by simp)]; exact h.ch i hi
  · rw [World.cell?_setCell_other _ _ _ _ (by simp)]; exact h.m4

def RetN (bm cb co n cap : Nat) (c : Nat → Int) (w : World) (e : Ending) (w' : World) : Prop := e = .returned (.tuple #[]) ∧ MB bm cb co n cap c w' ∧ w.grownBy w' (some bm)

theorem newline_any {bm cb co n cap : Nat} {c : Nat → Int} (d : Int) (w : World) (h : MB bm cb co n cap c w) :
    Calls Try.prog 49 #[.pointer (some ⟨bm, 0, none⟩), .int .i64 d] w (RetN bm cb co n cap c w) := by
  obtain ⟨i5, h5⟩ := h.m5
  obtain ⟨i6, h6⟩ := h.m6
  have m3 := h.m3
  have f5 := h.fr 5
  have f6 := h.fr 6
  by_cases hd : i6 < d
  · go_enter Try.func49, Try.ntmps49
    go_wp2
    go_end0
    exact ⟨rfl, (h.set5 (wrap64 (i5 + 1))).set6 d, (grown_set w bm 5 (.int .i64 (wrap64 (i5 + 1)))).trans (grown_set (w.setCell ⟨bm, 5, none⟩ (.int .i64 (wrap64 (i5 + 1)))) bm 6 (.int .i64 d))⟩
  · go_enter Try.func49, Try.ntmps49
    go_wp2
    go_end0
    exact ⟨rfl, h.set5 _, grown_set w bm 5 (.int .i64 (wrap64 (i5 + 1)))⟩
end Go.Proofs.Qxb6603067a
