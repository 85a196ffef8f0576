/- overlap, where the two lists are of one key. -/
import Derived.Test.Qxb6601594aIdx
namespace Go.Proofs.Qxb6601594a
open Go Go.Maps Go.RowKit

def RetO (l : Lab) (bo bm bl bk : Nat) (v1 : Value) (FO : Value → Option Value) (key : Value) (n : Nat) (w : World) (e : Ending) (w' : World) : Prop :=
  e = .returned (.int .i64 (n : Nat)) ∧ Below bo w w' ∧ ∃ t' FO', Cur l bo bm bl bk v1 t' FO' w' ∧ ∀ y, y ≠ key → FO' y = FO y

section
variable {l : Lab} {bo bm bl bk : Nat} {v1 : Value} {t : Int} {FO : Value → Option Value}

theorem retO_three {w : World} {key : Value} {o1 o2 o3 : Obj} {n m : Nat} (h : Cur l bo bm bl bk v1 t FO w) (hn : m = n) : RetO l bo bm bl bk v1 FO key n w (.returned (.int .i64 (m : Nat))) (((w.alloc o1).alloc o2).alloc o3).drew := by
  have hsz := h.size
  subst hn
  exact ⟨rfl, (((((Below.refl _ _).alloc (by omega) _).alloc (by simp; omega) _).alloc (by simp; omega) _).drew), t, FO, (((h.alloc _).alloc _).alloc _).drew, fun _ _ => rfl⟩

theorem retO_two {w : World} {key : Value} {o1 o2 : Obj} (h : Cur l bo bm bl bk v1 t FO w) : RetO l bo bm bl bk v1 FO key 0 w (.returned (.int .i64 0)) ((w.alloc o1).alloc o2) := by
  have hsz := h.size
  exact ⟨rfl, (((Below.refl _ _).alloc (by omega) _).alloc (by simp; omega) _), t, FO, (h.alloc _).alloc _, fun _ _ => rfl⟩

set_option maxRecDepth 100000 in
set_option maxHeartbeats 1000000 in
theorem ov_same_two (w : World) (h : Cur l bo bm bl bk v1 t FO w) (x ay bY : ByteArray) (kb : Int) (hb : kb = 2 ∨ kb = 3) (hx : x.size ≤ 9223372036854775807) (h4 : bY.size ≤ 9223372036854775807) :
    Calls Try.prog 21 #[.pointer (some ⟨bo + 1, 0, none⟩), .agg #[.int .i64 2, .string x, .string ay], .agg #[.int .i64 kb, .string x, .string bY]] w
      (RetO l bo bm bl bk v1 FO (encO 2 x ay kb x bY) (ovl l 2 x ay kb x bY) w) := by
  have hsz := h.size
  go_enter Try.func21, Try.ntmps21
  go_wp2_with (first | (go_at_call 24; refine (places_any _ ((h.alloc _).alloc _) kb x bY hb hx h4).mono ?_; rintro e w' ⟨a, n, c, rfl, hp, rfl⟩; obtain ⟨a', n', c', e1, e2, e3⟩ := hp; obtain ⟨rfl, rfl, rfl⟩ := Value.slice.inj e1; have HN : Hid _ := e2; clear e1 e2 e3))
  go_ret
  exact retO_three h (by rw [HN.out]; simp [ovl])

set_option maxRecDepth 100000 in
set_option maxHeartbeats 1000000 in
theorem ov_same_three (w : World) (h : Cur l bo bm bl bk v1 t FO w) (x ay bY : ByteArray) (kb : Int) (hb : kb = 2 ∨ kb = 3) (hx : x.size ≤ 9223372036854775807) (h4 : ay.size ≤ 9223372036854775807) :
    Calls Try.prog 21 #[.pointer (some ⟨bo + 1, 0, none⟩), .agg #[.int .i64 3, .string x, .string ay], .agg #[.int .i64 kb, .string x, .string bY]] w
      (RetO l bo bm bl bk v1 FO (encO 3 x ay kb x bY) (ovl l 3 x ay kb x bY) w) := by
  have hsz := h.size
  rcases hb with rfl | rfl
  · go_enter Try.func21, Try.ntmps21
    go_wp2_with (first | (go_at_call 24; refine (places_any _ ((h.alloc _).alloc _) 3 x ay (Or.inr rfl) hx h4).mono ?_; rintro e w' ⟨a, n, c, rfl, hp, rfl⟩; obtain ⟨a', n', c', e1, e2, e3⟩ := hp; obtain ⟨rfl, rfl, rfl⟩ := Value.slice.inj e1; have HN : Hid _ := e2; clear e1 e2 e3))
    go_ret
    exact retO_three h (by rw [HN.out]; simp [ovl])
  · by_cases e : bY = ay
    · subst e
      go_enter Try.func21, Try.ntmps21
      go_wp2_with (first | (go_at_call 24; refine (places_any _ ((h.alloc _).alloc _) 3 x bY (Or.inr rfl) hx h4).mono ?_; rintro e w' ⟨a, n, c, rfl, hp, rfl⟩; obtain ⟨a', n', c', e1, e2, e3⟩ := hp; obtain ⟨rfl, rfl, rfl⟩ := Value.slice.inj e1; have HN : Hid _ := e2; clear e1 e2 e3))
      go_ret
      exact retO_three h (by rw [HN.out]; simp [ovl])
    · have hne := beq_ne e
      have hov : ovl l 3 x ay 3 x bY = 0 := by simp [ovl, e]
      rw [hov]
      clear hov
      go_enter Try.func21, Try.ntmps21
      go_wp2
      go_ret
      exact retO_two h
end
end Go.Proofs.Qxb6601594a
