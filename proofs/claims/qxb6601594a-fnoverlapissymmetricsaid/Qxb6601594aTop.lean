/- FnOverlapIsSymmetric: the walk. -/
import Derived.Test.Qxb6601594aOvB
import Derived.Test.Qxb6601594aBuild
import Derived.Test.Qxb6601594aBytes
import Derived.Test.Qxb6601594aFit
namespace Go.Proofs.Qxb6601594a
open Go Go.Maps Go.RowKit

section
variable {l : Lab} {bo bm bl bk : Nat} {v1 : Value} {t : Int} {FO : Value → Option Value}

theorem ov_any (w : World) (h : Cur l bo bm bl bk v1 t FO w) (hn : l.n ≤ 1048576) (ka kb : Int) (ax ay bx bY : ByteArray) (ha : ka = 2 ∨ ka = 3) (hb : kb = 2 ∨ kb = 3)
    (h1 : ax.size ≤ 9223372036854775807) (h2 : ay.size ≤ 9223372036854775807) (h3 : bx.size ≤ 9223372036854775807) (h4 : bY.size ≤ 9223372036854775807) (hFO : ax ≠ bx → FO (encO ka ax ay kb bx bY) = none) :
    Calls Try.prog 21 #[.pointer (some ⟨bo + 1, 0, none⟩), .agg #[.int .i64 ka, .string ax, .string ay], .agg #[.int .i64 kb, .string bx, .string bY]] w
      (RetO l bo bm bl bk v1 FO (encO ka ax ay kb bx bY) (ovl l ka ax ay kb bx bY) w) := by
  by_cases e : ax = bx
  · subst e
    rcases ha with rfl | rfl
    · exact ov_same_two w h ax ay bY kb hb h1 h4
    · exact ov_same_three w h ax ay bY kb hb h1 h2
  · exact ov_else w h hn ka kb ax ay bx bY ha hb e h1 h2 h3 h4 (hFO e)

set_option maxHeartbeats 1000000 in
theorem zzov_any (w : World) (h : Cur l bo bm bl bk v1 t FO w) (hn : l.n ≤ 1048576) (ka kb : Int) (ax ay bx bY : ByteArray) (ha : ka = 2 ∨ ka = 3) (hb : kb = 2 ∨ kb = 3)
    (h1 : ax.size ≤ 9223372036854775807) (h2 : ay.size ≤ 9223372036854775807) (h3 : bx.size ≤ 9223372036854775807) (h4 : bY.size ≤ 9223372036854775807) (hFO : ax ≠ bx → FO (encO ka ax ay kb bx bY) = none) :
    Calls Try.prog 9 #[.pointer (some ⟨bo + 1, 0, none⟩), .int .i64 ka, .string ax, .string ay, .int .i64 kb, .string bx, .string bY] w
      (RetO l bo bm bl bk v1 FO (encO ka ax ay kb bx bY) (ovl l ka ax ay kb bx bY) w) := by
  have hsz := h.size
  have HFO : Hid _ := hFO
  clear hFO
  go_enter Try.func9, Try.ntmps9
  go_wp2_with (first | (go_at_call 22; refine (roleList_any _ _ _ _).mono ?_; rintro e w' ⟨rfl, rfl⟩) | (go_at_call 21; refine (ov_any _ ((h.alloc _).alloc _) hn ka kb ax ay bx bY ha hb h1 h2 h3 h4 HFO.out).mono ?_; rintro e w' ⟨rfl, hb1, hb2⟩; have HB : Hid _ := hb2; clear hb2))
  go_ret
  obtain ⟨t', FO', hc, hfo⟩ := HB.out
  exact ⟨rfl, (((Below.refl _ _).alloc (by omega) _).alloc (by simp; omega) _).trans hb1, t', FO', hc, hfo⟩
end

def RetT (w : World) (e : Ending) (w' : World) : Prop := e = .returned (.bool true) ∧ Below w.heap.size w w'

theorem ret_bool {b : Bool} (h : b = true) : Ending.returned (.bool b) = .returned (.bool true) := by rw [h]

theorem encO_ne {ka kb : Int} {ax ay bx bY : ByteArray} (h : ax ≠ bx) : encO kb bx bY ka ax ay ≠ encO ka ax ay kb bx bY := by
  intro e
  simp only [encO, Value.agg.injEq] at e
  have : (Value.string bx) = .string ax := by
    have := congrArg (fun a : Array Value => a[1]?) e
    simpa using this
  exact h (by simpa using this.symm)

set_option maxRecDepth 100000 in
set_option maxHeartbeats 2000000 in
theorem walk (l : Lab) (a0 : Option Addr) (cap : Nat) (ka kb : Int) (ax ay bx bY : ByteArray) (w : World) (h : l.In w) (ha0 : 0 < l.n → a0 = some ⟨l.B, l.O, none⟩)
    (h1 : ax.size ≤ 9223372036854775807) (h2 : ay.size ≤ 9223372036854775807) (h3 : bx.size ≤ 9223372036854775807) (h4 : bY.size ≤ 9223372036854775807) :
    Calls Try.prog 5 #[.slice a0 l.n cap, .int .i64 ka, .string ax, .string ay, .int .i64 kb, .string bx, .string bY] w (RetT w) := by
  have HA : Hid _ := ha0
  clear ha0
  by_cases ha : ka = 2 ∨ ka = 3
  · by_cases hb : kb = 2 ∨ kb = 3
    · have ha' := ha
      have hb' := hb
      rcases ha' with rfl | rfl <;> rcases hb' with rfl | rfl
      all_goals
        go_enter Try.func5, Try.ntmps5
        go_wp2_with (first | (go_at_call 16; refine (bytes_any l a0 cap _ _ ax ay bx bY _ h HA.out h1 h2 h3 h4).mono ?_; rintro e w' ⟨b, rfl, hw, hbd⟩; obtain rfl := hw.symm; have HBD : Hid _ := hbd; clear hbd; cases b) | (go_at_call 7; refine (fit_any l a0 cap ax ay bx bY _ h HA.out).mono ?_; rintro e w' ⟨b, rfl, hw, _⟩; obtain rfl := hw.symm; cases b))
        · go_ret
          exact ⟨rfl, Below.refl _ _⟩
        · go_ret
          exact ⟨rfl, Below.refl _ _⟩
        · refine (build_any l a0 cap w h HA.out (HBD.out trivial)).mono ?_
          rintro e w1 ⟨bo, bm, bl, bk, v1, rfl, hb1, hbo, hsz1, hstat, hobj, hov⟩
          have hnn : l.n ≤ 1048576 := by have := HBD.out trivial; omega
          have hcur : Cur l bo bm bl bk v1 0 (fun _ => none) w1 := ⟨hstat, hsz1, hobj, hov⟩
          clear hstat hobj hov
          go_wp2_with fail
          refine (zzov_any w1 hcur hnn _ _ ax ay bx bY (by decide) (by decide) h1 h2 h3 h4 (fun _ => rfl)).mono ?_
          rintro e w2 ⟨rfl, hb2, t2, FO2, hcur2, hfo2⟩
          have HFO : Hid _ := hfo2
          clear hcur hfo2
          go_wp2_with fail
          refine (zzov_any w2 hcur2 hnn _ _ bx bY ax ay (by decide) (by decide) h3 h4 h1 h2 (fun e => HFO.out _ (encO_ne (Ne.symm e)))).mono ?_
          rintro e w3 ⟨rfl, hb3, _⟩
          go_wp2_with fail
          go_ret
          refine ⟨ret_bool ?_, hb1.trans ((hb2.mono hbo).trans (hb3.mono hbo))⟩
          rw [ovl_symm l _ ax ay _ bx bY (by decide) (by decide)]
          simp
    · have e2 : kb ≠ 2 ∧ kb ≠ 3 := ⟨fun e => hb (Or.inl e), fun e => hb (Or.inr e)⟩
      have e3 : ((kb : Int) != 2) = true := by simpa using e2.1
      have e4 : ((kb : Int) != 3) = true := by simpa using e2.2
      clear e2 hb
      rcases ha with rfl | rfl
      all_goals
        go_enter Try.func5, Try.ntmps5
        go_wp2_with (first | (go_at_call 16; refine (bytes_any l a0 cap _ _ ax ay bx bY _ h HA.out h1 h2 h3 h4).mono ?_; rintro e w' ⟨b, rfl, hw, hbd⟩; obtain rfl := hw.symm; have HBD : Hid _ := hbd; clear hbd; cases b) | (go_at_call 7; refine (fit_any l a0 cap ax ay bx bY _ h HA.out).mono ?_; rintro e w' ⟨b, rfl, hw, _⟩; obtain rfl := hw.symm; cases b))
        all_goals
          go_ret
          exact ⟨rfl, Below.refl _ _⟩
  · have e2 : ka ≠ 2 ∧ ka ≠ 3 := ⟨fun e => ha (Or.inl e), fun e => ha (Or.inr e)⟩
    have e3 : ((ka : Int) != 2) = true := by simpa using e2.1
    have e4 : ((ka : Int) != 3) = true := by simpa using e2.2
    clear e2 ha
    go_enter Try.func5, Try.ntmps5
    go_wp2_with (first | (go_at_call 16; refine (bytes_any l a0 cap _ _ ax ay bx bY _ h HA.out h1 h2 h3 h4).mono ?_; rintro e w' ⟨b, rfl, hw, hbd⟩; obtain rfl := hw.symm; have HBD : Hid _ := hbd; clear hbd; cases b) | (go_at_call 7; refine (fit_any l a0 cap ax ay bx bY _ h HA.out).mono ?_; rintro e w' ⟨b, rfl, hw, _⟩; obtain rfl := hw.symm; cases b))
    all_goals
      go_ret
      exact ⟨rfl, Below.refl _ _⟩
end Go.Proofs.Qxb6601594a
