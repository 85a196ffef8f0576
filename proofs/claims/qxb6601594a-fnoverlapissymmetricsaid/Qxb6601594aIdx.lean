/- The index's two readers: places and on. -/
import Derived.Test.Qxb6601594aStatic
import Derived.Deep.RegionHeld3
namespace Go.Proofs.Qxb6601594a
open Go Go.Maps Go.RowKit

/-- The index, as the calls of overlap meet it. -/
structure Cur (l : Lab) (bo bm bl bk : Nat) (v1 : Value) (t : Int) (FO : Value → Option Value) (w : World) : Prop where
  stat : Static l bo w bm bl bk
  size : bo + 2 ≤ w.heap.size
  obj : w.heap[bo + 1]? = some (idxObj (.slice (some ⟨bm, 0, none⟩) l.n l.n) v1 bl bk bo t)
  ovl : MapIs Try.prog 60 w bo FO

section
variable {l : Lab} {bo bm bl bk : Nat} {v1 : Value} {t : Int} {FO : Value → Option Value} {w w' : World}

theorem Cur.cell (h : Cur l bo bm bl bk v1 t FO w) (i : Nat) : w.cell? ⟨bo + 1, i, none⟩ = #[.slice (some ⟨bm, 0, none⟩) l.n l.n, v1, .map (some bl), .map (some bk), .map (some bo), .int .i64 t][i]? := by
  have := h.obj
  simp only [idxObj] at this
  rw [cell_of_heap this]

/-- Nothing below bo + 2 has turned. -/
theorem Cur.on (h : Cur l bo bm bl bk v1 t FO w) (hb : Below (bo + 2) w w') : Cur l bo bm bl bk v1 t FO w' :=
  ⟨h.stat.below (hb.mono (by omega)), by have := hb.size; have := h.size; omega, (hb.block _ (by omega)).trans h.obj, h.ovl.of_block (hb.block _ (by omega))⟩

theorem Cur.alloc (h : Cur l bo bm bl bk v1 t FO w) (o : Obj) : Cur l bo bm bl bk v1 t FO (w.alloc o) := h.on ((Below.refl _ _).alloc h.size o)
theorem Cur.drew (h : Cur l bo bm bl bk v1 t FO w) : Cur l bo bm bl bk v1 t FO w.drew := h.on (Below.refl _ _).drew
end

/-- A list of roles lies in three cells. -/
def rl (kd : Int) (x y : ByteArray) : Obj := .cells #[.int .i64 kd, .string x, .string y] 53

def RetP (l : Lab) (bo : Nat) (kd : Int) (x y : ByteArray) (w : World) (e : Ending) (w' : World) : Prop :=
  ∃ a n c, e = .returned (.slice a n c) ∧ Places w bo (.slice a n c) (plL l kd x y) ∧ (w.alloc (rl kd x y)).drew = w'

theorem plL_two (l : Lab) (x y : ByteArray) : plL l 2 x y = plK l l.n x := by
  unfold plL plK
  congr 1
theorem plL_three (l : Lab) (x y : ByteArray) : plL l 3 x y = plP l l.n (x, y) := by
  unfold plL plP
  congr 1

set_option maxHeartbeats 1000000 in
theorem places_any {l : Lab} {bo bm bl bk : Nat} {v1 : Value} {t : Int} {FO : Value → Option Value} (w : World) (h : Cur l bo bm bl bk v1 t FO w) (kd : Int) (x y : ByteArray) (hk : kd = 2 ∨ kd = 3) (hx : x.size ≤ 9223372036854775807) (hy : y.size ≤ 9223372036854775807) :
    Calls Try.prog 24 #[.pointer (some ⟨bo + 1, 0, none⟩), .agg #[.int .i64 kd, .string x, .string y]] w (RetP l bo kd x y w) := by
  have hsz := h.size
  rcases hk with rfl | rfl
  · obtain ⟨F, hF, hp⟩ := h.stat.keyed
    obtain ⟨a, n, c, hv, hn, hr⟩ := hp x
    have c3 : (w.alloc (.cells #[.int .i64 2, .string x, .string y] 53)).drew.cell? ⟨bo + 1, 3, none⟩ = some (.map (some bk)) := (h.alloc _).drew.cell 3
    have hrun : (Instr.lookup 40 (.map (some bk)) (.string x) false).run Try.prog (w.alloc (.cells #[.int .i64 2, .string x, .string y] 53)).drew = .ok (.slice a n c) (w.alloc (.cells #[.int .i64 2, .string x, .string y] 53)).drew := by
      have := (hF.of_block (w' := (w.alloc (.cells #[.int .i64 2, .string x, .string y] 53)).drew) (Below.heap_alloc _ _ _ (by have := h.stat.hk; omega))).look K9 Try.underlying40 (zero39 _) (key9 hx) false
      rw [hv] at this
      exact this
    have hpl : Places w bo (.slice a n c) (plL l 2 x y) := by rw [plL_two]; exact ⟨a, n, c, rfl, hn, hr⟩
    have HP : Hid _ := hpl
    clear hpl hn hr hv hp
    go_enter Try.func24, Try.ntmps24
    go_wp2
    go_region_held3 (fun w' => w'.cell? ⟨bo + 1, 3, none⟩ = some (.map (some bk)) ∧ w'.cell? ⟨w.heap.size, 1, none⟩ = some (.string x)) (go_keep) (fail)
    go_wp2
    go_ret
    exact ⟨a, n, c, rfl, HP.out, rfl⟩
  · obtain ⟨F, hF, hp⟩ := h.stat.labelled
    obtain ⟨a, n, c, hv, hn, hr⟩ := hp (x, y)
    obtain ⟨lx, hkx⟩ := key51 (p := (x, y)) hx hy
    have c3 : (w.alloc (.cells #[.int .i64 3, .string x, .string y] 53)).drew.cell? ⟨bo + 1, 2, none⟩ = some (.map (some bl)) := (h.alloc _).drew.cell 2
    have hrun : (Instr.lookup 56 (.map (some bl)) (.agg #[.string x, .string y]) false).run Try.prog (w.alloc (.cells #[.int .i64 3, .string x, .string y] 53)).drew = .ok (.slice a n c) (w.alloc (.cells #[.int .i64 3, .string x, .string y] 53)).drew := by
      have := (hF.of_block (w' := (w.alloc (.cells #[.int .i64 3, .string x, .string y] 53)).drew) (Below.heap_alloc _ _ _ (by have := h.stat.hl; omega))).look K51 Try.underlying56 (zero39 _) hkx false
      rw [hv] at this
      exact this
    have hpl : Places w bo (.slice a n c) (plL l 3 x y) := by rw [plL_three]; exact ⟨a, n, c, rfl, hn, hr⟩
    have HP : Hid _ := hpl
    clear hpl hn hr hv hp hkx
    go_enter Try.func24, Try.ntmps24
    go_wp2
    go_region_held3 (fun w' => w'.cell? ⟨bo + 1, 2, none⟩ = some (.map (some bl)) ∧ w'.cell? ⟨w.heap.size, 1, none⟩ = some (.string x) ∧ w'.cell? ⟨w.heap.size, 2, none⟩ = some (.string y)) (go_keep) (fail)
    go_wp2
    go_ret
    exact ⟨a, n, c, rfl, HP.out, rfl⟩

theorem beq_iff (s t : ByteArray) : (s.toList == t.toList) = decide (s = t) := by
  by_cases e : s = t
  · subst e
    simp
  · rw [beq_ne e]
    simp [e]

set_option maxHeartbeats 1000000 in
theorem on_any {l : Lab} {bo bm bl bk : Nat} {v1 : Value} {t : Int} {FO : Value → Option Value} (w : World) (h : Cur l bo bm bl bk v1 t FO w) (kd : Int) (x y : ByteArray) (i : Nat) (hi : i < l.n) (_hn : l.n ≤ 9223372036854775807) (hk : kd = 2 ∨ kd = 3) (hx : x.size ≤ 9223372036854775807) :
    Calls Try.prog 25 #[.pointer (some ⟨bo + 1, 0, none⟩), .agg #[.int .i64 kd, .string x, .string y], .int .i64 (i : Nat)] w fun e w' => e = .returned (.bool (onL l kd x y i)) ∧ (w.alloc (rl kd x y)).drew = w' := by
  have hsz := h.size
  have hbm := h.stat.hm
  obtain ⟨m, hm, hcm, F, hF, hFv⟩ := h.stat.role i hi
  have c0 : (w.alloc (.cells #[.int .i64 kd, .string x, .string y] 53)).drew.cell? ⟨bo + 1, 0, none⟩ = some (.slice (some ⟨bm, 0, none⟩) l.n l.n) := (h.alloc _).drew.cell 0
  have c1 : (w.alloc (.cells #[.int .i64 kd, .string x, .string y] 53)).drew.cell? ⟨bm, i, none⟩ = some (.map (some m)) := (World.grownBy_alloc w _ none).cell hcm (by simp)
  have hlook := (hF.of_block (w' := (w.alloc (.cells #[.int .i64 kd, .string x, .string y] 53)).drew) (Below.heap_alloc _ _ _ (by omega))).look K9 Try.underlying43 (zero9 _) (key9 hx) true
  rw [hFv] at hlook
  cases hmr : mr l i x with
  | none =>
    rw [hmr] at hlook
    have hon : onL l kd x y i = false := by rcases hk with rfl | rfl <;> simp [onL, hasK, hasP, hmr]
    rw [hon]
    have hrun : (Instr.lookup 43 (.map (some m)) (.string x) true).run Try.prog (w.alloc (.cells #[.int .i64 kd, .string x, .string y] 53)).drew = .ok (.tuple #[.string ByteArray.empty, .bool false]) (w.alloc (.cells #[.int .i64 kd, .string x, .string y] 53)).drew := hlook
    clear hlook hon hFv hmr hcm
    rcases hk with rfl | rfl
    · go_enter Try.func25, Try.ntmps25
      go_wp2
      go_region_held3 (fun w' => w'.cell? ⟨bo + 1, 0, none⟩ = some (.slice (some ⟨bm, 0, none⟩) l.n l.n) ∧ w'.cell? ⟨bm, i, none⟩ = some (.map (some m)) ∧ w'.cell? ⟨w.heap.size, 1, none⟩ = some (.string x)) (go_keep) (fail)
      go_wp2
      go_ret
      exact ⟨rfl, rfl⟩
    · go_enter Try.func25, Try.ntmps25
      go_wp2
      go_region_held3 (fun w' => w'.cell? ⟨bo + 1, 0, none⟩ = some (.slice (some ⟨bm, 0, none⟩) l.n l.n) ∧ w'.cell? ⟨bm, i, none⟩ = some (.map (some m)) ∧ w'.cell? ⟨w.heap.size, 1, none⟩ = some (.string x)) (go_keep) (fail)
      go_wp2
      go_ret
      exact ⟨rfl, rfl⟩
  | some s =>
    rw [hmr] at hlook
    have hrun : (Instr.lookup 43 (.map (some m)) (.string x) true).run Try.prog (w.alloc (.cells #[.int .i64 kd, .string x, .string y] 53)).drew = .ok (.tuple #[.string s, .bool true]) (w.alloc (.cells #[.int .i64 kd, .string x, .string y] 53)).drew := hlook
    rcases hk with rfl | rfl
    · have hon : onL l 2 x y i = true := by simp [onL, hasK, hmr]
      rw [hon]
      clear hlook hon hFv hmr hcm
      go_enter Try.func25, Try.ntmps25
      go_wp2
      go_region_held3 (fun w' => w'.cell? ⟨bo + 1, 0, none⟩ = some (.slice (some ⟨bm, 0, none⟩) l.n l.n) ∧ w'.cell? ⟨bm, i, none⟩ = some (.map (some m)) ∧ w'.cell? ⟨w.heap.size, 1, none⟩ = some (.string x)) (go_keep) (fail)
      go_wp2
      go_ret
      exact ⟨rfl, rfl⟩
    · have hon : onL l 3 x y i = (s.toList == y.toList) := by simp [onL, hasP, hmr, beq_iff]
      rw [hon]
      clear hlook hon hFv hmr hcm
      go_enter Try.func25, Try.ntmps25
      go_wp2
      go_region_held3 (fun w' => w'.cell? ⟨bo + 1, 0, none⟩ = some (.slice (some ⟨bm, 0, none⟩) l.n l.n) ∧ w'.cell? ⟨bm, i, none⟩ = some (.map (some m)) ∧ w'.cell? ⟨w.heap.size, 1, none⟩ = some (.string x)) (go_keep) (fail)
      go_wp2
      go_ret
      exact ⟨rfl, rfl⟩
end Go.Proofs.Qxb6601594a
