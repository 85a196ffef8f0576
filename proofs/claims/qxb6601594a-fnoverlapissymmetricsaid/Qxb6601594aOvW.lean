/- overlap, where the keys differ: what holds between its statements. -/
import Derived.Test.Qxb6601594aOvA
namespace Go.Proofs.Qxb6601594a
open Go Go.Maps Go.RowKit

theorem cells_rl {w : World} {b : Nat} {k : Int} {x y : ByteArray} (h : w.heap[b]? = some (rl k x y)) : w.cell? ⟨b, 0, none⟩ = some (.int .i64 k) ∧ w.cell? ⟨b, 1, none⟩ = some (.string x) ∧ w.cell? ⟨b, 2, none⟩ = some (.string y) := by
  unfold rl at h
  refine ⟨?_, ?_, ?_⟩ <;> (rw [cell_of_heap h]; rfl)
theorem free_rl {w : World} {b : Nat} {k : Int} {x y : ByteArray} (h : w.heap[b]? = some (rl k x y)) (i : Nat) : w.frozen? ⟨b, i, none⟩ = false := free_of_heap h

/-- The four lists that overlap has laid: list, other, shorter, longer. -/
structure Wd (l : Lab) (bo bm bl bk : Nat) (v1 : Value) (FO : Value → Option Value) (w : World) (b4 b5 b9 b10 : Nat) (A4 A5 A9 A10 : Obj) (wx : World) : Prop where
  cur : ∃ t, Cur l bo bm bl bk v1 t FO wx
  below : Below bo w wx
  lo : bo + 2 ≤ b4 ∧ bo + 2 ≤ b5 ∧ bo + 2 ≤ b9 ∧ bo + 2 ≤ b10
  ne : b9 ≠ b10 ∧ b4 ≠ b9 ∧ b4 ≠ b10 ∧ b5 ≠ b9 ∧ b5 ≠ b10
  c4 : wx.heap[b4]? = some A4
  c5 : wx.heap[b5]? = some A5
  c9 : wx.heap[b9]? = some A9
  c10 : wx.heap[b10]? = some A10

section
variable {l : Lab} {bo bm bl bk : Nat} {v1 : Value} {t : Int} {FO : Value → Option Value} {w wx w' : World} {b4 b5 b9 b10 : Nat} {A4 A5 A9 A10 : Obj}

theorem lt_of_heap {w : World} {b : Nat} {o : Obj} (h : w.heap[b]? = some o) : b < w.heap.size := (Array.getElem?_eq_some_iff.1 h).1

theorem Wd.on (h : Wd l bo bm bl bk v1 FO w b4 b5 b9 b10 A4 A5 A9 A10 wx) (hb : Below wx.heap.size wx w') : Wd l bo bm bl bk v1 FO w b4 b5 b9 b10 A4 A5 A9 A10 w' := by
  obtain ⟨t, hc⟩ := h.cur
  have hsz := hc.size
  exact ⟨⟨t, hc.on (hb.mono (by omega))⟩, h.below.trans (hb.mono (by omega)), h.lo, h.ne, (hb.block _ (lt_of_heap h.c4)).trans h.c4, (hb.block _ (lt_of_heap h.c5)).trans h.c5, (hb.block _ (lt_of_heap h.c9)).trans h.c9, (hb.block _ (lt_of_heap h.c10)).trans h.c10⟩
theorem Wd.drew (h : Wd l bo bm bl bk v1 FO w b4 b5 b9 b10 A4 A5 A9 A10 wx) : Wd l bo bm bl bk v1 FO w b4 b5 b9 b10 A4 A5 A9 A10 wx.drew := h.on (Below.refl _ _).drew

def W11 (l : Lab) (bo bm bl bk : Nat) (v1 : Value) (FO : Value → Option Value) (w : World) (b4 b5 : Nat) (A4 A5 : Obj) (s9 s10 : Value) (wx : World) : Prop :=
  ∃ b9 b10, s9 = .pointer (some ⟨b9, 0, none⟩) ∧ s10 = .pointer (some ⟨b10, 0, none⟩) ∧ Wd l bo bm bl bk v1 FO w b4 b5 b9 b10 A4 A5 A4 A5 wx

theorem four_blocks (w : World) (A B C D : Obj) : ((((w.alloc A).alloc B).alloc C).alloc D).heap[w.heap.size]? = some A ∧ ((((w.alloc A).alloc B).alloc C).alloc D).heap[w.heap.size + 1]? = some B ∧
    ((((w.alloc A).alloc B).alloc C).alloc D).heap[w.heap.size + 2]? = some C ∧ ((((w.alloc A).alloc B).alloc C).alloc D).heap[w.heap.size + 3]? = some D := by
  have s1 : (w.alloc A).heap.size = w.heap.size + 1 := by simp
  have s2 : ((w.alloc A).alloc B).heap.size = w.heap.size + 2 := by simp
  have s3 : (((w.alloc A).alloc B).alloc C).heap.size = w.heap.size + 3 := by simp
  refine ⟨?_, ?_, ?_, ?_⟩
  · rw [Below.heap_alloc _ _ _ (by omega), Below.heap_alloc _ _ _ (by omega), Below.heap_alloc _ _ _ (by omega)]
    exact (MapKept.heap_alloc w _).1
  · rw [Below.heap_alloc _ _ _ (by omega), Below.heap_alloc _ _ _ (by omega), ← s1]
    exact (MapKept.heap_alloc _ _).1
  · rw [Below.heap_alloc _ _ _ (by omega), ← s2]
    exact (MapKept.heap_alloc _ _).1
  · rw [← s3]
    exact (MapKept.heap_alloc _ _).1

theorem W11_a {A B : Obj} (h : Cur l bo bm bl bk v1 t FO w) :
    W11 l bo bm bl bk v1 FO w w.heap.size (w.heap.size + 1) A B (.pointer (some ⟨w.heap.size + 2, 0, none⟩)) (.pointer (some ⟨w.heap.size + 3, 0, none⟩)) ((((w.alloc A).alloc B).alloc A).alloc B).drew.drew := by
  have hsz := h.size
  obtain ⟨q1, q2, q3, q4⟩ := four_blocks w A B A B
  exact ⟨_, _, rfl, rfl, ⟨t, ((((h.alloc A).alloc B).alloc A).alloc B).drew.drew⟩, ((((((Below.refl _ _).alloc (by omega) _).alloc (by simp; omega) _).alloc (by simp; omega) _).alloc (by simp; omega) _).drew.drew), by omega, by omega, q1, q2, q3, q4⟩
theorem W11_b {A B : Obj} (h : Cur l bo bm bl bk v1 t FO w) :
    W11 l bo bm bl bk v1 FO w w.heap.size (w.heap.size + 1) A B (.pointer (some ⟨w.heap.size + 3, 0, none⟩)) (.pointer (some ⟨w.heap.size + 2, 0, none⟩)) ((((w.alloc A).alloc B).alloc B).alloc A).drew.drew := by
  have hsz := h.size
  obtain ⟨q1, q2, q3, q4⟩ := four_blocks w A B B A
  exact ⟨_, _, rfl, rfl, ⟨t, ((((h.alloc A).alloc B).alloc B).alloc A).drew.drew⟩, ((((((Below.refl _ _).alloc (by omega) _).alloc (by simp; omega) _).alloc (by simp; omega) _).alloc (by simp; omega) _).drew.drew), by omega, by omega, q1, q2, q4, q3⟩

/-- Three stores over one list. -/
theorem store_three {V : World} {b : Nat} {k k' : Int} {x y x' y' : ByteArray} (h : V.heap[b]? = some (rl k x y)) :
    (((V.setCell ⟨b, 0, none⟩ (.int .i64 k')).setCell ⟨b, 1, none⟩ (.string x')).setCell ⟨b, 2, none⟩ (.string y')).heap[b]? = some (rl k' x' y') := by
  have q1 := heap_setCell_at (o := 0) (.int .i64 k') h
  have q2 := heap_setCell_at (o := 1) (.string x') q1
  have q3 := heap_setCell_at (o := 2) (.string y') q2
  rw [q3]
  rfl
theorem store_three_other {V : World} {b c : Nat} {u0 u1 u2 : Value} (h : c ≠ b) :
    (((V.setCell ⟨b, 0, none⟩ u0).setCell ⟨b, 1, none⟩ u1).setCell ⟨b, 2, none⟩ u2).heap[c]? = V.heap[c]? := by
  rw [Below.heap_setCell _ _ _ _ h, Below.heap_setCell _ _ _ _ h, Below.heap_setCell _ _ _ _ h]
theorem store_three_below {V : World} {B b : Nat} {u0 u1 u2 : Value} (h : B ≤ b) : Below B V (((V.setCell ⟨b, 0, none⟩ u0).setCell ⟨b, 1, none⟩ u1).setCell ⟨b, 2, none⟩ u2) :=
  (((Below.refl _ _).setCell h _).setCell h _).setCell h _

/-- The exchange: shorter gets other, longer gets list. -/
theorem Wd.swap {ka kb k9 k10 : Int} {ax ay bx bY x9 y9 x10 y10 : ByteArray} (h : Wd l bo bm bl bk v1 FO w b4 b5 b9 b10 A4 A5 (rl k9 x9 y9) (rl k10 x10 y10) wx) :
    Wd l bo bm bl bk v1 FO w b4 b5 b9 b10 A4 A5 (rl kb bx bY) (rl ka ax ay)
      ((((((wx.setCell ⟨b9, 0, none⟩ (.int .i64 kb)).setCell ⟨b9, 1, none⟩ (.string bx)).setCell ⟨b9, 2, none⟩ (.string bY)).setCell ⟨b10, 0, none⟩ (.int .i64 ka)).setCell ⟨b10, 1, none⟩ (.string ax)).setCell ⟨b10, 2, none⟩ (.string ay)).drew ∧
    Wd l bo bm bl bk v1 FO w b4 b5 b9 b10 A4 A5 (rl kb bx bY) (rl ka ax ay)
      ((((((wx.setCell ⟨b10, 0, none⟩ (.int .i64 ka)).setCell ⟨b10, 1, none⟩ (.string ax)).setCell ⟨b10, 2, none⟩ (.string ay)).setCell ⟨b9, 0, none⟩ (.int .i64 kb)).setCell ⟨b9, 1, none⟩ (.string bx)).setCell ⟨b9, 2, none⟩ (.string bY)).drew := by
  obtain ⟨t, hc⟩ := h.cur
  obtain ⟨n1, n2, n3, n4, n5⟩ := h.ne
  obtain ⟨l1, l2, l3, l4⟩ := h.lo
  refine ⟨?_, ?_⟩
  · have e9 : (((wx.setCell ⟨b9, 0, none⟩ (.int .i64 kb)).setCell ⟨b9, 1, none⟩ (.string bx)).setCell ⟨b9, 2, none⟩ (.string bY)).heap[b10]? = some (rl k10 x10 y10) := (store_three_other (Ne.symm n1)).trans h.c10
    have hb := (store_three_below (V := wx) (u0 := .int .i64 kb) (u1 := .string bx) (u2 := .string bY) l3).trans (store_three_below (u0 := .int .i64 ka) (u1 := .string ax) (u2 := .string ay) l4)
    exact Wd.drew ⟨⟨t, hc.on hb⟩, h.below.trans (hb.mono (by omega)), h.lo, h.ne, ((store_three_other n3).trans (store_three_other n2)).trans h.c4, ((store_three_other n5).trans (store_three_other n4)).trans h.c5, (store_three_other n1).trans (store_three h.c9), store_three e9⟩
  · have e9 : (((wx.setCell ⟨b10, 0, none⟩ (.int .i64 ka)).setCell ⟨b10, 1, none⟩ (.string ax)).setCell ⟨b10, 2, none⟩ (.string ay)).heap[b9]? = some (rl k9 x9 y9) := (store_three_other n1).trans h.c9
    have hb := (store_three_below (V := wx) (u0 := .int .i64 ka) (u1 := .string ax) (u2 := .string ay) l4).trans (store_three_below (u0 := .int .i64 kb) (u1 := .string bx) (u2 := .string bY) l3)
    exact Wd.drew ⟨⟨t, hc.on hb⟩, h.below.trans (hb.mono (by omega)), h.lo, h.ne, ((store_three_other n2).trans (store_three_other n3)).trans h.c4, ((store_three_other n4).trans (store_three_other n5)).trans h.c5, store_three e9, (store_three_other (Ne.symm n1)).trans (store_three h.c10)⟩

/-- 'x.tests += ..'. -/
theorem Wd.tests (h : Wd l bo bm bl bk v1 FO w b4 b5 b9 b10 A4 A5 A9 A10 wx) (u : Int) : Wd l bo bm bl bk v1 FO w b4 b5 b9 b10 A4 A5 A9 A10 (wx.setCell ⟨bo + 1, 5, none⟩ (.int .i64 u)) := by
  obtain ⟨t, hc⟩ := h.cur
  obtain ⟨l1, l2, l3, l4⟩ := h.lo
  have hb : Below bo wx (wx.setCell ⟨bo + 1, 5, none⟩ (.int .i64 u)) := (Below.refl _ _).setCell (by simp) _
  have ho : (wx.setCell ⟨bo + 1, 5, none⟩ (.int .i64 u)).heap[bo + 1]? = some (idxObj (.slice (some ⟨bm, 0, none⟩) l.n l.n) v1 bl bk bo u) := by
    have := hc.obj
    unfold idxObj at this
    rw [heap_setCell_at (o := 5) (.int .i64 u) this]
    rfl
  refine ⟨⟨u, hc.stat.below hb, by have := hb.size; have := hc.size; omega, ho, hc.ovl.of_block (Below.heap_setCell _ _ _ _ (by simp))⟩, h.below.trans hb, h.lo, h.ne, ?_, ?_, ?_, ?_⟩
  · exact (Below.heap_setCell _ _ _ _ (by simp; omega)).trans h.c4
  · exact (Below.heap_setCell _ _ _ _ (by simp; omega)).trans h.c5
  · exact (Below.heap_setCell _ _ _ _ (by simp; omega)).trans h.c9
  · exact (Below.heap_setCell _ _ _ _ (by simp; omega)).trans h.c10

/-- 'x.overlaps[..] = n'; and the answer. -/
theorem Wd.done {key : Value} {n : Nat} {w1 : World} (h : Wd l bo bm bl bk v1 FO w b4 b5 b9 b10 A4 A5 A9 A10 wx) (hg : wx.drew.grownBy w1 (some bo))
    (hup : ∀ F' : Value → Option Value, F' key = some (.int .i64 (n : Nat)) → (∀ y, y ≠ key → F' y = FO y) → MapIs Try.prog 60 w1 bo F') : RetO l bo bm bl bk v1 FO key n w (.returned (.int .i64 (n : Nat))) w1 := by
  obtain ⟨t, hc⟩ := h.cur
  have hsz := hc.size
  have hg' := grownBy_of_drew hg
  have hb : Below bo wx w1 := (Below.refl _ _).grown hg' (by omega) (fun k e => by cases e; omega)
  open Classical in
  exact ⟨rfl, h.below.trans hb, t, fun y => if y = key then some (.int .i64 (n : Nat)) else FO y, ⟨hc.stat.below hb, by have := hb.size; omega, (hg'.block _ (by omega) (by simp)).trans hc.obj, hup _ (by simp) (fun y hy => by simp [hy])⟩, fun y hy => by simp [hy]⟩
end

/-- places and on, their worlds told by 'Below'. -/
def RetPB (l : Lab) (bo : Nat) (kd : Int) (x y : ByteArray) (w : World) (e : Ending) (w' : World) : Prop :=
  ∃ a n c, e = .returned (.slice a n c) ∧ n = (plL l kd x y).length ∧ (0 < n → ∃ g, a = some ⟨g, 0, none⟩ ∧ g < bo ∧ ∀ i u, (plL l kd x y)[i]? = some u → w.cell? ⟨g, i, none⟩ = some (.int .i64 (u : Nat))) ∧ Below w.heap.size w w'

section
variable {l : Lab} {bo bm bl bk : Nat} {v1 : Value} {t : Int} {FO : Value → Option Value}
theorem places_b (w : World) (h : Cur l bo bm bl bk v1 t FO w) (kd : Int) (x y : ByteArray) (hk : kd = 2 ∨ kd = 3) (hx : x.size ≤ 9223372036854775807) (hy : y.size ≤ 9223372036854775807) :
    Calls Try.prog 24 #[.pointer (some ⟨bo + 1, 0, none⟩), .agg #[.int .i64 kd, .string x, .string y]] w (RetPB l bo kd x y w) := by
  refine (places_any w h kd x y hk hx hy).mono ?_
  rintro e w' ⟨a, n, c, rfl, hp, rfl⟩
  obtain ⟨a', n', c', e1, e2, e3⟩ := hp
  obtain ⟨rfl, rfl, rfl⟩ := Value.slice.inj e1
  exact ⟨a, n, c, rfl, e2, e3, ((Below.refl _ _).alloc (Nat.le_refl _) _).drew⟩

theorem on_b (w : World) (h : Cur l bo bm bl bk v1 t FO w) (kd : Int) (x y : ByteArray) (i : Nat) (hi : i < l.n) (hn : l.n ≤ 9223372036854775807) (hk : kd = 2 ∨ kd = 3) (hx : x.size ≤ 9223372036854775807) :
    Calls Try.prog 25 #[.pointer (some ⟨bo + 1, 0, none⟩), .agg #[.int .i64 kd, .string x, .string y], .int .i64 (i : Nat)] w fun e w' => e = .returned (.bool (onL l kd x y i)) ∧ Below w.heap.size w w' := by
  refine (on_any w h kd x y i hi hn hk hx).mono ?_
  rintro e w' ⟨rfl, rfl⟩
  exact ⟨rfl, ((Below.refl _ _).alloc (Nat.le_refl _) _).drew⟩
end
end Go.Proofs.Qxb6601594a
