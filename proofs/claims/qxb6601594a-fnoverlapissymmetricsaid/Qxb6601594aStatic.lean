/- The index as zzBuild leaves it; loops 4 and 5. -/
import Derived.Test.Qxb6601594aSmall
namespace Go.Proofs.Qxb6601594a
open Go Go.Maps Go.RowKit

/-- A slice of places: what is read of it. -/
def Places (w : World) (bo : Nat) (v : Value) (xs : List Nat) : Prop :=
  ∃ a n c, v = .slice a n c ∧ n = xs.length ∧ (0 < n → ∃ g, a = some ⟨g, 0, none⟩ ∧ g < bo ∧ ∀ i u, xs[i]? = some u → w.cell? ⟨g, i, none⟩ = some (.int .i64 (u : Nat)))

/-- What of the index does not turn any more: all of it lies below block bo. -/
structure Static (l : Lab) (bo : Nat) (w : World) (bm bl bk : Nat) : Prop where
  hm : bm < bo
  hl : bl < bo
  hk : bk < bo
  role : ∀ i, i < l.n → ∃ m, m < bo ∧ w.cell? ⟨bm, i, none⟩ = some (.map (some m)) ∧ ∃ F, MapIs Try.prog 9 w m F ∧ ∀ x, F (.string x) = (mr l i x).map Value.string
  keyed : ∃ F, MapIs Try.prog 9 w bk F ∧ ∀ x, Places w bo ((F (.string x)).getD (.slice none 0 0)) (plK l l.n x)
  labelled : ∃ F, MapIs Try.prog 51 w bl F ∧ ∀ p, Places w bo ((F (encP p)).getD (.slice none 0 0)) (plP l l.n p)

theorem Places.below {w w' : World} {bo : Nat} {v : Value} {xs : List Nat} (h : Places w bo v xs) (hb : Below bo w w') : Places w' bo v xs := by
  obtain ⟨a, n, c, h1, h2, h3⟩ := h
  refine ⟨a, n, c, h1, h2, fun hn => ?_⟩
  obtain ⟨g, h4, h5, h6⟩ := h3 hn
  exact ⟨g, h4, h5, fun i u hi => (hb.cell (p := ⟨g, i, none⟩) h5).trans (h6 i u hi)⟩

theorem Static.below {l : Lab} {bo bm bl bk : Nat} {w w' : World} (h : Static l bo w bm bl bk) (hb : Below bo w w') : Static l bo w' bm bl bk := by
  refine ⟨h.hm, h.hl, h.hk, fun i hi => ?_, ?_, ?_⟩
  · obtain ⟨m, h1, h2, F, h3, h4⟩ := h.role i hi
    exact ⟨m, h1, (hb.cell (p := ⟨bm, i, none⟩) h.hm).trans h2, F, h3.of_block (hb.block m h1), h4⟩
  · obtain ⟨F, h1, h2⟩ := h.keyed
    exact ⟨F, h1.of_block (hb.block bk h.hk), fun x => (h2 x).below hb⟩
  · obtain ⟨F, h1, h2⟩ := h.labelled
    exact ⟨F, h1.of_block (hb.block bl h.hl), fun x => (h2 x).below hb⟩

/-- The index being filled: N the first block behind loop 1; N: labelled, N + 1: keyed, N + 2: overlaps, N + 3: the struct. -/
structure Idx (N : Nat) (wE : World) (v0 v1 : Value) (FL FX : Value → Option Value) (wx : World) : Prop where
  below : Below N wE wx
  size : N + 4 ≤ wx.heap.size
  obj : wx.heap[N + 3]? = some (idxObj v0 v1 N (N + 1) (N + 2) 0)
  labelled : MapIs Try.prog 51 wx N FL
  keyed : MapIs Try.prog 9 wx (N + 1) FX
  overlaps : MapIs Try.prog 60 wx (N + 2) (fun _ => none)

theorem Idx.drew {N : Nat} {wE : World} {v0 v1 : Value} {FL FX : Value → Option Value} {wx : World} (h : Idx N wE v0 v1 FL FX wx) : Idx N wE v0 v1 FL FX wx.drew :=
  ⟨h.below.drew, h.size, h.obj, h.labelled.of_block rfl, h.keyed.of_block rfl, h.overlaps.of_block rfl⟩

theorem Idx.cell2 {N : Nat} {wE : World} {v0 v1 : Value} {FL FX : Value → Option Value} {wx : World} (h : Idx N wE v0 v1 FL FX wx) : wx.cell? ⟨N + 3, 2, none⟩ = some (.map (some N)) := by
  have := h.obj
  simp only [idxObj] at this
  rw [cell_of_heap this]
  rfl
theorem Idx.cell3 {N : Nat} {wE : World} {v0 v1 : Value} {FL FX : Value → Option Value} {wx : World} (h : Idx N wE v0 v1 FL FX wx) : wx.cell? ⟨N + 3, 3, none⟩ = some (.map (some (N + 1))) := by
  have := h.obj
  simp only [idxObj] at this
  rw [cell_of_heap this]
  rfl

theorem Idx.start (wE : World) (v0 v1 : Value) : Idx wE.heap.size wE v0 v1 (fun _ => none) (fun _ => none)
    ((((wE.alloc (.map #[] 0)).alloc (.map #[] 0)).alloc (.map #[] 0)).alloc (idxObj v0 v1 wE.heap.size (wE.heap.size + 1) (wE.heap.size + 2) 0)) := by
  have s1 : (wE.alloc (.map #[] 0)).heap.size = wE.heap.size + 1 := by simp
  have s2 : ((wE.alloc (.map #[] 0)).alloc (.map #[] 0)).heap.size = wE.heap.size + 2 := by simp
  have s3 : (((wE.alloc (.map #[] 0)).alloc (.map #[] 0)).alloc (.map #[] 0)).heap.size = wE.heap.size + 3 := by simp
  have m1 := MapIs.made Try.prog 51 wE
  have m2 := MapIs.made Try.prog 9 (wE.alloc (.map #[] 0))
  have m3 := MapIs.made Try.prog 60 ((wE.alloc (.map #[] 0)).alloc (.map #[] 0))
  rw [s1] at m2
  rw [s2] at m3
  refine ⟨((((Below.refl _ _).alloc (Nat.le_refl _) _).alloc (by omega) _).alloc (by omega) _).alloc (by omega) _, by simp, ?_, ?_, ?_, ?_⟩
  · rw [← s3]
    exact (MapKept.heap_alloc _ _).1
  · exact ((m1.of_block (Below.heap_alloc _ _ _ (by omega))).of_block (Below.heap_alloc _ _ _ (by omega))).of_block (Below.heap_alloc _ _ _ (by omega))
  · exact (m2.of_block (Below.heap_alloc _ _ _ (by omega))).of_block (Below.heap_alloc _ _ _ (by omega))
  · exact m3.of_block (Below.heap_alloc _ _ _ (by omega))

/-- F holds what G has at the listed keys, and nothing at the others. -/
def Filled {κ : Type} (enc : κ → Value) (xs : List κ) (G F : Value → Option Value) : Prop :=
  ∀ y, (y ∈ xs → F (enc y) = some ((G (enc y)).getD (.slice none 0 0))) ∧ (y ∉ xs → F (enc y) = none)

def R4 (N : Nat) (wE : World) (v0 v1 : Value) (ks : List ByteArray) (FK : Value → Option Value) (g : Nat) (s23 : Value) (wx : World) : Prop :=
  ∃ (i : Nat) (F : Value → Option Value), i ≤ ks.length ∧ g = ks.length - i ∧ s23 = .int .i64 i ∧ Idx N wE v0 v1 (fun _ => none) F wx ∧
    Filled Value.string (ks.take i) FK F

def R5 (N : Nat) (wE : World) (v0 v1 : Value) (ps : List (ByteArray × ByteArray)) (FP F4 : Value → Option Value) (g : Nat) (s24 : Value) (wx : World) : Prop :=
  ∃ (i : Nat) (F : Value → Option Value), i ≤ ps.length ∧ g = ps.length - i ∧ s24 = .int .i64 i ∧ Idx N wE v0 v1 F F4 wx ∧
    Filled encP (ps.take i) FP F

theorem R4_start (wE : World) (v0 v1 : Value) (ks : List ByteArray) (FK : Value → Option Value) : R4 wE.heap.size wE v0 v1 ks FK ks.length (.int .i64 0)
    ((((wE.alloc (.map #[] 0)).alloc (.map #[] 0)).alloc (.map #[] 0)).alloc (idxObj v0 v1 wE.heap.size (wE.heap.size + 1) (wE.heap.size + 2) 0)) :=
  ⟨0, _, Nat.zero_le _, rfl, rfl, Idx.start wE v0 v1, fun y => ⟨fun h => by simp at h, fun _ => rfl⟩⟩

theorem R4_step {N : Nat} {wE wx w' : World} {v0 v1 : Value} {ks : List ByteArray} {FK F : Value → Option Value} {i : Nat} {x : ByteArray} (h : Idx N wE v0 v1 (fun _ => none) F wx) (hi : i < ks.length) (hx : ks[i]? = some x)
    (hF : Filled Value.string (ks.take i) FK F)
    (hg : wx.grownBy w' (some (N + 1))) (hup : ∀ F' : Value → Option Value, F' (.string x) = some ((FK (.string x)).getD (.slice none 0 0)) → (∀ y, y ≠ .string x → F' y = F y) → MapIs Try.prog 9 w' (N + 1) F') :
    R4 N wE v0 v1 ks FK (ks.length - (i + 1)) (.int .i64 ((i + 1 : Nat) : Int)) w' := by
  have hsz := h.size
  open Classical in
  refine ⟨i + 1, fun y => if y = .string x then some ((FK (.string x)).getD (.slice none 0 0)) else F y, by omega, rfl, rfl, ⟨h.below.grown hg (by have := h.size; omega) (fun k e => by cases e; omega), by have := hg.size; omega, (hg.block _ (by omega) (by simp)).trans h.obj,
    h.labelled.of_block (hg.block _ (by omega) (by simp)), hup _ (by simp) (fun y hy => by simp [hy]), h.overlaps.of_block (hg.block _ (by omega) (by simp))⟩, fun y => ?_⟩
  have ht : ks.take (i + 1) = ks.take i ++ [x] := by rw [List.take_add_one, hx]; rfl
  rw [ht]
  by_cases e : y = x
  · subst e
    exact ⟨fun _ => by simp, fun h => absurd (by simp) h⟩
  · have e' : ¬ Value.string y = Value.string x := fun h => e (by simpa using h)
    simp only [if_neg e', List.mem_append, List.mem_singleton, e, or_false]
    exact hF y

theorem R5_start {N : Nat} {wE wx : World} {v0 v1 : Value} {ps : List (ByteArray × ByteArray)} {FP F4 : Value → Option Value} (h : Idx N wE v0 v1 (fun _ => none) F4 wx) : R5 N wE v0 v1 ps FP F4 ps.length (.int .i64 0) wx :=
  ⟨0, _, Nat.zero_le _, rfl, rfl, h, fun y => ⟨fun h => by simp at h, fun _ => rfl⟩⟩

theorem R5_step {N : Nat} {wE wx w' : World} {v0 v1 : Value} {ps : List (ByteArray × ByteArray)} {FP F4 F : Value → Option Value} {i : Nat} {x : ByteArray × ByteArray} (h : Idx N wE v0 v1 F F4 wx) (hi : i < ps.length) (hx : ps[i]? = some x)
    (hF : Filled encP (ps.take i) FP F)
    (hg : wx.grownBy w' (some N)) (hup : ∀ F' : Value → Option Value, F' (encP x) = some ((FP (encP x)).getD (.slice none 0 0)) → (∀ y, y ≠ encP x → F' y = F y) → MapIs Try.prog 51 w' N F') :
    R5 N wE v0 v1 ps FP F4 (ps.length - (i + 1)) (.int .i64 ((i + 1 : Nat) : Int)) w' := by
  have hsz := h.size
  open Classical in
  refine ⟨i + 1, fun y => if y = encP x then some ((FP (encP x)).getD (.slice none 0 0)) else F y, by omega, rfl, rfl, ⟨h.below.grown hg (by have := h.size; omega) (fun k e => by cases e; omega), by have := hg.size; omega, (hg.block _ (by omega) (by simp)).trans h.obj,
    hup _ (by simp) (fun y hy => by simp [hy]), h.keyed.of_block (hg.block _ (by omega) (by simp)), h.overlaps.of_block (hg.block _ (by omega) (by simp))⟩, fun y => ?_⟩
  have ht : ps.take (i + 1) = ps.take i ++ [x] := by rw [List.take_add_one, hx]; rfl
  rw [ht]
  by_cases e : y = x
  · subst e
    exact ⟨fun _ => by simp, fun h => absurd (by simp) h⟩
  · have e' : ¬ encP y = encP x := fun h => e (encP_inj h)
    simp only [if_neg e', List.mem_append, List.mem_singleton, e, or_false]
    exact hF y

/-- What zzBuild hands back. -/
def Built (l : Lab) (w : World) (e : Ending) (w' : World) : Prop :=
  ∃ bo bm bl bk v1, e = .returned (.pointer (some ⟨bo + 1, 0, none⟩)) ∧ Below w.heap.size w w' ∧ w.heap.size ≤ bo ∧ bo + 2 ≤ w'.heap.size ∧ Static l bo w' bm bl bk ∧
    w'.heap[bo + 1]? = some (idxObj (.slice (some ⟨bm, 0, none⟩) l.n l.n) v1 bl bk bo 0) ∧ MapIs Try.prog 60 w' bo (fun _ => none)

theorem places_of {base N : Nat} {T : Nat → Tag} {t : Tag} {w w' : World} {v : Value} {xs : List Nat} (h : RowOf base 3 1 T t w v xs.length (ints xs)) (hN : N = w.heap.size) (hb : Below N w w') : Places w' (N + 2) v xs := by
  rcases h.1.2 with ⟨rfl, h0⟩ | ⟨g, cap, cur, rfl, _⟩
  · exact ⟨none, 0, 0, rfl, h0.symm, fun hn => by omega⟩
  · refine ⟨_, _, _, rfl, rfl, fun hn => ?_⟩
    obtain ⟨g', e, hc⟩ := RowOf.cells h hn
    have hlt := (h.1.lt g' (by rw [e]; rfl)).2
    exact ⟨g', e, by omega, fun i u hi => (hb.cell (p := ⟨g', i, none⟩) (by simp; omega)).trans (hc i u hi)⟩

theorem built_of {l : Lab} {M : Nat → Nat} {T : Nat → Tag} {ks : List ByteArray} {ps : List (ByteArray × ByteArray)} {FK FP F4 F5 : Value → Option Value} {v9 v10 v1 : Value} {w wE wx : World} {N : Nat} (hN : N = wE.heap.size)
    (h : St l w.heap.size l.n M T (plK l l.n) (plP l l.n) ks ps FK FP v9 v10 w wE) (hi : Idx N wE (.slice (some ⟨w.heap.size, 0, none⟩) l.n l.n) v1 F5 F4 wx)
    (h4 : Filled Value.string ks FK F4) (h5 : Filled encP ps FP F5) :
    Built l w (.returned (.pointer (some ⟨N + 3, 0, none⟩))) wx := by
  have hsz := h.size
  have hszx := hi.size
  refine ⟨N + 2, w.heap.size, N, N + 1, v1, rfl, h.below.trans (hi.below.mono (by omega)), by omega, by omega, ⟨by omega, by omega, by omega, ?_, ?_, ?_⟩, hi.obj, hi.overlaps⟩
  · intro i hi'
    obtain ⟨cm, c1, c2, c3⟩ := h.maps
    obtain ⟨r1, F, r2, r3⟩ := h.role i hi'
    have hlt := r2.lt
    refine ⟨M i, by omega, ?_, F, r2.of_block (hi.below.block _ (by omega)), r3⟩
    rw [hi.below.cell (p := ⟨w.heap.size, i, none⟩) (by simp; omega), cell_of_heap c1]
    exact c3 i hi'
  · refine ⟨F4, hi.keyed, fun x => ?_⟩
    obtain ⟨a, c, e1, e2, e3⟩ := h.keyed.at' x
    by_cases hx : x ∈ ks
    · rw [(h4 x).1 hx]
      show Places _ _ ((FK (.string x)).getD (.slice none 0 0)) _
      rw [e1]
      exact places_of e3 hN hi.below
    · rw [(h4 x).2 hx]
      have : plK l l.n x = [] := Classical.byContradiction fun e => hx (h.inK x e)
      rw [this]
      exact ⟨none, 0, 0, rfl, rfl, fun hn => by omega⟩
  · refine ⟨F5, hi.labelled, fun x => ?_⟩
    obtain ⟨a, c, e1, e2, e3⟩ := h.labelled.at' x
    by_cases hx : x ∈ ps
    · rw [(h5 x).1 hx]
      show Places _ _ ((FP (encP x)).getD (.slice none 0 0)) _
      rw [e1]
      exact places_of e3 hN hi.below
    · rw [(h5 x).2 hx]
      have : plP l l.n x = [] := Classical.byContradiction fun e => hx (h.inP x e)
      rw [this]
      exact ⟨none, 0, 0, rfl, rfl, fun hn => by omega⟩
end Go.Proofs.Qxb6601594a
