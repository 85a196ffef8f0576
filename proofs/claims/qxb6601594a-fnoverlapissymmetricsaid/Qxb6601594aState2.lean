/- zzBuild's memory: the start, stores into the two rows. -/
import Derived.Test.Qxb6601594aState
namespace Go.Proofs.Qxb6601594a
open Go Go.RowKit Go.Maps

theorem grownBy_setCell (w : World) (a : Addr) (u : Value) : w.grownBy (w.setCell a u) (some a.block) :=
  ⟨rfl, rfl, rfl, by simp [World.setCell], fun k _ hk => Below.heap_setCell w a u k (fun e => hk (by rw [e]))⟩

theorem heap_setCell_at {w : World} {b o : Nat} {c : Array Value} {e : TypeId} {f : Nat × Nat} (u : Value) (h : w.heap[b]? = some (.cells c e f)) : (w.setCell ⟨b, o, none⟩ u).heap[b]? = some (.cells (c.setIfInBounds o u) e f) := by
  simp [World.setCell, Array.getElem?_modify, h]

theorem cell_of_heap {w : World} {b o : Nat} {c : Array Value} {e : TypeId} {f : Nat × Nat} (h : w.heap[b]? = some (.cells c e f)) : w.cell? ⟨b, o, none⟩ = c[o]? := by
  simp [World.cell?, h]

theorem free_of_heap {w : World} {b o : Nat} {c : Array Value} {e : TypeId} (h : w.heap[b]? = some (.cells c e (0, 0))) : w.frozen? ⟨b, o, none⟩ = false := by
  simp [World.frozen?, h]

section
variable {l : Lab} {B k : Nat} {M : Nat → Nat} {T : Nat → Tag} {LKf : ByteArray → List Nat} {LPf : ByteArray × ByteArray → List Nat} {ks : List ByteArray} {ps : List (ByteArray × ByteArray)} {FK FP : Value → Option Value} {v9 v10 : Value} {w wr w1 : World}

theorem St.every_cell (h : St l B k M T LKf LPf ks ps FK FP v9 v10 w wr) {i : Nat} (hi : i < l.n) : (∃ v, wr.cell? ⟨B + 1, i, none⟩ = some v) ∧ wr.frozen? ⟨B + 1, i, none⟩ = false := by
  obtain ⟨ce, c1, c2⟩ := h.every
  exact ⟨⟨ce[i]'(by omega), by rw [cell_of_heap c1]; simp [show i < ce.size by omega]⟩, free_of_heap c1⟩

theorem St.maps_cell (h : St l B k M T LKf LPf ks ps FK FP v9 v10 w wr) {i : Nat} (hi : i < l.n) : (∃ v, wr.cell? ⟨B, i, none⟩ = some v) ∧ wr.frozen? ⟨B, i, none⟩ = false := by
  obtain ⟨ce, c1, c2, _⟩ := h.maps
  exact ⟨⟨ce[i]'(by omega), by rw [cell_of_heap c1]; simp [show i < ce.size by omega]⟩, free_of_heap c1⟩

/-- The parts that do not look at the two rows. -/
theorem St.low (h : St l B k M T LKf LPf ks ps FK FP v9 v10 w wr) {b : Nat} (hb : b = B ∨ b = B + 1) (hg : wr.grownBy w1 (some b))
    (hm : ∃ cm, w1.heap[B]? = some (.cells cm 43 (0, 0)) ∧ cm.size = l.n ∧ ∀ i, i < k → cm[i]? = some (.map (some (M i)))) (he : ∃ ce, w1.heap[B + 1]? = some (.cells ce 3 (0, 0)) ∧ ce.size = l.n) :
    St l B k M T LKf LPf ks ps FK FP v9 v10 w w1 := by
  have hsz := h.size
  refine ⟨h.below.grown hg (by omega) (fun g e => by cases e; omega), by have := hg.size; omega, hm, he, ?_, ?_, ?_, ?_, ?_, h.inK, h.inP, h.okK, h.okP⟩
  · intro i hi
    obtain ⟨r1, F, r2, r3⟩ := h.role i hi
    exact ⟨r1, F, r2.of_block (hg.block _ r2.lt (fun e => by simp at e; omega)), r3⟩
  · exact h.keyed.kept hg (fun _ _ => rfl) (by simp; omega) (fun g e hb' => by cases e; omega)
  · exact h.labelled.kept hg (fun _ _ => rfl) (by simp; omega) (fun g e hb' => by cases e; omega)
  · exact h.keys.kept hg (fun _ _ => rfl) (fun g e hb' => by cases e; omega)
  · exact h.pairs.kept hg (fun _ _ => rfl) (fun g e hb' => by cases e; omega)

/-- 'every[w] = w'. -/
theorem St.setEvery (h : St l B k M T LKf LPf ks ps FK FP v9 v10 w wr) (i : Nat) (u : Value) : St l B k M T LKf LPf ks ps FK FP v9 v10 w (wr.setCell ⟨B + 1, i, none⟩ u) := by
  refine h.low (Or.inr rfl) (grownBy_setCell _ _ _) ?_ ?_
  · obtain ⟨cm, c1, c2⟩ := h.maps
    exact ⟨cm, (Below.heap_setCell _ _ _ _ (by simp)).trans c1, c2⟩
  · obtain ⟨ce, c1, c2⟩ := h.every
    exact ⟨_, heap_setCell_at u c1, by simpa using c2⟩

/-- 'maps[w] = m': a role more is done. -/
theorem St.setMaps (h : St l B k M T LKf LPf ks ps FK FP v9 v10 w wr) (hk : k < l.n) {m : Nat} (hm : B + 4 ≤ m) {F : Value → Option Value} (hF : MapIs Try.prog 9 wr m F) (hmr : ∀ x, F (.string x) = (mr l k x).map Value.string) :
    St l B (k + 1) (fun i => if i = k then m else M i) T LKf LPf ks ps FK FP v9 v10 w (wr.setCell ⟨B, k, none⟩ (.map (some m))) := by
  have hg := grownBy_setCell wr ⟨B, k, none⟩ (.map (some m))
  have h1 : St l B k M T LKf LPf ks ps FK FP v9 v10 w (wr.setCell ⟨B, k, none⟩ (.map (some m))) := by
    refine h.low (Or.inl rfl) hg ?_ ?_
    · obtain ⟨cm, c1, c2, c3⟩ := h.maps
      refine ⟨_, heap_setCell_at _ c1, by simpa using c2, fun i hi => ?_⟩
      rw [Array.getElem?_setIfInBounds_ne (by omega)]
      exact c3 i hi
    · obtain ⟨ce, c1, c2⟩ := h.every
      exact ⟨ce, (Below.heap_setCell _ _ _ _ (by simp)).trans c1, c2⟩
  have hsz := h.size
  refine ⟨h1.below, h1.size, ?_, h1.every, ?_, h1.keyed, h1.labelled, h1.keys, h1.pairs, h1.inK, h1.inP, h1.okK, h1.okP⟩
  · obtain ⟨cm, c1, c2, c3⟩ := h.maps
    refine ⟨_, heap_setCell_at _ c1, by simpa using c2, fun i hi => ?_⟩
    by_cases e : i = k
    · subst e
      simp [show i < cm.size by omega]
    · rw [Array.getElem?_setIfInBounds_ne (fun e' => e e'.symm), if_neg e]
      exact c3 i (by omega)
  · intro i hi
    by_cases e : i = k
    · subst e
      refine ⟨by simpa using hm, F, ?_, hmr⟩
      rw [if_pos rfl]
      exact hF.of_block (hg.block _ hF.lt (fun e => by simp at e; omega))
    · simp only [if_neg e]
      exact h1.role i (by omega)
end

theorem St.start {l : Lab} (w : World) (M : Nat → Nat) (T : Nat → Tag) {cm ce : Array Value} (h1 : cm.size = l.n) (h2 : ce.size = l.n) :
    St l w.heap.size 0 M T (fun _ => []) (fun _ => []) [] [] (fun _ => none) (fun _ => none) (.slice none 0 0) (.slice none 0 0) w ((((w.alloc (.cells cm 43)).alloc (.cells ce 3)).alloc (.map #[] 0)).alloc (.map #[] 0)) := by
  have s1 : (w.alloc (.cells cm 43)).heap.size = w.heap.size + 1 := by simp
  have s2 : ((w.alloc (.cells cm 43)).alloc (.cells ce 3)).heap.size = w.heap.size + 2 := by simp
  have s3 : (((w.alloc (.cells cm 43)).alloc (.cells ce 3)).alloc (.map #[] 0)).heap.size = w.heap.size + 3 := by simp
  have s4 : ((((w.alloc (.cells cm 43)).alloc (.cells ce 3)).alloc (.map #[] 0)).alloc (.map #[] 0)).heap.size = w.heap.size + 4 := by simp
  have m2 := MapIs.made Try.prog 9 ((w.alloc (.cells cm 43)).alloc (.cells ce 3))
  have m3 := MapIs.made Try.prog 36 (((w.alloc (.cells cm 43)).alloc (.cells ce 3)).alloc (.map #[] 0))
  rw [s2] at m2
  rw [s3] at m3
  refine ⟨((((Below.refl _ _).alloc (Nat.le_refl _) _).alloc (by omega) _).alloc (by omega) _).alloc (by omega) _, by omega, ?_, ?_, fun i hi => by omega, ?_, ?_, ?_, ?_, fun x hx => absurd rfl hx, fun x hx => absurd rfl hx, fun x hx => by simp at hx, fun x hx => by simp at hx⟩
  · refine ⟨cm, ?_, h1, fun i hi => by omega⟩
    rw [Below.heap_alloc _ _ _ (by omega), Below.heap_alloc _ _ _ (by omega), Below.heap_alloc _ _ _ (by omega)]
    exact (MapKept.heap_alloc w _).1
  · refine ⟨ce, ?_, h2⟩
    rw [Below.heap_alloc _ _ _ (by omega), Below.heap_alloc _ _ _ (by omega), ← s1]
    exact (MapKept.heap_alloc _ _).1
  · exact ⟨m2.of_block (Below.heap_alloc _ _ _ (by omega)), fun x => Or.inl ⟨rfl, rfl⟩⟩
  · exact ⟨m3, fun x => Or.inl ⟨rfl, rfl⟩⟩
  · exact ⟨World.ownsRow_nil _ _ _ _, fun g hg => by simp [Value.ownBlock] at hg⟩
  · exact ⟨World.ownsRow_nil _ _ _ _, fun g hg => by simp [Value.ownBlock] at hg⟩

end Go.Proofs.Qxb6601594a
