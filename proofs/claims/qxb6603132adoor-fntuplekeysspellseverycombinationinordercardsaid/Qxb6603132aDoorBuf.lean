/- A buffer of bytes told by its cells (an array of the call's own, or a row that append has made), and appends to it. -/
import Derived.Test.Qxb6603132aDoorClone
import Derived.Deep.Upon
namespace Go.Proofs.Qxb6603132aDoor
open Go Go.RowKit

/-- v is a slice over a block of the call's own (from B on) that holds ks; the cells up to its capacity are there and may be written. -/
def Buf (B : Nat) (w : World) (v : Value) (ks : List Value) : Prop :=
  ∃ g cap, v = .slice (some ⟨g, 0, none⟩) ks.length cap ∧ B ≤ g ∧ g < w.heap.size ∧ ks.length ≤ cap ∧ cap ≤ maxLen ∧
    (∀ j, j < ks.length → w.cell? ⟨g, j, none⟩ = ks[j]?) ∧ ∀ j, j < cap → (w.cell? ⟨g, j, none⟩).isSome = true ∧ w.frozen? ⟨g, j, none⟩ = false

/-- What was there is there still, and as writable as it was. -/
def Shape (w w' : World) : Prop := ∀ a : Addr, (w.cell? a).isSome = true → (w'.cell? a).isSome = true ∧ w'.frozen? a = w.frozen? a
theorem Shape.refl (w : World) : Shape w w := fun _ h => ⟨h, rfl⟩
theorem Shape.trans {a b c : World} (h : Shape a b) (k : Shape b c) : Shape a c := fun x hx => ⟨(k x (h x hx).1).1, (k x (h x hx).1).2.trans (h x hx).2⟩
theorem Shape.below {w w' : World} (h : Below w.heap.size w w') : Shape w w' := fun a ha => by
  obtain ⟨u, hu⟩ := Option.isSome_iff_exists.1 ha
  have hlt := World.block_lt_of_cell? w _ hu
  exact ⟨by rw [h.cell hlt]; exact ha, h.frozen hlt⟩
theorem Shape.setCell (w : World) (p : Addr) (v : Value) : Shape w (w.setCell p v) := fun a ha => by
  refine ⟨?_, World.frozen?_setCell _ _ _ _⟩
  by_cases e : a = p
  · subst e
    obtain ⟨u, hu⟩ := Option.isSome_iff_exists.1 ha
    rw [World.cell?_setCell_same _ _ _ hu]; rfl
  · rw [World.cell?_setCell_other _ _ _ _ (fun h => e h.symm)]; exact ha
theorem Shape.setCells (g : Nat) : ∀ (vs : List Value) (w : World) (o : Nat), Shape w (w.setCells g o vs)
  | [], w, _ => Shape.refl w
  | v :: vs, w, o => by
    simp only [World.setCells]
    exact (Shape.setCell w ⟨g, o, none⟩ v).trans (Shape.setCells g vs _ _)

theorem below_setCells (w : World) (B g o : Nat) (vs : List Value) (hB : B ≤ g) (hg : g < w.heap.size) : Below B w (w.setCells g o vs) := by
  induction vs generalizing w o with
  | nil => exact Below.refl _ _
  | cons v vs ih =>
    simp only [World.setCells]
    exact ((Below.refl B w).setCell (p := ⟨g, o, none⟩) hB v).trans (ih _ _ (by simpa using hg))

theorem run_append_buf {P : Program} {w : World} {B : Nat} {v : Value} {ks : List Value} (h : Buf B w v ks) (hB : B ≤ w.heap.size) (t tx ty e : TypeId) (i : TypeInfo) (z : Value) (ht : P.underlying t = some (.slice e)) (hi : P.info? e = some i) (hz : i.zero = some z) (hsize : i.size = 1) (hby : i.bytes = 1) (hzs : z.cells.size = 1)
    (x : Value) (m : Nat) (news : List Value) (hs : Src P 1 tx x m news w) (hlim : ks.length + m ≤ 140737488355328) :
    ∃ v' w', (Builtin.append_ #[t, tx] ty #[v, x]).run P w = .ok v' w' ∧ Buf B w' v' (ks ++ news) ∧ Below B w w' ∧ Shape w w' := by
  obtain ⟨g, cap, rfl, hBg, hg, hle, hcm, hks, hth⟩ := h
  have hnl : news.length = m := by have := hs.newsLen; omega
  by_cases hfit : ks.length + m ≤ cap
  · have hsome : ∀ j, j < news.length → (w.cell? ⟨g, 0 + ks.length * i.size + j, none⟩).isSome = true := fun j hj => by rw [hsize]; exact (by have := (hth (0 + ks.length * 1 + j) (by omega)).1; exact this)
    have hrun := run_append_room_src (P := P) w t tx ty e i ht hi g 0 ks.length cap x m news (by rw [hsize]; exact hs) hfit hsome (fun j hj => by rw [hsize]; exact (hth (0 + ks.length * 1 + j) (by omega)).2)
    refine ⟨_, _, hrun, ⟨g, cap, by rw [List.length_append, hnl], hBg, ?_, by rw [List.length_append, hnl]; exact hfit, hcm, fun j hj => ?_, fun j hj => ⟨?_, ?_⟩⟩, below_setCells w B g _ news hBg hg, Shape.setCells g _ _ _⟩
    · exact Nat.lt_of_lt_of_le hg (below_setCells w B g _ news hBg hg).size
    · rw [List.length_append, hnl] at hj
      rw [hsize] at hsome ⊢
      by_cases hjo : j < ks.length
      · rw [World.cell?_setCells_out g _ _ _ _ (fun _ _ => Or.inl (by show j < 0 + ks.length * 1; omega)), List.getElem?_append_left hjo]
        exact hks j hjo
      · have ht' : j - ks.length < news.length := by omega
        have := World.cell?_setCells_in g news (0 + ks.length * 1) w hsome (j - ks.length) ht'
        rw [show 0 + ks.length * 1 + (j - ks.length) = j by omega] at this
        rw [this, List.getElem?_append_right (by omega), List.getElem?_eq_getElem ht']
    · rw [hsize] at hsome ⊢
      by_cases hin : ks.length ≤ j ∧ j < ks.length + news.length
      · have := World.cell?_setCells_in g news (0 + ks.length * 1) w hsome (j - ks.length) (by omega)
        rw [show 0 + ks.length * 1 + (j - ks.length) = j by omega] at this
        rw [this]; rfl
      · rw [World.cell?_setCells_out g _ _ _ _ (fun _ _ => by show j < 0 + ks.length * 1 ∨ 0 + ks.length * 1 + news.length ≤ j; omega)]
        exact (hth j hj).1
    · rw [World.frozen?_setCells]
      exact (hth j hj).2
  · have hold : (Builtin.firstCells i.size ks.length (.slice (some ⟨g, 0, none⟩) ks.length cap)).run P w.drew = .ok ks.toArray w.drew := by
      refine run_firstCells_some w.drew i.size ks.length ⟨g, 0, none⟩ ks.length cap ks (by rw [hsize]; omega) (fun j u hu => ?_)
      have hj : j < ks.length := (List.getElem?_eq_some_iff.1 hu).1
      rw [Addr.add_lit, Nat.zero_add]
      exact (hks j hj).trans hu
    have hrun := run_append_grow_src (P := P) w t tx ty e i z ht hi hz (some ⟨g, 0, none⟩) ks.length cap ks hold x m news (by rw [hsize]; exact hs) (by omega) (by omega) (by rw [hby]; exact growslice_fits (by omega) (by omega))
    have hge := grownCap_ge w (ks.length + m) cap e
    have hcm2 : grownCap w (ks.length + m) cap e ≤ maxLen := grownCap_le_maxLen w (ks.length + m) cap e (by unfold maxLen; omega)
    refine ⟨_, _, hrun, ⟨w.heap.size, _, by rw [List.length_append, hnl], hB, ?_, by rw [List.length_append, hnl]; exact hge, hcm2, fun j hj => ?_, fun j hj => ⟨?_, ?_⟩⟩, (Below.refl B w).drew.alloc hB _, Shape.below ((Below.refl w.heap.size w).drew.alloc (Nat.le_refl _) _)⟩
    · simp
    · rw [World.cell?_alloc_at _ _ _ _ (by simp), Array.getElem?_append_left (by simpa using hj)]
      simp
    · have hsz : j < ((ks ++ news).toArray ++ Builtin.zeroCells z.cells (grownCap w (ks.length + m) cap e - (ks.length + m))).size := by
        simp only [Array.size_append, List.size_toArray, size_zeroCells, hzs, List.length_append, hnl]
        omega
      rw [World.cell?_alloc_at _ _ _ _ (by simp), Array.getElem?_eq_getElem hsz]
      rfl
    · exact World.frozen?_alloc_at _ _ _ _ (by simp)

/-- The append, for the walk. -/
theorem wpList_append_buf {P : Program} (w : World) {ops : Array Oper} {rest : List Oper} {o : Oper} {a : Act} {Q : Exit → Act → World → Prop} (hgd : o.guard = none) (s x : Operand) (t tx : TypeId)
    (ho : o.op = .call { callee := .builtin .append, args := #[s, x], argTypes := #[t, tx] })
    (B : Nat) (v : Value) (ks : List Value) (hv : a.eval s = v) (h : Buf B w v ks) (hB : B ≤ w.heap.size) (e : TypeId) (i : TypeInfo) (z : Value) (ht : P.underlying t = some (.slice e)) (hi : P.info? e = some i) (hz : i.zero = some z) (hsize : i.size = 1) (hby : i.bytes = 1) (hzs : z.cells.size = 1)
    (xv : Value) (m : Nat) (news : List Value) (hx : a.eval x = xv) (hs : Src P 1 tx xv m news w) (hlim : ks.length + m ≤ 140737488355328)
    (hK : ∀ v' w', Buf B w' v' (ks ++ news) → Below B w w' → Shape w w' → wpList P ops Q rest (a.put o.dst v') w') : wpList P ops Q (o :: rest) a w := by
  refine wpList_plain hgd fun K hK' => ?_
  obtain ⟨v', w', hrun, r1, r2, r3⟩ := run_append_buf (P := P) h hB t tx o.type e i z ht hi hz hsize hby hzs xv m news hs hlim
  unfold Oper.wp
  simp [execOp, ho, resolve, invoke, builtin, hv, hx, hrun, Result.andThen]
  exact hK' _ _ (hK v' w' r1 r2 r3)

/-- A buffer is kept where nothing from its block on below the new blocks is written. -/
theorem Buf.kept {B : Nat} {w w' : World} {v : Value} {ks : List Value} (h : Buf B w v ks) (hb : Below w.heap.size w w') : Buf B w' v ks := by
  obtain ⟨g, cap, e, h1, h2, h3, h4, h5, h6⟩ := h
  exact ⟨g, cap, e, h1, Nat.lt_of_lt_of_le h2 hb.size, h3, h4, fun j hj => by rw [hb.cell h2]; exact h5 j hj, fun j hj => ⟨by rw [hb.cell h2]; exact (h6 j hj).1, by rw [hb.frozen h2]; exact (h6 j hj).2⟩⟩

end Go.Proofs.Qxb6603132aDoor
