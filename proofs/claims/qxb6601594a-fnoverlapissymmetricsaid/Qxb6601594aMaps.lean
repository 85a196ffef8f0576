/- A map's block, told by what is found at each key. Over any program. -/
import Derived.Maps.OwnRows
import Derived.WalkKit
namespace Go.Proofs.Qxb6601594a
open Go Go.ChangeMaps Go.MapKept Go.Maps Go.RowKit

/-- Block b is a map, each of its keys a key of type k, no key twice; F says what lies at each key. -/
def MapIs (P : Program) (k : TypeId) (w : World) (b : Nat) (F : Value → Option Value) : Prop :=
  ∃ es clock, w.heap[b]? = some (.map es clock) ∧ (∀ e ∈ es.toList, ∃ l, keyOf P k e.key = some l) ∧ es.toList.Pairwise (fun x y => x.key ≠ y.key) ∧
    ∀ x v, F x = some v ↔ ∃ e ∈ es.toList, e.key = x ∧ e.val = v

section
variable {P : Program} {k : TypeId} {w : World} {b : Nat} {F : Value → Option Value}

theorem MapIs.made (P : Program) (k : TypeId) (w : World) : MapIs P k (w.alloc (.map #[] 0)) w.heap.size (fun _ => none) :=
  ⟨#[], 0, (MapKept.heap_alloc w _).1, by simp, by simp, by simp⟩

theorem MapIs.lt (h : MapIs P k w b F) : b < w.heap.size := by
  obtain ⟨es, clock, hb, _⟩ := h
  exact (Array.getElem?_eq_some_iff.1 hb).1

theorem MapIs.of_block {w' : World} (h : MapIs P k w b F) (hb : w'.heap[b]? = w.heap[b]?) : MapIs P k w' b F := by
  obtain ⟨es, clock, h1, h2⟩ := h
  exact ⟨es, clock, hb.trans h1, h2⟩

theorem MapIs.congr {F' : Value → Option Value} (h : MapIs P k w b F) (hF : ∀ x, F' x = F x) : MapIs P k w b F' := by
  obtain ⟨es, clock, h1, h2, h3, h4⟩ := h
  exact ⟨es, clock, h1, h2, h3, fun x v => by rw [hF]; exact h4 x v⟩

theorem MapIs.look (h : MapIs P k w b F) (K : Keyed P k) {t e : TypeId} (ht : P.underlying t = some (.map k e)) {z : Value} (hz : (zeroValue e).run P w = .ok z w) {x : Value} {lx : Lit} (hx : keyOf P k x = some lx) (c : Bool) :
    (Instr.lookup t (.map (some b)) x c).run P w = .ok (if c then .tuple #[(F x).getD z, .bool (F x).isSome] else (F x).getD z) w := by
  obtain ⟨es, clock, hb, hk, hp, hF⟩ := h
  rcases K.find w hx es.toList hk with ⟨h1, h2⟩ | ⟨j, e0, h1, h2, h3⟩
  · have hn : F x = none := by
      cases hf : F x with
      | none => rfl
      | some v =>
        obtain ⟨e, he, hk', _⟩ := (hF x v).1 hf
        exact absurd hk' (h2 e he)
    rw [hn]
    cases c <;> simp [Instr.lookup, run_underlying ht, MapKept.run_getObj_map hb, K.check w _ hx, h1, hz, Result.andThen]
  · have hs : F x = some e0.val := (hF x _).2 ⟨e0, List.mem_of_getElem? h2, h3, rfl⟩
    rw [hs]
    cases c <;> simp [Instr.lookup, run_underlying ht, MapKept.run_getObj_map hb, K.check w _ hx, h1, Result.andThen]

theorem MapIs.update (h : MapIs P k w b F) (K : Keyed P k) {t e : TypeId} (ht : P.underlying t = some (.map k e)) {x : Value} {lx : Lit} (hx : keyOf P k x = some lx) (v : Value) :
    ∃ w', (Instr.mapUpdate t (.map (some b)) x v).run P w = .ok () w' ∧ w.grownBy w' (some b) ∧ w'.heap.size = w.heap.size ∧
      ∀ F' : Value → Option Value, F' x = some v → (∀ y, y ≠ x → F' y = F y) → MapIs P k w' b F' := by
  have hlt := h.lt
  obtain ⟨es, clock, hb, hk, hp, hF⟩ := h
  have hgr : ∀ o, w.grownBy (setBlock w b o) (some b) := fun o => ⟨rfl, rfl, rfl, by simp [setBlock], fun i _ hi => by
    simp only [setBlock]
    rw [Array.getElem?_setIfInBounds_ne (fun e => hi (by rw [e]))]⟩
  have hsz : ∀ o, (setBlock w b o).heap.size = w.heap.size := fun o => by simp [setBlock]
  have hat : ∀ o, (setBlock w b o).heap[b]? = some o := fun o => by simp [setBlock, hlt]
  rcases K.find w hx es.toList hk with ⟨h1, h2⟩ | ⟨j, e0, h1, h2, h3⟩
  · refine ⟨setBlock w b (.map (es.push ⟨x, v, clock⟩) (clock + 1)), ?_, hgr _, hsz _, fun F' hx' ho => ⟨_, _, hat _, ?_, ?_, ?_⟩⟩
    · simp [Instr.mapUpdate, run_underlying ht, MapKept.run_getObj_map hb, K.check w false hx, h1, MapKept.run_setObj_map _ hb, Result.andThen, setBlock]
    · intro e he
      simp only [Array.toList_push, List.mem_append, List.mem_singleton] at he
      rcases he with he | rfl
      · exact hk e he
      · exact ⟨lx, hx⟩
    · rw [Array.toList_push, List.pairwise_append]
      exact ⟨hp, by simp, fun a ha c hc => by simp only [List.mem_singleton] at hc; subst hc; exact h2 a ha⟩
    · intro y u
      simp only [Array.toList_push, List.mem_append, List.mem_singleton]
      by_cases hy : y = x
      · subst hy
        rw [hx']
        constructor
        · intro hu
          cases hu
          exact ⟨_, Or.inr rfl, rfl, rfl⟩
        · rintro ⟨e, he | rfl, h3, h4⟩
          · exact absurd h3 (h2 e he)
          · rw [← h4]
      · rw [ho y hy, hF]
        constructor
        · rintro ⟨e, he, h3, h4⟩
          exact ⟨e, Or.inl he, h3, h4⟩
        · rintro ⟨e, he | rfl, h3, h4⟩
          · exact ⟨e, he, h3, h4⟩
          · exact absurd h3.symm hy
  · have hj : es[j]? = some e0 := by simpa using h2
    have hjl : j < es.toList.length := (List.getElem?_eq_some_iff.1 h2).1
    have hlist : (es.modify j (fun e' => { e' with key := x, val := v })).toList = es.toList.set j { e0 with key := x, val := v } := by rw [Array.toList_modify, modify_eq_set _ _ _ _ h2]
    have hne : ∀ i e', es.toList[i]? = some e' → i ≠ j → e'.key ≠ x := by
      intro i e' hi hij hk'
      have hil := (List.getElem?_eq_some_iff.1 hi).1
      have e1 : es.toList[i] = e' := (List.getElem?_eq_some_iff.1 hi).2
      have e2 : es.toList[j] = e0 := (List.getElem?_eq_some_iff.1 h2).2
      rcases Nat.lt_or_gt_of_ne hij with hlt' | hgt
      · have := List.pairwise_iff_getElem.1 hp i j hil hjl hlt'
        rw [e1, e2] at this
        exact this (hk'.trans h3.symm)
      · have := List.pairwise_iff_getElem.1 hp j i hjl hil hgt
        rw [e1, e2] at this
        exact this (h3.trans hk'.symm)
    have who : ∀ e', e' ∈ es.toList.set j { e0 with key := x, val := v } ↔ (e' = { e0 with key := x, val := v } ∨ (e' ∈ es.toList ∧ e'.key ≠ x)) := by
      intro e'
      constructor
      · intro he
        obtain ⟨i, hi, ex⟩ := List.getElem_of_mem he
        rw [List.getElem_set] at ex
        split at ex
        · exact Or.inl ex.symm
        · rename_i hij
          have hi' : i < es.toList.length := by simpa using hi
          exact Or.inr ⟨ex ▸ List.getElem_mem hi', hne i e' (by rw [List.getElem?_eq_getElem hi', ex]) (fun e1 => hij e1.symm)⟩
      · rintro (rfl | ⟨he, hk'⟩)
        · exact List.mem_iff_getElem.2 ⟨j, by simpa using hjl, by simp⟩
        · obtain ⟨i, hi, ex⟩ := List.getElem_of_mem he
          have hij : j ≠ i := by
            rintro rfl
            have : es.toList[j] = e0 := (List.getElem?_eq_some_iff.1 h2).2
            exact hk' (by rw [← ex, this, h3])
          exact List.mem_iff_getElem.2 ⟨i, by simpa using hi, by rw [List.getElem_set, if_neg hij]; exact ex⟩
    refine ⟨setBlock w b (.map (es.modify j (fun e' => { e' with key := x, val := v })) clock), ?_, hgr _, hsz _, fun F' hx' ho => ⟨_, _, hat _, ?_, ?_, ?_⟩⟩
    · simp [Instr.mapUpdate, run_underlying ht, MapKept.run_getObj_map hb, K.check w false hx, h1, hj, h3, K.stays w hx, MapKept.run_setObj_map _ hb, Result.andThen, setBlock]
    · intro e he
      rw [hlist, who] at he
      rcases he with rfl | ⟨he, _⟩
      · exact ⟨lx, hx⟩
      · exact hk e he
    · rw [hlist, List.pairwise_iff_getElem]
      intro i i' hi hi' hii
      rw [List.getElem_set, List.getElem_set]
      have hi1 : i < es.toList.length := by simpa using hi
      have hi2 : i' < es.toList.length := by simpa using hi'
      split
      · rename_i e1
        subst e1
        rw [if_neg (by omega)]
        exact fun e' => hne i' es.toList[i'] (by rw [List.getElem?_eq_getElem hi2]) (by omega) e'.symm
      · split
        · rename_i e1 e2
          subst e2
          exact hne i es.toList[i] (by rw [List.getElem?_eq_getElem hi1]) (by omega)
        · exact List.pairwise_iff_getElem.1 hp i i' hi1 hi2 hii
    · intro y u
      rw [hlist]
      by_cases hy : y = x
      · subst hy
        rw [hx']
        constructor
        · intro hu
          cases hu
          exact ⟨_, (who _).2 (Or.inl rfl), rfl, rfl⟩
        · rintro ⟨e, he, h4, h5⟩
          rcases (who e).1 he with rfl | ⟨_, h6⟩
          · rw [← h5]
          · exact absurd h4 h6
      · rw [ho y hy, hF]
        constructor
        · rintro ⟨e, he, h4, h5⟩
          exact ⟨e, (who e).2 (Or.inr ⟨he, fun h6 => hy (h4.symm.trans h6)⟩), h4, h5⟩
        · rintro ⟨e, he, h4, h5⟩
          rcases (who e).1 he with rfl | ⟨he', _⟩
          · exact absurd h4.symm hy
          · exact ⟨e, he', h4, h5⟩
end
end Go.Proofs.Qxb6601594a
