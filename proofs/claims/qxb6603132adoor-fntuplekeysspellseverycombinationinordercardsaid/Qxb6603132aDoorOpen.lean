/- The lists, opened out of their reading. -/
import Derived.Test.Qxb6603132aDoorOne
import Derived.Deep.SlicePairs
namespace Go.Proofs.Qxb6603132aDoor
open Go Go.RowKit Go.Deep

theorem addr_of_cell {w : World} {a : Addr} {v : Value} (h : w.cell? a = some v) : a = ⟨a.block, a.off, none⟩ := by
  obtain ⟨b, o, s⟩ := a
  cases s with
  | none => rfl
  | some q =>
    exfalso
    unfold World.cell? at h
    split at h <;> simp at h

theorem add_none (b o i : Nat) : (⟨b, o, none⟩ : Addr).add i = ⟨b, o + i, none⟩ := by
  unfold Addr.add
  split
  · rename_i h; subst h; rfl
  · rfl

/-- One list, opened. -/
def RowIs (w : World) (v : Value) (q : Option Addr × Nat × Nat × (Nat → ByteArray)) : Prop :=
  v = .slice q.1 q.2.1 q.2.2.1 ∧ q.2.1 ≤ maxLen ∧ (0 < q.2.1 → ∃ bi oi, q.1 = some ⟨bi, oi, none⟩ ∧ ∀ j, j < q.2.1 → w.cell? ⟨bi, oi + j, none⟩ = some (.string (q.2.2.2 j))) ∧
    (q.1 = none → q.2.1 = 0 ∧ q.2.2.1 = 0) ∧ ∀ j, j < q.2.1 → (q.2.2.2 j).size ≤ maxLen

theorem cells9' : Tryd.prog.cellsOf 9 = 1 := by kernel_rfl
theorem cells27' : Tryd.prog.cellsOf 27 = 1 := by kernel_rfl

section
variable {H : Type} {enc : TypeId × Value → H} {w : World}

theorem open_row {fuel : Nat} {v : Value} {x : DataW H × List MemPlace} (h : DataW.trod enc Tryd.prog w 0 (fun _ => true) true fuel 27 [v] = some x) : ∃ q, RowIs w v q := by
  rcases open_slice1 Tryd.underlying27 cells9' h with ⟨e, _⟩ | ⟨a, len, cap, m, n, V, D, Pl, e, _, hl, hm, hmm, _, hall⟩
  · simp only [List.cons.injEq, and_true] at e
    exact ⟨(none, 0, 0, fun _ => ByteArray.empty), e, by simp, fun h => by simp at h, fun _ => ⟨rfl, rfl⟩, fun j hj => by simp at hj⟩
  · simp only [List.cons.injEq, and_true] at e
    simp only [if_true] at hmm
    have each : ∀ j, j < len → ∃ s : ByteArray, V j = .string s ∧ s.size ≤ maxLen := by
      intro j hj
      obtain ⟨_, t0⟩ := hall j (by omega)
      obtain ⟨s0, e0, _, z0⟩ := DataW.trod_string Tryd.underlying9 t0
      simp only [List.cons.injEq, and_true] at e0
      exact ⟨s0, e0, z0⟩
    obtain ⟨S, hS⟩ := choose_lt each
    refine ⟨(some a, len, cap, S), e, by show len ≤ maxLen; omega, fun h0 => ?_, fun h => (by simp at h), fun j hj => (hS j hj).2⟩
    have h0' : 0 < len := h0
    obtain ⟨c0, _⟩ := hall 0 (by omega)
    have h00 : a.add 0 = a := by simp [Addr.add]
    rw [h00] at c0
    have ea := addr_of_cell c0
    refine ⟨a.block, a.off, by rw [← ea], fun j hj => ?_⟩
    have hj' : j < len := hj
    obtain ⟨k0, _⟩ := hall j (by omega)
    rw [ea, add_none, (hS j hj').1] at k0
    exact k0

theorem open_lists {v : Value} {d : DataW H} {p : List MemPlace} (a0 : Option Addr) (n c : Nat) (hv : v = .slice a0 n c) (h : DataW.Trod enc Tryd.prog w 0 (fun _ => true) true 22 v d p) :
    n = 0 ∨ ∃ (b o : Nat) (ad : Nat → Option Addr) (ln cp : Nat → Nat) (S : Nat → Nat → ByteArray), a0 = some ⟨b, o, none⟩ ∧ Ls b o n ad ln cp S w := by
  subst hv
  obtain ⟨fuel, hf⟩ := h
  have hf' : DataW.trod enc Tryd.prog w 0 (fun _ => true) true fuel 22 [.slice a0 n c] = some (d, p) := hf
  rcases open_slice1 Tryd.underlying22 cells27' hf' with ⟨e, _⟩ | ⟨a, len, cap, m, k, V, D, Pl, e, _, hl, hm, hmm, _, hall⟩
  · simp only [List.cons.injEq, and_true, Value.slice.injEq] at e
    exact Or.inl e.2.1
  · simp only [List.cons.injEq, and_true, Value.slice.injEq] at e
    obtain ⟨rfl, rfl, rfl⟩ := e
    by_cases h0 : n = 0
    · exact Or.inl h0
    · refine Or.inr ?_
      simp only [if_true] at hmm
      obtain ⟨Q, hQ⟩ := choose_lt (n := n) (p := fun i q => RowIs w (V i) q) (fun i hi => open_row (hall i (by omega)).2)
      have ha : a = ⟨a.block, a.off, none⟩ := by
        obtain ⟨c0, _⟩ := hall 0 (by omega)
        have h00 : a.add 0 = a := by simp [Addr.add]
        rw [h00] at c0
        exact addr_of_cell c0
      refine ⟨a.block, a.off, fun i => (Q i).1, fun i => (Q i).2.1, fun i => (Q i).2.2.1, fun i => (Q i).2.2.2, by rw [← ha], fun i hi => ?_, fun i hi h1 => (hQ i hi).2.2.1 h1, fun i hi h1 => (hQ i hi).2.2.2.1 h1, by omega, fun i hi => (hQ i hi).2.1, fun i hi j hj => (hQ i hi).2.2.2.2 j hj⟩
      have hc := (hall i (by omega)).1
      rw [ha, add_none, (hQ i hi).1] at hc
      exact hc
end

/-- The law's own function, whatever the lists. -/
theorem law_all {H : Type} {enc : TypeId × Value → H} {w : World} {d : DataW H} {p : List MemPlace} (a0 : Option Addr) (n c : Nat) (h : DataW.Trod enc Tryd.prog w 0 (fun _ => true) true 22 (.slice a0 n c) d p)
    (htab : Lib.TabIs Tryd.prog w "internal/strconv.uint64pow10" .u64 Lib.pow10Tab) : Calls Tryd.prog 3 #[.slice a0 n c] w (RetTrue w) := by
  rcases open_lists a0 n c rfl h with rfl | ⟨b, o, ad, ln, cp, S, rfl, hL⟩
  · exact law_zero a0 c w
  · rcases Nat.lt_or_ge n 2 with h2 | h2
    · rcases Nat.lt_or_ge n 1 with h1 | h1
      · obtain rfl : n = 0 := by omega
        exact law_zero _ c w
      · obtain rfl : n = 1 := by omega
        exact law_one w hL
    · exact law_two w hL h2 (Lib.tabBelow_of_tabIs htab)
end Go.Proofs.Qxb6603132aDoor
