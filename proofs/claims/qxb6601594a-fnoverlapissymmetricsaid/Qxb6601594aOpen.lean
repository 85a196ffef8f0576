/- The labels, opened out of their reading. -/
import Derived.Test.Qxb6601594aBase
import Derived.Deep.SlicePairs
namespace Go.Proofs.Qxb6601594a
open Go Go.RowKit Go.Deep

theorem addr_of_cell {w : World} {a : Addr} {v : Value} (h : w.cell? a = some v) : a = ⟨a.block, a.off, none⟩ ∧ a.block < w.heap.size := by
  refine ⟨?_, World.block_lt_of_cell? w a h⟩
  obtain ⟨b, o, s⟩ := a
  cases s with
  | none => rfl
  | some q =>
    exfalso
    unfold World.cell? at h
    split at h <;> simp at h

theorem add_none (b o i : Nat) : (⟨b, o, none⟩ : Addr).add i = ⟨b, o + i, none⟩ := by
  unfold Addr.add
  split
  · rename_i h; subst h; rfl
  · rfl

/-- One row, opened. -/
def RowIs (w : World) (v : Value) (q : Option Addr × Nat × Nat × Nat × Nat × (Nat → ByteArray) × (Nat → ByteArray)) : Prop :=
  v = .slice q.1 q.2.1 q.2.2.1 ∧ q.2.1 ≤ 9223372036854775807 ∧ (0 < q.2.1 → q.1 = some ⟨q.2.2.2.1, q.2.2.2.2.1, none⟩ ∧ q.2.2.2.1 < w.heap.size) ∧
    ∀ j, j < q.2.1 → w.cell? ⟨q.2.2.2.1, q.2.2.2.2.1 + j * 2, none⟩ = some (.string (q.2.2.2.2.2.1 j)) ∧ w.cell? ⟨q.2.2.2.1, q.2.2.2.2.1 + j * 2 + 1, none⟩ = some (.string (q.2.2.2.2.2.2 j)) ∧
      (q.2.2.2.2.2.1 j).size ≤ 9223372036854775807 ∧ (q.2.2.2.2.2.2 j).size ≤ 9223372036854775807

theorem cells9' : Try.prog.cellsOf 9 = 1 := by kernel_rfl
theorem cells34' : Try.prog.cellsOf 34 = 1 := by kernel_rfl
theorem cells36' : Try.prog.cellsOf 36 = 2 := by kernel_rfl

section
variable {H : Type} {enc : TypeId × Value → H} {w : World}

theorem open_row {fuel : Nat} {v : Value} {x : DataW H × List MemPlace} (h : DataW.trod enc Try.prog w 0 (fun _ => true) true fuel 34 [v] = some x) : ∃ q, RowIs w v q := by
  rcases open_slice_pairs Try.underlying34 Try.underlying36 cells36' rfl rfl cells9' cells9' h with ⟨e, _⟩ | ⟨a, len, cap, m, n, V0, V1, D0, D1, P0, P1, e, _, hl, hm, hmm, _, hall⟩
  · simp only [List.cons.injEq, and_true] at e
    exact ⟨(none, 0, 0, 0, 0, fun _ => ByteArray.empty, fun _ => ByteArray.empty), e, by simp, fun h => by simp at h, fun j hj => by simp at hj⟩
  · simp only [List.cons.injEq, and_true] at e
    simp only [if_true] at hmm
    have each : ∀ j, j < len → ∃ s : ByteArray × ByteArray, V0 j = .string s.1 ∧ V1 j = .string s.2 ∧ s.1.size ≤ maxLen ∧ s.2.size ≤ maxLen := by
      intro j hj
      obtain ⟨_, _, t0, t1⟩ := hall j (by omega)
      obtain ⟨s0, e0, _, z0⟩ := DataW.trod_string Try.underlying9 t0
      obtain ⟨s1, e1, _, z1⟩ := DataW.trod_string Try.underlying9 t1
      simp only [List.cons.injEq, and_true] at e0 e1
      exact ⟨(s0, s1), e0, e1, z0, z1⟩
    obtain ⟨S, hS⟩ := choose_lt each
    refine ⟨(some a, len, cap, a.block, a.off, fun j => (S j).1, fun j => (S j).2), e, by unfold maxLen at hm; show len ≤ _; omega, fun h0 => ?_, fun j hj => ?_⟩
    · have h0' : 0 < len := h0
      obtain ⟨c0, _⟩ := hall 0 (by omega)
      rw [Nat.zero_mul] at c0
      have : a.add 0 = a := by simp [Addr.add]
      rw [this] at c0
      obtain ⟨ea, hb⟩ := addr_of_cell c0
      exact ⟨by rw [← ea], hb⟩
    · have hj' : j < len := hj
      obtain ⟨c0, _⟩ := hall 0 (by omega)
      rw [Nat.zero_mul] at c0
      have h00 : a.add 0 = a := by simp [Addr.add]
      rw [h00] at c0
      obtain ⟨ea, _⟩ := addr_of_cell c0
      obtain ⟨k0, k1, _, _⟩ := hall j (by omega)
      obtain ⟨s0, s1, z0, z1⟩ := hS j hj'
      rw [ea, add_none, s0] at k0
      rw [ea, add_none, s1, ← Nat.add_assoc] at k1
      exact ⟨k0, k1, z0, z1⟩

theorem open_labels {v : Value} {d : DataW H} {p : List MemPlace} (a0 : Option Addr) (n c : Nat) (hv : v = .slice a0 n c) (h : DataW.Trod enc Try.prog w 0 (fun _ => true) true 22 v d p) :
    ∃ l : Lab, l.n = n ∧ l.In w ∧ (0 < l.n → a0 = some ⟨l.B, l.O, none⟩) := by
  subst hv
  obtain ⟨fuel, hf⟩ := h
  have hf' : DataW.trod enc Try.prog w 0 (fun _ => true) true fuel 22 [.slice a0 n c] = some (d, p) := hf
  rcases open_slice1 Try.underlying22 cells34' hf' with ⟨e, _⟩ | ⟨a, len, cap, m, k, V, D, Pl, e, _, hl, hm, hmm, _, hall⟩
  · simp only [List.cons.injEq, and_true, Value.slice.injEq] at e
    obtain ⟨rfl, rfl, rfl⟩ := e
    exact ⟨⟨0, 0, 0, fun _ => none, fun _ => 0, fun _ => 0, fun _ => 0, fun _ => 0, fun _ _ => ByteArray.empty, fun _ _ => ByteArray.empty⟩, rfl, ⟨by simp, fun h => by simp at h, fun i h => by simp at h, fun i h => by simp at h, fun i h => by simp at h, fun i j h => by simp at h, fun i j h => by simp at h, fun i j h => by simp at h, fun i j h => by simp at h⟩, fun h => by simp at h⟩
  · simp only [List.cons.injEq, and_true, Value.slice.injEq] at e
    obtain ⟨rfl, rfl, rfl⟩ := e
    simp only [if_true] at hmm
    obtain ⟨Q, hQ⟩ := choose_lt (n := n) (p := fun i q => RowIs w (V i) q) (fun i hi => open_row (hall i (by omega)).2)
    have ha : 0 < n → a = ⟨a.block, a.off, none⟩ ∧ a.block < w.heap.size := fun h0 => by
      obtain ⟨c0, _⟩ := hall 0 (by omega)
      have h00 : a.add 0 = a := by simp [Addr.add]
      rw [h00] at c0
      exact addr_of_cell c0
    refine ⟨⟨n, a.block, a.off, fun i => (Q i).1, fun i => (Q i).2.1, fun i => (Q i).2.2.1, fun i => (Q i).2.2.2.1, fun i => (Q i).2.2.2.2.1, fun i => (Q i).2.2.2.2.2.1, fun i => (Q i).2.2.2.2.2.2⟩, rfl, ⟨by unfold maxLen at hm; show n ≤ _; omega, fun h0 => (ha h0).2, fun i hi => ?_, fun i hi => (hQ i hi).2.1, fun i hi => (hQ i hi).2.2.1,
      fun i j hi hj => ((hQ i hi).2.2.2 j hj).1, fun i j hi hj => ((hQ i hi).2.2.2 j hj).2.1, fun i j hi hj => ((hQ i hi).2.2.2 j hj).2.2.1, fun i j hi hj => ((hQ i hi).2.2.2 j hj).2.2.2⟩, fun h0 => by rw [← (ha h0).1]⟩
    have hi' : i < n := hi
    have hc := (hall i (by omega)).1
    rw [(ha (by omega)).1, add_none, (hQ i hi).1] at hc
    exact hc
end
end Go.Proofs.Qxb6601594a
