/- zzBuild, loop 3: what holds between the statements of a round. -/
import Derived.Test.Qxb6601594aRel
namespace Go.Proofs.Qxb6601594a
open Go Go.Maps Go.RowKit

theorem beq_ne {s t : ByteArray} (h : s ≠ t) : (s.toList == t.toList) = false := by
  rw [ByteArray.toList_eq, ByteArray.toList_eq]
  rw [Bool.eq_false_iff]
  intro e
  exact h (WideShapes.bytes_inj (by simpa using e))

theorem lies_loc {v : Value} {g n c H : Nat} (h : v.ownBlock = some g ∨ g = H) : (Value.slice (some ⟨g, 0, none⟩) n c).ownBlock = v.ownBlock ∨ (Value.slice (some ⟨g, 0, none⟩) n c).ownBlock = some H := by
  rcases h with e | e
  · exact Or.inl (by rw [e]; rfl)
  · exact Or.inr (by rw [e]; rfl)

/-- What a look-up gives, each part under a letter. -/
theorem KMap.at2 {κ : Type} {k : TypeId} {b base : Nat} {enc : κ → Value} {tag : κ → Tag} {T : Nat → Tag} {LL : κ → List Nat} {w : World} {F : Value → Option Value} (h : KMap k b base enc tag T LL w F) (x : κ) :
    ∃ a n c s, (F (enc x)).getD (.slice none 0 0) = .slice a n c ∧ n = (LL x).length ∧ (F (enc x)).isSome = s ∧ s = !(LL x).isEmpty ∧ RowOf base 3 1 T (tag x) w (.slice a n c) n (ints (LL x)) := by
  obtain ⟨a, c, h1, h2, h3⟩ := h.at' x
  exact ⟨a, _, c, _, h1, rfl, rfl, h2, h3⟩

/-- The same value, in a later world. -/
theorem KMap.at3 {κ : Type} {k : TypeId} {b base : Nat} {enc : κ → Value} {tag : κ → Tag} {T : Nat → Tag} {LL : κ → List Nat} {w : World} {F : Value → Option Value} (h : KMap k b base enc tag T LL w F) {x : κ}
    {a : Option Addr} {n c : Nat} (hg : (F (enc x)).getD (.slice none 0 0) = .slice a n c) : RowOf base 3 1 T (tag x) w (.slice a n c) n (ints (LL x)) ∧ n = (LL x).length := by
  obtain ⟨a', c', h1, h2, h3⟩ := h.at' x
  rw [hg] at h1
  injection h1 with e1 e2 e3
  subst e1 e2 e3
  exact ⟨h3, rfl⟩

theorem RowOf.cells {base : Nat} {T : Nat → Tag} {t : Tag} {w : World} {a : Option Addr} {n c : Nat} {xs : List Nat} (h : RowOf base 3 1 T t w (.slice a n c) n (ints xs)) (hn : 0 < n) :
    ∃ g, a = some ⟨g, 0, none⟩ ∧ ∀ i u, xs[i]? = some u → w.cell? ⟨g, i, none⟩ = some (.int .i64 (u : Nat)) := by
  obtain ⟨g, cap, e, _, _⟩ := h.1.form hn
  injection e with e1 e2 e3
  subst e1
  refine ⟨g, rfl, fun i u hi => ?_⟩
  have := h.1.cells (g := g) rfl i (.int .i64 (u : Nat)) (by simp [ints, hi])
  have hadd : (⟨g, 0, none⟩ : Addr).add i = ⟨g, i, none⟩ := by unfold Addr.add; split <;> simp_all
  rwa [hadd] at this

/-- Behind 'if !seen { keys = append(keys, k) }'. -/
def C1 (l : Lab) (w : World) (k j : Nat) (M : Nat → Nat) (ps : List (ByteArray × ByteArray)) (FK FP : Value → Option Value) (v10 s9 : Value) (wc : World) : Prop :=
  ∃ (T : Nat → Tag) (ks : List ByteArray), l.Ks k j ∈ ks ∧ ks.length ≤ rs l.L k + (j + 1) ∧ St l w.heap.size (k + 1) M T (LK l k j) (LP l k j) ks ps FK FP s9 v10 w wc

/-- Behind 'if .. { keyed[k] = append(ps, w) }'. -/
def C2 (l : Lab) (w : World) (k j : Nat) (M : Nat → Nat) (ks : List ByteArray) (ps : List (ByteArray × ByteArray)) (FP : Value → Option Value) (v9 v10 : Value) (wc : World) : Prop :=
  ∃ (T : Nat → Tag) (FK : Value → Option Value), St l w.heap.size (k + 1) M T (LK l k (j + 1)) (LP l k j) ks ps FK FP v9 v10 w wc

/-- Behind 'if !seenPair { pairs = append(pairs, p) }': p's own block keeps its two cells. -/
def C3 (l : Lab) (w : World) (k j : Nat) (M : Nat → Nat) (ks : List ByteArray) (FK FP : Value → Option Value) (v9 : Value) (pb : Nat) (s10 : Value) (wc : World) : Prop :=
  ∃ (T : Nat → Tag) (ps : List (ByteArray × ByteArray)), (l.Ks k j, l.Vs k j) ∈ ps ∧ ps.length ≤ rs l.L k + (j + 1) ∧ St l w.heap.size (k + 1) M T (LK l k (j + 1)) (LP l k j) ks ps FK FP v9 s10 w wc ∧
    wc.cell? ⟨pb, 0, none⟩ = some (.string (l.Ks k j)) ∧ wc.cell? ⟨pb, 1, none⟩ = some (.string (l.Vs k j))

theorem LK_new {l : Lab} {k j : Nat} (hh : mr l k (l.Ks k j) = some (l.Vs k j)) (hs : seenK l k j (l.Ks k j) = false) : LK l k (j + 1) (l.Ks k j) = LK l k j (l.Ks k j) ++ [k] := by
  rw [LK_seen (seenK_hit hh), LK_unseen hs]
theorem LK_old {l : Lab} {k j : Nat} (hh : mr l k (l.Ks k j) = some (l.Vs k j)) (hs : seenK l k j (l.Ks k j) = true) (y : ByteArray) : LK l k (j + 1) y = LK l k j y := by
  by_cases e : y = l.Ks k j
  · subst e
    rw [LK_seen (seenK_hit hh), LK_seen hs]
  · rw [LK, LK, seenK_other e]
theorem LK_else {l : Lab} {k j : Nat} (y : ByteArray) (e : y ≠ l.Ks k j) : LK l k (j + 1) y = LK l k j y := by rw [LK, LK, seenK_other e]
theorem LP_new {l : Lab} {k j : Nat} (hh : mr l k (l.Ks k j) = some (l.Vs k j)) (hs : seenP l k j (l.Ks k j, l.Vs k j) = false) : LP l k (j + 1) (l.Ks k j, l.Vs k j) = LP l k j (l.Ks k j, l.Vs k j) ++ [k] := by
  rw [LP_seen (seenP_hit hh), LP_unseen hs]
theorem LP_old {l : Lab} {k j : Nat} (hh : mr l k (l.Ks k j) = some (l.Vs k j)) (hs : seenP l k j (l.Ks k j, l.Vs k j) = true) (y : ByteArray × ByteArray) : LP l k (j + 1) y = LP l k j y := by
  by_cases e : y = (l.Ks k j, l.Vs k j)
  · subst e
    rw [LP_seen (seenP_hit hh), LP_seen hs]
  · rw [LP, LP, seenP_other e]
theorem LP_else {l : Lab} {k j : Nat} (y : ByteArray × ByteArray) (e : y ≠ (l.Ks k j, l.Vs k j)) : LP l k (j + 1) y = LP l k j y := by rw [LP, LP, seenP_other e]

/-- The last place on a list that is not empty: is it k? -/
theorem last_of {xs pl : List Nat} {k : Nat} {b : Bool} (hlt : ∀ i, i ∈ pl → i < k) (h : xs = pl ++ (if b then [k] else [])) (hn : 0 < xs.length) : ∃ u : Nat, xs[xs.length - 1]? = some u ∧ u ≤ k ∧ (u ≠ k ↔ b = false) := by
  cases b with
  | true =>
    refine ⟨k, ?_, Nat.le_refl _, by simp⟩
    rw [h]
    simp
  | false =>
    simp at h
    subst h
    have hm := List.getElem_mem (l := xs) (n := xs.length - 1) (by omega)
    exact ⟨xs[xs.length - 1], by simp [show xs.length - 1 < xs.length by omega], by have := hlt _ hm; omega, by have := hlt _ hm; simp; omega⟩
theorem LK_last {l : Lab} {k j : Nat} {x : ByteArray} (hn : 0 < (LK l k j x).length) : ∃ u : Nat, (LK l k j x)[(LK l k j x).length - 1]? = some u ∧ u ≤ k ∧ (u ≠ k ↔ seenK l k j x = false) :=
  last_of (fun _ h => plK_lt h) rfl hn
theorem LP_last {l : Lab} {k j : Nat} {x : ByteArray × ByteArray} (hn : 0 < (LP l k j x).length) : ∃ u : Nat, (LP l k j x)[(LP l k j x).length - 1]? = some u ∧ u ≤ k ∧ (u ≠ k ↔ seenP l k j x = false) :=
  last_of (fun _ h => plP_lt h) rfl hn
theorem LK_empty {l : Lab} {k j : Nat} {x : ByteArray} (h : (LK l k j x).length = 0) : seenK l k j x = false := by
  cases hs : seenK l k j x with
  | true => rw [LK_seen hs] at h; simp at h
  | false => rfl
theorem LP_empty {l : Lab} {k j : Nat} {x : ByteArray × ByteArray} (h : (LP l k j x).length = 0) : seenP l k j x = false := by
  cases hs : seenP l k j x with
  | true => rw [LP_seen hs] at h; simp at h
  | false => rfl

theorem grownBy_of_drew {w w1 : World} {row : Option Nat} (h : w.drew.grownBy w1 row) : w.grownBy w1 row := ⟨h.os, h.tape, h.output, h.size, h.block⟩

theorem rs_le {L : Nat → Nat} : ∀ {n k : Nat}, k < n → rs L k + L k ≤ rs L n
  | 0, k, h => by omega
  | n + 1, k, h => by
    show rs L k + L k ≤ rs L n + L n
    by_cases e : k = n
    · subst e; exact Nat.le_refl _
    · have := rs_le (L := L) (n := n) (k := k) (by omega)
      omega

section
variable {l : Lab} {k j : Nat} {M : Nat → Nat} {T : Nat → Tag} {LKf : ByteArray → List Nat} {LPf : ByteArray × ByteArray → List Nat} {ks : List ByteArray} {ps : List (ByteArray × ByteArray)} {FK FP : Value → Option Value} {v9 v10 : Value} {w wr w0 w1 w2 : World}

theorem C1_seen (h : St l w.heap.size (k + 1) M T (LK l k j) (LP l k j) ks ps FK FP v9 v10 w wr) (hks : ks.length ≤ rs l.L k + j) (hs : true = !(LK l k j (l.Ks k j)).isEmpty) : C1 l w k j M ps FK FP v10 v9 wr :=
  ⟨T, ks, h.inK _ (fun e => by rw [e] at hs; simp at hs), by omega, h⟩

theorem C1_new {o : Obj} {g c : Nat} (hxs : (l.Ks k j).size ≤ 9223372036854775807) (h : St l w.heap.size (k + 1) M T (LK l k j) (LP l k j) ks ps FK FP v9 v10 w wr) (hks : ks.length ≤ rs l.L k + j)
    (hown : w1.ownsRow (w.heap.size + 4) 9 1 (.slice (some ⟨g, 0, none⟩) (ks.length + 1) c) (ks.length + 1) (strs' ks ++ [.string (l.Ks k j)])) (hg : (wr.alloc o).grownBy w1 v9.ownBlock) (hat : v9.ownBlock = some g ∨ g = wr.heap.size + 1) :
    C1 l w k j M ps FK FP v10 (.slice (some ⟨g, 0, none⟩) (ks.length + 1) c) w1 := by
  obtain ⟨T', h'⟩ := h.keysAppend hxs (World.grownBy_alloc wr o none) hg hown (by have := lies_loc (n := ks.length + 1) (c := c) hat; simpa using this)
  exact ⟨T', ks ++ [l.Ks k j], by simp, by simp; omega, h'⟩

/-- A low block is not the row that is appended to. -/
theorem low_kept {base : Nat} {t : Tag} {v : Value} {n b : Nat} {xs : List Value} {o : Obj} (hr : RowOf base 3 1 T t wr v n xs) (hb : b < base) (hbw : b < wr.heap.size) (hg : (wr.alloc o).grownBy w1 v.ownBlock) : w1.heap[b]? = wr.heap[b]? := by
  rw [hg.block b (by simp; omega) (fun e => by have := (hr.1.lt b e.symm).1; omega)]
  exact Below.heap_alloc _ _ _ hbw

theorem C2_old (h : St l w.heap.size (k + 1) M T (LK l k j) (LP l k j) ks ps FK FP v9 v10 w wr) (hh : mr l k (l.Ks k j) = some (l.Vs k j)) (hs : seenK l k j (l.Ks k j) = true) : C2 l w k j M ks ps FP v9 v10 wr :=
  ⟨T, FK, h.congr (LK_old hh hs) (fun _ => rfl)⟩

theorem C2_new {o : Obj} {g c n nc : Nat} {a : Option Addr} (h : St l w.heap.size (k + 1) M T (LK l k j) (LP l k j) ks ps FK FP v9 v10 w wr) (hin : l.Ks k j ∈ ks)
    (hr : RowOf (w.heap.size + 4) 3 1 T (tagK (l.Ks k j)) wr (.slice a n nc) n (ints (LK l k j (l.Ks k j)))) (hn : n = (LK l k j (l.Ks k j)).length) (hh : mr l k (l.Ks k j) = some (l.Vs k j)) (hs : seenK l k j (l.Ks k j) = false)
    (hown : w1.ownsRow (w.heap.size + 4) 3 1 (.slice (some ⟨g, 0, none⟩) (n + 1) c) (n + 1) (ints (LK l k j (l.Ks k j)) ++ [.int .i64 k])) (hg : (wr.alloc o).grownBy w1 (Value.slice a n nc).ownBlock) (hat : (Value.slice a n nc).ownBlock = some g ∨ g = wr.heap.size + 1)
    (hg2 : w1.grownBy w2 (some (w.heap.size + 2))) (hup : ∀ F' : Value → Option Value, F' (.string (l.Ks k j)) = some (.slice (some ⟨g, 0, none⟩) (n + 1) c) → (∀ y, y ≠ .string (l.Ks k j) → F' y = FK y) → MapIs Try.prog 9 w2 (w.heap.size + 2) F') :
    C2 l w k j M ks ps FP v9 v10 w2 := by
  subst hn
  exact h.keyedStep hin hr (World.grownBy_alloc wr o none) hg hown (by have := lies_loc (n := (LK l k j (l.Ks k j)).length + 1) (c := c) hat; simpa using this) hg2 hup (LK_new hh hs) LK_else

theorem C3_seen {pb : Nat} {o : Obj} (h : St l w.heap.size (k + 1) M T (LK l k (j + 1)) (LP l k j) ks ps FK FP v9 v10 w wr) (hps : ps.length ≤ rs l.L k + j) (hs : true = !(LP l k j (l.Ks k j, l.Vs k j)).isEmpty)
    (h0 : (wr.alloc o).cell? ⟨pb, 0, none⟩ = some (.string (l.Ks k j))) (h1 : (wr.alloc o).cell? ⟨pb, 1, none⟩ = some (.string (l.Vs k j))) : C3 l w k j M ks FK FP v9 pb v10 (wr.alloc o) :=
  ⟨T, ps, h.inP _ (fun e => by rw [e] at hs; simp at hs), by omega, h.alloc o, h0, h1⟩

theorem C3_new {pb : Nat} {o o' : Obj} {g c : Nat} (hxs : (l.Ks k j).size ≤ 9223372036854775807) (hys : (l.Vs k j).size ≤ 9223372036854775807) (h : St l w.heap.size (k + 1) M T (LK l k (j + 1)) (LP l k j) ks ps FK FP v9 v10 w wr) (hps : ps.length ≤ rs l.L k + j) (hpb : pb = wr.heap.size)
    (h0 : (wr.alloc o).cell? ⟨pb, 0, none⟩ = some (.string (l.Ks k j))) (h1 : (wr.alloc o).cell? ⟨pb, 1, none⟩ = some (.string (l.Vs k j)))
    (hown : w1.ownsRow (w.heap.size + 4) 36 2 (.slice (some ⟨g, 0, none⟩) (ps.length + 1) c) (ps.length + 1) (prs ps ++ [.string (l.Ks k j), .string (l.Vs k j)])) (hg : ((wr.alloc o).alloc o').grownBy w1 v10.ownBlock) (hat : v10.ownBlock = some g ∨ g = wr.heap.size + 1 + 1) :
    C3 l w k j M ks FK FP v9 pb (.slice (some ⟨g, 0, none⟩) (ps.length + 1) c) w1 := by
  obtain ⟨T', h'⟩ := (h.alloc o).pairsAppend (p := (l.Ks k j, l.Vs k j)) ⟨hxs, hys⟩ (World.grownBy_alloc (wr.alloc o) o' none) hg hown (by have := lies_loc (n := ps.length + 1) (c := c) hat; simpa using this)
  have hne : some pb ≠ v10.ownBlock := fun e => by have := (h.pairs.1.lt pb e.symm).2; omega
  refine ⟨T', ps ++ [(l.Ks k j, l.Vs k j)], by simp, by simp; omega, h', ?_, ?_⟩
  · exact hg.cell ((World.grownBy_alloc (wr.alloc o) o' none).cell h0 (by simp)) hne
  · exact hg.cell ((World.grownBy_alloc (wr.alloc o) o' none).cell h1 (by simp)) hne

theorem R3_old (hj : j < l.L k) (h : St l w.heap.size (k + 1) M T (LK l k (j + 1)) (LP l k j) ks ps FK FP v9 v10 w wr) (hks : ks.length ≤ rs l.L k + (j + 1)) (hps : ps.length ≤ rs l.L k + (j + 1))
    (hh : mr l k (l.Ks k j) = some (l.Vs k j)) (hs : seenP l k j (l.Ks k j, l.Vs k j) = true) : R3 l w k M (l.L k - (j + 1)) v9 v10 (.int .i64 ((j + 1 : Nat) : Int)) wr :=
  ⟨j + 1, T, ks, ps, FK, FP, by omega, rfl, rfl, h.congr (fun _ => rfl) (LP_old hh hs), hks, hps⟩

theorem R3_new {g c n nc : Nat} {a : Option Addr} (hj : j < l.L k) (h : St l w.heap.size (k + 1) M T (LK l k (j + 1)) (LP l k j) ks ps FK FP v9 v10 w wr) (hks : ks.length ≤ rs l.L k + (j + 1)) (hps : ps.length ≤ rs l.L k + (j + 1)) (hin : (l.Ks k j, l.Vs k j) ∈ ps)
    (hr : RowOf (w.heap.size + 4) 3 1 T (tagP (l.Ks k j, l.Vs k j)) wr (.slice a n nc) n (ints (LP l k j (l.Ks k j, l.Vs k j)))) (hn : n = (LP l k j (l.Ks k j, l.Vs k j)).length) (hh : mr l k (l.Ks k j) = some (l.Vs k j)) (hs : seenP l k j (l.Ks k j, l.Vs k j) = false)
    (hown : w1.ownsRow (w.heap.size + 4) 3 1 (.slice (some ⟨g, 0, none⟩) (n + 1) c) (n + 1) (ints (LP l k j (l.Ks k j, l.Vs k j)) ++ [.int .i64 k])) (hg0 : wr.grownBy w0 none) (hg : w0.grownBy w1 (Value.slice a n nc).ownBlock) (hat : (Value.slice a n nc).ownBlock = some g ∨ g = w0.heap.size)
    (hg2 : w1.grownBy w2 (some (w.heap.size + 3))) (hup : ∀ F' : Value → Option Value, F' (encP (l.Ks k j, l.Vs k j)) = some (.slice (some ⟨g, 0, none⟩) (n + 1) c) → (∀ y, y ≠ encP (l.Ks k j, l.Vs k j) → F' y = FP y) → MapIs Try.prog 36 w2 (w.heap.size + 3) F') :
    R3 l w k M (l.L k - (j + 1)) v9 v10 (.int .i64 ((j + 1 : Nat) : Int)) w2 := by
  subst hn
  obtain ⟨T', FP', h'⟩ := h.labelledStep hin hr hg0 hg hown (lies_loc hat) hg2 hup (LP_new hh hs) LP_else
  exact ⟨j + 1, T', ks, ps, FK, FP', by omega, rfl, rfl, h', hks, hps⟩
end
end Go.Proofs.Qxb6601594a
