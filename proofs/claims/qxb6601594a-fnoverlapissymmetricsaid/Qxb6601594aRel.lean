/- zzBuild: the loops' relations, and what each way of a round does to them. -/
import Derived.Test.Qxb6601594aLaws
namespace Go.Proofs.Qxb6601594a
open Go Go.Maps Go.RowKit

def R1 (l : Lab) (w : World) (g : Nat) (s9 s10 s11 : Value) (wr : World) : Prop :=
  ∃ (k : Nat) (M : Nat → Nat) (T : Nat → Tag) (ks : List ByteArray) (ps : List (ByteArray × ByteArray)) (FK FP : Value → Option Value), k ≤ l.n ∧ g = l.n - k ∧ s11 = .int .i64 k ∧
    St l w.heap.size k M T (plK l k) (plP l k) ks ps FK FP s9 s10 w wr ∧ ks.length ≤ rs l.L k ∧ ps.length ≤ rs l.L k

def R2 (l : Lab) (w : World) (k mk : Nat) (M : Nat → Nat) (T : Nat → Tag) (ks : List ByteArray) (ps : List (ByteArray × ByteArray)) (FK FP : Value → Option Value) (v9 v10 : Value) (g : Nat) (s13 : Value) (wr : World) : Prop :=
  ∃ (j : Nat) (F : Value → Option Value), j ≤ l.L k ∧ g = l.L k - j ∧ s13 = .int .i64 j ∧ St l w.heap.size k M T (plK l k) (plP l k) ks ps FK FP v9 v10 w wr ∧
    MapIs Try.prog 9 wr mk F ∧ ∀ x, F (.string x) = (lastV (l.Ks k) (l.Vs k) j x).map Value.string

def R3 (l : Lab) (w : World) (k : Nat) (M : Nat → Nat) (g : Nat) (s9 s10 s14 : Value) (wr : World) : Prop :=
  ∃ (j : Nat) (T : Nat → Tag) (ks : List ByteArray) (ps : List (ByteArray × ByteArray)) (FK FP : Value → Option Value), j ≤ l.L k ∧ g = l.L k - j ∧ s14 = .int .i64 j ∧
    St l w.heap.size (k + 1) M T (LK l k j) (LP l k j) ks ps FK FP s9 s10 w wr ∧ ks.length ≤ rs l.L k + j ∧ ps.length ≤ rs l.L k + j

theorem R1_start {l : Lab} (w : World) {cm ce : Array Value} (h1 : cm.size = l.n) (h2 : ce.size = l.n) :
    R1 l w l.n (.slice none 0 0) (.slice none 0 0) (.int .i64 0) ((((w.alloc (.cells cm 43)).alloc (.cells ce 3)).alloc (.map #[] 0)).alloc (.map #[] 0)) :=
  ⟨0, fun _ => 0, fun _ => (0, ByteArray.empty, ByteArray.empty), [], [], _, _, Nat.zero_le _, rfl, rfl, St.start w _ _ h1 h2, Nat.zero_le _, Nat.zero_le _⟩

section
variable {l : Lab} {k : Nat} {M : Nat → Nat} {T : Nat → Tag} {ks : List ByteArray} {ps : List (ByteArray × ByteArray)} {FK FP : Value → Option Value} {v9 v10 : Value} {w wr : World}

/-- The tags behind the making of role k's map. -/
def tagM (T : Nat → Tag) (mk b : Nat) : Tag := if b = mk then (5, ByteArray.empty, ByteArray.empty) else T b

theorem R2_start (h : St l w.heap.size k M T (plK l k) (plP l k) ks ps FK FP v9 v10 w wr) (u : Value) :
    R2 l w k wr.heap.size M (tagM T wr.heap.size) ks ps FK FP v9 v10 (l.L k) (.int .i64 0) ((wr.setCell ⟨w.heap.size + 1, k, none⟩ u).alloc (.map #[] 0)) := by
  have hs : (wr.setCell ⟨w.heap.size + 1, k, none⟩ u).heap.size = wr.heap.size := by simp [World.setCell]
  have hm := MapIs.made Try.prog 9 (wr.setCell ⟨w.heap.size + 1, k, none⟩ u)
  rw [hs] at hm
  refine ⟨0, _, Nat.zero_le _, rfl, rfl, (h.setEvery k u).kept (World.grownBy_alloc _ _ none) (fun g hg => ?_) (fun g e => by cases e), hm, fun x => rfl⟩
  rw [hs] at hg
  simp [tagM, show ¬ g = wr.heap.size by omega]

theorem R2_low (h : St l w.heap.size k M T (plK l k) (plP l k) ks ps FK FP v9 v10 w wr) : w.heap.size + 4 ≤ wr.heap.size ∧ ∀ i, i < k → M i < wr.heap.size :=
  ⟨h.size, fun i hi => by obtain ⟨_, F, hF, _⟩ := h.role i hi; exact hF.lt⟩

theorem R2_step {mk j : Nat} {F : Value → Option Value} {w1 : World} (hmk : w.heap.size + 4 ≤ mk) (hM : ∀ i, i < k → M i < mk) (hj : j < l.L k)
    (h : St l w.heap.size k M (tagM T mk) (plK l k) (plP l k) ks ps FK FP v9 v10 w wr) (hF : ∀ x, F (.string x) = (lastV (l.Ks k) (l.Vs k) j x).map Value.string)
    (hg : wr.drew.grownBy w1 (some mk)) (hup : ∀ F' : Value → Option Value, F' (.string (l.Ks k j)) = some (.string (l.Vs k j)) → (∀ y, y ≠ .string (l.Ks k j) → F' y = F y) → MapIs Try.prog 9 w1 mk F') :
    R2 l w k mk M (tagM T mk) ks ps FK FP v9 v10 (l.L k - (j + 1)) (.int .i64 ((j + 1 : Nat) : Int)) w1 := by
  open Classical in
  refine ⟨j + 1, fun y => if y = .string (l.Ks k j) then some (.string (l.Vs k j)) else F y, by omega, rfl, rfl, h.drew.kept hg (fun _ _ => rfl) (fun g e => ?_), hup _ (by simp) (fun y hy => by simp [hy]), fun x => ?_⟩
  · cases e
    exact ⟨hmk, by simp [tagM], fun i hi e => by have := hM i hi; omega⟩
  · unfold lastV
    by_cases e : l.Ks k j = x
    · simp [e]
    · have : ¬ x = l.Ks k j := fun h => e h.symm
      simp [e, this, hF]

theorem R3_start {mk : Nat} {F : Value → Option Value} (hk : k < l.n) (hmk : w.heap.size + 4 ≤ mk) (h : St l w.heap.size k M T (plK l k) (plP l k) ks ps FK FP v9 v10 w wr)
    (hm : MapIs Try.prog 9 wr mk F) (hF : ∀ x, F (.string x) = (lastV (l.Ks k) (l.Vs k) (l.L k) x).map Value.string) (hks : ks.length ≤ rs l.L k) (hps : ps.length ≤ rs l.L k) :
    R3 l w k (fun i => if i = k then mk else M i) (l.L k) v9 v10 (.int .i64 0) (wr.setCell ⟨w.heap.size, k, none⟩ (.map (some mk))) :=
  ⟨0, T, ks, ps, FK, FP, Nat.zero_le _, rfl, rfl, (h.setMaps hk hmk hm hF).congr (LK_zero l k) (LP_zero l k), by omega, by omega⟩

theorem R3_skip {j : Nat} (hj : j < l.L k) (h : St l w.heap.size (k + 1) M T (LK l k j) (LP l k j) ks ps FK FP v9 v10 w wr) (hks : ks.length ≤ rs l.L k + j) (hps : ps.length ≤ rs l.L k + j)
    (hno : mr l k (l.Ks k j) ≠ some (l.Vs k j)) : R3 l w k M (l.L k - (j + 1)) v9 v10 (.int .i64 ((j + 1 : Nat) : Int)) wr :=
  ⟨j + 1, T, ks, ps, FK, FP, by omega, rfl, rfl, h.congr (fun x => by rw [LK, LK, seenK_skip hno]) (fun p => by rw [LP, LP, seenP_skip hno]), by omega, by omega⟩

theorem R1_next {j : Nat} (hk : k < l.n) (hj : j = l.L k) (h : St l w.heap.size (k + 1) M T (LK l k j) (LP l k j) ks ps FK FP v9 v10 w wr) (hks : ks.length ≤ rs l.L k + j) (hps : ps.length ≤ rs l.L k + j) :
    R1 l w (l.n - (k + 1)) v9 v10 (.int .i64 ((k + 1 : Nat) : Int)) wr := by
  subst hj
  exact ⟨k + 1, M, T, ks, ps, FK, FP, by omega, rfl, rfl, h.congr (fun x => (LK_all l k x).symm) (fun p => (LP_all l k p).symm), hks, hps⟩

/-- Role k's own map, in loop 3. -/
theorem lastV_isSome {K V : Nat → ByteArray} {x : ByteArray} : ∀ {j i : Nat}, i < j → K i = x → (lastV K V j x).isSome = true
  | 0, i, h, _ => by omega
  | j + 1, i, h, hk => by
    unfold lastV
    split
    · rfl
    · rename_i hne
      exact lastV_isSome (i := i) (by rcases Nat.lt_or_eq_of_le (Nat.le_of_lt_succ h) with h' | h'; exact h'; subst h'; exact absurd hk hne) hk
end
end Go.Proofs.Qxb6601594a
