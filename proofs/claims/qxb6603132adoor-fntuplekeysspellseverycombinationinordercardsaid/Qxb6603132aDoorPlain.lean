/- The plain side: mixed radix, the odometer, the keys' text. No Go here. -/
import Derived.Test.Qxb6603132aDoorFit
import Derived.Lib.ItoaMem
import Derived.Lib.AppendIntMem
namespace Go.Proofs.Qxb6603132aDoor
open Go

/-- k, the last m lists' radices taken off. -/
def qs (ln : Nat → Nat) (n k : Nat) : Nat → Nat
  | 0 => k
  | m + 1 => qs ln n k m / ln (n - 1 - m)
def dig (ln : Nat → Nat) (n k j : Nat) : Nat := qs ln n k (n - 1 - j) % ln j
def rp (ln : Nat → Nat) (n : Nat) : Nat → Nat
  | 0 => 1
  | m + 1 => rp ln n m * ln (n - 1 - m)

theorem qs_div (ln : Nat → Nat) (n k : Nat) : ∀ m, qs ln n k m = k / rp ln n m
  | 0 => by simp [qs, rp]
  | m + 1 => by simp only [qs, rp]; rw [qs_div ln n k m, Nat.div_div_eq_div_mul]
theorem pr_rp (ln : Nat → Nat) (n : Nat) : ∀ m, m ≤ n → pr ln n = rp ln n m * pr ln (n - m)
  | 0, _ => by simp [rp]
  | m + 1, h => by
    rw [pr_rp ln n m (by omega)]
    have e : n - m = (n - (m + 1)) + 1 := by omega
    have e2 : n - (m + 1) = n - 1 - m := by omega
    rw [e]
    simp only [pr, rp]
    rw [e2, Nat.mul_assoc, Nat.mul_comm (pr ln (n - 1 - m))]
theorem qs_end {ln : Nat → Nat} {n k : Nat} : qs ln n k n = k / pr ln n := by
  rw [qs_div, pr_rp ln n n (Nat.le_refl _)]
  simp [pr]
theorem qs_end_lt {ln : Nat → Nat} {n k : Nat} (h : k < pr ln n) : qs ln n k n = 0 := by rw [qs_end, Nat.div_eq_of_lt h]
theorem lt_of_qs_end {ln : Nat → Nat} {n k : Nat} (hp : 0 < pr ln n) (h : qs ln n k n = 0) : k < pr ln n := by
  rw [qs_end] at h
  exact (Nat.div_eq_zero_iff_lt hp).1 h

theorem succ_small {a l : Nat} (h : a % l + 1 < l) : (a + 1) % l = a % l + 1 ∧ (a + 1) / l = a / l := by
  have hl : 0 < l := by omega
  have e : a + 1 = l * (a / l) + (a % l + 1) := by have := Nat.div_add_mod a l; omega
  refine ⟨?_, ?_⟩
  · rw [e, Nat.mul_add_mod, Nat.mod_eq_of_lt h]
  · rw [e, Nat.mul_add_div hl, Nat.div_eq_of_lt h, Nat.add_zero]
theorem succ_carry {a l : Nat} (hl : 0 < l) (h : ¬ a % l + 1 < l) : (a + 1) % l = 0 ∧ (a + 1) / l = a / l + 1 := by
  have h2 : a % l + 1 = l := by have := Nat.mod_lt a hl; omega
  have e : a + 1 = l * (a / l) + l := by have := Nat.div_add_mod a l; omega
  refine ⟨?_, ?_⟩
  · rw [e, Nat.mul_add_mod, Nat.mod_self]
  · rw [e, Nat.mul_add_div hl, Nat.div_self hl]

/-- The one that is added is carried as far as place m (from the end). -/
def Carry (ln : Nat → Nat) (n k m : Nat) : Prop := qs ln n (k + 1) m = qs ln n k m + 1
theorem Carry.zero (ln : Nat → Nat) (n k : Nat) : Carry ln n k 0 := rfl

theorem same_up {ln : Nat → Nat} {n k m : Nat} (h : qs ln n (k + 1) m = qs ln n k m) : ∀ i, qs ln n (k + 1) (m + i) = qs ln n k (m + i)
  | 0 => h
  | i + 1 => by rw [show m + (i + 1) = (m + i) + 1 by omega]; simp only [qs]; rw [same_up h i]

/-- Where the digit at j has room it grows by one, and the digits before it stay. -/
theorem Carry.room {ln : Nat → Nat} {n k j : Nat} (hj : j < n) (h : Carry ln n k (n - 1 - j)) (hr : dig ln n k j + 1 < ln j) :
    dig ln n (k + 1) j = dig ln n k j + 1 ∧ (∀ i, i < j → dig ln n (k + 1) i = dig ln n k i) ∧ qs ln n (k + 1) n = qs ln n k n := by
  unfold Carry at h
  unfold dig at hr ⊢
  obtain ⟨h1, h2⟩ := succ_small hr
  have hq : qs ln n (k + 1) (n - 1 - j + 1) = qs ln n k (n - 1 - j + 1) := by
    simp only [qs]
    rw [show n - 1 - (n - 1 - j) = j by omega, h, h2]
  refine ⟨by rw [h]; exact h1, fun i hi => ?_, ?_⟩
  · have := same_up hq (j - 1 - i)
    rw [show n - 1 - j + 1 + (j - 1 - i) = n - 1 - i by omega] at this
    rw [this]
  · have := same_up hq j
    rwa [show n - 1 - j + 1 + j = n by omega] at this

/-- Where it has none it falls to 0, and the one is carried on. -/
theorem Carry.full {ln : Nat → Nat} {n k j : Nat} (hj : j < n) (hl : 0 < ln j) (h : Carry ln n k (n - 1 - j)) (hr : ¬ dig ln n k j + 1 < ln j) :
    dig ln n (k + 1) j = 0 ∧ Carry ln n k (n - 1 - j + 1) := by
  unfold Carry at h ⊢
  unfold dig at hr ⊢
  obtain ⟨h1, h2⟩ := succ_carry hl hr
  refine ⟨by rw [h]; exact h1, ?_⟩
  simp only [qs]
  rw [show n - 1 - (n - 1 - j) = j by omega, h, h2]

/-- What the key holds of list j, and the key's first j pieces. -/
def item (n : Nat) (S : Nat → Nat → ByteArray) (d : Nat → Nat) (j : Nat) : List UInt8 :=
  (if j + 1 < n then Lib.decDigits (S j (d j)).size ++ [58] else []) ++ (S j (d j)).data.toList
def tx (n : Nat) (S : Nat → Nat → ByteArray) (d : Nat → Nat) : Nat → List UInt8
  | 0 => []
  | j + 1 => tx n S d j ++ item n S d j

theorem size_toList (s : ByteArray) : s.data.toList.length = s.size := Array.length_toList

theorem tx_le {n : Nat} {S : Nat → Nat → ByteArray} {d : Nat → Nat} : ∀ j, (∀ i, i < j → (S i (d i)).size ≤ 1048576) → (tx n S d j).length ≤ j * 1048600
  | 0, _ => by simp [tx]
  | j + 1, h => by
    have h1 := tx_le j (n := n) (S := S) (d := d) (fun i hi => h i (by omega))
    have h2 := h j (by omega)
    have h3 : (item n S d j).length ≤ 1048600 := by
      unfold item
      rw [List.length_append, size_toList]
      split
      · rw [List.length_append, Lib.decDigits_length]
        have : Lib.nDigits (S j (d j)).size ≤ 20 := by
          by_cases hz : 1 ≤ (S j (d j)).size
          · have := Lib.numDigits_eq (S j (d j)).size hz (by omega)
            split at this <;> omega
          · rw [Lib.nDigits_small (by omega)]; omega
        simp
        omega
      · simp
        omega
    simp only [tx, List.length_append]
    omega
end Go.Proofs.Qxb6603132aDoor
