/- The key's pieces, as the parser meets them. No Go here. -/
import Derived.Test.Qxb6603132aDoorDec
namespace Go.Proofs.Qxb6603132aDoor
open Go

theorem tx_more {n : Nat} {S : Nat → Nat → ByteArray} {d : Nat → Nat} (j : Nat) : ∀ m, ∃ C, tx n S d (j + m) = tx n S d j ++ C
  | 0 => ⟨[], by simp⟩
  | m + 1 => by
    obtain ⟨C, hC⟩ := tx_more j m (n := n) (S := S) (d := d)
    exact ⟨C ++ item n S d (j + m), by rw [show j + (m + 1) = (j + m) + 1 by omega]; simp only [tx]; rw [hC, List.append_assoc]⟩
theorem tx_split {n : Nat} {S : Nat → Nat → ByteArray} {d : Nat → Nat} {j : Nat} (hj : j < n) : ∃ C, tx n S d n = tx n S d j ++ (item n S d j ++ C) := by
  obtain ⟨C, hC⟩ := tx_more (j + 1) (n - (j + 1)) (n := n) (S := S) (d := d)
  rw [show j + 1 + (n - (j + 1)) = n by omega] at hC
  exact ⟨C, by rw [hC]; simp only [tx]; rw [List.append_assoc]⟩

theorem size_mk (L : List UInt8) : (⟨L.toArray⟩ : ByteArray).size = L.length := List.size_toArray
theorem key_at (L : List UInt8) (i : Nat) (h : i < (⟨L.toArray⟩ : ByteArray).size) : (⟨L.toArray⟩ : ByteArray)[i] = L[i]'(by rw [size_mk] at h; exact h) := rfl

theorem extract_eq (A C : List UInt8) (v : ByteArray) : (⟨(A ++ (v.data.toList ++ C)).toArray⟩ : ByteArray).extract A.length (A.length + v.size) = v := by
  apply ByteArray.ext
  rw [ByteArray.data_extract]
  apply Array.toList_inj.mp
  rw [Array.toList_extract]
  simp only [List.extract_eq_take_drop]
  rw [show A.length + v.size - A.length = v.size by omega, List.drop_left]
  rw [← size_toList, List.take_left]

structure Piece (K : ByteArray) (p : Nat) (v : ByteArray) (D : Nat) : Prop where
  hD : D = (Lib.decDigits v.size).length
  fits : p + D + 1 + v.size ≤ K.size
  dig : ∀ i, (hi : i < D) → (h : p + i < K.size) → K[p + i] = (Lib.decDigits v.size)[i]'(by rw [← hD]; exact hi)
  colon : ∀ h : p + D < K.size, K[p + D] = 58
  ext : K.extract (p + D + 1) (p + D + 1 + v.size) = v

theorem piece_at {n : Nat} {S : Nat → Nat → ByteArray} {d : Nat → Nat} {j : Nat} (hj : j + 1 < n) {K : ByteArray} (hK : K = ⟨(tx n S d n).toArray⟩) :
    Piece K (tx n S d j).length (S j (d j)) (Lib.decDigits (S j (d j)).size).length
    ∧ (tx n S d (j + 1)).length = (tx n S d j).length + (Lib.decDigits (S j (d j)).size).length + 1 + (S j (d j)).size := by
  obtain ⟨C, hC⟩ := tx_split (n := n) (S := S) (d := d) (show j < n by omega)
  have hI : item n S d j = Lib.decDigits (S j (d j)).size ++ [58] ++ (S j (d j)).data.toList := by unfold item; rw [if_pos hj]
  have hlen : (tx n S d (j + 1)).length = (tx n S d j).length + (Lib.decDigits (S j (d j)).size).length + 1 + (S j (d j)).size := by
    simp only [tx, hI, List.length_append, size_toList, List.length_singleton]
    omega
  rw [hI] at hC
  obtain ⟨T, hT⟩ : ∃ T, T = tx n S d n := ⟨_, rfl⟩
  rw [← hT] at hC hK
  obtain ⟨A, hA⟩ : ∃ A, A = tx n S d j := ⟨_, rfl⟩
  rw [← hA] at hC hlen ⊢
  obtain ⟨v, hv⟩ : ∃ v, v = S j (d j) := ⟨_, rfl⟩
  rw [← hv] at hC hlen ⊢
  clear hT hI
  obtain ⟨N, hN⟩ : ∃ N, N = Lib.decDigits v.size := ⟨_, rfl⟩
  have hC2 : T = A ++ (N ++ ([58] ++ (v.data.toList ++ C))) := by rw [hC, hN]; simp only [List.append_assoc]
  refine ⟨⟨rfl, ?_, ?_, ?_, ?_⟩, hlen⟩
  · rw [hK, size_mk T, hC2, ← hN]
    simp only [List.length_append, size_toList, List.length_singleton]
    omega
  · intro i hi h
    subst hK
    rw [key_at]
    subst hC2
    rw [List.getElem_append_right (by omega)]
    rw [List.getElem_append_left (by rw [hN]; omega)]
    simp only [Nat.add_sub_cancel_left, hN]
  · intro h
    subst hK
    rw [key_at]
    subst hC2
    rw [List.getElem_append_right (by omega)]
    rw [List.getElem_append_right (by rw [hN]; omega)]
    simp [hN]
  · have e := extract_eq (A ++ N ++ [58]) C v
    have e2 : (A ++ N ++ [58]).length = A.length + (Lib.decDigits v.size).length + 1 := by rw [← hN]; simp only [List.length_append, List.length_singleton]
    rw [e2] at e
    rw [hK, hC2]
    simp only [List.append_assoc] at e ⊢
    exact e

theorem last_at {n : Nat} {S : Nat → Nat → ByteArray} {d : Nat → Nat} {j : Nat} (hj : j + 1 = n) {K : ByteArray} (hK : K = ⟨(tx n S d n).toArray⟩) :
    (tx n S d j).length ≤ K.size ∧ K.extract (tx n S d j).length K.size = S j (d j) := by
  subst hj
  have hI : item (j + 1) S d j = (S j (d j)).data.toList := by unfold item; rw [if_neg (by omega)]; rfl
  have hT : tx (j + 1) S d (j + 1) = tx (j + 1) S d j ++ ((S j (d j)).data.toList ++ []) := by
    simp only [tx, hI, List.append_nil]
  have hs : K.size = (tx (j + 1) S d j).length + (S j (d j)).size := by
    rw [hK, size_mk (tx (j + 1) S d (j + 1)), hT]
    simp only [List.length_append, size_toList, List.length_nil]
    omega
  refine ⟨by omega, ?_⟩
  rw [hs, hK, hT]
  exact extract_eq _ _ _
end Go.Proofs.Qxb6603132aDoor
