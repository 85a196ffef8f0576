/- The decimal numeral, read back. No Go here. -/
import Derived.Test.Qxb6603132aDoorPlain
namespace Go.Proofs.Qxb6603132aDoor
open Go

def rd (l : Nat) (b : UInt8) : Nat := l * 10 + (b.toNat - 48)

theorem ofNat_toNat {x : Nat} (h : x < 10) : (UInt8.ofNat (48 + x)).toNat = 48 + x := by
  rw [UInt8.toNat_ofNat']
  omega

theorem dec_dig (u : Nat) : ∀ b ∈ Lib.decDigits u, 48 ≤ b.toNat ∧ b.toNat ≤ 57 := by
  induction u using Nat.strongRecOn with
  | _ u ih =>
    intro b hb
    rw [Lib.decDigits] at hb
    split at hb
    case isTrue h =>
      simp only [List.mem_singleton] at hb
      rw [hb, ofNat_toNat h]
      omega
    case isFalse h =>
      rw [List.mem_append] at hb
      rcases hb with hb | hb
      · exact ih (u / 10) (by omega) b hb
      · simp only [List.mem_singleton] at hb
        rw [hb, ofNat_toNat (Nat.mod_lt _ (by omega))]
        omega

theorem dec_fold (u : Nat) : (Lib.decDigits u).foldl rd 0 = u := by
  induction u using Nat.strongRecOn with
  | _ u ih =>
    rw [Lib.decDigits]
    split
    case isTrue h =>
      simp only [List.foldl_cons, List.foldl_nil, rd, ofNat_toNat h]
      omega
    case isFalse h =>
      rw [List.foldl_append, ih (u / 10) (by omega)]
      simp only [List.foldl_cons, List.foldl_nil, rd, ofNat_toNat (Nat.mod_lt u (show 0 < 10 by omega))]
      omega

theorem dec_ne (u : Nat) : Lib.decDigits u ≠ [] := by
  intro h
  have := Lib.decDigits_length u
  rw [h] at this
  have h2 := Lib.nDigits_pos u
  simp at this
  omega

/-- No numeral of two digits or more begins with 0. -/
theorem dec_head (u : Nat) (h : 1 < (Lib.decDigits u).length) : ∀ b, (Lib.decDigits u)[0]? = some b → b.toNat ≠ 48 := by
  induction u using Nat.strongRecOn with
  | _ u ih =>
    intro b hb
    by_cases h1 : u < 10
    · rw [Lib.decDigits, dif_pos h1] at h
      simp at h
    · have hl := Lib.decDigits_length (u / 10)
      have hp := Lib.nDigits_pos (u / 10)
      rw [Lib.decDigits, dif_neg h1, List.getElem?_append_left (by omega)] at hb
      by_cases h2 : u / 10 < 10
      · rw [Lib.decDigits, dif_pos h2] at hb
        simp only [List.getElem?_cons_zero, Option.some.injEq] at hb
        rw [← hb, ofNat_toNat h2]
        omega
      · refine ih (u / 10) (by omega) ?_ b hb
        rw [hl, Lib.nDigits_big h2]
        have := Lib.nDigits_pos (u / 10 / 10)
        omega

theorem dec_len {u : Nat} (h : u < 1000000000) : (Lib.decDigits u).length ≤ 9 := by
  rw [Lib.decDigits_length]
  by_cases h0 : u < 10
  · rw [Lib.nDigits_small h0]; omega
  · rcases Nat.lt_or_ge u 100 with h1 | h1
    · rw [Lib.nDigits_unique 1 u (by omega) (by omega)]; omega
    rcases Nat.lt_or_ge u 1000 with h2 | h2
    · rw [Lib.nDigits_unique 2 u (by omega) (by omega)]; omega
    rcases Nat.lt_or_ge u 10000 with h3 | h3
    · rw [Lib.nDigits_unique 3 u (by omega) (by omega)]; omega
    rcases Nat.lt_or_ge u 100000 with h4 | h4
    · rw [Lib.nDigits_unique 4 u (by omega) (by omega)]; omega
    rcases Nat.lt_or_ge u 1000000 with h5 | h5
    · rw [Lib.nDigits_unique 5 u (by omega) (by omega)]; omega
    rcases Nat.lt_or_ge u 10000000 with h6 | h6
    · rw [Lib.nDigits_unique 6 u (by omega) (by omega)]; omega
    rcases Nat.lt_or_ge u 100000000 with h7 | h7
    · rw [Lib.nDigits_unique 7 u (by omega) (by omega)]; omega
    rw [Lib.nDigits_unique 8 u (by omega) (by omega)]; omega
end Go.Proofs.Qxb6603132aDoor
