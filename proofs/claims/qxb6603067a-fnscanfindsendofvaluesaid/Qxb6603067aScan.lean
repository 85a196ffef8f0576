/- The scanner, plainly: its step, where it ends, and runs of it. No Go here. -/
import Derived.Test.Qxb6603067aProg
namespace Go.Proofs.Qxb6603067a

/-- The scanner's state: depth, in a string, behind a backslash. -/
abbrev Sst := Int × Bool × Bool

def step (st : Sst) (b : Int) : Sst :=
  if st.2.2 then (st.1, st.2.1, false)
  else if st.2.1 then (if b = 34 then (st.1, false, false) else if b = 92 then (st.1, true, true) else (st.1, true, false))
  else if b = 34 then (st.1, true, false)
  else if b = 123 ∨ b = 91 then (st.1 + 1, false, false)
  else if b = 125 ∨ b = 93 then (st.1 - 1, false, false)
  else (st.1, false, false)

/-- Does the value end with this byte? -/
def ends (st : Sst) (b : Int) : Bool := !st.2.2 && (if st.2.1 then decide (b = 34 ∧ st.1 = 0) else decide ((b = 125 ∨ b = 93) ∧ st.1 - 1 = 0))

/-- k bytes from p on: the state behind them, if the value does not end among them. -/
def pass (c : Nat → Int) : Nat → Nat → Sst → Option Sst
  | 0, _, st => some st
  | k + 1, p, st => if ends st (c p) then none else pass c k (p + 1) (step st (c p))

theorem pass_add (c : Nat → Int) : ∀ (k m p : Nat) (st : Sst), pass c (k + m) p st = (pass c k p st).bind (pass c m (p + k))
  | 0, m, p, st => by simp [pass]
  | k + 1, m, p, st => by
    rw [show k + 1 + m = (k + m) + 1 by omega]
    simp only [pass]
    split
    · rfl
    · rw [pass_add c k m (p + 1), show p + 1 + k = p + (k + 1) by omega]

theorem pass_then {c : Nat → Int} {k m p : Nat} {a b d : Sst} (h1 : pass c k p a = some b) (h2 : pass c m (p + k) b = some d) : pass c (k + m) p a = some d := by
  rw [pass_add, h1]
  exact h2

theorem pass_one {c : Nat → Int} {p : Nat} {a b : Sst} (h1 : ends a (c p) = false) (h2 : step a (c p) = b) : pass c 1 p a = some b := by
  simp [pass, h1, h2]

/-- A byte outside strings that the scanner passes over. -/
def plainB (b : Int) : Prop := b ≠ 34 ∧ b ≠ 123 ∧ b ≠ 91 ∧ b ≠ 125 ∧ b ≠ 93

theorem pass_plain {c : Nat → Int} : ∀ (k p : Nat) (d : Int), (∀ i, i < k → plainB (c (p + i))) → pass c k p (d, false, false) = some (d, false, false)
  | 0, _, _, _ => rfl
  | k + 1, p, d, h => by
    obtain ⟨h1, h2, h3, h4, h5⟩ := h 0 (by omega)
    rw [Nat.add_zero] at h1 h2 h3 h4 h5
    have e1 : ends (d, false, false) (c p) = false := by simp [ends, h4, h5]
    have e2 : step (d, false, false) (c p) = (d, false, false) := by simp [step, h1, h2, h3, h4, h5]
    simp only [pass, e1, e2]
    exact pass_plain k (p + 1) d (fun i hi => by have := h (i + 1) (by omega); rwa [show p + (i + 1) = p + 1 + i by omega] at this)

/-- q - p bytes from p on keep the scanner inside a string. -/
def InS (c : Nat → Int) (p q : Nat) : Prop := p ≤ q ∧ ∀ d, 0 ≤ d → pass c (q - p) p (d, true, false) = some (d, true, false)

theorem InS.refl (c : Nat → Int) (p : Nat) : InS c p p := ⟨Nat.le_refl _, fun d _ => by simp [pass]⟩
theorem InS.trans {c : Nat → Int} {p q r : Nat} (h1 : InS c p q) (h2 : InS c q r) : InS c p r := by
  refine ⟨Nat.le_trans h1.1 h2.1, fun d hd => ?_⟩
  have e : r - p = (q - p) + (r - q) := by have := h1.1; have := h2.1; omega
  rw [e]
  refine pass_then (h1.2 d hd) ?_
  rw [show p + (q - p) = q by have := h1.1; omega]
  exact h2.2 d hd
/-- A byte of a string. -/
theorem InS.one {c : Nat → Int} {p : Nat} (h1 : c p ≠ 34) (h2 : c p ≠ 92) : InS c p (p + 1) := by
  refine ⟨by omega, fun d hd => ?_⟩
  rw [show p + 1 - p = 1 by omega]
  exact pass_one (by simp [ends, h1]) (by simp [step, h1, h2])
/-- A backslash and what it escapes. -/
theorem InS.two {c : Nat → Int} {p : Nat} (h1 : c p = 92) : InS c p (p + 2) := by
  refine ⟨by omega, fun d hd => ?_⟩
  rw [show p + 2 - p = 1 + 1 by omega]
  exact pass_then (b := (d, true, true)) (pass_one (by simp [ends, h1]) (by simp [step, h1])) (pass_one (by simp [ends]) (by simp [step]))
theorem InS.run {c : Nat → Int} : ∀ (k p : Nat), (∀ i, i < k → c (p + i) ≠ 34 ∧ c (p + i) ≠ 92) → InS c p (p + k)
  | 0, p, _ => InS.refl c p
  | k + 1, p, h => by
    have h0 := h 0 (by omega)
    rw [Nat.add_zero] at h0
    have := InS.run k (p + 1) (fun i hi => by have := h (i + 1) (by omega); rwa [show p + (i + 1) = p + 1 + i by omega] at this)
    rw [show p + (k + 1) = p + 1 + k by omega]
    exact (InS.one h0.1 h0.2).trans this

/-- A string, from p to q; an object or array; a value (inside one). -/
def Str (c : Nat → Int) (p q : Nat) : Prop := ∃ k, q = p + k + 1 ∧ c (p + k) = 34 ∧ ∀ d, 0 ≤ d → pass c k p (d, false, false) = some (d, true, false)
def Con (c : Nat → Int) (p q : Nat) : Prop := ∃ k, q = p + k + 1 ∧ (c (p + k) = 125 ∨ c (p + k) = 93) ∧ ∀ d, 0 ≤ d → pass c k p (d, false, false) = some (d + 1, false, false)
def Val (c : Nat → Int) (p q : Nat) : Prop := p ≤ q ∧ ∀ d, 1 ≤ d → pass c (q - p) p (d, false, false) = some (d, false, false)

theorem Val.refl (c : Nat → Int) (p : Nat) : Val c p p := ⟨Nat.le_refl _, fun d _ => by simp [pass]⟩
theorem Val.trans {c : Nat → Int} {p q r : Nat} (h1 : Val c p q) (h2 : Val c q r) : Val c p r := by
  refine ⟨Nat.le_trans h1.1 h2.1, fun d hd => ?_⟩
  have e : r - p = (q - p) + (r - q) := by have := h1.1; have := h2.1; omega
  rw [e]
  refine pass_then (h1.2 d hd) ?_
  rw [show p + (q - p) = q by have := h1.1; omega]
  exact h2.2 d hd
theorem Val.plain {c : Nat → Int} {p q : Nat} (hpq : p ≤ q) (h : ∀ i, p ≤ i → i < q → plainB (c i)) : Val c p q :=
  ⟨hpq, fun d _ => pass_plain _ _ _ (fun i hi => h _ (by omega) (by omega))⟩

theorem Str.mk' {c : Nat → Int} {p q : Nat} (h0 : c p = 34) (h : InS c (p + 1) q) (hq : c q = 34) : Str c p (q + 1) := by
  have hle := h.1
  refine ⟨q - p, by omega, by rw [show p + (q - p) = q by omega]; exact hq, fun d hd => ?_⟩
  rw [show q - p = 1 + (q - (p + 1)) by omega]
  exact pass_then (b := (d, true, false)) (pass_one (by simp [ends, h0]) (by simp [step, h0])) (h.2 d hd)

theorem Str.val {c : Nat → Int} {p q : Nat} (h : Str c p q) : Val c p q := by
  obtain ⟨k, rfl, h1, h2⟩ := h
  refine ⟨by omega, fun d hd => ?_⟩
  rw [show p + k + 1 - p = k + 1 by omega]
  exact pass_then (h2 d (by omega)) (pass_one (by simp [ends, h1]; omega) (by simp [step, h1]))

theorem Con.val {c : Nat → Int} {p q : Nat} (h : Con c p q) : Val c p q := by
  obtain ⟨k, rfl, h1, h2⟩ := h
  refine ⟨by omega, fun d hd => ?_⟩
  rw [show p + k + 1 - p = k + 1 by omega]
  refine pass_then (h2 d (by omega)) (pass_one ?_ ?_)
  · rcases h1 with h1 | h1 <;> simp [ends, h1] <;> omega
  · rcases h1 with h1 | h1 <;> simp [step, h1]

/-- An opening byte, values and commas inside, a closing byte. -/
theorem Con.mk' {c : Nat → Int} {p q : Nat} (h0 : c p = 123 ∨ c p = 91) (h : Val c (p + 1) q) (hq : c q = 125 ∨ c q = 93) : Con c p (q + 1) := by
  have hle := h.1
  refine ⟨q - p, by omega, by rw [show p + (q - p) = q by omega]; exact hq, fun d hd => ?_⟩
  rw [show q - p = 1 + (q - (p + 1)) by omega]
  refine pass_then (b := (d + 1, false, false)) (pass_one ?_ ?_) (h.2 (d + 1) (by omega))
  · rcases h0 with h0 | h0 <;> simp [ends, h0]
  · rcases h0 with h0 | h0 <;> simp [step, h0]

/-- From the fresh state: the value is passed as far as its last byte, and ends there. -/
def Whole (c : Nat → Int) (n : Nat) : Prop := ∃ st : Sst, 0 < n ∧ pass c (n - 1) 0 (0, false, false) = some st ∧ ends st (c (n - 1)) = true

theorem Str.whole {c : Nat → Int} {n : Nat} (h : Str c 0 n) : Whole c n := by
  obtain ⟨k, rfl, h1, h2⟩ := h
  exact ⟨(0, true, false), by omega, by rw [show 0 + k + 1 - 1 = k by omega]; exact h2 0 (by omega), by rw [show 0 + k + 1 - 1 = 0 + k by omega]; simp only [ends, h1]; decide⟩
theorem Con.whole {c : Nat → Int} {n : Nat} (h : Con c 0 n) : Whole c n := by
  obtain ⟨k, rfl, h1, h2⟩ := h
  refine ⟨(1, false, false), by omega, by rw [show 0 + k + 1 - 1 = k by omega]; exact h2 0 (by omega), ?_⟩
  rw [show 0 + k + 1 - 1 = 0 + k by omega]
  rcases h1 with h1 | h1 <;> (simp only [ends, h1]; decide)

end Go.Proofs.Qxb6603067a
