/- The labels as they lie in memory, for the walks. -/
import Derived.Test.Qxb6601594aProg
import Derived.WalkKit
import Derived.ProofKit
import Derived.WalkLawsBesides
namespace Go.Proofs.Qxb6601594a
open Go.RowKit

/-- The sum of the first k lengths. -/
def rs (L : Nat → Nat) : Nat → Nat
  | 0 => 0
  | k + 1 => rs L k + L k

/-- Where the labels lie: n rows; row i has L i labels, key Ks i j and value Vs i j. -/
structure Lab where
  n : Nat
  B : Nat
  O : Nat
  A : Nat → Option Addr
  L : Nat → Nat
  C : Nat → Nat
  RB : Nat → Nat
  RO : Nat → Nat
  Ks : Nat → Nat → ByteArray
  Vs : Nat → Nat → ByteArray

structure Lab.In (l : Lab) (w : World) : Prop where
  reach : l.n ≤ 9223372036854775807
  lt : 0 < l.n → l.B < w.heap.size
  row : ∀ i, i < l.n → w.cell? ⟨l.B, l.O + i, none⟩ = some (.slice (l.A i) (l.L i) (l.C i))
  len : ∀ i, i < l.n → l.L i ≤ 9223372036854775807
  adr : ∀ i, i < l.n → 0 < l.L i → l.A i = some ⟨l.RB i, l.RO i, none⟩ ∧ l.RB i < w.heap.size
  key : ∀ i j, i < l.n → j < l.L i → w.cell? ⟨l.RB i, l.RO i + j * 2, none⟩ = some (.string (l.Ks i j))
  val : ∀ i j, i < l.n → j < l.L i → w.cell? ⟨l.RB i, l.RO i + j * 2 + 1, none⟩ = some (.string (l.Vs i j))
  ksz : ∀ i j, i < l.n → j < l.L i → (l.Ks i j).size ≤ 9223372036854775807
  vsz : ∀ i j, i < l.n → j < l.L i → (l.Vs i j).size ≤ 9223372036854775807

/-- A bool comes back, the world is as it was, and p holds where it is true. -/
def RetB (p : Prop) (w : World) (e : Ending) (w' : World) : Prop := ∃ b, e = .returned (.bool b) ∧ w' = w ∧ (b = true → p)
theorem RetB.no {p : Prop} {w : World} {e : Ending} (h : e = .returned (.bool false)) : RetB p w e w := ⟨false, h, rfl, fun h => by cases h⟩
theorem RetB.yes {p : Prop} {w : World} {e : Ending} (h : e = .returned (.bool true)) (hp : p) : RetB p w e w := ⟨true, h, rfl, fun _ => hp⟩

end Go.Proofs.Qxb6601594a
