/- The walk's laws for maps told by 'MapIs'. -/
import Derived.Test.Qxb6601594aKeys
import Derived.Maps.OwnOps
import Derived.Deep.LoopGhost
import Derived.Deep.AppendLies
import Derived.Deep.OwnRows
namespace Go.Proofs.Qxb6601594a
open Go Go.Maps Go.RowKit

theorem wpList_lookup_is {P : Program} (w : World) {ops : Array Oper} {rest : List Oper} {o : Oper} {a : Act} {Q : Exit → Act → World → Prop}
    (hg : o.guard = none) (m x : Operand) (t : TypeId) (hop : o.op = Op.lookup t m x false)
    (k e : TypeId) (K : Keyed P k) (ht : P.underlying t = some (.map k e)) (z : Value) (hz : (zeroValue e).run P w = .ok z w) (b : Nat) (F : Value → Option Value)
    (hm : a.eval m = .map (some b)) (hF : MapIs P k w b F) (key v : Value) (lx : Lit) (hx : a.eval x = key) (hkey : keyOf P k key = some lx) (hv : (F key).getD z = v)
    (hK : wpList P ops Q rest (a.put o.dst v) w) : wpList P ops Q (o :: rest) a w := by
  refine wpList_plain hg fun K' hK' => ?_
  have hrun := hF.look K ht hz hkey false
  simp only [hv] at hrun
  unfold Oper.wp
  simp [execOp, hop, hm, hx, hrun, Result.andThen]
  exact hK' _ _ hK

theorem wpList_lookup_ok_is {P : Program} (w : World) {ops : Array Oper} {rest : List Oper} {o : Oper} {a : Act} {Q : Exit → Act → World → Prop}
    (hg : o.guard = none) (m x : Operand) (t : TypeId) (hop : o.op = Op.lookup t m x true)
    (k e : TypeId) (K : Keyed P k) (ht : P.underlying t = some (.map k e)) (z : Value) (hz : (zeroValue e).run P w = .ok z w) (b : Nat) (F : Value → Option Value)
    (hm : a.eval m = .map (some b)) (hF : MapIs P k w b F) (key v : Value) (lx : Lit) (hx : a.eval x = key) (hkey : keyOf P k key = some lx) (hv : (F key).getD z = v) (ok : Bool) (hok : (F key).isSome = ok)
    (hK : wpList P ops Q rest (a.put o.dst (.tuple #[v, .bool ok])) w) : wpList P ops Q (o :: rest) a w := by
  refine wpList_plain hg fun K' hK' => ?_
  have hrun := hF.look K ht hz hkey true
  simp only [hv, hok] at hrun
  unfold Oper.wp
  simp [execOp, hop, hm, hx, hrun, Result.andThen]
  exact hK' _ _ hK

theorem wpList_mapUpdate_is {P : Program} (w : World) {ops : Array Oper} {rest : List Oper} {o : Oper} {a : Act} {Q : Exit → Act → World → Prop}
    (hg : o.guard = none) (m x v : Operand) (t : TypeId) (hop : o.op = Op.mapUpdate t m x v)
    (k e : TypeId) (K : Keyed P k) (ht : P.underlying t = some (.map k e)) (b : Nat) (F : Value → Option Value)
    (hm : a.eval m = .map (some b)) (hF : MapIs P k w b F) (key val : Value) (lx : Lit) (hx : a.eval x = key) (hkey : keyOf P k key = some lx) (hv : a.eval v = val)
    (hK : ∀ w', w.grownBy w' (some b) → w'.heap.size = w.heap.size → (∀ F' : Value → Option Value, F' key = some val → (∀ y, y ≠ key → F' y = F y) → MapIs P k w' b F') → wpList P ops Q rest (a.put o.dst undef) w') : wpList P ops Q (o :: rest) a w := by
  refine wpList_plain hg fun K' hK' => ?_
  obtain ⟨w', hrun, h1, h2, h3⟩ := hF.update K ht hkey val
  unfold Oper.wp
  simp [execOp, hop, hm, hx, hv, hrun, Result.andThen]
  exact hK' _ _ (hK w' h1 h2 h3)
end Go.Proofs.Qxb6601594a
