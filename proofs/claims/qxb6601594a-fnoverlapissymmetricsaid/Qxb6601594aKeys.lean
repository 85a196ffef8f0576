/- The key types of this program: strings, pairs of strings, pairs of lists; their zero values. -/
import Derived.Test.Qxb6601594aState2
import Derived.DeepKeys4
namespace Go.Proofs.Qxb6601594a
open Go Go.Maps Go.RowKit

theorem typesN : Try.prog.types.size = 81 := by kernel_rfl
theorem laidOut : laidOutB Try.prog = true := by kernel_rfl
theorem K9 : Keyed Try.prog 9 := string_keyed Try.underlying9
theorem K36 : Keyed Try.prog 36 := Keyed.of_law (deep_law_laid laidOut (m := 3) (by omega) (of_decide_eq_true (by kernel_rfl)) (by kernel_rfl) (by kernel_rfl))
theorem K51 : Keyed Try.prog 51 := Keyed.of_law (deep_law_laid laidOut (m := 3) (by omega) (of_decide_eq_true (by kernel_rfl)) (by kernel_rfl) (by kernel_rfl))
theorem K60 : Keyed Try.prog 60 := Keyed.of_law (deep_law_laid laidOut (m := 5) (by omega) (of_decide_eq_true (by kernel_rfl)) (by kernel_rfl) (by kernel_rfl))
theorem cells36 : Try.prog.cellsOf 36 = 2 := by kernel_rfl
theorem cells51 : Try.prog.cellsOf 51 = 2 := by kernel_rfl
theorem cells53 : Try.prog.cellsOf 53 = 3 := by kernel_rfl
theorem cells60 : Try.prog.cellsOf 60 = 6 := by kernel_rfl
theorem cells9 : Try.prog.cellsOf 9 = 1 := by kernel_rfl
theorem cells49 : Try.prog.cellsOf 49 = 1 := by kernel_rfl
theorem kt36 : Try.prog.keyType 36 = true := by kernel_rfl
theorem kt51 : Try.prog.keyType 51 = true := by kernel_rfl
theorem kt60 : Try.prog.keyType 60 = true := by kernel_rfl
theorem zero39 (w : World) : (zeroValue 39).run Try.prog w = .ok (.slice none 0 0) w := by kernel_rfl
theorem zero9 (w : World) : (zeroValue 9).run Try.prog w = .ok (.string ByteArray.empty) w := by kernel_rfl
theorem zero3 (w : World) : (zeroValue 3).run Try.prog w = .ok (.int .i64 0) w := by kernel_rfl

theorem key9 {s : ByteArray} (h : s.size ≤ 9223372036854775807) : keyOf Try.prog 9 (.string s) = some (.string s.data.toList) := WideMaps.keyOf_string_mk Try.underlying9 h

theorem lits36 (d : Nat) {a b : ByteArray} (m1 : a.size ≤ maxLen) (m2 : b.size ≤ maxLen) : Try.prog.keyLits (d + 2) 36 [.string a, .string b] = some [.string a.data.toList, .string b.data.toList] := by
  simp [Program.keyLits, Try.underlying36, Try.underlying9, cells36, cells9, m1, m2]
theorem lits51 (d : Nat) {a b : ByteArray} (m1 : a.size ≤ maxLen) (m2 : b.size ≤ maxLen) : Try.prog.keyLits (d + 2) 51 [.string a, .string b] = some [.string a.data.toList, .string b.data.toList] := by
  simp [Program.keyLits, Try.underlying51, Try.underlying9, cells51, cells9, m1, m2]
theorem lits53 (d : Nat) {k : Int} {a b : ByteArray} (wk : (Lit.int .i64 k).wf = true) (m1 : a.size ≤ maxLen) (m2 : b.size ≤ maxLen) : Try.prog.keyLits (d + 3) 53 [.int .i64 k, .string a, .string b] = some [.int .i64 k, .string a.data.toList, .string b.data.toList] := by
  have h51 := lits51 d m1 m2
  unfold Program.keyLits
  rw [Try.underlying53]
  simp [cells53, cells49, cells51, h51]
  simp [Program.keyLits, Try.underlying49, wk]
theorem lits60 (d : Nat) {k k' : Int} {a b a' b' : ByteArray} (wk : (Lit.int .i64 k).wf = true) (m1 : a.size ≤ maxLen) (m2 : b.size ≤ maxLen) (wk' : (Lit.int .i64 k').wf = true) (m1' : a'.size ≤ maxLen) (m2' : b'.size ≤ maxLen) :
    Try.prog.keyLits (d + 4) 60 [.int .i64 k, .string a, .string b, .int .i64 k', .string a', .string b'] = some [.int .i64 k, .string a.data.toList, .string b.data.toList, .int .i64 k', .string a'.data.toList, .string b'.data.toList] := by
  have h1 := lits53 d wk m1 m2
  have h2 := lits53 d wk' m1' m2'
  unfold Program.keyLits
  rw [Try.underlying60]
  simp [cells60, cells53, List.range_succ, h1, h2]

theorem key36 {p : ByteArray × ByteArray} (h1 : p.1.size ≤ 9223372036854775807) (h2 : p.2.size ≤ 9223372036854775807) : ∃ lx, keyOf Try.prog 36 (encP p) = some lx := by
  have h := lits36 80 (a := p.1) (b := p.2) h1 h2
  have e : Try.prog.types.size + 1 = 80 + 2 := by rw [typesN]
  rw [← Option.isSome_iff_exists]
  simp only [keyOf, Try.underlying36, kt36, encP, Value.formed, cells36, e, Value.cells]
  simp only [h]
  simp

theorem key51 {p : ByteArray × ByteArray} (h1 : p.1.size ≤ 9223372036854775807) (h2 : p.2.size ≤ 9223372036854775807) : ∃ lx, keyOf Try.prog 51 (encP p) = some lx := by
  have h := lits51 80 (a := p.1) (b := p.2) h1 h2
  have e : Try.prog.types.size + 1 = 80 + 2 := by rw [typesN]
  rw [← Option.isSome_iff_exists]
  simp only [keyOf, Try.underlying51, kt51, encP, Value.formed, cells51, e, Value.cells]
  simp only [h]
  simp

/-- The pair of two lists, as a key. -/
def encO (ak : Int) (ax ay : ByteArray) (bk : Int) (bx bY : ByteArray) : Value := .agg #[.int .i64 ak, .string ax, .string ay, .int .i64 bk, .string bx, .string bY]

theorem key60 {ak bk : Int} {ax ay bx bY : ByteArray} (ha : ak = 2 ∨ ak = 3) (hb : bk = 2 ∨ bk = 3) (h1 : ax.size ≤ 9223372036854775807) (h2 : ay.size ≤ 9223372036854775807) (h3 : bx.size ≤ 9223372036854775807) (h4 : bY.size ≤ 9223372036854775807) :
    ∃ lx, keyOf Try.prog 60 (encO ak ax ay bk bx bY) = some lx := by
  have wa : (Lit.int .i64 ak).wf = true := by rcases ha with rfl | rfl <;> decide
  have wb : (Lit.int .i64 bk).wf = true := by rcases hb with rfl | rfl <;> decide
  have h := lits60 78 wa h1 h2 wb h3 h4
  have e : Try.prog.types.size + 1 = 78 + 4 := by rw [typesN]
  rw [← Option.isSome_iff_exists]
  simp only [keyOf, Try.underlying60, kt60, encO, Value.formed, cells60, e, Value.cells]
  simp only [h]
  simp
end Go.Proofs.Qxb6601594a
