/- The small functions of the index: ZZNewLabelIndex, ZZSetKeyed, ZZSetLabelled, zzRoleList. -/
import Derived.Test.Qxb6601594aRel2
namespace Go.Proofs.Qxb6601594a
open Go Go.Maps Go.RowKit

/-- The index's struct, its six cells. -/
def idxObj (v0 v1 : Value) (bl bk bo : Nat) (t : Int) : Obj := .cells #[v0, v1, .map (some bl), .map (some bk), .map (some bo), .int .i64 t] 59

theorem newIndex_any (a b : Option Addr) (n c m d : Nat) (t : Int) (w : World) :
    Calls Try.prog 18 #[.slice a n c, .slice b m d, .int .i64 t] w fun e w' => e = .returned (.pointer (some ⟨w.heap.size + 3, 0, none⟩)) ∧
      w' = (((w.alloc (.map #[] 0)).alloc (.map #[] 0)).alloc (.map #[] 0)).alloc (idxObj (.slice a n c) (.slice b m d) w.heap.size (w.heap.size + 1) (w.heap.size + 2) t) := by
  have hmm := @run_makeMap Try.prog
  go_enter Try.func18, Try.ntmps18
  go_wp2
  go_ret
  exact ⟨rfl, rfl⟩

def RetU (b : Nat) (k : TypeId) (F : Value → Option Value) (key v : Value) (w : World) (e : Ending) (w' : World) : Prop :=
  e = .returned (.tuple #[]) ∧ w.grownBy w' (some b) ∧ w'.heap.size = w.heap.size ∧ ∀ F' : Value → Option Value, F' key = some v → (∀ y, y ≠ key → F' y = F y) → MapIs Try.prog k w' b F'

theorem setKeyed_any (X b : Nat) (x : ByteArray) (a : Option Addr) (n c : Nat) (F : Value → Option Value) (w : World) (hx : x.size ≤ 9223372036854775807) (h3 : w.cell? ⟨X, 3, none⟩ = some (.map (some b))) (hF : MapIs Try.prog 9 w b F) :
    Calls Try.prog 19 #[.pointer (some ⟨X, 0, none⟩), .string x, .slice a n c] w (RetU b 9 F (.string x) (.slice a n c) w) := by
  go_enter Try.func19, Try.ntmps19
  go_wp2_with (first | (at_mapUpdate; refine wpList_mapUpdate_is _ rfl _ _ _ 40 rfl 9 39 K9 Try.underlying40 b F rfl hF _ _ _ rfl (key9 hx) rfl ?_; intro w3 hg3 hs3 hup3))
  go_end0
  exact ⟨rfl, hg3, hs3, hup3⟩

theorem setLabelled_any (X b : Nat) (p : ByteArray × ByteArray) (a : Option Addr) (n c : Nat) (F : Value → Option Value) (w : World) (hx : p.1.size ≤ 9223372036854775807) (hy : p.2.size ≤ 9223372036854775807) (h3 : w.cell? ⟨X, 2, none⟩ = some (.map (some b))) (hF : MapIs Try.prog 51 w b F) :
    Calls Try.prog 20 #[.pointer (some ⟨X, 0, none⟩), .string p.1, .string p.2, .slice a n c] w (RetU b 51 F (encP p) (.slice a n c) w) := by
  obtain ⟨lx, hkx⟩ := key51 hx hy
  have HKX : Hid _ := hkx
  clear hkx
  go_enter Try.func20, Try.ntmps20
  go_wp2_with (first | (at_mapUpdate; refine wpList_mapUpdate_is _ rfl _ _ _ 56 rfl 51 39 K51 Try.underlying56 b F rfl hF (encP p) _ _ rfl HKX.out rfl ?_; intro w3 hg3 hs3 hup3))
  go_end0
  exact ⟨rfl, hg3, hs3, hup3⟩

theorem roleList_any (kd : Int) (x y : ByteArray) (w : World) :
    Calls Try.prog 22 #[.int .i64 kd, .string x, .string y] w fun e w' => e = .returned (.agg #[.int .i64 kd, .string x, .string y]) ∧ w' = w.alloc (.cells #[.int .i64 kd, .string x, .string y] 53) := by
  go_enter Try.func22, Try.ntmps22
  go_wp2
  refine bodyPost_ret (v := .agg #[.int .i64 kd, .string x, .string y]) (by simp [results, Try.results22, go_sem]) rfl ?_
  exact ⟨rfl, rfl⟩
end Go.Proofs.Qxb6601594a
