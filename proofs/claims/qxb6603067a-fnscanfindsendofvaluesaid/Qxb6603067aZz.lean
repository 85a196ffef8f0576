/- ZZScan and zzBytes. -/
import Derived.Test.Qxb6603067aSc
import Derived.BigQuiet
import Derived.Deep.QuietTactic
namespace Go.Proofs.Qxb6603067a
open Go Go.RowKit

theorem resultsFour {fn : Func} {a b c d : Tmp} (h : fn.results = #[.tmp a, .tmp b, .tmp c, .tmp d]) (tmps : Array Value) (P : Program) (w : World) :
    (results fn tmps).run P w = .ok (.tuple #[tmps.getD a undef, tmps.getD b undef, tmps.getD c undef, tmps.getD d undef]) w := by
  simp [results, h]
theorem resultsFive {fn : Func} {a b c d e : Tmp} (h : fn.results = #[.tmp a, .tmp b, .tmp c, .tmp d, .tmp e]) (tmps : Array Value) (P : Program) (w : World) :
    (results fn tmps).run P w = .ok (.tuple #[tmps.getD a undef, tmps.getD b undef, tmps.getD c undef, tmps.getD d undef, tmps.getD e undef]) w := by
  simp [results, h]

def RetZ (n : Nat) (w : World) (e : Ending) (w' : World) : Prop :=
  e = .returned (.tuple #[.int .i64 n, .bool true, .int .i64 0, .bool false, .bool false]) ∧ Below w.heap.size w w'

theorem SB.made {gb go N : Nat} {c : Nat → Int} (w : World) (hgb : gb < w.heap.size) (hch : ∀ i, i < N → w.cell? ⟨gb, go + i, none⟩ = some (.int .u8 (c i))) :
    SB w.heap.size gb go N c (0, false, false) (w.alloc (Obj.cells #[Value.int IntKind.i64 0, Value.bool false, Value.bool false] 60)) := by
  refine ⟨by simp, by simp, by simp, fun i => by simp, fun i hi => ?_, by omega⟩
  rw [World.cell?_alloc_past _ _ _ hgb]
  exact hch i hi

set_option maxRecDepth 100000 in
set_option maxHeartbeats 4000000 in
theorem zzscan_any {gb go N n cap : Nat} {c : Nat → Int} (w : World) (hgb : gb < w.heap.size) (hch : ∀ i, i < N → w.cell? ⟨gb, go + i, none⟩ = some (.int .u8 (c i))) (hG : Goes c n 0 (0, false, false)) (hnN : n ≤ N) (hN : N ≤ 1048576) :
    Calls Try.prog 19 #[.int .i64 0, .bool false, .bool false, .slice (some ⟨gb, go, none⟩) N cap] w (RetZ n w) := by
  have HG0 := hid hG
  have HB := hid (SB.made w hgb hch)
  clear hG hch
  go_enter Try.func19, Try.ntmps19
  go_upto_region 3 with (first | (go_at_call 39; refine (scan_any (n := n) _ HB.out HG0.out hnN hN).mono ?_; rintro e w' ⟨rfl, hB, hg⟩; have HGW := hid hg; clear hg))
  have c0 := hB.c0
  have c1 := hB.c1
  have c2 := hB.c2
  go_quiet (fail)
  go_wp2
  (try simp only [Exit.inBlock, Exit.then])
  refine bodyPost_ret (resultsFive rfl _ _ _) rfl ?_
  refine ⟨rfl, ?_⟩
  have := ((Below.refl w.heap.size w).alloc (Nat.le_refl _) (Obj.cells #[Value.int IntKind.i64 0, Value.bool false, Value.bool false] 60)).grown HGW.out (by simp) (fun k e => by cases e; exact Nat.le_refl _)
  first | exact this | exact this.drew | exact ⟨this.os, this.tape, this.output, this.size, this.block⟩

/-- zzBytes: whether the arguments are small; yes gives the bound. -/
def RetB (l0 l1 : Nat) (w : World) (e : Ending) (w' : World) : Prop := ∃ b : Bool, e = .returned (.bool b) ∧ w = w' ∧ (b = true → l0 + l1 ≤ 1048576)

theorem RetB.no {l0 l1 : Nat} {w : World} : RetB l0 l1 w (.returned (.bool false)) w := ⟨false, rfl, rfl, fun h => by cases h⟩

set_option maxRecDepth 100000 in
set_option maxHeartbeats 2000000 in
theorem bytes_any (a0 a1 : Option Addr) (l0 c0 l1 c1 : Nat) (w : World) : Calls Try.prog 21 #[.slice a0 l0 c0, .slice a1 l1 c1] w (RetB l0 l1 w) := by
  by_cases h0 : l0 ≤ 1048576
  · by_cases h1 : l1 ≤ 1048576
    · by_cases h2 : l0 + l1 ≤ 1048576
      · go_enter Try.func21, Try.ntmps21
        go_wp2
        go_ret
        exact ⟨true, by first | rfl | simp, rfl, fun _ => h2⟩
      · go_enter Try.func21, Try.ntmps21
        go_wp2
        go_ret
        exact RetB.no
    · go_enter Try.func21, Try.ntmps21
      go_wp2
      go_ret
      exact RetB.no
  · go_enter Try.func21, Try.ntmps21
    go_wp2
    go_ret
    exact RetB.no
end Go.Proofs.Qxb6603067a
