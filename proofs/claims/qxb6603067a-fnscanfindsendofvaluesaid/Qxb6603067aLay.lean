/- zzLayOutB1, with emit off; value's contract as a hypothesis. -/
import Derived.Test.Qxb6603067aCont
import Derived.Test.Qxb6603067aZz
namespace Go.Proofs.Qxb6603067a
open Go Go.RowKit

def RetL (X : Prop) (w : World) (e : Ending) (w' : World) : Prop :=
  ∃ (v0 v1 v2 : Value) (ok : Bool), e = .returned (.tuple #[v0, v1, v2, .bool ok]) ∧ Below w.heap.size w w' ∧ (ok = true → X)

theorem MB.made {cb co n cap : Nat} {c : Nat → Int} (w : World) (s1 s2 : ByteArray) (hcb : cb < w.heap.size) (hch : ∀ i, i < n → w.cell? ⟨cb, co + i, none⟩ = some (.int .u8 (c i))) (hrg : ∀ i, i < n → 0 ≤ c i ∧ c i ≤ 255) (hn : n ≤ 1048576) :
    MB w.heap.size cb co n cap c (w.alloc (Obj.cells #[Value.slice (some ⟨cb, co, none⟩) n cap, Value.string s1, Value.string s2, Value.bool false, Value.slice none 0 0, Value.int IntKind.i64 0, Value.int IntKind.i64 0] 47)) := by
  refine ⟨by simp, by simp, ⟨0, by simp⟩, ⟨0, by simp⟩, fun i => by simp, fun i hi => ?_, hrg, by omega, hn, by simp⟩
  rw [World.cell?_alloc_past _ _ _ hcb]
  exact hch i hi

set_option maxRecDepth 100000 in
set_option maxHeartbeats 4000000 in
theorem layout_any {cb co n cap : Nat} {c : Nat → Int} (w : World) (s1 s2 : ByteArray) (hcb : cb < w.heap.size) (hch : ∀ i, i < n → w.cell? ⟨cb, co + i, none⟩ = some (.int .u8 (c i))) (hrg : ∀ i, i < n → 0 ≤ c i ∧ c i ≤ 255) (hn : n ≤ 1048576)
    (hv : ValueAt w.heap.size cb co n cap c 0) :
    Calls Try.prog 11 #[.slice (some ⟨cb, co, none⟩) n cap, .string s1, .string s2, .bool false] w (RetL ((c 0 = 34 → Str c 0 n) ∧ (c 0 = 123 ∨ c 0 = 91 → Con c 0 n)) w) := by
  have hB := MB.made (cap := cap) w s1 s2 hcb hch hrg hn
  have HV := hid (hv 0 _ hB)
  have HB := hid hB
  have m3 := hB.m3
  have hbel := hid ((Below.refl w.heap.size w).alloc (Nat.le_refl _) (Obj.cells #[Value.slice (some ⟨cb, co, none⟩) n cap, Value.string s1, Value.string s2, Value.bool false, Value.slice none 0 0, Value.int IntKind.i64 0, Value.int IntKind.i64 0] 47))
  clear hB hv hch hrg
  go_enter Try.func11, Try.ntmps11
  go_wp2_with (first | (go_at_call 29; refine (putString_any _ _ _ m3).mono ?_; rintro e w' ⟨rfl, rfl⟩) | (go_at_call 30; refine HV.out.mono ?_; rintro e w' ⟨q, ok, rfl, hM, hg, hok⟩; have HG := hid hg; have HK := hid hok; clear hg hok; refine Hid.out ?_))
  have HBel := hid (hbel.out.grown HG.out (by simp) (fun k e => by cases e; exact Nat.le_refl _))
  clear HG hbel HB HV m3
  have m3 := hM.m3
  cases ok with
  | false =>
    clear HK
    refine Lib.hid ?_
    go_wp2
    (try simp only [Exit.inBlock, Exit.then])
    refine bodyPost_ret (resultsFour rfl _ _ _) rfl ?_
    exact ⟨_, _, _, false, rfl, HBel.out, fun h => by cases h⟩
  | true =>
    obtain ⟨q', rfl, hqn, hx⟩ := HK.out rfl
    have HX := hid hx
    clear HK hx
    refine Lib.hid ?_
    by_cases hq : q' = n
    · subst hq
      have m4 := hM.m4
      obtain ⟨i5, m5⟩ := hM.m5
      obtain ⟨i6, m6⟩ := hM.m6
      go_upto_region 7 with (first | (go_at_call 31; refine (put_any _ _ _ m3).mono ?_; rintro e w' ⟨rfl, rfl⟩))
      go_quiet (fail)
      go_wp2
      (try simp only [Exit.inBlock, Exit.then])
      refine bodyPost_ret (resultsFour rfl _ _ _) rfl ?_
      have := HBel.out
      exact ⟨_, _, _, true, rfl, ⟨this.os, this.tape, this.output, this.size, this.block⟩, fun _ => HX.out.2⟩
    · have hne : ((q' : Int) != (n : Int)) = true := by simp; omega
      go_wp2
      (try simp only [Exit.inBlock, Exit.then])
      refine bodyPost_ret (resultsFour rfl _ _ _) rfl ?_
      exact ⟨_, _, _, false, rfl, HBel.out, fun h => by cases h⟩
end Go.Proofs.Qxb6603067a
