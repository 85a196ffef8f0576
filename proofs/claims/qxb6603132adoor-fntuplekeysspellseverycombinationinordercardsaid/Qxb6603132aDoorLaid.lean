/- strconv.AppendInt at base 10 onto a buffer told by its cells. The library's inner functions (small, numDigits, formatBase10) by the shelf's contracts, laid at this program. -/
import Derived.Test.Qxb6603132aDoorBuf
import Derived.Shelf.Strconv.AppendIntPublic10
import Derived.Shelf.Lay
import Derived.Ground.NamesProg
import Derived.Lib.ItoaWalk
import Derived.Lib.ItoaMem
import Derived.Lib.AppendIntMem
import Derived.BigCall
import Derived.BigGuard
import Derived.CellFam
namespace Go.Proofs.Qxb6603132aDoor
open Go Go.Shelf Go.RowKit Go.Sort

shelf_lay LaysM.n176 Nm 176 at Tryd as Tryd.laysAI
theorem small_any (u : Nat) (hu : u < 100) (w : World) : Calls Tryd.prog 23 #[.int .i64 u] w fun e w' => e = .returned (.string ⟨(Lib.decDigits u).toArray⟩) ∧ w' = w := Any.internal_strconv_small { Tryd.laysAI with } u hu w
theorem digits_any (u : Nat) (h1 : 1 ≤ u) (h2 : u < 18446744073709551616) (w : World) (htab : Lib.TabIs Tryd.prog w "internal/strconv.uint64pow10" .u64 Lib.pow10Tab) :
    Calls Tryd.prog 24 #[.int .u64 u] w fun e w' => e = .returned (.int .i64 (Lib.nDigits u)) ∧ w' = w := Any.internal_strconv_numDigits { Tryd.laysAI with } u h1 h2 w htab
theorem format_any (blk off cap : Nat) (u : Nat) (d : Array UInt8) (w : World) (hH : Holds (fun (b : UInt8) => Value.int .u8 (b.toNat : Int)) w blk off d) (hu : u < 10 ^ d.size) (hu64 : u < 18446744073709551616) (hsz : d.size < 4611686018427387904) :
    Calls Tryd.prog 25 #[.slice (some ⟨blk, off, none⟩) d.size cap, .int .u64 u] w fun e w' =>
      e = .returned (.tuple #[]) ∧ ∃ (n v' : Nat) (dk : Array UInt8), w' = (putRow (fun (b : UInt8) => Value.int .u8 (b.toNat : Int)) w blk off dk).drewN n ∧ Lib.FmtInv d.size u 0 v' dk := Any.internal_strconv_formatBase10 { Tryd.laysAI with } blk off cap u d w hH hu hu64 hsz

/-- What an append hands back: a buffer that holds ks; below B nothing has turned. -/
def RetA (B : Nat) (w : World) (ks : List Value) (e : Ending) (w' : World) : Prop := ∃ v', e = .returned v' ∧ Buf B w' v' ks ∧ Below B w w' ∧ Shape w w'

theorem byteCells_eq (l : List UInt8) : byteCells ⟨l.toArray⟩ = Lib.byteCells l := by simp [byteCells, Lib.byteCells]

theorem len_digits (u : Nat) (hu64 : u < 18446744073709551616) : (Lib.decDigits u).length ≤ 20 := by
  rw [Lib.decDigits_length]
  by_cases h : 1 ≤ u
  · have := Lib.numDigits_eq u h hu64
    split at this <;> omega
  · rw [Lib.nDigits_small (by omega)]; omega

set_option maxHeartbeats 6400000 in
set_option maxRecDepth 100000 in
theorem appendUint_small (B u : Nat) (hu : u < 100) (sv : Value) (ks : List Value) (w : World) (hbuf : Buf B w sv ks) (hBw : B ≤ w.heap.size) (hlim : ks.length + 20 ≤ 140737488355328) :
    Calls Tryd.prog 22 #[sv, .int .u64 u, .int .i64 10] w (RetA B w (ks ++ Lib.byteCells (Lib.decDigits u))) := by
  obtain ⟨i0, hi, hz0, hz1, hz2⟩ := info_parts Tryd.info5'
  have hlen := len_digits u (by omega)
  have hsz : (⟨(Lib.decDigits u).toArray⟩ : ByteArray).size = (Lib.decDigits u).length := by simp [ByteArray.size]
  go_enter Tryd.func22, Tryd.ntmps22
  go_wp2_with (first
    | (go_at_call 23; refine (small_any u hu _).mono ?_; rintro e w' ⟨rfl, rfl⟩)
    | (at_builtin; refine wpList_append_buf _ rfl _ _ 37 9 rfl B _ _ rfl hbuf hBw 5 i0 (.int .u8 0) Tryd.underlying37 hi hz0 hz1 hz2 rfl _ _ _ rfl (Src.ofString _ Tryd.underlying9 ⟨(Lib.decDigits u).toArray⟩) (by rw [hsz]; omega) ?_))
  intro v' w1 hb1 hbel hsh
  have HSh := hid hsh
  clear hsh
  rw [byteCells_eq] at hb1
  have HB := hid hb1
  have HL := hid hbel
  clear hb1 hbel
  go_wp2
  go_ret
  exact ⟨v', rfl, HB.out, HL.out, HSh.out⟩

set_option maxHeartbeats 12800000 in
set_option maxRecDepth 100000 in
theorem appendUint_big (B u : Nat) (hu : 100 ≤ u) (hu64 : u < 18446744073709551616) (sv : Value) (ks : List Value) (w : World) (hbuf : Buf B w sv ks) (hBw : B ≤ w.heap.size) (hlim : ks.length + 20 ≤ 140737488355328)
    (htab : Lib.TabIs Tryd.prog w "internal/strconv.uint64pow10" .u64 Lib.pow10Tab) :
    Calls Tryd.prog 22 #[sv, .int .u64 u, .int .i64 10] w (RetA B w (ks ++ Lib.byteCells (Lib.decDigits u))) := by
  obtain ⟨i0, hi, hz0, hz1, hz2⟩ := info_parts Tryd.info5'
  have hu1 : 1 ≤ u := by omega
  have hnd20 : Lib.nDigits u ≤ 20 := by have := Lib.numDigits_eq u hu1 hu64; split at this <;> omega
  have hal : Tryd.prog.arrayLen 45 = 24 := by kernel_rfl
  -- 'a[:nd]', for the walk to take
  have hsl : ∀ W, (Instr.sliceAt 45 (.pointer (some ⟨w.heap.size, 0, none⟩)) none (some (.int .i64 (Lib.nDigits u : Int))) none).run Tryd.prog W = .ok (.slice (some ⟨w.heap.size, 0, none⟩) (Lib.nDigits u) 24) W := fun W => by
    rw [run_sliceAt_array_h W 45 ⟨w.heap.size, 0, none⟩ (by kernel_rfl) .i64 (Lib.nDigits u : Int) (by omega) (by rw [hal]; omega)]
    rw [hal]
    go_simp
  have hH0 := Lib.holds_zero0 w 45 (Lib.nDigits u) (by omega)
  have hfmt := format_any w.heap.size 0 24 u (Array.replicate (Lib.nDigits u) 0) (w.alloc (.cells Lib.zeros24 45)) hH0 (by rw [Array.size_replicate]; exact Lib.lt_pow_nDigits u) hu64 (by rw [Array.size_replicate]; omega)
  rw [Array.size_replicate] at hfmt
  have HH0 := hid hH0
  have iu : (100 : Int) ≤ (u : Int) := by omega
  clear hH0 hal
  go_enter Tryd.func22, Tryd.ntmps22
  go_wp2_with (first
    | (go_at_call 24; refine (digits_any u hu1 hu64 _ (Lib.tabIs_alloc htab _)).mono ?_; rintro e w' ⟨rfl, rfl⟩))
  go_at_call 25
  refine hfmt.mono ?_
  rintro e w' ⟨rfl, k, v', dk, rfl, hF⟩
  have hcells : ∀ j u', (Lib.byteCells (Lib.decDigits u))[j]? = some u' → ((putRow (fun (b : UInt8) => Value.int .u8 (b.toNat : Int)) (w.alloc (.cells Lib.zeros24 45)) w.heap.size 0 dk).drewN k).cell? ((⟨w.heap.size, 0, none⟩ : Addr).add j) = some u' := by
    intro j u' hj
    have hjl : j < (Lib.decDigits u).length := by
      have h5 := (List.getElem?_eq_some_iff.1 hj).1
      rwa [Lib.byteCells_length] at h5
    have e5 : (Lib.byteCells (Lib.decDigits u))[j]? = some (Value.int .u8 ((Lib.decDigits u)[j].toNat : Int)) := by simp [Lib.byteCells, hjl]
    rw [e5] at hj
    cases hj
    rw [Lib.row_is_numeral hF j hjl, Lib.add_plain, World.cell?_drewN]
    exact cell?_putRow (fun (b : UInt8) => Value.int .u8 (b.toNat : Int)) _ w.heap.size 0 _ dk HH0.out (by rw [hF.size, Array.size_replicate]) j (by rw [hF.size]; rw [Lib.decDigits_length] at hjl; exact hjl)
  obtain ⟨os, eo⟩ := Lib.fin_at w (.cells Lib.zeros24 45) dk k 0
  have hnx : Below w.heap.size w ((putRow (fun (b : UInt8) => Value.int .u8 (b.toNat : Int)) (w.alloc (.cells Lib.zeros24 45)) w.heap.size 0 dk).drewN k) := by rw [eo]; exact Lib.below_grow w.heap.size w (Nat.le_refl _) k os
  have hbuf2 := hbuf.kept hnx
  generalize (putRow (fun (b : UInt8) => Value.int .u8 (b.toNat : Int)) (w.alloc (.cells Lib.zeros24 45)) w.heap.size 0 dk).drewN k = W2 at hcells hnx hbuf2 ⊢
  clear eo HH0 hfmt
  have hS : Src Tryd.prog 1 37 (.slice (some ⟨w.heap.size, 0, none⟩) (Lib.nDigits u) 24) (Lib.nDigits u) (Lib.byteCells (Lib.decDigits u)) W2 :=
    Src.ofSlice W2 Tryd.underlying37 ⟨w.heap.size, 0, none⟩ (Lib.nDigits u) 24 _ (by rw [Lib.byteCells_length, Lib.decDigits_length, Nat.mul_one]) hcells (fun u' hu' => by simp only [Lib.byteCells, List.mem_map] at hu'; obtain ⟨b, _, rfl⟩ := hu'; rfl)
  have HS := hid hS
  have hsz2 : B ≤ W2.heap.size := by have := hnx.size; omega
  clear hcells hS
  go_wp2_with (at_builtin; refine wpList_append_buf _ rfl _ _ 37 37 rfl B _ _ rfl hbuf2 hsz2 5 i0 (.int .u8 0) Tryd.underlying37 hi hz0 hz1 hz2 rfl _ _ _ rfl HS.out (by omega) ?_)
  intro v2 w3 hb3 hbel3 hsh
  have HSh := hid ((Shape.below hnx).trans hsh)
  clear hsh
  have HB := hid hb3
  have HL := hid ((hnx.mono hBw).trans hbel3)
  clear hb3 hbel3
  go_wp2
  go_ret
  exact ⟨v2, rfl, HB.out, HL.out, HSh.out⟩

/-- strconv.AppendInt(text, u, 10), u a length. -/
theorem appendInt_any (B u : Nat) (hu : u < 9223372036854775808) (sv : Value) (ks : List Value) (w : World) (hbuf : Buf B w sv ks) (hBw : B ≤ w.heap.size) (hlim : ks.length + 20 ≤ 140737488355328)
    (htab : Lib.TabIs Tryd.prog w "internal/strconv.uint64pow10" .u64 Lib.pow10Tab) :
    Calls Tryd.prog 18 #[sv, .int .i64 (u : Nat), .int .i64 10] w (RetA B w (ks ++ Lib.byteCells (Lib.decDigits u))) := by
  have hU : Calls Tryd.prog 22 #[sv, .int .u64 u, .int .i64 10] w (RetA B w (ks ++ Lib.byteCells (Lib.decDigits u))) := by
    by_cases h : u < 100
    · exact appendUint_small B u h sv ks w hbuf hBw hlim
    · exact appendUint_big B u (by omega) (by omega) sv ks w hbuf hBw hlim htab
  have HU := hid hU
  clear hU hbuf htab
  have hw : IntKind.u64.wrap (u : Int) = (u : Int) := by rw [IntKind.wrap_u64]; omega
  have h20 : Calls Tryd.prog 20 #[sv, .int .i64 (u : Nat), .int .i64 10] w (RetA B w (ks ++ Lib.byteCells (Lib.decDigits u))) := by
    go_enter Tryd.func20, Tryd.ntmps20
    go_wp2_with (first | (go_at_call 22; refine HU.out.mono ?_; rintro e w' ⟨v', rfl, hb, hl, hsh⟩; have HB := hid hb; have HL := hid hl; have HSh := hid hsh; clear hb hl hsh))
    go_ret
    exact ⟨v', rfl, HB.out, HL.out, HSh.out⟩
  have H20 := hid h20
  clear h20 HU
  go_enter Tryd.func18, Tryd.ntmps18
  go_wp2_with (first | (go_at_call 20; refine H20.out.mono ?_; rintro e w' ⟨v', rfl, hb, hl, hsh⟩; have HB := hid hb; have HL := hid hl; have HSh := hid hsh; clear hb hl hsh))
  go_ret
  exact ⟨v', rfl, HB.out, HL.out, HSh.out⟩
end Go.Proofs.Qxb6603132aDoor
