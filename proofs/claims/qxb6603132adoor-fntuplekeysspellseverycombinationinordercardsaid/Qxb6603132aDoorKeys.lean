/- tupleKeys. -/
import Derived.Test.Qxb6603132aDoorLaid
import Derived.Test.Qxb6603132aDoorPlain
import Derived.Laws.IdiomStrings
import Derived.Maps.AppendAt
namespace Go.Proofs.Qxb6603132aDoor
open Go Go.RowKit

theorem Ls.below {b o n : Nat} {ad : Nat → Option Addr} {ln cp : Nat → Nat} {S : Nat → Nat → ByteArray} {w w' : World} (h : Ls b o n ad ln cp S w) (hb : Below w.heap.size w w') : Ls b o n ad ln cp S w' :=
  ⟨fun i hi => by rw [hb.cell (World.block_lt_of_cell? w _ (h.out i hi))]; exact h.out i hi,
   fun i hi hl => by
    obtain ⟨bi, oi, e, hc⟩ := h.inn i hi hl
    exact ⟨bi, oi, e, fun j hj => by rw [hb.cell (World.block_lt_of_cell? w _ (hc j hj))]; exact hc j hj⟩, h.nil, h.hn, h.hl, h.hs⟩

theorem owns_below {w w' : World} {base g n cap : Nat} {e : TypeId} {xs : List Value} (h : w.ownsRow base e 1 (.slice (some ⟨g, 0, none⟩) n cap) n xs) (hb : w'.heap[g]? = w.heap[g]?) : w'.ownsRow base e 1 (.slice (some ⟨g, 0, none⟩) n cap) n xs := by
  refine ⟨h.1, Or.inr ?_⟩
  obtain ⟨g', cap', cur, he, h1, h2, h3⟩ := h.2.resolve_left (by rintro ⟨h, _⟩; cases h)
  have he' := he
  simp only [Value.slice.injEq, Option.some.injEq, Addr.mk.injEq] at he'
  obtain ⟨⟨rfl, _⟩, _, rfl⟩ := he'
  exact ⟨g, cap, cur, rfl, h1, by rw [hb]; exact h2, h3⟩
theorem owns_lt {w : World} {base g n cap : Nat} {e : TypeId} {xs : List Value} (h : w.ownsRow base e 1 (.slice (some ⟨g, 0, none⟩) n cap) n xs) : g < w.heap.size := by
  obtain ⟨g', cap', cur, he, h1, h2, h3⟩ := h.2.resolve_left (by rintro ⟨h, _⟩; cases h)
  simp only [Value.slice.injEq, Option.some.injEq, Addr.mk.injEq] at he
  obtain ⟨⟨rfl, _⟩, _, rfl⟩ := he
  exact (Array.getElem?_eq_some_iff.1 h2).1

/-- The scratch array: 64 cells that may be written. -/
def Scr (g : Nat) (w : World) : Prop := g < w.heap.size ∧ ∀ j, j < 64 → (w.cell? ⟨g, j, none⟩).isSome = true ∧ w.frozen? ⟨g, j, none⟩ = false
theorem Scr.made (w : World) (c : Array Value) (t : TypeId) (hc : c.size = 64) : Scr w.heap.size (w.alloc (.cells c t)) := by
  refine ⟨by simp, fun j hj => ⟨?_, World.frozen?_alloc_at _ _ _ _ rfl⟩⟩
  rw [World.cell?_alloc_at _ _ _ _ rfl, Array.getElem?_eq_getElem (by omega)]
  rfl
theorem Scr.buf {g : Nat} {w : World} (h : Scr g w) : Buf g w (.slice (some ⟨g, 0, none⟩) 0 64) [] :=
  ⟨g, 64, rfl, Nat.le_refl _, h.1, by simp, by unfold maxLen; omega, fun j hj => by simp at hj, h.2⟩
theorem Scr.shape {g : Nat} {w w' : World} (h : Scr g w) (hs : Shape w w') (hle : w.heap.size ≤ w'.heap.size) : Scr g w' :=
  ⟨Nat.lt_of_lt_of_le h.1 hle, fun j hj => ⟨(hs _ (h.2 j hj).1).1, ((hs _ (h.2 j hj).1).2).trans (h.2 j hj).2⟩⟩
theorem dig_zero (ln : Nat → Nat) (n j : Nat) : dig ln n 0 j = 0 := by
  unfold dig
  rw [qs_div]
  simp

theorem Row.grown {g n : Nat} {f : Nat → Value} {w w' : World} {row : Option Nat} (h : Row g n f w) (hg : w.grownBy w' row) (hne : some g ≠ row) : Row g n f w' :=
  ⟨Nat.lt_of_lt_of_le h.1 hg.size, fun j hj => ⟨hg.cell (h.2 j hj).1 hne, (World.frozen?_of_block (a := ⟨g, j, none⟩) (hg.block g h.1 hne)).trans (h.2 j hj).2⟩⟩
theorem Scr.grown {g : Nat} {w w' : World} {row : Option Nat} (h : Scr g w) (hg : w.grownBy w' row) (hne : some g ≠ row) : Scr g w' :=
  ⟨Nat.lt_of_lt_of_le h.1 hg.size, fun j hj => ⟨by rw [World.cell?_of_block (a := ⟨g, j, none⟩) (hg.block g h.1 hne)]; exact (h.2 j hj).1, (World.frozen?_of_block (a := ⟨g, j, none⟩) (hg.block g h.1 hne)).trans (h.2 j hj).2⟩⟩

theorem grown_set (w : World) (b o : Nat) (u : Value) : w.grownBy (w.setCell ⟨b, o, none⟩ u) (some b) :=
  ⟨rfl, rfl, rfl, by simp [World.setCell], fun k _ hk => Below.heap_setCell w ⟨b, o, none⟩ u k (fun e => hk (by rw [e]))⟩
theorem grown_drewN {w w1 : World} {row : Option Nat} (h : w.grownBy w1 row) (m : Nat) : w.grownBy (w1.drewN m) row := ⟨h.os, h.tape, h.output, h.size, h.block⟩

def keyV (n : Nat) (ln : Nat → Nat) (S : Nat → Nat → ByteArray) (k : Nat) : Value := .string ⟨(tx n S (dig ln n k) n).toArray⟩
def keyL (n : Nat) (ln : Nat → Nat) (S : Nat → Nat → ByteArray) (k : Nat) : List Value := (List.range k).map (keyV n ln S)
theorem keyL_succ (n : Nat) (ln : Nat → Nat) (S : Nat → Nat → ByteArray) (k : Nat) : keyL n ln S (k + 1) = keyL n ln S k ++ [keyV n ln S k] := by simp [keyL, List.range_succ]

theorem cells_of_string (s : ByteArray) : byteCells s = Lib.byteCells s.data.toList := by simp [byteCells, Lib.byteCells]
theorem tx_first {n : Nat} {S : Nat → Nat → ByteArray} {d : Nat → Nat} {j : Nat} (h : j + 1 < n) :
    Lib.byteCells (tx n S d j) ++ Lib.byteCells (Lib.decDigits (S j (d j)).size) ++ [Value.int .u8 58] ++ byteCells (S j (d j)) = Lib.byteCells (tx n S d (j + 1)) := by
  simp [tx, item, h, Lib.byteCells, byteCells]
theorem tx_last {n : Nat} {S : Nat → Nat → ByteArray} {d : Nat → Nat} {j : Nat} (h : ¬ j + 1 < n) :
    Lib.byteCells (tx n S d j) ++ byteCells (S j (d j)) = Lib.byteCells (tx n S d (j + 1)) := by
  simp [tx, item, h, Lib.byteCells, byteCells]

def R15b (n : Nat) (ln : Nat → Nat) (S : Nat → Nat → ByteArray) (T A B : Nat) (w : World) (g : Nat) (s6 : Value) (wx : World) : Prop :=
  ∃ k : Nat, k < pr ln n ∧ g = pr ln n - k ∧ s6 = .slice (some ⟨T, 0, none⟩) k (pr ln n) ∧ wx.ownsRow T 9 1 (.slice (some ⟨T, 0, none⟩) k (pr ln n)) k (keyL n ln S k) ∧
    Row A n (fun i => .int .i64 (dig ln n k i : Nat)) wx ∧ Scr B wx ∧ Below T w wx
def R15c (n : Nat) (S : Nat → Nat → ByteArray) (d : Nat → Nat) (B : Nat) (w : World) (g : Nat) (s9 s41 : Value) (wx : World) : Prop :=
  ∃ j : Nat, j ≤ n ∧ g = n - j ∧ s41 = .int .i64 j ∧ Buf B wx s9 (Lib.byteCells (tx n S d j)) ∧ Below B w wx ∧ Scr B wx
def R15d (n : Nat) (ln : Nat → Nat) (k A : Nat) (w : World) (g : Nat) (s12 : Value) (wx : World) : Prop :=
  ∃ p : Nat, p ≤ n ∧ g = p ∧ s12 = .int .i64 ((p : Int) - 1) ∧ Carry ln n k (n - p) ∧ Row A n (fun i => .int .i64 ((if p ≤ i then dig ln n (k + 1) i else dig ln n k i : Nat) : Int)) wx ∧ w.grownBy wx (some A)

def RetTK (n : Nat) (ln : Nat → Nat) (S : Nat → Nat → ByteArray) (w : World) (e : Ending) (w' : World) : Prop :=
  e = .returned (.slice (some ⟨w.heap.size, 0, none⟩) (pr ln n) (pr ln n)) ∧ Below w.heap.size w w' ∧ ∀ k, k < pr ln n → w'.cell? ⟨w.heap.size, k, none⟩ = some (.string ⟨(tx n S (dig ln n k) n).toArray⟩)

def R15a (n : Nat) (ln : Nat → Nat) (w : World) (g : Nat) (s3 s21 : Value) (wx : World) : Prop :=
  w = wx ∧ ∃ (i : Nat) (c : Int), i ≤ n ∧ g = n - i ∧ s21 = .int .i64 i ∧ s3 = .int .i64 c ∧ (∀ k, k < i → ln k = 0 → c = 0) ∧ (pr ln n ≤ 65536 → (∀ k, k < n → ln k ≠ 0) → c = pr ln i)

theorem pr_mono {ln : Nat → Nat} : ∀ (m k : Nat), (∀ i, i < k + m → ln i ≠ 0) → pr ln k ≤ pr ln (k + m)
  | 0, _, _ => Nat.le_refl _
  | m + 1, k, h => by
    have h1 := pr_mono m k (fun i hi => h i (by omega))
    have h2 := Nat.pos_of_ne_zero (h (k + m) (by omega))
    exact Nat.le_trans h1 (Nat.le_mul_of_pos_right _ h2)

set_option maxRecDepth 100000 in
set_option maxHeartbeats 4000000 in
theorem keys_any {b o n cap : Nat} {ad : Nat → Option Addr} {ln cp : Nat → Nat} {S : Nat → Nat → ByteArray} (w : World) (h : Ls b o n ad ln cp S w) (h2 : 2 ≤ n) (hn6 : n ≤ 65536) (hF : FitB n ln S) (hpr : pr ln n ≤ 65536)
    (htab : Lib.TabBelow Tryd.prog w.heap.size w "internal/strconv.uint64pow10" .u64 Lib.pow10Tab) :
    Calls Tryd.prog 15 #[.slice (some ⟨b, o, none⟩) n cap] w (RetTK n ln S w) := by
  obtain ⟨i9, hi9, hz9, hs9, hb9⟩ := info_parts Tryd.info9'
  obtain ⟨i3, hi3, hz3, hs3, hb3⟩ := info_parts Tryd.info3'
  obtain ⟨i5, hi5, hz5, hs5, hb5⟩ := info_parts Tryd.info5'
  have hb : b < w.heap.size := World.block_lt_of_cell? w _ (h.out 0 (by omega))
  have H := hid h
  have HF := hid hF
  have HT := hid htab
  clear h hF htab
  have hne1 : ((n : Int) == 1) = false := by simp; omega
  go_enter Tryd.func15, Tryd.ntmps15
  go_wp2
  go_loopg [3, 21] n (fun g s3 s21 wx => R15a n ln w g s3 s21 wx)
  case atStart => exact ⟨rfl, 0, 1, by omega, by omega, rfl, rfl, fun k hk => by omega, fun _ _ => rfl⟩
  case round =>
    obtain ⟨rfl, i, c, hin, rfl, rfl, rfl, hz, hnz⟩ := hrel
    have HZ := hid hz
    have HNZ := hid hnz
    clear hz hnz
    by_cases hi : i < n
    · have hc := H.out.out i hi
      have hli := (HF.out i hi).1
      go_wp2
      go_roundg (n - (i + 1))
      case rel =>
        refine ⟨rfl, i + 1, _, by omega, rfl, by go_num, rfl, fun k hk hk0 => ?_, fun h1 h2 => ?_⟩
        · by_cases e : k = i
          · subst e; rw [hk0]; simp [wrap64]
          · rw [HZ.out k (by omega) hk0]; simp [wrap64]
        · rw [HNZ.out h1 h2]
          have h3 : pr ln (i + 1) ≤ pr ln n := by
            have := pr_mono (n - (i + 1)) (i + 1) (ln := ln) (fun i' hi' => h2 i' (by omega))
            rwa [show i + 1 + (n - (i + 1)) = n by omega] at this
          have h4 : ((pr ln i : Nat) : Int) * (ln i : Int) = ((pr ln (i + 1) : Nat) : Int) := by simp [pr]
          rw [h4]
          exact IntWalk.wrap64_in _ (by omega)
      case measure => omega
    · obtain rfl : i = n := by omega
      by_cases hzero : ∃ k, k < i ∧ ln k = 0
      · obtain ⟨k, hk, hk0⟩ := hzero
        have hc0 : c = 0 := HZ.out k hk hk0
        have HP0 := hid (pr_zero hk0 i hk)
        subst hc0
        clear HZ HNZ
        go_wp2_with (at_make; refine wpList_make_own _ rfl _ _ 27 rfl w.heap.size 9 i9 (.string ⟨#[]⟩) 1 Tryd.underlying27 hi9 hz9 hs9 .i64 .i64 _ 0 rfl rfl rfl (by omega) (by unfold maxLen; omega) (Nat.le_refl _) ?_)
        intro w1 hown1 hgrow1
        have HB1 := hid ((Below.refl w.heap.size w).grown hgrow1 (Nat.le_refl _) (fun _ e => by cases e))
        clear hown1 hgrow1
        go_wp2
        go_ret
        refine ⟨by rw [HP0.out]; rfl, HB1.out, fun k hk => by rw [HP0.out] at hk; omega⟩
      · have HNZ' := hid (fun k hk => (fun e => hzero ⟨k, hk, e⟩ : ln k ≠ 0))
        have hcp : c = pr ln i := HNZ.out hpr HNZ'.out
        have hpp := pr_pos i HNZ'.out
        subst hcp
        clear HZ HNZ hzero
        have hpe : (((pr ln i : Nat) : Int) == 0) = false := by simp; omega
        go_wp2_with (at_make; refine wpList_make_own _ rfl _ _ 27 rfl w.heap.size 9 i9 (.string ⟨#[]⟩) 1 Tryd.underlying27 hi9 hz9 hs9 .i64 .i64 _ (pr ln i) rfl rfl rfl (by rw [hb9]; omega) (by unfold maxLen; omega) (Nat.le_refl _) ?_)
        intro w1 hown1 hgrow1
        go_wp2_with (at_make; refine wpList_make_full _ rfl _ _ 35 rfl w1.heap.size 3 i3 (.int .i64 0) 1 Tryd.underlying35 hi3 hz3 hs3 .i64 .i64 _ _ i rfl rfl rfl rfl (by rw [hb3]; omega) (by unfold maxLen; omega) (Nat.le_refl _) ?_)
        intro w2 hown2 hgrow2
        have hal : Tryd.prog.arrayLen 36 = 64 := by kernel_rfl
        obtain ⟨B, hB⟩ : ∃ B, B = w2.heap.size := ⟨_, rfl⟩
        obtain ⟨A, hAe⟩ : ∃ A, A = w1.heap.size := ⟨_, rfl⟩
        have hsl : ∀ W, (Instr.sliceAt 36 (.pointer (some ⟨w2.heap.size, 0, none⟩)) none (some (.int .i64 0)) none).run Tryd.prog W = .ok (.slice (some ⟨w2.heap.size, 0, none⟩) 0 64) W := fun W => by
          rw [run_sliceAt_array_h W 36 ⟨w2.heap.size, 0, none⟩ (by kernel_rfl) .i64 0 (by omega) (by rw [hal]; omega)]
          rw [hal]
          go_simp
        have hT1 : w.heap.size < w1.heap.size := owns_lt hown1
        have HR2 := hid (Row.made (z := .int .i64 0) hown2)
        have hA2 : w1.heap.size < w2.heap.size := HR2.out.1
        have HB2 := hid (((Below.refl w.heap.size w).grown hgrow1 (Nat.le_refl _) (fun _ e => by cases e)).grown hgrow2 (by omega) (fun _ e => by cases e))
        have HO2 := hid (owns_below hown1 (hgrow2.block w.heap.size hT1 (by simp)))
        clear hown1 hgrow1 hown2 hgrow2 hal
        go_wp2
        go_loopg [6] (pr ln i) (fun g s6 wx => R15b i ln S w.heap.size w1.heap.size w2.heap.size w g s6 wx)
        case atStart =>
          refine ⟨0, hpp, by omega, rfl, owns_below HO2.out (Below.heap_alloc w2 _ _ (by omega)), ?_, Scr.made w2 _ 36 rfl, HB2.out.alloc (by omega) _⟩
          exact (HR2.out.below ((Below.refl w2.heap.size w2).alloc (Nat.le_refl _) _) hA2).eq (fun j hj => by rw [dig_zero]; rfl)
        case round =>
          obtain ⟨k, hk, rfl, rfl, hown, hrow, hscr, hbel⟩ := hrel
          obtain ⟨wo, hwo⟩ : ∃ wo, wo = wr := ⟨_, rfl⟩
          subst hwo
          have HOwn := hid hown
          have HRow := hid hrow
          have HScr := hid hscr
          have HBel := hid hbel
          have HBuf := hid hscr.buf
          clear hown hrow hscr hbel HR2 HB2 HO2
          go_wp2
          go_loopg [9, 41] i (fun g s9 s41 wx => R15c i S (dig ln i k) w2.heap.size wo g s9 s41 wx)
          case atStart => exact ⟨0, by omega, by omega, rfl, HBuf.out, Below.refl _ _, HScr.out⟩
          case round =>
            obtain ⟨j, hjn, rfl, rfl, hbuf, hbj, hsj⟩ := hrel
            have HBJ := hid hbj
            have HSJ := hid hsj
            have hsz : w2.heap.size ≤ wr.heap.size := Nat.le_of_lt hsj.1
            have hbw : Below w.heap.size w wr := HBel.out.trans (hbj.mono (by omega))
            have HBW := hid hbw
            clear hbj hsj hbw
            by_cases hj : j < i
            · have hnz := Nat.pos_of_ne_zero (HNZ'.out j hj)
              obtain ⟨bi, oi, ea, hcs⟩ := H.out.inn j hj hnz
              have hdl : dig ln i k j < ln j := Nat.mod_lt _ hnz
              have hbi := World.block_lt_of_cell? w _ (hcs _ hdl)
              have HC : Hid (∀ W, Below w.heap.size w W → W.cell? ⟨b, o + j, none⟩ = some (.slice (some ⟨bi, oi, none⟩) (ln j) (cp j)) ∧ W.cell? ⟨bi, oi + dig ln i k j, none⟩ = some (.string (S j (dig ln i k j)))) :=
                hid (fun W hW => ⟨by rw [hW.cell hb, ← ea]; exact H.out.out j hj, by rw [hW.cell hbi]; exact hcs _ hdl⟩)
              have HA : Hid (∀ W, Below w2.heap.size wo W → W.cell? ⟨w1.heap.size, j, none⟩ = some (.int .i64 (dig ln i k j : Nat))) := hid (fun W hW => ((HRow.out.below hW hA2).2 j hj).1)
              clear ea hcs
              obtain ⟨hc, hst⟩ := HC.out wr HBW.out
              have hat := HA.out wr HBJ.out
              have hlj := (HF.out j hj).1
              have hss := (HF.out j hj).2 _ hdl
              have hlen : (Lib.byteCells (tx i S (dig ln i k) j)).length ≤ j * 1048600 := by
                rw [Lib.byteCells_length]
                exact tx_le j (fun i' hi' => (HF.out i' (by omega)).2 _ (Nat.mod_lt _ (Nat.pos_of_ne_zero (HNZ'.out i' (by omega)))))
              have HLen := hid hlen
              clear hlen
              by_cases hlast : j + 1 < i
              · have hlt : (j : Int) < (i : Int) - 1 := by omega
                have HAI := hid (appendInt_any w2.heap.size (S j (dig ln i k j)).size (by omega) _ _ _ hbuf hsz (by have := HLen.out; omega) (HT.out wr HBW.out))
                go_wp2_with (first | (go_at_call 18; refine HAI.out.mono ?_; rintro e w4 ⟨v4, rfl, hb4, hl4, hsh4⟩; refine Hid.out ?_))
                clear HAI hc hst hat
                refine Lib.hid ?_
                have HB4 := hid hb4
                have HL4 := hid (HBJ.out.trans hl4)
                have hsz4 : wr.heap.size ≤ w4.heap.size := hl4.size
                have HS4 := hid (HSJ.out.shape hsh4 hsz4)
                have hlen4 : (Lib.decDigits (S j (dig ln i k j)).size).length ≤ 20 := len_digits _ (by omega)
                clear hb4 hl4 hsh4
                go_wp2_with (at_builtin; refine wpList_append_buf _ rfl _ _ 37 37 rfl w2.heap.size _ _ rfl (HB4.out.kept ((Below.refl w4.heap.size w4).alloc (Nat.le_refl _) _)) (by simp; omega) 5 i5 (.int .u8 0) Tryd.underlying37 hi5 hz5 hs5 hb5 rfl _ 1 [Value.int .u8 58] rfl (Src.ofSlice _ Tryd.underlying37 ⟨w4.heap.size, 0, none⟩ 1 1 [Value.int .u8 58] rfl (by intro j' u' hj'; match j', hj' with | 0, hj' => simp at hj'; subst hj'; simp [Addr.add]) (by intro u' hu'; simp at hu'; subst hu'; rfl)) (by have := HLen.out; rw [List.length_append, Lib.byteCells_length (Lib.decDigits _)]; omega) ?_)
                intro v5 w5 hb5' hl5 hsh5
                have HB5 := hid hb5'
                have hsz5 : w4.heap.size ≤ w5.heap.size := by have := hl5.size; simp at this; omega
                have HL5 := hid ((HL4.out.alloc (by omega) (Obj.cells #[Value.int .u8 58] 5)).trans hl5)
                have HS5 := hid ((HS4.out.shape (Shape.below ((Below.refl w4.heap.size w4).alloc (Nat.le_refl _) _)) (by simp)).shape hsh5 hl5.size)
                clear hb5' hl5 hsh5
                obtain ⟨hc, hst⟩ := HC.out w5 (HBel.out.trans (HL5.out.mono (by omega)))
                have hat := HA.out w5 HL5.out
                go_wp2_with (at_builtin; refine wpList_append_buf _ rfl _ _ 37 9 rfl w2.heap.size _ _ rfl HB5.out (by omega) 5 i5 (.int .u8 0) Tryd.underlying37 hi5 hz5 hs5 hb5 rfl _ _ _ rfl (Src.ofString _ Tryd.underlying9 (S j (dig ln i k j))) (by have := HLen.out; rw [List.length_append, List.length_append, Lib.byteCells_length (Lib.decDigits _), List.length_singleton]; omega) ?_)
                intro v6 w6 hb6 hl6 hsh6
                have hb7 : Buf w2.heap.size w6 v6 (Lib.byteCells (tx i S (dig ln i k) (j + 1))) := by
                  rw [← tx_first hlast]
                  simpa using hb6
                have HB6 := hid hb7
                clear hb7
                have HL6 := hid (HL5.out.trans hl6)
                have HS6 := hid (HS5.out.shape hsh6 hl6.size)
                clear hb6 hl6 hsh6
                go_wp2
                go_roundg (i - (j + 1))
                case rel => exact ⟨j + 1, by omega, rfl, by go_num, HB6.out, HL6.out, HS6.out⟩
                case measure => omega
              · have hlt : (i : Int) - 1 ≤ (j : Int) := by omega
                go_wp2_with (at_builtin; refine wpList_append_buf _ rfl _ _ 37 9 rfl w2.heap.size _ _ rfl hbuf hsz 5 i5 (.int .u8 0) Tryd.underlying37 hi5 hz5 hs5 hb5 rfl _ _ _ rfl (Src.ofString _ Tryd.underlying9 (S j (dig ln i k j))) (by have := HLen.out; omega) ?_)
                intro v6 w6 hb6 hl6 hsh6
                rw [tx_last hlast] at hb6
                have HB6 := hid hb6
                have HL6 := hid (HBJ.out.trans hl6)
                have HS6 := hid (HSJ.out.shape hsh6 hl6.size)
                clear hb6 hl6 hsh6
                go_wp2
                go_roundg (i - (j + 1))
                case rel => exact ⟨j + 1, by omega, rfl, by go_num, HB6.out, HL6.out, HS6.out⟩
                case measure => omega
            · obtain rfl : j = i := by omega
              obtain ⟨g, capv, ev, hg1, hg2, hg3, hg4, hg5, hg6⟩ := hbuf
              rw [Lib.byteCells_length] at ev hg5
              obtain ⟨l, hl⟩ : ∃ l, l = tx j S (dig ln j k) j := ⟨_, rfl⟩
              rw [← hl] at ev hg5
              have HL := hid hl
              subst ev
              have hcv := run_convert_bytes_back (P := Tryd.prog) wr 37 9 5 ⟨g, 0, none⟩ capv l Tryd.underlying37 Tryd.underlying5 Tryd.underlying9 (fun j' hj' => by
                rw [Addr.add_lit, Nat.zero_add, hg5 j' hj']
                simp [Lib.byteCells, hj'])
              clear hl hg1 hg2 hg3 hg4 hg5 hg6
              have HO := hid (owns_below HOwn.out (HBJ.out.block w.heap.size (by omega)))
              have HO2 := hid (owns_below HO.out (Below.heap_alloc wr (Obj.cells #[Value.string ⟨l.toArray⟩] 9) w.heap.size (by omega)))
              go_wp2_with (at_builtin; refine wpList_append_fits _ rfl _ _ 27 rfl w.heap.size 9 i9 1 Tryd.underlying27 hi9 hs9 w.heap.size k (pr ln j) _ rfl HO2.out ⟨wr.heap.size, 0, none⟩ 1 1 [Value.string ⟨l.toArray⟩] rfl rfl (by intro j' u' hj'; match j', hj' with | 0, hj' => simp at hj'; subst hj'; simp [Addr.add]) (by intro u' hu'; simp at hu'; subst hu'; rfl) (by omega) ?_)
              intro w7 hown7 hgrow7
              rw [HL.out, show Value.string ⟨(tx j S (dig ln j k) j).toArray⟩ = keyV j ln S k from rfl, ← keyL_succ] at hown7
              have HO7 := hid hown7
              have hT7 : w.heap.size < w7.heap.size := owns_lt hown7
              have hal : Below wr.heap.size wr (wr.alloc (Obj.cells #[Value.string ⟨l.toArray⟩] 9)) := (Below.refl wr.heap.size wr).alloc (Nat.le_refl _) _
              have HR7 := hid (((HRow.out.below HBJ.out hA2).below hal (by omega)).grown hgrow7 (by simp; omega))
              have HS7 := hid ((HSJ.out.shape (Shape.below hal) hal.size).grown hgrow7 (by simp; omega))
              have HB7 := hid ((HBW.out.trans (hal.mono (by omega))).grown hgrow7 (by simp; omega) (fun k' e => by cases e; exact Nat.le_refl _))
              clear hown7 hgrow7 hal HO HO2 hcv
              go_wp2
              go_loopg [12] j (fun g s12 wx => R15d j ln k w1.heap.size w7 g s12 wx)
              case atStart => exact ⟨j, Nat.le_refl _, rfl, rfl, by rw [Nat.sub_self]; exact Carry.zero _ _ _, HR7.out.eq (fun i' hi' => by rw [if_neg (by omega)]), World.grownBy.refl _ _⟩
              case round =>
                obtain ⟨p, hp, hge, rfl, hcar, hrp, hgp⟩ := hrel
                have hge2 := hge.symm
                clear hge
                subst hge2
                have HCar := hid hcar
                have HRP := hid hrp
                have HGP := hid hgp
                have HOP := hid (owns_below HO7.out (hgp.block w.heap.size hT7 (by simp; omega)))
                have HSP := hid (HS7.out.grown hgp (by simp; omega))
                have HBP := hid (HB7.out.grown hgp (by omega) (fun k' e => by cases e; omega))
                clear hcar hrp hgp
                cases p with
                | zero =>
                  have HEnd : Hid (k + 1 = pr ln j) := by
                    refine hid ?_
                    have h1 : qs ln j (k + 1) j = qs ln j k j + 1 := by have := HCar.out; rwa [Nat.sub_zero] at this
                    rw [qs_end_lt hk] at h1
                    by_cases h2 : k + 1 < pr ln j
                    · rw [qs_end_lt h2] at h1; omega
                    · omega
                  go_wp2
                  go_ret
                  have e := HEnd.out
                  refine ⟨by rw [e]; rfl, HBP.out, fun k' hk' => ?_⟩
                  have h3 := HOP.out
                  rw [e] at h3
                  rw [h3.cellAt k' (by omega)]
                  simp [keyL, hk', keyV]
                | succ q =>
                  have hq : q < j := by omega
                  have e1 : (((q + 1 : Nat) : Int) - 1) = (q : Int) := by omega
                  rw [e1]
                  clear e1
                  have hnz := Nat.pos_of_ne_zero (HNZ'.out q hq)
                  have hdl : dig ln j k q < ln q := Nat.mod_lt _ hnz
                  have hlq := (HF.out q hq).1
                  have hat : wr.cell? ⟨w1.heap.size, q, none⟩ = some (.int .i64 (dig ln j k q : Nat)) := by
                    have := (HRP.out.2 q hq).1
                    simp only [show ¬ (q + 1 ≤ q) by omega, if_false] at this
                    exact this
                  have hfr := (HRP.out.2 q hq).2
                  have hc : wr.cell? ⟨b, o + q, none⟩ = some (.slice (ad q) (ln q) (cp q)) := by rw [HBP.out.cell hb]; exact H.out.out q hq
                  have hA1 : (wr.setCell ⟨w1.heap.size, q, none⟩ (.int .i64 ((dig ln j k q : Nat) + 1))).cell? ⟨w1.heap.size, q, none⟩ = some (.int .i64 ((dig ln j k q : Nat) + 1)) := World.cell?_setCell_same _ _ _ hat
                  have hc1 : (wr.setCell ⟨w1.heap.size, q, none⟩ (.int .i64 ((dig ln j k q : Nat) + 1))).cell? ⟨b, o + q, none⟩ = some (.slice (ad q) (ln q) (cp q)) := by
                    rw [World.cell?_setCell_other _ _ _ _ (fun he => by have h9 : w1.heap.size = b := congrArg Addr.block he; omega)]; exact hc
                  by_cases hroom : dig ln j k q + 1 < ln q
                  · have hr2 : ((dig ln j k q : Nat) : Int) + 1 < (ln q : Int) := by omega
                    go_upto_region 28 with (fail)
                    go_quiet (fail)
                    go_wp2
                    obtain ⟨hd1, hd2, hd3⟩ := HCar.out |> fun hc' => Carry.room hq (by rw [show j - 1 - q = j - (q + 1) by omega]; exact hc') hroom
                    have hk1 : k + 1 < pr ln j := lt_of_qs_end hpp (by rw [hd3]; exact qs_end_lt hk)
                    have hbb := HBP.out.setCell (p := ⟨w1.heap.size, q, none⟩) (by show w.heap.size ≤ w1.heap.size; omega) (.int .i64 ((dig ln j k q : Nat) + 1))
                    go_roundg (pr ln j - (k + 1))
                    case rel =>
                      refine ⟨k + 1, hk1, rfl, rfl, owns_below HOP.out (Below.heap_setCell _ _ _ _ (by show w.heap.size ≠ w1.heap.size; omega)), (HRP.out.set hq (.int .i64 ((dig ln j k q : Nat) + 1))).eq (fun i' hi' => ?_), HSP.out.shape (Shape.setCell _ _ _) (by simp), ⟨hbb.os, hbb.tape, hbb.output, hbb.size, hbb.block⟩⟩
                      by_cases e : i' = q
                      · subst e; simp only [if_true, hd1]; rfl
                      · simp only [if_neg e]
                        by_cases e2 : q + 1 ≤ i'
                        · simp only [if_pos e2]
                        · simp only [if_neg e2]; rw [hd2 i' (by omega)]
                    case measure => omega
                  · have hr2 : (ln q : Int) ≤ ((dig ln j k q : Nat) : Int) + 1 := by omega
                    have hf1 : (wr.setCell ⟨w1.heap.size, q, none⟩ (.int .i64 ((dig ln j k q : Nat) + 1))).frozen? ⟨w1.heap.size, q, none⟩ = false := by rw [World.frozen?_setCell]; exact hfr
                    go_upto_region 28 with (fail)
                    go_quiet (fail)
                    go_wp2
                    obtain ⟨hd1, hd2⟩ := HCar.out |> fun hc' => Carry.full hq hnz (by rw [show j - 1 - q = j - (q + 1) by omega]; exact hc') hroom
                    go_roundg q
                    case rel =>
                      refine ⟨q, by omega, rfl, by go_num, by rw [show j - q = j - 1 - q + 1 by omega]; exact hd2, ?_, ?_⟩
                      · refine ((HRP.out.set hq (.int .i64 ((dig ln j k q : Nat) + 1))).set hq (.int .i64 0)).eq (fun i' hi' => ?_)
                        by_cases e : i' = q
                        · subst e; simp [hd1]
                        · simp only [if_neg e]
                          by_cases e2 : q + 1 ≤ i'
                          · simp only [if_pos e2, if_pos (show q ≤ i' by omega)]
                          · simp only [if_neg e2, if_neg (show ¬ q ≤ i' by omega)]
                      · exact (grown_drewN (HGP.out.trans (grown_set wr w1.heap.size q (.int .i64 ((dig ln j k q : Nat) + 1)))) _).trans (grown_set _ w1.heap.size q (.int .i64 0))
                    case measure => omega
end Go.Proofs.Qxb6603132aDoor
