/- FnScanFindsEndOfValue: the walk. Value's contract as a hypothesis. -/
import Derived.Test.Qxb6603067aLay
import Derived.OwnWalk
namespace Go.Proofs.Qxb6603067a
open Go Go.RowKit

theorem Try.info5' : (Try.prog.info? 5).map (fun i => (i.zero, i.size, i.bytes)) = some (some (.int .u8 0), 1, 1) := by kernel_rfl

theorem pass_congr {c c' : Nat → Int} : ∀ (k p : Nat) (st : Sst), (∀ i, p ≤ i → i < p + k → c i = c' i) → pass c k p st = pass c' k p st
  | 0, _, _, _ => rfl
  | k + 1, p, st, h => by
    have e := h p (Nat.le_refl _) (by omega)
    simp only [pass, e]
    split
    · rfl
    · exact pass_congr k (p + 1) _ (fun i h1 h2 => h i (by omega) (by omega))
theorem Whole.congr {c c' : Nat → Int} {n : Nat} (hc : ∀ i, i < n → c i = c' i) (h : Whole c n) : Whole c' n := by
  obtain ⟨st, h0, h1, h2⟩ := h
  exact ⟨st, h0, by rw [← h1]; exact (pass_congr _ _ _ (fun i _ hi => hc i (by omega))).symm, by rw [← hc _ (by omega)]; exact h2⟩

def RetT (w : World) (e : Ending) (w' : World) : Prop := e = .returned (.bool true) ∧ Below w.heap.size w w'

set_option maxRecDepth 100000 in
set_option maxHeartbeats 2000000 in
theorem top_empty (a0 a1 : Option Addr) (cap0 len1 cap1 : Nat) (w : World) : Calls Try.prog 7 #[.slice a0 0 cap0, .slice a1 len1 cap1] w (RetT w) := by
  go_enter Try.func7, Try.ntmps7
  go_wp2_with (first | (go_at_call 21; refine (bytes_any _ _ _ _ _ _ _).mono ?_; rintro e w' ⟨b, rfl, rfl, hb⟩; refine Hid.out ?_))
  cases b with
  | false =>
    clear hb
    refine Lib.hid ?_
    go_wp2
    go_ret
    exact ⟨rfl, Below.refl _ _⟩
  | true =>
    have hsum := hb rfl
    clear hb
    refine Lib.hid ?_
    go_wp2
    go_ret
    exact ⟨rfl, Below.refl _ _⟩

theorem grown_of_below {w w' : World} (h : Below w.heap.size w w') : w.grownBy w' none := ⟨h.os, h.tape, h.output, h.size, fun k hk _ => h.block k hk⟩

/-- The bytes of an argument, cell by cell, in a world that has grown. -/
theorem bytes_kept {w w' : World} {row : Option Nat} (g : w.grownBy w' row) (hr : ∀ k, row = some k → w.heap.size ≤ k) {ao : Option Addr} {Z : List Int} (hc : ∀ ad, ao = some ad → ∀ t, t < Z.length → w.cell? (ad.add t) = some (.int .u8 (Z.getD t 0))) :
    ∀ ad, ao = some ad → ∀ t u, (Z.map (Value.int .u8))[t]? = some u → w'.cell? (ad.add t) = some u := by
  intro ad had t u hu
  have ht : t < Z.length := by
    have := (List.getElem?_eq_some_iff.1 hu).1
    simpa using this
  have c0 := hc ad had t ht
  have hlt := World.block_lt_of_cell? w _ c0
  have c1 := g.cell c0 (fun e => by have := hr _ e.symm; omega)
  rw [c1]
  rw [List.getElem?_map, List.getElem?_eq_getElem ht] at hu
  have e : Z.getD t 0 = Z[t] := by simp [List.getD, List.getElem?_eq_getElem ht]
  rw [e]
  simpa using hu

theorem bytes_kept2 {w w1 w2 : World} {k : Nat} (g0 : w.grownBy w1 none) (g1 : w1.grownBy w2 (some k)) (hk : w.heap.size ≤ k) {ao : Option Addr} {Z : List Int} (hc : ∀ ad, ao = some ad → ∀ t, t < Z.length → w.cell? (ad.add t) = some (.int .u8 (Z.getD t 0))) :
    ∀ ad, ao = some ad → ∀ t u, (Z.map (Value.int .u8))[t]? = some u → w2.cell? (ad.add t) = some u := by
  intro ad had t u hu
  have h1 := bytes_kept g0 (fun _ e => by cases e) hc ad had t u hu
  have ht : t < Z.length := by
    have := (List.getElem?_eq_some_iff.1 hu).1
    simpa using this
  have hlt := World.block_lt_of_cell? w _ (hc ad had t ht)
  exact g1.cell h1 (fun e => by cases e; omega)

theorem cells_of_owned {w : World} {g n m : Nat} {A B : List Int} (h : w.ownsRow g 5 1 (.slice (some ⟨g, 0, none⟩) (n + m) (n + m)) (n + m) (A.map (Value.int .u8) ++ B.map (Value.int .u8))) :
    ∀ i, i < n + m → w.cell? ⟨g, 0 + i, none⟩ = some (.int .u8 ((A ++ B).getD i 0)) := by
  intro i hi
  have hl := h.1
  simp only [List.length_append, List.length_map, Nat.mul_one] at hl
  rw [Nat.zero_add, h.cellAt i (by omega), ← List.map_append, List.getElem?_map]
  have h2 : i < (A ++ B).length := by simp; omega
  simp [List.getD, List.getElem?_eq_getElem h2]

def RO (c : Nat → Int) (w : World) (s : Value) (wx : World) : Prop := wx = w ∧ ∃ t : Bool, s = .bool t ∧ (t = false → c 0 = 123 ∨ c 0 = 91 ∨ c 0 = 34)

set_option maxRecDepth 100000 in
set_option maxHeartbeats 4000000 in
theorem top_any {cb co n cap0 len1 cap1 : Nat} {c : Nat → Int} {a1 : Option Addr} (A B : List Int) (w : World) (hA : 0 < n) (hAn : A.length = n) (hAc : ∀ i, i < n → A.getD i 0 = c i) (hB : B.length = len1) (hrg : ∀ i, i < n → 0 ≤ c i ∧ c i ≤ 255)
    (hcA : ∀ i, i < n → w.cell? ⟨cb, co + i, none⟩ = some (.int .u8 (c i))) (h1n : a1 = none → len1 = 0 ∧ cap1 = 0) (hcB : ∀ ad, a1 = some ad → ∀ t, t < B.length → w.cell? (ad.add t) = some (.int .u8 (B.getD t 0)))
    (hv : n ≤ 1048576 → ValueAt w.heap.size cb co n cap0 c 0) :
    Calls Try.prog 7 #[.slice (some ⟨cb, co, none⟩) n cap0, .slice a1 len1 cap1] w (RetT w) := by
  obtain ⟨i0, hi, hz0, hz1, hz2⟩ := info_parts Try.info5'
  have hc0 := hcA 0 hA
  have hc0' : w.cell? ⟨cb, co, none⟩ = some (.int .u8 (c 0)) := by simpa using hc0
  have hcb : cb < w.heap.size := World.block_lt_of_cell? w _ hc0
  have HCA := hid hcA
  have HCB := hid hcB
  have HRG := hid hrg
  have HV := hid hv
  have H1N := hid h1n
  have HAN := hid hAn
  have HAC := hid hAc
  have HBN := hid hB
  clear hcA hcB hrg hv h1n hAn hAc hB
  go_enter Try.func7, Try.ntmps7
  go_wp2_with (first | (go_at_call 21; refine (bytes_any _ _ _ _ _ _ _).mono ?_; rintro e w' ⟨b, rfl, rfl, hb⟩; refine Hid.out ?_))
  cases b with
  | false =>
    clear hb
    refine Lib.hid ?_
    go_wp2
    go_ret
    exact ⟨rfl, Below.refl _ _⟩
  | true =>
    have hsum := hb rfl
    clear hb
    refine Lib.hid ?_
    go_upto_region 10 with (fail)
    go_cut [41] (fun s wx => RO c w s wx)
    case first =>
      cases e1 : (c 0 != 123) with
      | false =>
        have E := hid (show c 0 = 123 by simpa using e1)
        go_wp2
        go_meet
        case rel => exact ⟨rfl, false, rfl, fun _ => Or.inl E.out⟩
      | true =>
        cases e2 : (c 0 != 91) with
        | false =>
          have E := hid (show c 0 = 91 by simpa using e2)
          go_wp2
          go_meet
          case rel => exact ⟨rfl, false, rfl, fun _ => Or.inr (Or.inl E.out)⟩
        | true =>
          cases e3 : (c 0 != 34) with
          | false =>
            have E := hid (show c 0 = 34 by simpa using e3)
            go_wp2
            go_meet
            case rel => exact ⟨rfl, false, rfl, fun _ => Or.inr (Or.inr E.out)⟩
          | true =>
            go_wp2
            go_meet
            case rel => exact ⟨rfl, true, rfl, fun h => by cases h⟩
    case rest =>
      obtain ⟨rfl, t, rfl, ht⟩ := hcut
      cases t with
      | true =>
        clear ht
        go_wp2
        go_ret
        exact ⟨rfl, Below.refl _ _⟩
      | false =>
        have HT := hid (ht rfl)
        clear ht
        have HL := hid (layout_any wc ⟨#[]⟩ ⟨#[]⟩ hcb HCA.out HRG.out (by omega) (HV.out (by omega)))
        clear HV
        go_wp2_with (first | (go_at_call 11; refine HL.out.mono ?_; rintro e w1 ⟨v0, v1, v2, ok, rfl, hbel, hok⟩; refine Hid.out ?_))
        clear HL
        cases ok with
        | false =>
          clear hok
          refine Lib.hid ?_
          go_wp2
          go_ret
          exact ⟨rfl, hbel⟩
        | true =>
          have HX := hid (hok rfl)
          have HBel := hid hbel
          have hw1 : wc.heap.size ≤ w1.heap.size := hbel.size
          clear hok hbel
          refine Lib.hid ?_
          have HW : Hid (Whole c n) := by
            refine hid ?_
            rcases HT.out with h | h | h
            · exact (HX.out.2 (Or.inl h)).whole
            · exact (HX.out.2 (Or.inr h)).whole
            · exact (HX.out.1 h).whole
          clear HT HX
          have HW2 : Hid (Goes (fun i => (A ++ B).getD i 0) n 0 (0, false, false)) := hid (HW.out.congr (fun i hi => by
            show c i = (A ++ B).getD i 0
            rw [← HAC.out i hi]
            have h2 : i < A.length := by rw [HAN.out]; exact hi
            simp [List.getD, List.getElem?_append_left h2])).goes
          go_wp2_with (at_make; refine wpList_make_own _ rfl _ _ 22 rfl w1.heap.size 5 i0 (.int .u8 0) 1 Try.underlying22 hi hz0 hz1 .i64 .i64 _ (n + len1) rfl rfl (by omega) (by rw [hz2]; omega) (by unfold maxLen; omega) (Nat.le_refl _) ?_)
          intro w2 hown0 hgrow0
          have HGA := hid ((grown_of_below HBel.out).trans hgrow0)
          have hw2 : w1.heap.size < w2.heap.size := by
            obtain ⟨g, cap, cur, he, _, hh, _⟩ := hown0.2.resolve_left (by rintro ⟨h, _⟩; cases h)
            cases he
            exact (Array.getElem?_eq_some_iff.1 hh).1
          have HBel2 := hid (HBel.out.grown hgrow0 hw1 (fun _ e => by cases e))
          have HAK := hid (bytes_kept (ao := some ⟨cb, co, none⟩) HGA.out (fun _ e => by cases e) (Z := A) (fun ad had t ht => by
            cases had
            rw [Go.WideShapes.add_plain, HAC.out t (by rw [← HAN.out]; exact ht)]
            exact HCA.out t (by rw [← HAN.out]; exact ht)))
          clear hgrow0
          go_wp2_with (at_builtin; refine wpList_append_fits_any _ rfl (.tmp 57) (.tmp 58) 22 rfl w1.heap.size 5 i0 1 Try.underlying22 hi hz1 w1.heap.size 0 (n + len1) [] rfl hown0 _ n cap0 (A.map (Value.int .u8)) rfl (by simp [HAN.out]) (by intro h; cases h) HAK.out (ints_oneCell _ _) (by omega) ?_)
          intro w3 hown1 hgrow1
          try simp only [Nat.zero_add, List.nil_append] at hown1
          have HBK := hid (bytes_kept2 HGA.out hgrow1 hw1 HCB.out)
          have hw3 : w1.heap.size < w3.heap.size := Nat.lt_of_lt_of_le hw2 hgrow1.size
          have HBel3 := hid (HBel2.out.grown hgrow1 (by omega) (fun k e => by cases e; exact hw1))
          clear hgrow1 hown0 HAK HGA
          go_wp2_with (at_builtin; refine wpList_append_fits_any _ rfl (.tmp 60) (.tmp 61) 22 rfl w1.heap.size 5 i0 1 Try.underlying22 hi hz1 w1.heap.size n (n + len1) _ rfl hown1 a1 len1 cap1 (B.map (Value.int .u8)) rfl (by simp [HBN.out]) H1N.out HBK.out (ints_oneCell _ _) (Nat.le_refl _) ?_)
          intro w4 hown2 hgrow2
          have hw4 : w1.heap.size < w4.heap.size := Nat.lt_of_lt_of_le hw3 hgrow2.size
          have HBel4 := hid (HBel3.out.grown hgrow2 (by omega) (fun k e => by cases e; exact hw1))
          have HZ := hid (zzscan_any (gb := w1.heap.size) (go := 0) (N := n + len1) (n := n) (cap := n + len1) w4 hw4 (cells_of_owned hown2) HW2.out (by omega) hsum)
          clear hgrow2 hown2 hown1 HBK HW2 HW
          go_wp2_with (first | (go_at_call 19; refine HZ.out.mono ?_; rintro e w5 ⟨rfl, hbel5⟩; have HBel5 := hid hbel5; clear hbel5))
          go_ret
          exact ⟨by first | rfl | simp, HBel4.out.trans (HBel5.out.mono (by omega))⟩
end Go.Proofs.Qxb6603067a
