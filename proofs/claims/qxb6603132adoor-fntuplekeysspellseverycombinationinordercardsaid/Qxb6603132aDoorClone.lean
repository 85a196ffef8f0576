/- zzCloneLists. -/
import Derived.Test.Qxb6603132aDoorFit
import Derived.OwnWalk
import Derived.Lib.SliceRun
namespace Go.Proofs.Qxb6603132aDoor
open Go Go.RowKit

theorem Tryd.info27' : (Tryd.prog.info? 27).map (fun i => (i.zero, i.size, i.bytes)) = some (some (.slice none 0 0), 1, 24) := by kernel_rfl
theorem Tryd.info9' : (Tryd.prog.info? 9).map (fun i => (i.zero, i.size, i.bytes)) = some (some (.string ⟨#[]⟩), 1, 16) := by kernel_rfl
theorem Tryd.info3' : (Tryd.prog.info? 3).map (fun i => (i.zero, i.size, i.bytes)) = some (some (.int .i64 0), 1, 8) := by kernel_rfl
theorem Tryd.info5' : (Tryd.prog.info? 5).map (fun i => (i.zero, i.size, i.bytes)) = some (some (.int .u8 0), 1, 1) := by kernel_rfl

/-- A row of the call's own: block g holds f 0 .. f (n - 1), and may be written. -/
def Row (g n : Nat) (f : Nat → Value) (w : World) : Prop := g < w.heap.size ∧ ∀ j, j < n → w.cell? ⟨g, j, none⟩ = some (f j) ∧ w.frozen? ⟨g, j, none⟩ = false

theorem Row.made {w : World} {base g n : Nat} {e : TypeId} {z : Value} (h : w.ownsRow base e 1 (.slice (some ⟨g, 0, none⟩) n n) n (madeCells #[z] n).toList) : Row g n (fun _ => z) w := by
  refine ⟨?_, fun j hj => ⟨?_, h.frozenAt j⟩⟩
  · obtain ⟨g', cap, cur, he, _, hh, _⟩ := h.2.resolve_left (by rintro ⟨h, _⟩; cases h)
    cases he
    exact (Array.getElem?_eq_some_iff.1 hh).1
  · rw [h.cellAt j (by omega), toList_madeCells_one, List.getElem?_replicate, if_pos (by omega)]

theorem Row.set {g n i : Nat} {f : Nat → Value} {w : World} (h : Row g n f w) (hi : i < n) (v : Value) : Row g n (fun k => if k = i then v else f k) (w.setCell ⟨g, i, none⟩ v) := by
  refine ⟨by simpa using h.1, fun j hj => ⟨?_, by rw [World.frozen?_setCell]; exact (h.2 j hj).2⟩⟩
  by_cases e : j = i
  · subst e
    rw [World.cell?_setCell_same _ _ _ (h.2 j hj).1]
    simp
  · rw [World.cell?_setCell_other _ _ _ _ (fun he => e (by cases he; rfl)), (h.2 j hj).1]
    simp [e]

theorem Row.below {g n B : Nat} {f : Nat → Value} {w w' : World} (h : Row g n f w) (hb : Below B w w') (hg : g < B) : Row g n f w' :=
  ⟨Nat.lt_of_lt_of_le h.1 hb.size, fun j hj => ⟨by rw [hb.cell hg]; exact (h.2 j hj).1, by rw [hb.frozen hg]; exact (h.2 j hj).2⟩⟩

theorem Row.setOther {g n g' i : Nat} {f : Nat → Value} {w : World} (h : Row g n f w) (hg : g ≠ g') (v : Value) : Row g n f (w.setCell ⟨g', i, none⟩ v) :=
  ⟨by simpa using h.1, fun j hj => ⟨by rw [World.cell?_setCell_other _ _ _ _ (fun he => hg (by cases he; rfl))]; exact (h.2 j hj).1, by rw [World.frozen?_setCell]; exact (h.2 j hj).2⟩⟩

theorem Row.eq {g n : Nat} {f f' : Nat → Value} {w : World} (h : Row g n f w) (he : ∀ k, k < n → f k = f' k) : Row g n f' w :=
  ⟨h.1, fun j hj => ⟨by rw [← he j hj]; exact (h.2 j hj).1, (h.2 j hj).2⟩⟩

def InnOk (wx : World) (G : Nat) (l : Nat) (a : Option Addr) (T : Nat → ByteArray) : Prop :=
  0 < l → ∃ bi, a = some ⟨bi, 0, none⟩ ∧ bi ≠ G ∧ ∀ j, j < l → wx.cell? ⟨bi, j, none⟩ = some (.string (T j))

def R7 (n : Nat) (ln : Nat → Nat) (S : Nat → Nat → ByteArray) (G : Nat) (w : World) (g : Nat) (s4 : Value) (wx : World) : Prop :=
  ∃ (i : Nat) (ad' : Nat → Option Addr) (cp' : Nat → Nat), i ≤ n ∧ g = n - i ∧ s4 = .int .i64 i ∧ Below G w wx ∧
    Row G n (fun k => if k < i then .slice (ad' k) (ln k) (cp' k) else .slice none 0 0) wx ∧ ∀ k, k < i → InnOk wx G (ln k) (ad' k) (S k) ∧ (ad' k = none → ln k = 0 ∧ cp' k = 0)

def R7j (l : Nat) (T : Nat → ByteArray) (g2 : Nat) (w : World) (g : Nat) (s6 : Value) (wx : World) : Prop :=
  ∃ j : Nat, j ≤ l ∧ g = l - j ∧ s6 = .int .i64 j ∧ Below g2 w wx ∧ Row g2 l (fun k => if k < j then .string (T k) else .string ⟨#[]⟩) wx

/-- The clone of n lists: in new memory, with the same strings. -/
def RetCl (n : Nat) (ln : Nat → Nat) (S : Nat → Nat → ByteArray) (w : World) (e : Ending) (w' : World) : Prop :=
  ∃ (ad' : Nat → Option Addr) (cp' : Nat → Nat), e = .returned (.slice (some ⟨w.heap.size, 0, none⟩) n n) ∧ Below w.heap.size w w' ∧ Ls w.heap.size 0 n ad' ln cp' S w'

set_option maxRecDepth 100000 in
set_option maxHeartbeats 4000000 in
theorem clone_any {b o n cap : Nat} {ad : Nat → Option Addr} {ln cp : Nat → Nat} {S : Nat → Nat → ByteArray} (w : World) (h : Ls b o n ad ln cp S w) (h0 : 0 < n) (hn6 : n ≤ 65536) (hF : FitB n ln S) :
    Calls Tryd.prog 7 #[.slice (some ⟨b, o, none⟩) n cap] w (RetCl n ln S w) := by
  obtain ⟨i27, hi27, hz27, hs27, hb27⟩ := info_parts Tryd.info27'
  obtain ⟨i9, hi9, hz9, hs9, hb9⟩ := info_parts Tryd.info9'
  have hb : b < w.heap.size := World.block_lt_of_cell? w _ (h.out 0 h0)
  have H := hid h
  have HF := hid hF
  clear h hF
  go_enter Tryd.func7, Tryd.ntmps7
  have hE22 : ∀ (W : World) (a : Option Addr) (l c : Nat), (binOp .eql 22 (.slice a l c) (.slice none 0 0)).run Tryd.prog W = .ok (.bool a.isNone) W := fun W a l c => Lib.run_eql_slice_nil W 22 27 a l c 0 0 Tryd.underlying22
  have hE27 : ∀ (W : World) (a : Option Addr) (l c : Nat), (binOp .eql 27 (.slice a l c) (.slice none 0 0)).run Tryd.prog W = .ok (.bool a.isNone) W := fun W a l c => Lib.run_eql_slice_nil W 27 9 a l c 0 0 Tryd.underlying27
  go_wp2_with (at_make; refine wpList_make_full _ rfl _ _ 22 rfl w.heap.size 27 i27 (.slice none 0 0) 1 Tryd.underlying22 hi27 hz27 hs27 .i64 .i64 _ _ n rfl rfl rfl rfl (by rw [hb27]; omega) (by unfold maxLen; omega) (Nat.le_refl _) ?_)
  intro w1 hown1 hgrow1
  have HB1 := hid ((Below.refl w.heap.size w).grown hgrow1 (Nat.le_refl _) (fun _ e => by cases e))
  have HR1 := hid (Row.made (z := .slice none 0 0) hown1)
  clear hown1 hgrow1
  go_wp2
  go_loopg [4] n (fun g s4 wx => R7 n ln S w.heap.size w g s4 wx)
  case atStart => exact ⟨0, fun _ => none, fun _ => 0, by omega, by omega, rfl, HB1.out, HR1.out.eq (fun k hk => by simp), fun k hk => by omega⟩
  case round =>
    clear HB1 HR1
    obtain ⟨i, ad', cp', hin, rfl, rfl, hbel, hrow, hall⟩ := hrel
    have HBel := hid hbel
    have HRow := hid hrow
    have HAll := hid hall
    clear hall hrow
    by_cases hi : i < n
    · have hcw := H.out.out i hi
      have hli := (HF.out i hi).1
      have hc : wr.cell? ⟨b, o + i, none⟩ = some (.slice (ad i) (ln i) (cp i)) := by rw [hbel.cell hb]; exact hcw
      clear hcw hbel
      have hfr := (HRow.out.2 i hi).2
      have hce : wr.cell? ⟨w.heap.size, i, none⟩ = some (.slice none 0 0) := by simpa using (HRow.out.2 i hi).1
      cases ea : ad i with
      | none =>
        obtain ⟨hl0, hcp0⟩ := H.out.nil i hi ea
        have HL := hid hl0
        rw [ea] at hc
        clear hl0 hcp0 ea
        go_wp2
        go_roundg (n - (i + 1))
        case rel =>
          refine ⟨i + 1, fun k => if k = i then none else ad' k, fun k => if k = i then 0 else cp' k, by omega, rfl, by go_num, HBel.out, HRow.out.eq (fun k hk => ?_), fun k hk => ?_⟩
          · by_cases e : k = i
            · subst e; simp [HL.out]
            · simp only [if_neg e, show (k < i + 1) = (k < i) by simp; omega]
          · by_cases e : k = i
            · subst e; simp only [if_true, HL.out]; exact ⟨fun h => by omega, fun _ => ⟨trivial, trivial⟩⟩
            · simp only [if_neg e]; exact HAll.out k (by omega)
        case measure => omega
      | some x =>
        rw [ea] at hc
        have HIn : Hid (∀ j, j < ln i → ∃ bi oi, x = ⟨bi, oi, none⟩ ∧ bi < w.heap.size ∧ w.cell? ⟨bi, oi + j, none⟩ = some (.string (S i j))) := by
          refine hid (fun j hj => ?_)
          obtain ⟨bi, oi, e, hcs⟩ := H.out.inn i hi (by omega)
          rw [ea] at e
          cases e
          exact ⟨bi, oi, rfl, World.block_lt_of_cell? w _ (hcs j hj), hcs j hj⟩
        clear ea
        obtain ⟨wo, hwo⟩ : ∃ wo, wo = wr := ⟨_, rfl⟩
        subst hwo
        have hwr : w.heap.size < wo.heap.size := HRow.out.1
        go_wp2_with (at_make; refine wpList_make_full _ rfl _ _ 27 rfl wo.heap.size 9 i9 (.string ⟨#[]⟩) 1 Tryd.underlying27 hi9 hz9 hs9 .i64 .i64 _ _ (ln i) rfl rfl rfl rfl (by rw [hb9]; omega) (by unfold maxLen; omega) (Nat.le_refl _) ?_)
        intro w2 hown2 hgrow2
        have HB2 := hid ((Below.refl wo.heap.size wo).grown hgrow2 (Nat.le_refl _) (fun _ e => by cases e))
        have HR2 := hid (Row.made (z := .string ⟨#[]⟩) hown2)
        clear hown2 hgrow2
        go_wp2
        go_loopg [6] (ln i) (fun g s6 wx => R7j (ln i) (S i) wo.heap.size wo g s6 wx)
        case atStart => exact ⟨0, by omega, by omega, rfl, HB2.out, HR2.out.eq (fun k hk => by simp)⟩
        case round =>
          clear HB2 HR2
          obtain ⟨j, hjl, rfl, rfl, hbj, hrj⟩ := hrel
          have HBJ := hid hbj
          have HRJ := hid hrj
          have hcr : wr.cell? ⟨b, o + i, none⟩ = some (.slice (some x) (ln i) (cp i)) := by rw [hbj.cell (show b < wo.heap.size by omega)]; exact hc
          clear hbj hrj hc
          by_cases hj : j < ln i
          · obtain ⟨bi, oi, rfl, hbi, hcs⟩ := HIn.out j hj
            have hcs2 : wr.cell? ⟨bi, oi + j, none⟩ = some (.string (S i j)) := by rw [HBJ.out.cell (show bi < wo.heap.size by omega), HBel.out.cell hbi]; exact hcs
            have hfj := (HRJ.out.2 j hj).2
            have hcj := (HRJ.out.2 j hj).1
            clear hcs
            go_wp2
            go_roundg (ln i - (j + 1))
            case rel =>
              refine ⟨j + 1, by omega, rfl, by go_num, HBJ.out.setCell (Nat.le_refl _) _, (HRJ.out.set hj (.string (S i j))).eq (fun k hk => ?_)⟩
              by_cases e : k = j
              · subst e; simp
              · simp only [if_neg e, show (k < j + 1) = (k < j) by simp; omega]
            case measure => omega
          · obtain rfl : j = ln i := by omega
            have hfw : wr.frozen? ⟨w.heap.size, i, none⟩ = false := by rw [HBJ.out.frozen (show w.heap.size < wo.heap.size from hwr)]; exact hfr
            have hcw : wr.cell? ⟨w.heap.size, i, none⟩ = some (.slice none 0 0) := by rw [HBJ.out.cell (show w.heap.size < wo.heap.size from hwr)]; exact hce
            go_wp2
            go_roundg (n - (i + 1))
            case rel =>
              have hb3 : Below w.heap.size w wr := HBel.out.trans (HBJ.out.mono (by omega))
              refine ⟨i + 1, fun k => if k = i then some ⟨wo.heap.size, 0, none⟩ else ad' k, fun k => if k = i then ln i else cp' k, by omega, rfl, by go_num, hb3.setCell (Nat.le_refl _) _, ((HRow.out.below HBJ.out hwr).set hi (.slice (some ⟨wo.heap.size, 0, none⟩) (ln i) (ln i))).eq (fun k hk => ?_), fun k hk => ?_⟩
              · by_cases e : k = i
                · subst e; simp
                · simp only [if_neg e, show (k < i + 1) = (k < i) by simp; omega]
              · by_cases e : k = i
                · subst e
                  simp only [if_true]
                  refine ⟨fun _ => ⟨wo.heap.size, rfl, by omega, fun j hj => ?_⟩, fun h => by cases h⟩
                  rw [World.cell?_setCell_other _ _ _ _ (fun he => by have h9 : w.heap.size = wo.heap.size := congrArg Addr.block he; omega), (HRJ.out.2 j hj).1]
                  simp [hj]
                · simp only [if_neg e]
                  refine ⟨fun hl => ?_, (HAll.out k (by omega)).2⟩
                  obtain ⟨bk, e1, hne, hck⟩ := (HAll.out k (by omega)).1 hl
                  refine ⟨bk, e1, hne, fun j hj => ?_⟩
                  rw [World.cell?_setCell_other _ _ _ _ (fun he => hne (by cases he; rfl)), HBJ.out.cell (World.block_lt_of_cell? wo _ (hck j hj))]
                  exact hck j hj
            case measure => omega
    · obtain rfl : i = n := by omega
      go_wp2
      go_ret
      refine ⟨ad', cp', rfl, HBel.out, ⟨fun k hk => ?_, fun k hk hl => ?_, fun k hk => (HAll.out k hk).2, H.out.hn, H.out.hl, H.out.hs⟩⟩
      · have := (HRow.out.2 k hk).1
        simpa [hk] using this
      · obtain ⟨bi, e, _, hcs⟩ := (HAll.out k hk).1 hl
        exact ⟨bi, 0, e, fun j hj => by simpa using hcs j hj⟩
end Go.Proofs.Qxb6603132aDoor
