import Derived.Test.Qxb6601594aOvW
import Derived.Deep.DeepCutAuto
import Derived.Deep.RegionWith
namespace Go.Proofs.Qxb6601594a
open Go Go.Maps Go.RowKit

/-- Which of the two is the shorter. -/
def W13 (l : Lab) (bo bm bl bk : Nat) (v1 : Value) (FO : Value → Option Value) (w : World) (b4 b5 b9 b10 : Nat) (ka kb : Int) (ax ay bx bY : ByteArray) (wx : World) : Prop :=
  ∃ (sk lk : Int) (sx sy lx ly : ByteArray), Wd l bo bm bl bk v1 FO w b4 b5 b9 b10 (rl ka ax ay) (rl kb bx bY) (rl sk sx sy) (rl lk lx ly) wx ∧
    (((plL l kb bx bY).length < (plL l ka ax ay).length ∧ sk = kb ∧ sx = bx ∧ sy = bY ∧ lk = ka ∧ lx = ax ∧ ly = ay) ∨ (¬ (plL l kb bx bY).length < (plL l ka ax ay).length ∧ sk = ka ∧ sx = ax ∧ sy = ay ∧ lk = kb ∧ lx = bx ∧ ly = bY))

def cnt (xs : List Nat) (p : Nat → Bool) (i : Nat) : Nat := ((xs.take i).filter p).length
theorem cnt_le (xs : List Nat) (p : Nat → Bool) (i : Nat) : cnt xs p i ≤ i := by
  have h1 := List.length_filter_le p (xs.take i)
  have h2 := List.length_take_le i xs
  unfold cnt
  omega
theorem cnt_step {xs : List Nat} {p : Nat → Bool} {i u : Nat} (hu : xs[i]? = some u) : cnt xs p (i + 1) = cnt xs p i + (if p u then 1 else 0) := by
  unfold cnt
  rw [List.take_add_one, hu, List.filter_append]
  cases h : p u <;> simp [h]
theorem plL_len (l : Lab) (kd : Int) (x y : ByteArray) : (plL l kd x y).length ≤ l.n := by
  have := List.length_filter_le (onL l kd x y) (List.range l.n)
  simpa [plL] using this
theorem plL_lt {l : Lab} {kd : Int} {x y : ByteArray} {i u : Nat} (hu : (plL l kd x y)[i]? = some u) : u < l.n := by
  have := List.mem_of_getElem? hu
  simp only [plL, List.mem_filter, List.mem_range] at this
  exact this.1

def R6 (l : Lab) (bo bm bl bk : Nat) (v1 : Value) (FO : Value → Option Value) (w : World) (b4 b5 b9 b10 : Nat) (ka kb sk lk : Int) (ax ay bx bY sx sy lx ly : ByteArray) (n : Nat) (g : Nat) (s11 s88 : Value) (wx : World) : Prop :=
  ∃ i : Nat, i ≤ n ∧ g = n - i ∧ s88 = .int .i64 i ∧ s11 = .int .i64 (cnt (plL l sk sx sy) (onL l lk lx ly) i : Nat) ∧ Wd l bo bm bl bk v1 FO w b4 b5 b9 b10 (rl ka ax ay) (rl kb bx bY) (rl sk sx sy) (rl lk lx ly) wx

variable {l : Lab} {bo bm bl bk : Nat} {v1 : Value} {t : Int} {FO : Value → Option Value}

set_option maxRecDepth 100000 in
set_option maxHeartbeats 2000000 in
theorem ov_else (w : World) (h : Cur l bo bm bl bk v1 t FO w) (hn : l.n ≤ 1048576) (ka kb : Int) (ax ay bx bY : ByteArray) (ha : ka = 2 ∨ ka = 3) (hb : kb = 2 ∨ kb = 3) (hne : ax ≠ bx)
    (h1 : ax.size ≤ 9223372036854775807) (h2 : ay.size ≤ 9223372036854775807) (h3 : bx.size ≤ 9223372036854775807) (h4 : bY.size ≤ 9223372036854775807) (hFO : FO (encO ka ax ay kb bx bY) = none) :
    Calls Try.prog 21 #[.pointer (some ⟨bo + 1, 0, none⟩), .agg #[.int .i64 ka, .string ax, .string ay], .agg #[.int .i64 kb, .string bx, .string bY]] w
      (RetO l bo bm bl bk v1 FO (encO ka ax ay kb bx bY) (ovl l ka ax ay kb bx bY) w) := by
  have hsz := h.size
  have hstr := beq_ne hne
  have hk1 : ((ka : Int) == 1) = false := by rcases ha with rfl | rfl <;> rfl
  obtain ⟨lx, hkx⟩ := key60 ha hb h1 h2 h3 h4
  have g4 : (((w.alloc (.cells #[.int .i64 ka, .string ax, .string ay] 53)).alloc (.cells #[.int .i64 kb, .string bx, .string bY] 53)).drew).cell? ⟨bo + 1, 4, none⟩ = some (.map (some bo)) := ((h.alloc _).alloc _).drew.cell 4
  have hrun : (Instr.lookup 57 (.map (some bo)) (.agg #[.int .i64 ka, .string ax, .string ay, .int .i64 kb, .string bx, .string bY]) true).run Try.prog (((w.alloc (.cells #[.int .i64 ka, .string ax, .string ay] 53)).alloc (.cells #[.int .i64 kb, .string bx, .string bY] 53)).drew) = .ok (.tuple #[.int .i64 0, .bool false]) (((w.alloc (.cells #[.int .i64 ka, .string ax, .string ay] 53)).alloc (.cells #[.int .i64 kb, .string bx, .string bY] 53)).drew) := by
    have := ((h.alloc (.cells #[.int .i64 ka, .string ax, .string ay] 53)).alloc (.cells #[.int .i64 kb, .string bx, .string bY] 53)).drew.ovl.look K60 Try.underlying57 (zero3 _) hkx true
    rw [hFO] at this
    exact this
  clear hkx hFO
  go_enter Try.func21, Try.ntmps21
  go_upto_region 2 with fail
  go_cut [14] (fun s14 wx => s14 = .bool false ∧ wx = (w.alloc (.cells #[.int .i64 ka, .string ax, .string ay] 53)).alloc (.cells #[.int .i64 kb, .string bx, .string bY] 53))
  case first =>
    rcases ha with rfl | rfl
    · go_wp2
      go_meet
      case rel => exact ⟨rfl, rfl⟩
    · go_wp2
      go_meet
      case rel => exact ⟨rfl, rfl⟩
  case rest =>
    obtain ⟨rfl, rfl⟩ := hcut
    go_upto_region 8 with fail
    go_cut [8] (fun s8 wx => s8 = .bool false ∧ wx = ((w.alloc (.cells #[.int .i64 ka, .string ax, .string ay] 53)).alloc (.cells #[.int .i64 kb, .string bx, .string bY] 53)).drew)
    case first =>
      go_region_held3 (fun w' => w'.cell? ⟨bo + 1, 4, none⟩ = some (.map (some bo)) ∧ w'.cell? ⟨w.heap.size, 0, none⟩ = some (.int .i64 ka) ∧ w'.cell? ⟨w.heap.size, 1, none⟩ = some (.string ax) ∧ w'.cell? ⟨w.heap.size, 2, none⟩ = some (.string ay) ∧ w'.cell? ⟨w.heap.size + 1, 0, none⟩ = some (.int .i64 kb) ∧ w'.cell? ⟨w.heap.size + 1, 1, none⟩ = some (.string bx) ∧ w'.cell? ⟨w.heap.size + 1, 2, none⟩ = some (.string bY)) (go_keep) (fail)
      go_wp2
      go_meet
      case rel => exact ⟨rfl, rfl⟩
    case rest =>
      obtain ⟨rfl, rfl⟩ := hcut
      clear hrun g4
      go_upto_region 11 with fail
      go_cut [9, 10] (fun s9 s10 wx => W11 l bo bm bl bk v1 FO w w.heap.size (w.heap.size + 1) (rl ka ax ay) (rl kb bx bY) s9 s10 wx)
      case first =>
        go_region_held3 (fun w' => w'.cell? ⟨w.heap.size, 0, none⟩ = some (.int .i64 ka) ∧ w'.cell? ⟨w.heap.size, 1, none⟩ = some (.string ax) ∧ w'.cell? ⟨w.heap.size, 2, none⟩ = some (.string ay) ∧ w'.cell? ⟨w.heap.size + 1, 0, none⟩ = some (.int .i64 kb) ∧ w'.cell? ⟨w.heap.size + 1, 1, none⟩ = some (.string bx) ∧ w'.cell? ⟨w.heap.size + 1, 2, none⟩ = some (.string bY)) (go_keep) (fail)
        · go_wp2
          go_meet
          case rel => exact W11_a h
        · go_wp2
          go_meet
          case rel => exact W11_b h
      case rest =>
        obtain ⟨b9, b10, rfl, rfl, hW⟩ := hcut
        obtain ⟨t1, hcur⟩ := hW.cur
        obtain ⟨p0, p1, p2⟩ := cells_rl hW.c4
        obtain ⟨q0, q1, q2⟩ := cells_rl hW.c5
        have hz4 := lt_of_heap hW.c4
        have hz5 := lt_of_heap hW.c5
        go_upto_region 12 with fail
        go_cut [81] (fun s81 wx => s81 = .bool (decide ((plL l kb bx bY).length < (plL l ka ax ay).length)) ∧ Wd l bo bm bl bk v1 FO w w.heap.size (w.heap.size + 1) b9 b10 (rl ka ax ay) (rl kb bx bY) (rl ka ax ay) (rl kb bx bY) wx)
        case first =>
          have hWd := hW.drew
          have hcd := hcur.drew
          go_region_held3 (fun w' => w'.cell? ⟨w.heap.size, 0, none⟩ = some (.int .i64 ka) ∧ w'.cell? ⟨w.heap.size, 1, none⟩ = some (.string ax) ∧ w'.cell? ⟨w.heap.size, 2, none⟩ = some (.string ay) ∧ w'.cell? ⟨w.heap.size + 1, 0, none⟩ = some (.int .i64 kb) ∧ w'.cell? ⟨w.heap.size + 1, 1, none⟩ = some (.string bx) ∧ w'.cell? ⟨w.heap.size + 1, 2, none⟩ = some (.string bY)) (go_keep) ((first
            | (go_at_call_of 24 (Value.agg #[Value.int IntKind.i64 kb, Value.string bx, Value.string bY]); refine (places_b _ (by assumption) kb bx bY hb h3 h4).mono ?_; rintro e w1 ⟨aB, nB, cB, rfl, hnB, hpB, hbB⟩; have HnB : Hid _ := hnB; clear hnB hpB; (first | (have hW1 := hWd.on hbB) | (have hW1 := hW2.on hbB)); obtain ⟨t3, hcurB⟩ := hW1.cur; obtain ⟨p0', p1', p2'⟩ := cells_rl hW1.c4; obtain ⟨q0', q1', q2'⟩ := cells_rl hW1.c5)
            | (go_at_call_of 24 (Value.agg #[Value.int IntKind.i64 ka, Value.string ax, Value.string ay]); refine (places_b _ (by assumption) ka ax ay ha h1 h2).mono ?_; rintro e w2 ⟨aA, nA, cA, rfl, hnA, hpA, hbA⟩; have HnA : Hid _ := hnA; clear hnA hpA; (first | (have hW2 := hWd.on hbA) | (have hW2 := hW1.on hbA)); obtain ⟨t4, hcurA⟩ := hW2.cur; obtain ⟨p0', p1', p2'⟩ := cells_rl hW2.c4; obtain ⟨q0', q1', q2'⟩ := cells_rl hW2.c5)))
          go_wp2
          go_meet
          case rel => exact ⟨by rw [HnB.out, HnA.out], hW2⟩
        case rest =>
          clear hcur p0 p1 p2 q0 q1 q2 hz4 hz5 hW
          obtain ⟨rfl, hW⟩ := hcut
          go_upto_if 81 with fail
          go_cut [] (fun wx => W13 l bo bm bl bk v1 FO w w.heap.size (w.heap.size + 1) b9 b10 ka kb ax ay bx bY wx)
          case first =>
            by_cases hlt : (plL l kb bx bY).length < (plL l ka ax ay).length
            · obtain ⟨p0, p1, p2⟩ := cells_rl hW.c4
              obtain ⟨q0, q1, q2⟩ := cells_rl hW.c5
              obtain ⟨r0, r1, r2⟩ := cells_rl hW.c9
              obtain ⟨o0, o1, o2⟩ := cells_rl hW.c10
              have fr9 := free_rl hW.c9
              have fr10 := free_rl hW.c10
              obtain ⟨n1, n2, n3, n4, n5⟩ := hW.ne
              have n2' := Ne.symm n2
              have n3' := Ne.symm n3
              have n4' := Ne.symm n4
              have n5' := Ne.symm n5
              have hsw := Wd.swap (ka := ka) (kb := kb) (ax := ax) (ay := ay) (bx := bx) (bY := bY) hW
              have HSW : Hid _ := hsw
              have HLT : Hid _ := hlt
              have hd : decide ((plL l kb bx bY).length < (plL l ka ax ay).length) = true := by simp [hlt]
              clear hsw hlt
              go_wp2
              go_region_held3 (fun w' => w'.cell? ⟨w.heap.size, 0, none⟩ = some (.int .i64 ka) ∧ w'.cell? ⟨w.heap.size, 1, none⟩ = some (.string ax) ∧ w'.cell? ⟨w.heap.size, 2, none⟩ = some (.string ay) ∧ w'.cell? ⟨w.heap.size + 1, 0, none⟩ = some (.int .i64 kb) ∧ w'.cell? ⟨w.heap.size + 1, 1, none⟩ = some (.string bx) ∧ w'.cell? ⟨w.heap.size + 1, 2, none⟩ = some (.string bY)) (first | go_keep | (refine ⟨?_, ?_, ?_, ?_, ?_, ?_⟩ <;> (simp [World.cell?_setCell_other, n2', n3', n4', n5', p0, p1, p2, q0, q1, q2]))) (fail)
              go_wp2
              go_meet
              case rel => exact ⟨kb, ka, bx, bY, ax, ay, HSW.out.1, Or.inl ⟨HLT.out, rfl, rfl, rfl, rfl, rfl, rfl⟩⟩
            · have HLT : Hid _ := hlt
              have hd : decide ((plL l kb bx bY).length < (plL l ka ax ay).length) = false := by simp [hlt]
              clear hlt
              go_wp2
              go_meet
              case rel => exact ⟨_, _, _, _, _, _, hW, Or.inr ⟨HLT.out, rfl, rfl, rfl, rfl, rfl, rfl⟩⟩
          case rest =>
            clear hW
            obtain ⟨sk, lk, sx, sy, lx', ly, hW, hch⟩ := hcut
            obtain ⟨hsk, hsx, hsy, hlk, hlx⟩ : (sk = 2 ∨ sk = 3) ∧ sx.size ≤ 9223372036854775807 ∧ sy.size ≤ 9223372036854775807 ∧ (lk = 2 ∨ lk = 3) ∧ lx'.size ≤ 9223372036854775807 := by
              rcases hch with ⟨_, rfl, rfl, rfl, rfl, rfl, rfl⟩ | ⟨_, rfl, rfl, rfl, rfl, rfl, rfl⟩
              · exact ⟨hb, h3, h4, ha, h1⟩
              · exact ⟨ha, h1, h2, hb, h3⟩
            have hov : ovl l ka ax ay kb bx bY = ((plL l sk sx sy).filter (onL l lk lx' ly)).length := by
              rcases hch with ⟨hc, rfl, rfl, rfl, rfl, rfl, rfl⟩ | ⟨hc, rfl, rfl, rfl, rfl, rfl, rfl⟩
              · simp [ovl, hne, hc]
              · simp only [ovl, if_neg hne, if_neg hc]
            have HOV : Hid _ := hov
            clear hch hov
            obtain ⟨t1, hcur⟩ := hW.cur
            obtain ⟨r0, r1, r2⟩ := cells_rl hW.c9
            go_wp2_with (first | (go_at_call 24; refine (places_b _ hcur sk sx sy hsk hsx hsy).mono ?_; rintro e w1 ⟨aS, nS, cS, rfl, hnS, hpS, hbS⟩; have HnS : Hid _ := hnS; have hnl : nS ≤ l.n := (by rw [hnS]; exact plL_len _ _ _ _); have hW1 := hW.on hbS; clear hnS))
            go_loopg [11, 88] nS (fun g s11 s88 wx => R6 l bo bm bl bk v1 FO w w.heap.size (w.heap.size + 1) b9 b10 ka kb sk lk ax ay bx bY sx sy lx' ly nS g s11 s88 wx)
            case atStart => exact ⟨0, Nat.zero_le _, rfl, rfl, rfl, hW1⟩
            case round =>
              obtain ⟨i, hi, rfl, rfl, rfl, hWr⟩ := hrel
              have hbelow := hW.below
              have HP : Hid _ := hpS
              clear hW1 hcur r0 r1 r2 hW hpS hbS
              obtain ⟨t2, hcur⟩ := hWr.cur
              have hcle := cnt_le (plL l sk sx sy) (onL l lk lx' ly) i
              by_cases hil : i < nS
              · obtain ⟨g, ea, hgb, hcs⟩ := HP.out (by omega)
                subst ea
                obtain ⟨u, hu⟩ : ∃ u, (plL l sk sx sy)[i]? = some u := ⟨_, List.getElem?_eq_getElem (by rw [← HnS.out]; exact hil)⟩
                have hun := plL_lt hu
                have hcell : wr.cell? ⟨g, i, none⟩ = some (.int .i64 (u : Nat)) := (hWr.below.cell (p := ⟨g, i, none⟩) hgb).trans ((hbelow.cell (p := ⟨g, i, none⟩) hgb).symm.trans (hcs i u hu))
                obtain ⟨o0, o1, o2⟩ := cells_rl hWr.c10
                have hst := cnt_step (p := onL l lk lx' ly) hu
                have HST : Hid _ := hst
                clear hst hcs hu
                cases hon : onL l lk lx' ly u with
                | true =>
                  have HON : Hid _ := hon
                  go_wp2_with (first | (go_at_call 25; refine (on_b _ hcur lk lx' ly u hun (by omega) hlk hlx).mono ?_; rintro e w2 ⟨rfl, hb2⟩; have hW2 := hWr.on hb2; rw [hon]))
                  go_roundg (nS - (i + 1))
                  case rel => exact ⟨i + 1, by omega, rfl, by go_num, by rw [HST.out, HON.out]; go_num, hW2⟩
                  case measure => omega
                | false =>
                  have HON : Hid _ := hon
                  go_wp2_with (first | (go_at_call 25; refine (on_b _ hcur lk lx' ly u hun (by omega) hlk hlx).mono ?_; rintro e w2 ⟨rfl, hb2⟩; have hW2 := hWr.on hb2; rw [hon]))
                  go_roundg (nS - (i + 1))
                  case rel => exact ⟨i + 1, by omega, rfl, by go_num, by rw [HST.out, HON.out]; rfl, hW2⟩
                  case measure => omega
              · obtain rfl : i = nS := by omega
                go_upto_region 21 with fail
                go_cut [] (fun wx => Wd l bo bm bl bk v1 FO w w.heap.size (w.heap.size + 1) b9 b10 (rl ka ax ay) (rl kb bx bY) (rl sk sx sy) (rl lk lx' ly) wx)
                case first =>
                  have t5 : wr.cell? ⟨bo + 1, 5, none⟩ = some (.int .i64 t2) := hcur.cell 5
                  obtain ⟨r0, r1, r2⟩ := cells_rl hWr.c9
                  have hWd := hWr.drew
                  have hcd := hcur.drew
                  go_region_with (go_at_call 24; refine (places_b _ hcd sk sx sy hsk hsx hsy).mono ?_; rintro e w1 ⟨aT, nT, cT, rfl, hnT, hpT, hbT⟩; clear hnT hpT; have hW1 := hWd.on hbT; have hcur1 := hcd.on (hbT.mono (by have := hcd.size; omega)); have t5' : w1.cell? ⟨bo + 1, 5, none⟩ = some (.int .i64 t2) := hcur1.cell 5; have f5' : w1.frozen? ⟨bo + 1, 5, none⟩ = false := free_of_heap hcur1.obj)
                  all_goals (go_wp2; go_meet; exact hW1.tests _)
                case rest =>
                  clear hWr
                  obtain ⟨t3, hcur3⟩ := hcut.cur
                  obtain ⟨p0, p1, p2⟩ := cells_rl hcut.c4
                  obtain ⟨q0, q1, q2⟩ := cells_rl hcut.c5
                  have g4 : wc.cell? ⟨bo + 1, 4, none⟩ = some (.map (some bo)) := hcur3.cell 4
                  obtain ⟨lxk, hkx⟩ := key60 ha hb h1 h2 h3 h4
                  obtain ⟨w3, hrun3, hg3, hs3, hup3⟩ := (hcur3.ovl.of_block (w' := wc.drew) rfl).update K60 Try.underlying57 hkx (.int .i64 (cnt (plL l sk sx sy) (onL l lk lx' ly) i : Nat))
                  have hrun4 : (Instr.mapUpdate 57 (.map (some bo)) (.agg #[.int .i64 ka, .string ax, .string ay, .int .i64 kb, .string bx, .string bY]) (.int .i64 (cnt (plL l sk sx sy) (onL l lk lx' ly) i : Nat))).run Try.prog wc.drew = .ok () w3 := hrun3
                  have hlo := hcut.lo
                  have hg3' := grownBy_of_drew hg3
                  have p0' := hg3'.cell p0 (by simp; omega)
                  have p1' := hg3'.cell p1 (by simp; omega)
                  have p2' := hg3'.cell p2 (by simp; omega)
                  have q0' := hg3'.cell q0 (by simp; omega)
                  have q1' := hg3'.cell q1 (by simp; omega)
                  have q2' := hg3'.cell q2 (by simp; omega)
                  have g4' := hg3'.cell g4 (by simp)
                  have HD : Hid (RetO l bo bm bl bk v1 FO (encO ka ax ay kb bx bY) (cnt (plL l sk sx sy) (onL l lk lx' ly) i) w (.returned (.int .i64 (cnt (plL l sk sx sy) (onL l lk lx' ly) i : Nat))) w3) := hcut.done hg3 hup3
                  have HE : Hid (ovl l ka ax ay kb bx bY = cnt (plL l sk sx sy) (onL l lk lx' ly) i) := by rw [HOV.out, HnS.out]; unfold cnt; rw [List.take_length]; exact rfl
                  clear hrun3 hkx hg3 hup3 hg3'
                  go_wp2
                  go_region_held3 (fun w' => w'.cell? ⟨bo + 1, 4, none⟩ = some (.map (some bo)) ∧ w'.cell? ⟨w.heap.size, 0, none⟩ = some (.int .i64 ka) ∧ w'.cell? ⟨w.heap.size, 1, none⟩ = some (.string ax) ∧ w'.cell? ⟨w.heap.size, 2, none⟩ = some (.string ay) ∧ w'.cell? ⟨w.heap.size + 1, 0, none⟩ = some (.int .i64 kb) ∧ w'.cell? ⟨w.heap.size + 1, 1, none⟩ = some (.string bx) ∧ w'.cell? ⟨w.heap.size + 1, 2, none⟩ = some (.string bY)) (go_keep) (fail)
                  go_wp2
                  go_ret
                  rw [HE.out]
                  exact HD.out
end Go.Proofs.Qxb6601594a
