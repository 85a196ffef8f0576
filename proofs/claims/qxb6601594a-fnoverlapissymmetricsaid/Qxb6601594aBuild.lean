import Derived.Test.Qxb6601594aStatic
import Derived.Deep.RegionHeld3
import Derived.Deep.DeepCutAuto
namespace Go.Proofs.Qxb6601594a
open Go Go.Maps Go.RowKit
theorem info43 : (Try.prog.info? 43).map (fun i => (i.zero, i.size, i.bytes)) = some (some (.map none), 1, 8) := by kernel_rfl
theorem info3 : (Try.prog.info? 3).map (fun i => (i.zero, i.size, i.bytes)) = some (some (.int .i64 0), 1, 8) := by kernel_rfl
theorem info9 : (Try.prog.info? 9).map (fun i => (i.zero, i.size, i.bytes)) = some (some (.string ByteArray.empty), 1, 16) := by kernel_rfl
theorem info36 : (Try.prog.info? 36).map (fun i => (i.zero, i.size, i.bytes)) = some (some (.agg #[.string ByteArray.empty, .string ByteArray.empty]), 2, 32) := by kernel_rfl

theorem row_shape {base : Nat} {e : TypeId} {size : Nat} {T : Nat → Tag} {t : Tag} {w : World} {v : Value} {n : Nat} {xs : List Value} (h : RowOf base e size T t w v n xs) :
    ∃ a c, v = .slice a n c ∧ (0 < n → ∃ g, a = some ⟨g, 0, none⟩ ∧ g < w.heap.size ∧ ∀ j u, xs[j]? = some u → w.cell? ⟨g, j, none⟩ = some u) := by
  rcases h.1.2 with ⟨rfl, h0⟩ | ⟨g, cap, cur, rfl, _⟩
  · exact ⟨none, 0, by rw [h0], fun hn => by omega⟩
  · refine ⟨_, _, rfl, fun _ => ⟨g, rfl, (h.1.lt g rfl).2, fun j u hj => ?_⟩⟩
    have := h.1.cells (g := g) rfl j u hj
    have hadd : (⟨g, 0, none⟩ : Addr).add j = ⟨g, j, none⟩ := by unfold Addr.add; split <;> simp_all
    rwa [hadd] at this

theorem prs_get {ps : List (ByteArray × ByteArray)} : ∀ {i : Nat} {x : ByteArray × ByteArray}, ps[i]? = some x → (prs ps)[i * 2]? = some (.string x.1) ∧ (prs ps)[i * 2 + 1]? = some (.string x.2) := by
  induction ps with
  | nil => intro i x h; simp at h
  | cons p ps ih =>
    intro i x h
    have hp : prs (p :: ps) = .string p.1 :: .string p.2 :: prs ps := by simp [prs]
    rw [hp]
    match i, h with
    | 0, h => simp at h; subst h; simp
    | i + 1, h =>
      have := ih (i := i) (x := x) (by simpa using h)
      have e1 : (i + 1) * 2 = i * 2 + 1 + 1 := by omega
      rw [e1]
      simpa using this

set_option maxRecDepth 100000 in
set_option maxHeartbeats 8000000 in
theorem build_any (l : Lab) (a0 : Option Addr) (cap : Nat) (w : World) (h : l.In w) (ha0 : 0 < l.n → a0 = some ⟨l.B, l.O, none⟩) (hn : l.n + rs l.L l.n ≤ 1048576) :
    Calls Try.prog 8 #[.slice a0 l.n cap, .int .i64 0] w (Built l w) := by
  have hmm := @run_makeMap Try.prog
  obtain ⟨i9, hi9, hz9a, hz9b, hz9c⟩ := info_parts info9
  obtain ⟨i3, hi3, hz3a, hz3b, hz3c⟩ := info_parts info3
  obtain ⟨i36, hi36, hz36a, hz36b, hz36c⟩ := info_parts info36
  have hmk43 := run_make_row' (P := Try.prog) 38 43 (.map none) 8 Try.underlying38 info43 rfl .i64 .i64 l.n (by omega) (by omega)
  have hmk3 := run_make_row' (P := Try.prog) 39 3 (.int .i64 0) 8 Try.underlying39 info3 rfl .i64 .i64 l.n (by omega) (by omega)
  go_enter Try.func8, Try.ntmps8
  go_wp2
  go_loopg [9, 10, 11] l.n (fun g s9 s10 s11 wr => R1 l w g s9 s10 s11 wr)
  case atStart => exact R1_start w (by simp [madeCells]) (by simp [madeCells])
  case round =>
    obtain ⟨k, M, T, ks, ps, FK, FP, hk, rfl, rfl, hst, hks, hps⟩ := hrel
    clear hmk43 hmk3
    by_cases hlt : k < l.n
    · have hrs : rs l.L k + l.L k ≤ rs l.L l.n := rs_le hlt
      obtain rfl := ha0 (by omega)
      obtain ⟨⟨ve, hve⟩, hfe⟩ := hst.every_cell hlt
      have hlB := h.lt (by omega)
      have hlen := h.len k hlt
      have hrow : wr.cell? ⟨l.B, l.O + k, none⟩ = some (.slice (l.A k) (l.L k) (l.C k)) := (hst.below.cell (p := ⟨l.B, l.O + k, none⟩) hlB).trans (h.row k hlt)
      obtain ⟨hmkB, hM⟩ := R2_low hst
      have hr2 := R2_start hst (.int .i64 k)
      have HR2 : Hid _ := hr2
      clear hr2
      obtain ⟨mk, hmk⟩ : ∃ mk, mk = wr.heap.size := ⟨_, rfl⟩
      rw [← hmk] at hmkB hM HR2
      go_wp2
      rw [← hmk]
      clear hmk
      go_loopg [13] (l.L k) (fun g s13 wx => R2 l w k mk M (tagM T mk) ks ps FK FP u9 u10 g s13 wx)
      case atStart => exact HR2.out
      case round =>
        obtain ⟨j, F, hj, rfl, rfl, hst2, hF, hFv⟩ := hrel
        clear hve hfe hst hrow HR2
        have hrow : wr.cell? ⟨l.B, l.O + k, none⟩ = some (.slice (l.A k) (l.L k) (l.C k)) := (hst2.below.cell (p := ⟨l.B, l.O + k, none⟩) hlB).trans (h.row k hlt)
        by_cases hjl : j < l.L k
        · obtain ⟨ea, hrb⟩ := h.adr k hlt (by omega)
          rw [ea] at hrow
          clear ea
          have hkc : wr.cell? ⟨l.RB k, l.RO k + j * 2, none⟩ = some (.string (l.Ks k j)) := (hst2.below.cell (p := ⟨l.RB k, l.RO k + j * 2, none⟩) hrb).trans (h.key k j hlt hjl)
          have hvc : wr.cell? ⟨l.RB k, l.RO k + j * 2 + 1, none⟩ = some (.string (l.Vs k j)) := (hst2.below.cell (p := ⟨l.RB k, l.RO k + j * 2 + 1, none⟩) hrb).trans (h.val k j hlt hjl)
          obtain ⟨w1, hrun, hg1, hs1, hup⟩ := (hF.of_block (w' := wr.drew) rfl).update K9 Try.underlying43 (key9 (h.ksz k j hlt hjl)) (.string (l.Vs k j))
          have q1 : w1.cell? ⟨l.B, l.O + k, none⟩ = some (.slice (some ⟨l.RB k, l.RO k, none⟩) (l.L k) (l.C k)) := hg1.cell hrow (by simp; omega)
          have q2 : w1.cell? ⟨l.RB k, l.RO k + j * 2, none⟩ = some (.string (l.Ks k j)) := hg1.cell hkc (by simp; omega)
          have q3 : w1.cell? ⟨l.RB k, l.RO k + j * 2 + 1, none⟩ = some (.string (l.Vs k j)) := hg1.cell hvc (by simp; omega)
          have hr2 := R2_step hmkB hM hjl hst2 hFv hg1 hup
          have HR2 : Hid _ := hr2
          clear hr2
          go_wp2
          go_region_held3 (fun w' => w'.cell? ⟨l.B, l.O + k, none⟩ = some (.slice (some ⟨l.RB k, l.RO k, none⟩) (l.L k) (l.C k)) ∧ w'.cell? ⟨l.RB k, l.RO k + j * 2, none⟩ = some (.string (l.Ks k j)) ∧ w'.cell? ⟨l.RB k, l.RO k + j * 2 + 1, none⟩ = some (.string (l.Vs k j))) (go_keep) (fail)
          go_wp2
          go_roundg (l.L k - (j + 1))
          case rel => exact HR2.out
          case measure => omega
        · obtain ⟨⟨vm, hvm⟩, hfm⟩ := hst2.maps_cell hlt
          obtain rfl : j = l.L k := by omega
          have hr3 := R3_start hlt hmkB hst2 hF hFv hks hps
          have HR3 : Hid _ := hr3
          clear hr3
          go_wp2
          go_loopg [9, 10, 14] (l.L k) (fun g s9 s10 s14 wx => R3 l w k (fun i => if i = k then mk else M i) g s9 s10 s14 wx)
          case atStart => exact HR3.out
          case round =>
            clear hst2 hF hFv hrow hvm hfm HR3 hks hps
            obtain ⟨j, T, ks, ps, FK, FP, hj, rfl, rfl, hst, hks, hps⟩ := hrel
            have hrow : wr.cell? ⟨l.B, l.O + k, none⟩ = some (.slice (l.A k) (l.L k) (l.C k)) := (hst.below.cell (p := ⟨l.B, l.O + k, none⟩) hlB).trans (h.row k hlt)
            by_cases hjl : j < l.L k
            · obtain ⟨ea, hrb⟩ := h.adr k hlt (by omega)
              rw [ea] at hrow
              clear ea
              have hkc : wr.cell? ⟨l.RB k, l.RO k + j * 2, none⟩ = some (.string (l.Ks k j)) := (hst.below.cell (p := ⟨l.RB k, l.RO k + j * 2, none⟩) hrb).trans (h.key k j hlt hjl)
              have hvc : wr.cell? ⟨l.RB k, l.RO k + j * 2 + 1, none⟩ = some (.string (l.Vs k j)) := (hst.below.cell (p := ⟨l.RB k, l.RO k + j * 2 + 1, none⟩) hrb).trans (h.val k j hlt hjl)
              have hksz := h.ksz k j hlt hjl
              have hvsz := h.vsz k j hlt hjl
              obtain ⟨hmB, FM, hFM, hFMv⟩ := hst.role k (by omega)
              rw [if_pos rfl] at hFM hmB
              by_cases hhit : mr l k (l.Ks k j) = some (l.Vs k j)
              · have hv : (FM (.string (l.Ks k j))).getD (.string ByteArray.empty) = .string (l.Vs k j) := by rw [hFMv, hhit]; rfl
                have HV : Hid _ := hv
                have HH : Hid _ := hhit
                clear hv hhit hFMv
                obtain ⟨aK, nK, cK, sK, hgK, hnK, hsK, hsK2, hrK⟩ := hst.keyed.at2 (l.Ks k j)
                have HgK : Hid _ := hgK
                have HnK : Hid _ := hnK
                have HsK : Hid _ := hsK
                have HsK2 : Hid _ := hsK2
                have hlK : nK ≤ k + 1 := by rw [hnK]; exact LK_len l k j _
                clear hgK hnK hsK hsK2
                have hwsz := hst.size
                go_upto_if 111 with (first | (at_lookup; refine wpList_lookup_is _ rfl _ _ 43 rfl 9 9 K9 Try.underlying43 _ (zero9 _) mk FM rfl hFM _ _ _ rfl (key9 hksz) HV.out ?_) | (at_lookup; refine wpList_lookup_ok_is _ rfl _ _ 40 rfl 9 39 K9 Try.underlying40 _ (zero39 _) (w.heap.size + 2) FK rfl hst.keyed.1 _ _ _ rfl (key9 hksz) HgK.out _ HsK.out ?_))
                go_cut [9] (fun s9 wc => C1 l w k j (fun i => if i = k then mk else M i) ps FK FP u10 s9 wc)
                case first =>
                  cases sK with
                  | true =>
                    go_wp2
                    go_meet
                    case rel => exact C1_seen hst hks HsK2.out
                  | false =>
                    go_wp2_with (first | (at_builtin; refine wpList_append_lies _ rfl _ _ 42 rfl (w.heap.size + 4) 9 i9 (.string ByteArray.empty) 1 16 Try.underlying42 hi9 hz9a hz9b hz9c rfl (by decide) _ _ _ rfl (hst.keys.1.alloc _) ⟨wr.heap.size, 0, none⟩ 1 1 [.string (l.Ks k j)] rfl rfl (cell_one_new _ _ _) (by simp [Value.oneCell']) (by decide) (by unfold maxLen; omega) (by omega) (by simp; omega) (wr.heap.size + 1) (by simp) ?_; intro gN cN w1 hown1 hgrow1 hat1 hlt1))
                    go_meet
                    case rel => exact C1_new hksz hst hks hown1 hgrow1 hat1
                case rest =>
                  obtain ⟨T1, ks1, hin1, hks1, hst1⟩ := hcut
                  obtain ⟨hrK1, hnK1⟩ := hst1.keyed.at3 HgK.out
                  have HnK1 : Hid _ := hnK1
                  clear hnK1 hst hrow hkc hvc hFM hrK hwsz hks
                  have hwsz := hst1.size
                  go_upto_region 26 with fail
                  go_cut [128] (fun s128 wx => s128 = .bool (!seenK l k j (l.Ks k j)) ∧ wx = wc)
                  case first =>
                    rcases Nat.eq_zero_or_pos nK with h0 | hpos
                    · have hse := LK_empty (l := l) (k := k) (j := j) (x := l.Ks k j) (by rw [← HnK1.out]; exact h0)
                      have HSE : Hid _ := hse
                      clear hse
                      subst h0
                      go_wp2
                      go_meet
                      case rel => exact ⟨by rw [HSE.out]; rfl, rfl⟩
                    · obtain ⟨g, rfl, hc⟩ := hrK1.cells hpos
                      obtain ⟨u, hu, hule, hul⟩ := LK_last (l := l) (k := k) (j := j) (x := l.Ks k j) (by rw [← HnK1.out]; exact hpos)
                      have hcell : wc.cell? ⟨g, nK - 1, none⟩ = some (.int .i64 (u : Nat)) := hc _ _ (by rw [HnK1.out]; exact hu)
                      clear hc hu
                      cases hs : seenK l k j (l.Ks k j) with
                      | true =>
                        obtain rfl : u = k := Classical.byContradiction fun e => by rw [hul.1 e] at hs; cases hs
                        have HSE : Hid _ := hs
                        clear hul hs
                        go_wp2
                        go_meet
                        case rel => exact ⟨by rw [HSE.out]; simp; omega, rfl⟩
                      | false =>
                        have hne : u ≠ k := hul.2 hs
                        have HSE : Hid _ := hs
                        clear hul hs
                        go_wp2
                        go_meet
                        case rel => exact ⟨by rw [HSE.out]; simp; omega, rfl⟩
                  case rest =>
                    obtain ⟨rfl, rfl⟩ := hcut
                    go_upto_if 128 with fail
                    go_cut [] (fun wx => C2 l w k j (fun i => if i = k then mk else M i) ks1 ps FP u9 u10 wx)
                    case first =>
                      cases hs : seenK l k j (l.Ks k j) with
                      | true =>
                        have HS : Hid _ := hs
                        clear hs
                        go_wp2
                        go_meet
                        case rel => exact C2_old hst1 HH.out HS.out
                      | false =>
                        have HS : Hid _ := hs
                        clear hs
                        go_wp2_with (first | (at_builtin; refine wpList_append_lies _ rfl _ _ 39 rfl (w.heap.size + 4) 3 i3 (.int .i64 0) 1 8 Try.underlying39 hi3 hz3a hz3b hz3c rfl (by decide) _ _ _ rfl (hrK1.1.alloc _) ⟨wc.heap.size, 0, none⟩ 1 1 [.int .i64 k] rfl rfl (cell_one_new _ _ _) (by simp [Value.oneCell']) (by decide) (by unfold maxLen; omega) (by omega) (by simp; omega) (wc.heap.size + 1) (by simp) ?_; intro gN cN w1 hown1 hgrow1 hat1 hlt1) | (at_mapUpdate; refine wpList_mapUpdate_is _ rfl _ _ _ 40 rfl 9 39 K9 Try.underlying40 (w.heap.size + 2) FK rfl (hst1.keyed.1.of_block (low_kept hrK1 (by omega) (by omega) hgrow1)) _ _ _ rfl (key9 hksz) rfl ?_; intro w3 hg3 hs3 hup3))
                        go_meet
                        case rel => exact C2_new hst1 hin1 hrK1 HnK1.out HH.out HS.out hown1 hgrow1 hat1 hg3 hup3
                    case rest =>
                      obtain ⟨T2, FK2, hst2⟩ := hcut
                      clear hst1 hrK1 hwsz HgK HnK HsK HsK2 HnK1 hlK
                      obtain ⟨aP, nP, cP, sP, hgP, hnP, hsP, hsP2, hrP⟩ := hst2.labelled.at2 (l.Ks k j, l.Vs k j)
                      have HgP : Hid _ := hgP
                      have HnP : Hid _ := hnP
                      have HsP : Hid _ := hsP
                      have HsP2 : Hid _ := hsP2
                      have hlP : nP ≤ k + 1 := by rw [hnP]; exact LP_len l k j _
                      clear hgP hnP hsP hsP2
                      have hwsz := hst2.size
                      obtain ⟨lx, hkx⟩ := key36 (p := (l.Ks k j, l.Vs k j)) hksz hvsz
                      have HKX : Hid _ := hkx
                      clear hkx
                      obtain ⟨pb, hpb⟩ : ∃ pb, pb = wc.heap.size := ⟨_, rfl⟩
                      have hpbB : w.heap.size + 4 ≤ pb := by omega
                      have hpbn : some pb ≠ (Value.slice aP nP cP).ownBlock := fun e => by have := (hrP.1.lt pb e.symm).2; omega
                      have HPBN : Hid _ := hpbn
                      clear hpbn hrP
                      go_upto_if 145 with (first | (at_lookup; refine wpList_lookup_ok_is _ rfl _ _ 41 rfl 36 39 K36 Try.underlying41 _ (zero39 _) (w.heap.size + 3) FP rfl (hst2.alloc _).labelled.1 (encP (l.Ks k j, l.Vs k j)) _ _ rfl HKX.out HgP.out _ HsP.out ?_))
                      have hp0 : (wc.alloc (.cells #[.string (l.Ks k j), .string (l.Vs k j)] 36)).cell? ⟨pb, 0, none⟩ = some (.string (l.Ks k j)) := by rw [hpb]; simp
                      have hp1 : (wc.alloc (.cells #[.string (l.Ks k j), .string (l.Vs k j)] 36)).cell? ⟨pb, 1, none⟩ = some (.string (l.Vs k j)) := by rw [hpb]; simp
                      rw [← hpb]
                      have HPB : Hid _ := hpb
                      clear hpb
                      go_cut [10] (fun s10 wx => C3 l w k j (fun i => if i = k then mk else M i) ks1 FK2 FP u9 pb s10 wx)
                      case first =>
                        cases sP with
                        | true =>
                          go_wp2
                          go_meet
                          case rel => exact C3_seen hst2 hps HsP2.out hp0 hp1
                        | false =>
                          go_wp2_with (first | (at_builtin; refine wpList_append_lies _ rfl _ _ 34 rfl (w.heap.size + 4) 36 i36 (.agg #[.string ByteArray.empty, .string ByteArray.empty]) 2 32 Try.underlying34 hi36 hz36a hz36b hz36c rfl (by decide) _ _ _ rfl ((hst2.pairs.1.alloc _).alloc _) ⟨wc.heap.size + 1, 0, none⟩ 1 1 [.string (l.Ks k j), .string (l.Vs k j)] rfl rfl (World.news_of_block (by simpa using heap_alloc_new (wc.alloc _) _)) (by simp [Value.oneCell']) (by decide) (by unfold maxLen; omega) (by omega) (by simp; omega) (wc.heap.size + 1 + 1) (by simp) ?_; intro gN cN w1 hown1 hgrow1 hat1 hlt1))
                          go_meet
                          case rel => exact C3_new hksz hvsz hst2 hps HPB.out hp0 hp1 hown1 hgrow1 hat1
                      case rest =>
                        obtain ⟨T3, ps3, hin3, hps3, hst3, hq0, hq1⟩ := hcut
                        obtain ⟨hrP3, hnP3⟩ := hst3.labelled.at3 HgP.out
                        have HnP3 : Hid _ := hnP3
                        clear hst2 hp0 hp1 hwsz hps hnP3 HPB HgP HnP HsP HsP2
                        have hwsz := hst3.size
                        go_upto_region 32 with fail
                        go_cut [162] (fun s162 wx => s162 = .bool (!seenP l k j (l.Ks k j, l.Vs k j)) ∧ wx = wc)
                        case first =>
                          rcases Nat.eq_zero_or_pos nP with h0 | hpos
                          · have hse := LP_empty (l := l) (k := k) (j := j) (x := (l.Ks k j, l.Vs k j)) (by rw [← HnP3.out]; exact h0)
                            have HSE : Hid _ := hse
                            clear hse
                            subst h0
                            go_wp2
                            go_meet
                            case rel => exact ⟨by rw [HSE.out]; rfl, rfl⟩
                          · obtain ⟨g, rfl, hc⟩ := hrP3.cells hpos
                            obtain ⟨u, hu, hule, hul⟩ := LP_last (l := l) (k := k) (j := j) (x := (l.Ks k j, l.Vs k j)) (by rw [← HnP3.out]; exact hpos)
                            have hcell : wc.cell? ⟨g, nP - 1, none⟩ = some (.int .i64 (u : Nat)) := hc _ _ (by rw [HnP3.out]; exact hu)
                            clear hc hu
                            cases hs : seenP l k j (l.Ks k j, l.Vs k j) with
                            | true =>
                              obtain rfl : u = k := Classical.byContradiction fun e => by rw [hul.1 e] at hs; cases hs
                              have HSE : Hid _ := hs
                              clear hul hs
                              go_wp2
                              go_meet
                              case rel => exact ⟨by rw [HSE.out]; simp; omega, rfl⟩
                            | false =>
                              have hne : u ≠ k := hul.2 hs
                              have HSE : Hid _ := hs
                              clear hul hs
                              go_wp2
                              go_meet
                              case rel => exact ⟨by rw [HSE.out]; simp; omega, rfl⟩
                        case rest =>
                          obtain ⟨rfl, rfl⟩ := hcut
                          cases hs : seenP l k j (l.Ks k j, l.Vs k j) with
                          | true =>
                            have HS : Hid _ := hs
                            clear hs
                            go_wp2
                            go_roundg (l.L k - (j + 1))
                            case rel => exact R3_old hjl hst3 hks1 hps3 HH.out HS.out
                            case measure => omega
                          | false =>
                            have HS : Hid _ := hs
                            clear hs
                            go_wp2
                            go_region_held3 (fun w' => w'.cell? ⟨pb, 0, none⟩ = some (.string (l.Ks k j)) ∧ w'.cell? ⟨pb, 1, none⟩ = some (.string (l.Vs k j))) (go_keep) ((refine step_append_lies _ (by rfl) _ _ 39 (by rfl) (w.heap.size + 4) 3 i3 (.int .i64 0) 1 8 Try.underlying39 hi3 hz3a hz3b hz3c rfl (by decide) _ nP (ints (LP l k j (l.Ks k j, l.Vs k j))) (by rfl) ((hrP3.1.alloc _).drew) ⟨wc.heap.size, 0, none⟩ 1 1 [.int .i64 k] (by rfl) rfl (World.news_of_block (heap_alloc_new wc _)) (by simp [Value.oneCell']) (by decide) (by unfold maxLen; omega) (by omega) (by simp; omega) (wc.heap.size + 1) (by simp) ?_; intro gN cN w1 hown1 hgrow1 hat1 hlt1; have hgr1 := grownBy_of_drew hgrow1; have q0 := hgr1.cell ((World.grownBy_alloc wc _ none).cell hq0 (by simp)) HPBN.out; have q1 := hgr1.cell ((World.grownBy_alloc wc _ none).cell hq1 (by simp)) HPBN.out; obtain ⟨w3, hrun3, hg3, hs3, hup3⟩ := (hst3.labelled.1.of_block (w' := w1) (low_kept hrP3 (by omega) (by omega) hgr1)).update K36 Try.underlying41 HKX.out (.slice (some ⟨gN, 0, none⟩) (nP + 1) cN); have q2 := hg3.cell q0 (by simp; omega); have q3 := hg3.cell q1 (by simp; omega); have hrun4 : (Instr.mapUpdate 41 (.map (some (w.heap.size + 1 + 1 + 1))) (.agg #[.string (l.Ks k j), .string (l.Vs k j)]) (.slice (some ⟨gN, 0, none⟩) (nP + 1) cN)).run Try.prog w1 = .ok () w3 := hrun3; clear hrun3))
                            go_wp2
                            go_roundg (l.L k - (j + 1))
                            case rel => exact R3_new hjl hst3 hks1 hps3 hin3 hrP3 HnP3.out HH.out HS.out hown1 (World.grownBy_alloc wc _ none) hgr1 (by simpa using hat1) hg3 hup3
                            case measure => omega
              · obtain ⟨s, hs⟩ := Option.isSome_iff_exists.1 (lastV_isSome (K := l.Ks k) (V := l.Vs k) hjl rfl)
                have hv : (FM (.string (l.Ks k j))).getD (.string ByteArray.empty) = .string s := by rw [hFMv, show mr l k (l.Ks k j) = some s from hs]; rfl
                have hne : (s.toList == (l.Vs k j).toList) = false := beq_ne fun e => hhit (by rw [← e]; exact hs)
                have HV : Hid _ := hv
                have HH : Hid _ := hhit
                clear hv hs hhit hFMv
                go_wp2_with (first | (at_lookup; refine wpList_lookup_is _ rfl _ _ 43 rfl 9 9 K9 Try.underlying43 _ (zero9 _) mk FM rfl hFM _ _ _ rfl (key9 hksz) HV.out ?_))
                go_roundg (l.L k - (j + 1))
                case rel => exact R3_skip hjl hst hks hps HH.out
                case measure => omega
            · go_wp2
              go_roundg (l.n - (k + 1))
              case rel => exact R1_next hlt (by omega) hst hks hps
              case measure => omega
    · obtain rfl : k = l.n := by omega
      obtain ⟨wE, hwE⟩ : ∃ wE, wE = wr := ⟨_, rfl⟩
      subst hwE
      obtain ⟨a9, c9, rfl, hc9⟩ := row_shape hst.keys
      obtain ⟨a10, c10, rfl, hc10⟩ := row_shape hst.pairs
      have hlk : ks.length ≤ 1048576 := by omega
      have hlp : ps.length ≤ 1048576 := by omega
      obtain ⟨N, hN⟩ : ∃ N, N = wE.heap.size := ⟨_, rfl⟩
      have hr4 := R4_start wE (.slice (some ⟨w.heap.size, 0, none⟩) l.n l.n) (.slice (some ⟨w.heap.size + 1, 0, none⟩) l.n l.n) ks FK
      rw [← hN] at hr4
      have HR4 : Hid _ := hr4
      clear hr4
      go_wp2_with (first | (go_at_call 18; refine (newIndex_any _ _ _ _ _ _ _ _).mono ?_; rintro e w' ⟨rfl, rfl⟩))
      rw [← hN]
      have HN : Hid _ := hN
      clear hN
      go_loopg [23] ks.length (fun g s23 wx => R4 N wE (.slice (some ⟨w.heap.size, 0, none⟩) l.n l.n) (.slice (some ⟨w.heap.size + 1, 0, none⟩) l.n l.n) ks FK g s23 wx)
      case atStart => exact HR4.out
      case round =>
        obtain ⟨i, F, hi, rfl, rfl, hix, hFx⟩ := hrel
        have hszE := hst.size
        by_cases hil : i < ks.length
        · obtain ⟨g, ea, hgN, hcs⟩ := hc9 (by omega)
          subst ea
          obtain ⟨x, hx⟩ : ∃ x, ks[i]? = some x := ⟨_, List.getElem?_eq_getElem hil⟩
          have hxs : x.size ≤ 9223372036854775807 := hst.okK x (List.mem_of_getElem? hx)
          have hcell : wr.cell? ⟨g, i, none⟩ = some (.string x) := (hix.below.cell (p := ⟨g, i, none⟩) (by rw [HN.out]; exact hgN)).trans (hcs i _ (by simp [strs', hx]))
          obtain ⟨aK, nK, cK, sK, hgK, hnK, hsK, hsK2, hrK⟩ := hst.keyed.at2 x
          have hmE : MapIs Try.prog 9 wr.drew (w.heap.size + 1 + 1) FK := hst.keyed.1.of_block (hix.below.block _ (by rw [HN.out]; omega))
          have hrun : (Instr.lookup 40 (.map (some (w.heap.size + 1 + 1))) (.string x) false).run Try.prog wr.drew = .ok (.slice aK nK cK) wr.drew := by
            rw [hmE.look K9 Try.underlying40 (zero39 _) (key9 hxs) false]
            simp [hgK]
          have h3 := hix.cell3
          have HgK : Hid _ := hgK
          have HX : Hid _ := hx
          clear hgK hnK hsK hsK2 hrK hx
          go_wp2
          go_region_held3 (fun w' => w'.cell? ⟨g, i, none⟩ = some (.string x)) (go_keep) ((go_at_call 19; refine (setKeyed_any (N + 3) (N + 1) x aK nK cK F wr.drew hxs h3 (hix.keyed.of_block rfl)).mono ?_; rintro e w' ⟨rfl, hg3, hs3, hup3⟩; have q0 : w'.cell? ⟨g, i, none⟩ = some (.string x) := (grownBy_of_drew hg3).cell hcell (by simp; have := HN.out; omega)))
          go_wp2
          go_roundg (ks.length - (i + 1))
          case rel => exact R4_step hix hil HX.out hFx (grownBy_of_drew hg3) (by rw [HgK.out]; exact hup3)
          case measure => omega
        · obtain rfl : i = ks.length := by omega
          rw [List.take_length] at hFx
          go_wp2
          go_loopg [24] ps.length (fun g s24 wx => R5 N wE (.slice (some ⟨w.heap.size, 0, none⟩) l.n l.n) (.slice (some ⟨w.heap.size + 1, 0, none⟩) l.n l.n) ps FP F g s24 wx)
          case atStart => exact R5_start hix
          case round =>
            clear hix
            obtain ⟨i, F5, hi, rfl, rfl, hix, hF5⟩ := hrel
            by_cases hil : i < ps.length
            · obtain ⟨g, ea, hgN, hcs⟩ := hc10 (by omega)
              subst ea
              obtain ⟨x, hx⟩ : ∃ x, ps[i]? = some x := ⟨_, List.getElem?_eq_getElem hil⟩
              obtain ⟨hxs, hys⟩ := hst.okP x (List.mem_of_getElem? hx)
              have hcell0 : wr.cell? ⟨g, i * 2, none⟩ = some (.string x.1) := (hix.below.cell (p := ⟨g, i * 2, none⟩) (by rw [HN.out]; exact hgN)).trans (hcs _ _ (prs_get hx).1)
              have hcell1 : wr.cell? ⟨g, i * 2 + 1, none⟩ = some (.string x.2) := (hix.below.cell (p := ⟨g, i * 2 + 1, none⟩) (by rw [HN.out]; exact hgN)).trans (hcs _ _ (prs_get hx).2)
              obtain ⟨aK, nK, cK, sK, hgK, hnK, hsK, hsK2, hrK⟩ := hst.labelled.at2 x
              obtain ⟨lx, hkx⟩ := key36 hxs hys
              have hmE : MapIs Try.prog 36 wr.drew (w.heap.size + 1 + 1 + 1) FP := hst.labelled.1.of_block (hix.below.block _ (by rw [HN.out]; omega))
              have hrun : (Instr.lookup 41 (.map (some (w.heap.size + 1 + 1 + 1))) (.agg #[.string x.1, .string x.2]) false).run Try.prog wr.drew = .ok (.slice aK nK cK) wr.drew := by
                have := hmE.look K36 Try.underlying41 (zero39 _) hkx false
                rw [hgK] at this
                exact this
              have h3 := hix.cell2
              have HgK : Hid _ := hgK
              have HX : Hid _ := hx
              clear hgK hnK hsK hsK2 hrK hx hkx
              go_wp2
              go_region_held3 (fun w' => w'.cell? ⟨g, i * 2, none⟩ = some (.string x.1) ∧ w'.cell? ⟨g, i * 2 + 1, none⟩ = some (.string x.2)) (go_keep) ((go_at_call 20; refine (setLabelled_any (N + 3) N x aK nK cK F5 wr.drew hxs hys h3 (hix.labelled.of_block rfl)).mono ?_; rintro e w' ⟨rfl, hg3, hs3, hup3⟩; have q0 : w'.cell? ⟨g, i * 2, none⟩ = some (.string x.1) := (grownBy_of_drew hg3).cell hcell0 (by simp; have := HN.out; omega); have q1 : w'.cell? ⟨g, i * 2 + 1, none⟩ = some (.string x.2) := (grownBy_of_drew hg3).cell hcell1 (by simp; have := HN.out; omega)))
              go_wp2
              go_roundg (ps.length - (i + 1))
              case rel => exact R5_step hix hil HX.out hF5 (grownBy_of_drew hg3) (by rw [HgK.out]; exact hup3)
              case measure => omega
            · obtain rfl : i = ps.length := by omega
              rw [List.take_length] at hF5
              go_wp2
              go_ret
              exact built_of HN.out hst hix hFx hF5
end Go.Proofs.Qxb6601594a
