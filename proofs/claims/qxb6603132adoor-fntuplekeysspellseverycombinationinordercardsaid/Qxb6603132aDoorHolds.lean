/- zzKeyHolds. -/
import Derived.Test.Qxb6603132aDoorKeys
import Derived.Test.Qxb6603132aDoorParse
namespace Go.Proofs.Qxb6603132aDoor
open Go Go.RowKit

def R9a (n : Nat) (ln : Nat → Nat) (k A : Nat) (w : World) (g : Nat) (s2 s9 : Value) (wx : World) : Prop :=
  ∃ p : Nat, p ≤ n ∧ p = g ∧ s9 = .int .i64 ((p : Int) - 1) ∧ s2 = .int .i64 (qs ln n k (n - p) : Nat) ∧ Row A n (fun i => .int .i64 ((if p ≤ i then dig ln n k i else 0 : Nat) : Int)) wx ∧ Below A w wx

def RetTrue (w : World) (e : Ending) (w' : World) : Prop := e = .returned (.bool true) ∧ Below w.heap.size w w'

def R9b (n : Nat) (ln : Nat → Nat) (S : Nat → Nat → ByteArray) (k A : Nat) (w : World) (g : Nat) (s10 s11 : Value) (wx : World) : Prop :=
  ∃ j : Nat, j < n ∧ g = n - j ∧ s11 = .int .i64 (j : Nat) ∧ s10 = .int .i64 ((tx n S (dig ln n k) j).length : Nat) ∧ Row A n (fun i => .int .i64 (dig ln n k i : Nat)) wx ∧ Below A w wx
def R9c (p D : Nat) (w : World) (g : Nat) (s13 : Value) (wx : World) : Prop :=
  w = wx ∧ ∃ q : Nat, p ≤ q ∧ q ≤ p + D ∧ g = p + D - q ∧ s13 = .int .i64 (q : Nat)
def R9f (w : World) (s : Value) (wx : World) : Prop := w = wx ∧ s = .bool false
def R9d (p D : Nat) (N : List UInt8) (w : World) (g : Nat) (s15 s16 : Value) (wx : World) : Prop :=
  w = wx ∧ ∃ r : Nat, p ≤ r ∧ r ≤ p + D ∧ g = p + D - r ∧ s16 = .int .i64 (r : Nat) ∧ s15 = .int .i64 ((N.take (r - p)).foldl rd 0 : Nat)

theorem rd_ge : ∀ (L : List UInt8) (a : Nat), a ≤ L.foldl rd a
  | [], _ => Nat.le_refl _
  | b :: L, a => Nat.le_trans (by unfold rd; omega) (rd_ge L (rd a b))
theorem rd_take (L : List UInt8) (t : Nat) : (L.take t).foldl rd 0 ≤ L.foldl rd 0 := by
  conv => rhs; rw [← List.take_append_drop t L]
  rw [List.foldl_append]
  exact rd_ge _ _
theorem rd_step (L : List UInt8) (t : Nat) (h : t < L.length) : (L.take (t + 1)).foldl rd 0 = (L.take t).foldl rd 0 * 10 + (L[t].toNat - 48) := by
  rw [List.take_succ_eq_append_getElem h, List.foldl_append]
  rfl

theorem Row.drewN {g n : Nat} {f : Nat → Value} {w : World} (h : Row g n f w) (m : Nat) : Row g n f (w.drewN m) := h
theorem below_drewN {B : Nat} {w w1 : World} (h : Below B w w1) (m : Nat) : Below B w (w1.drewN m) := ⟨h.os, h.tape, h.output, h.size, h.block⟩

set_option maxRecDepth 100000 in
set_option maxHeartbeats 4000000 in
theorem holds_any {b o n cap : Nat} {ad : Nat → Option Addr} {ln cp : Nat → Nat} {S : Nat → Nat → ByteArray} (w : World) (h : Ls b o n ad ln cp S w) (h2 : 2 ≤ n) (hn6 : n ≤ 65536) (hF : FitB n ln S) (hNZ : ∀ i, i < n → ln i ≠ 0) (k : Nat) (hk : k < 65536) :
    Calls Tryd.prog 9 #[.string ⟨(tx n S (dig ln n k) n).toArray⟩, .slice (some ⟨b, o, none⟩) n cap, .int .i64 (k : Nat)] w (RetTrue w) := by
  obtain ⟨i3, hi3, hz3, hs3, hb3⟩ := info_parts Tryd.info3'
  have hb : b < w.heap.size := World.block_lt_of_cell? w _ (h.out 0 (by omega))
  have H := hid h
  have HF := hid hF
  have HNZ := hid hNZ
  clear h hF hNZ
  obtain ⟨K, hK⟩ : ∃ K : ByteArray, K = ⟨(tx n S (dig ln n k) n).toArray⟩ := ⟨_, rfl⟩
  rw [← hK]
  have HK := hid hK
  clear hK
  go_enter Tryd.func9, Tryd.ntmps9
  go_wp2_with (at_make; refine wpList_make_full _ rfl _ _ 35 rfl w.heap.size 3 i3 (.int .i64 0) 1 Tryd.underlying35 hi3 hz3 hs3 .i64 .i64 _ _ n rfl rfl rfl rfl (by rw [hb3]; omega) (by unfold maxLen; omega) (Nat.le_refl _) ?_)
  intro w1 hown1 hgrow1
  have HB1 := hid ((Below.refl w.heap.size w).grown hgrow1 (Nat.le_refl _) (fun _ e => by cases e))
  have HR1 := hid (Row.made (z := .int .i64 0) hown1)
  clear hown1 hgrow1
  go_wp2
  go_loopg [2, 9] n (fun g s2 s9 wx => R9a n ln k w.heap.size w g s2 s9 wx)
  case atStart => exact ⟨n, Nat.le_refl _, rfl, rfl, by rw [Nat.sub_self]; rfl, HR1.out.eq (fun i hi => by rw [if_neg (by omega)]; rfl), HB1.out⟩
  case round =>
    clear HB1 HR1
    obtain ⟨p, hp, hge, rfl, rfl, hrow, hbel⟩ := hrel
    subst hge
    have HRow := hid hrow
    have HBel := hid hbel
    clear hrow hbel
    cases p with
    | zero =>
      have HR0 := hid (HRow.out.eq (f' := fun i => .int .i64 (dig ln n k i : Nat)) (fun i hi => by rw [if_pos (Nat.zero_le i)]))
      obtain ⟨wo, hwo⟩ : ∃ wo, wo = wr := ⟨_, rfl⟩
      subst hwo
      clear HRow
      go_wp2
      go_loopg [10, 11] n (fun g s10 s11 wx => R9b n ln S k w.heap.size w g s10 s11 wx)
      case atStart => exact ⟨0, by omega, by omega, rfl, rfl, HR0.out, HBel.out⟩
      case round =>
        clear HR0 HBel
        obtain ⟨j, hj, rfl, rfl, rfl, hrow, hbel⟩ := hrel
        have HR := hid hrow
        have HB := hid hbel
        clear hrow hbel
        have hnz := Nat.pos_of_ne_zero (HNZ.out j hj)
        obtain ⟨bi, oi, ea, hcs⟩ := H.out.inn j hj hnz
        have hdl : dig ln n k j < ln j := Nat.mod_lt _ hnz
        have hbi := World.block_lt_of_cell? w _ (hcs _ hdl)
        have hc : wr.cell? ⟨b, o + j, none⟩ = some (.slice (some ⟨bi, oi, none⟩) (ln j) (cp j)) := by rw [HB.out.cell hb, ← ea]; exact H.out.out j hj
        have hst : wr.cell? ⟨bi, oi + dig ln n k j, none⟩ = some (.string (S j (dig ln n k j))) := by rw [HB.out.cell hbi]; exact hcs _ hdl
        have hat := (HR.out.2 j hj).1
        have hlj := (HF.out j hj).1
        have hss := (HF.out j hj).2 _ hdl
        clear ea hcs
        have hKs : K.size ≤ n * 1048600 := by
          rw [HK.out, size_mk]
          exact tx_le n (fun i' hi' => (HF.out i' (by omega)).2 _ (Nat.mod_lt _ (Nat.pos_of_ne_zero (HNZ.out i' (by omega)))))
        obtain ⟨v, hv⟩ : ∃ v, v = S j (dig ln n k j) := ⟨_, rfl⟩
        obtain ⟨p, hp⟩ : ∃ p, p = (tx n S (dig ln n k) j).length := ⟨_, rfl⟩
        rw [← hv] at hst hss
        rw [← hp]
        by_cases hlast : j + 1 < n
        · obtain ⟨hP, hlen⟩ := piece_at hlast HK.out
          rw [← hp] at hP hlen
          rw [← hv] at hP hlen
          obtain ⟨D, hD⟩ : ∃ D, D = (Lib.decDigits v.size).length := ⟨_, rfl⟩
          rw [← hD] at hP hlen
          have hD9 : D ≤ 9 := by rw [hD]; exact dec_len (by omega)
          have hD0 : 0 < D := by rw [hD]; exact List.length_pos_iff.2 (dec_ne _)
          have hfit := hP.fits
          have HP := hid hP
          have HLen := hid hlen
          have HV := hid hv
          have HPp := hid hp
          have HD := hid hD
          clear hP hlen hv hp hD
          have HDig : Hid (∀ q, p ≤ q → q < p + D → (h : q < K.size) → 48 ≤ K[q].toNat ∧ K[q].toNat ≤ 57) := hid (fun q h1 h2 h => by
            obtain ⟨i, rfl⟩ : ∃ i, q = p + i := ⟨q - p, by omega⟩
            rw [HP.out.dig i (by omega) h]
            exact dec_dig _ _ (List.getElem_mem _))
          have hne : ((j : Int) == (n : Int) - 1) = false := by simp; omega
          go_upto_region 12 with (fail)
          go_quiet (fail)
          go_wp2
          clear hc hst hat hne
          obtain ⟨wd, hwd⟩ : ∃ wd, wd = wr.drewN nq := ⟨_, rfl⟩
          rw [← hwd]
          have HWR := hid (HR.out.drewN nq)
          have HWB := hid (below_drewN HB.out nq)
          rw [← hwd] at HWR HWB
          clear hwd HR HB
          go_loopg [13] D (fun g s13 wx => R9c p D wd g s13 wx)
          case atStart => exact ⟨rfl, p, Nat.le_refl _, by omega, by omega, rfl⟩
          case round =>
            obtain ⟨rfl, q, hpq, hqD, rfl, rfl⟩ := hrel
            by_cases hq : q < p + D
            · obtain ⟨hd1, hd2⟩ := HDig.out q hpq hq (by omega)
              have hd1' : (48 : Int) ≤ ((K[q]'(by omega)).toNat : Int) := by omega
              have hd2' : ((K[q]'(by omega)).toNat : Int) ≤ 57 := by omega
              clear hd1 hd2
              go_wp2
              go_roundg (p + D - (q + 1))
              case rel => exact ⟨rfl, q + 1, by omega, by omega, rfl, by go_num⟩
              case measure => omega
            · have hqe : q = p + D := by omega
              have hqs : q < K.size := by omega
              have hcol : (K[q]'hqs).toNat = 58 := by subst hqe; rw [HP.out.colon hqs]; rfl
              have hg57 : (57 : Int) < ((K[q]'hqs).toNat : Int) := by omega
              have hg48 : (48 : Int) ≤ ((K[q]'hqs).toNat : Int) := by omega
              have hg58 : (((K[q]'hqs).toNat : Int) != 58) = false := by simp; omega
              have hs0 : ((q : Int) - (p : Int) == 0) = false := by simp; omega
              have hs9 : (q : Int) - (p : Int) ≤ 9 := by omega
              have hsz : ((q : Int) == (K.size : Int)) = false := by simp; omega
              have HQ := hid hqe
              clear hqe hcol hq
              have hps : p < K.size := by omega
              go_upto_region 21 with (fail)
              clear hg57 hg48 hg58 hs0 hs9 hsz
              go_cut [115] (fun s wx => R9f wd s wx)
              case first =>
                as_aux_lemma =>
                  by_cases h48 : ((K[p]'hps).toNat : Int) = 48
                  · have hb48 : (((K[p]'hps).toNat : Int) == 48) = true := by simp; omega
                    have hD1 : (q : Int) - (p : Int) ≤ 1 := by
                      rcases Nat.lt_or_ge 1 D with h1 | h1
                      · exfalso
                        have h3 := HP.out.dig 0 hD0 (by omega)
                        refine dec_head v.size (by rw [← HD.out]; exact h1) _ (List.getElem?_eq_getElem (by rw [← HD.out]; omega)) ?_
                        rw [← h3]
                        simp only [Nat.add_zero]
                        omega
                      · have := HQ.out; omega
                    go_wp2
                    go_meet
                    case rel => exact ⟨rfl, by first | rfl | (simp; omega)⟩
                  · have hb48 : (((K[p]'hps).toNat : Int) == 48) = false := by simp; omega
                    go_wp2
                    go_meet
                    case rel => exact ⟨rfl, rfl⟩
              case rest =>
                as_aux_lemma =>
                  obtain ⟨rfl, rfl⟩ := hcut
                  go_wp2
                  go_loopg [15, 16] D (fun g s15 s16 wx => R9d p D (Lib.decDigits v.size) wd g s15 s16 wx)
                  case atStart => exact ⟨rfl, p, Nat.le_refl _, by omega, by omega, rfl, by rw [Nat.sub_self]; rfl⟩
                  case round =>
                    obtain ⟨rfl, r, hpr, hrD, rfl, rfl, rfl⟩ := hrel
                    have hx := rd_take (Lib.decDigits v.size) (r - p)
                    rw [dec_fold] at hx
                    obtain ⟨x, hxe⟩ : ∃ x, x = ((Lib.decDigits v.size).take (r - p)).foldl rd 0 := ⟨_, rfl⟩
                    rw [← hxe] at hx ⊢
                    have HX := hid hxe
                    clear hxe
                    by_cases hr : r < p + D
                    · have hrq : (r : Int) < (q : Int) := by have := HQ.out; omega
                      have hrs : r < K.size := by omega
                      obtain ⟨hd1, hd2⟩ := HDig.out r hpr hr hrs
                      go_wp2
                      go_roundg (p + D - (r + 1))
                      case rel =>
                        refine ⟨rfl, r + 1, by omega, by omega, rfl, by go_num, ?_⟩
                        rw [show r + 1 - p = (r - p) + 1 by omega, rd_step _ _ (by rw [← HD.out]; omega), ← HX.out]
                        have h3 := HP.out.dig (r - p) (by omega) (by omega)
                        have h4 : (K[p + (r - p)]'(by omega)).toNat = (K[r]'hrs).toNat := by
                          have : p + (r - p) = r := by omega
                          simp only [this]
                        rw [← h3, h4]
                        congr 1
                        omega
                      case measure => omega
                    · have hrq : (q : Int) ≤ (r : Int) := by have := HQ.out; omega
                      obtain rfl : x = v.size := by
                        rw [HX.out, show r - p = (Lib.decDigits v.size).length by rw [← HD.out]; omega, List.take_length]
                        exact dec_fold _
                      have hqD2 := HQ.out
                      have hfit2 : (v.size : Int) ≤ (K.size : Int) - ((q : Int) + 1) := by omega
                      have hfit3 : (q : Int) + 1 + (v.size : Int) ≤ (K.size : Int) := by omega
                      have hext : K.extract ((q : Int) + 1).toNat ((q : Int) + 1 + (v.size : Int)).toNat = v := by
                        rw [show ((q : Int) + 1).toNat = p + D + 1 by omega, show ((q : Int) + 1 + (v.size : Int)).toNat = p + D + 1 + v.size by omega]
                        exact HP.out.ext
                      have hsl : ∀ W, (Instr.slice 9 (.string K) (some (.int .i64 ((q : Int) + 1))) (some (.int .i64 ((q : Int) + 1 + (v.size : Int)))) none).run Tryd.prog W = .ok (.string v) W := fun W => by
                        rw [run_slice_string W 9 K .i64 .i64 _ _ Tryd.underlying9 (by omega) (by omega) hfit3, hext]
                      clear hext
                      clear hqD2 HX
                      go_wp2
                      go_roundg (n - (j + 1))
                      case rel => exact ⟨j + 1, hlast, rfl, by go_num, by rw [HLen.out, ← HQ.out]; go_num, HWR.out, HWB.out⟩
                      case measure => omega
        · obtain ⟨hl1, hl2⟩ := last_at (show j + 1 = n by omega) HK.out
          rw [← hp] at hl1 hl2
          rw [← hv] at hl2
          have heq : ((j : Int) == (n : Int) - 1) = true := by simp; omega
          have HL2 := hid hl2
          clear hl2 hv hp
          go_upto_region 12 with (fail)
          go_quiet (fail)
          go_wp2
          go_ret
          exact ⟨by simp [HL2.out], below_drewN HB.out _⟩
    | succ q =>
      have hq : q < n := by omega
      have e1 : (((q + 1 : Nat) : Int) - 1) = (q : Int) := by omega
      rw [e1]
      clear e1
      have hnz := Nat.pos_of_ne_zero (HNZ.out q hq)
      have hlq := (HF.out q hq).1
      have hne : ¬ ((ln q : Int) = 0) := by omega
      have hcc := (HRow.out.2 q hq).1
      have hfr := (HRow.out.2 q hq).2
      have hc : wr.cell? ⟨b, o + q, none⟩ = some (.slice (ad q) (ln q) (cp q)) := by rw [HBel.out.cell hb]; exact H.out.out q hq
      have hc1 : ∀ v, (wr.setCell ⟨w.heap.size, q, none⟩ v).cell? ⟨b, o + q, none⟩ = some (.slice (ad q) (ln q) (cp q)) := fun v => by
        rw [World.cell?_setCell_other _ _ _ _ (fun he => by have h9 : w.heap.size = b := congrArg Addr.block he; omega)]; exact hc
      have hq1 : qs ln n k (n - q) = qs ln n k (n - (q + 1)) / ln q := by
        rw [show n - q = (n - (q + 1)) + 1 by omega]
        simp only [qs]
        rw [show n - 1 - (n - (q + 1)) = q by omega]
      have hq2 : dig ln n k q = qs ln n k (n - (q + 1)) % ln q := by
        unfold dig
        rw [show n - 1 - q = n - (q + 1) by omega]
      have hqk : qs ln n k (n - (q + 1)) ≤ 65536 := by
        rw [qs_div]
        exact Nat.le_trans (Nat.div_le_self _ _) (by omega)
      have HQ1 := hid hq1
      have HQ2 := hid hq2
      clear hq1 hq2
      go_wp2
      go_roundg q
      case rel =>
        have hdiv : ((qs ln n k (n - (q + 1)) : Nat) : Int) / (ln q : Int) = ((qs ln n k (n - (q + 1)) / ln q : Nat) : Int) := by simp
        have hdl := Nat.div_le_self (qs ln n k (n - (q + 1))) (ln q)
        have hw64 : ∀ x : Nat, x ≤ 65536 → wrap64 (x : Int) = (x : Int) := fun x hx => IntWalk.wrap64_in _ ⟨by omega, by omega⟩
        refine ⟨q, by omega, rfl, by go_num, by rw [HQ1.out, hdiv, hw64 _ (Nat.le_trans hdl hqk)], (HRow.out.set hq _).eq (fun i hi => ?_), HBel.out.setCell (Nat.le_refl _) _⟩
        by_cases e : i = q
        · subst e
          simp only [if_true, HQ2.out, Nat.le_refl]
          simp
        · simp only [if_neg e]
          by_cases e2 : q + 1 ≤ i
          · simp only [if_pos e2, if_pos (show q ≤ i by omega)]
          · simp only [if_neg e2, if_neg (show ¬ q ≤ i by omega)]
      case measure => omega
end Go.Proofs.Qxb6603132aDoor
