/- (*zzIndentModelB1).number, with emit off. -/
import Derived.Test.Qxb6603067aWord
import Derived.Deep.DeepCutAuto
namespace Go.Proofs.Qxb6603067a
open Go Go.RowKit

def Pl (c : Nat → Int) (p q : Nat) : Prop := p ≤ q ∧ ∀ i, p ≤ i → i < q → plainB (c i)
theorem Pl.refl (c : Nat → Int) (p : Nat) : Pl c p p := ⟨Nat.le_refl _, fun i h1 h2 => by omega⟩
theorem Pl.snoc {c : Nat → Int} {p q : Nat} (h : Pl c p q) (hb : plainB (c q)) : Pl c p (q + 1) := by
  refine ⟨by have := h.1; omega, fun i h1 h2 => ?_⟩
  by_cases e : i = q
  · rw [e]; exact hb
  · exact h.2 i h1 (by omega)
theorem plain_dig {b : Int} (h : digB b = true) : plainB b := by
  simp [digB] at h
  unfold plainB
  omega
theorem plain_eq {b k : Int} (h : (b == k) = true) (hk : plainB k) : plainB b := by
  have : b = k := by simpa using h
  rw [this]; exact hk

def RP (c : Nat → Int) (p n : Nat) (w : World) (s1 : Value) (wx : World) : Prop :=
  wx = w ∧ ∃ q : Nat, q ≤ n ∧ s1 = .int .i64 q ∧ Pl c p q
def RL (c : Nat → Int) (p n : Nat) (w : World) (g : Nat) (s1 : Value) (wx : World) : Prop :=
  w = wx ∧ ∃ q : Nat, q ≤ n ∧ g = n - q ∧ s1 = .int .i64 q ∧ Pl c p q
def RB (X : Prop) (w : World) (s : Value) (wx : World) : Prop := wx = w ∧ ∃ t : Bool, s = .bool t ∧ (t = true → X)
def RG (c : Nat → Int) (n q : Nat) (w : World) (s : Value) (wx : World) : Prop := wx = w ∧ ∃ t : Bool, s = .bool t ∧ (t = false → q < n ∧ digB (c q) = true)
def RI (p q : Nat) (w : World) (g : Nat) (s7 : Value) (wx : World) : Prop := w = wx ∧ ∃ k : Nat, p ≤ k ∧ k ≤ q ∧ g = q - k ∧ s7 = .int .i64 k

set_option maxRecDepth 100000 in
set_option maxHeartbeats 8000000 in
theorem num_any {bm cb co n cap : Nat} {c : Nat → Int} (p : Nat) (w : World) (h : MB bm cb co n cap c w) (hp : p < n) :
    Calls Try.prog 44 #[.pointer (some ⟨bm, 0, none⟩), .int .i64 (p : Nat)] w (RetV c p n w) := by
  have m0 := h.m0
  have m3 := h.m3
  have hn := h.hn
  have hc := h.ch p hp
  have H := hid h
  clear h
  go_enter Try.func44, Try.ntmps44
  go_upto_if 16 with (fail)
  go_cut [1] (fun s1 wx => RP c p n w s1 wx)
  case first =>
    as_aux_lemma =>
      cases e45 : (c p == 45) with
      | true =>
        have hb := hid (plain_eq e45 (by unfold plainB; omega))
        go_wp2
        go_meet
        case rel => exact ⟨rfl, p + 1, by omega, by go_num, (Pl.refl c p).snoc hb.out⟩
      | false =>
        go_wp2
        go_meet
        case rel => exact ⟨rfl, p, by omega, rfl, Pl.refl c p⟩
  case rest =>
    as_aux_lemma =>
      obtain ⟨rfl, q, hqn, rfl, hpl⟩ := hcut
      have HP := hid hpl
      have hpq := hpl.1
      clear hpl
      clear hc
      go_upto_region 4 with (fail)
      go_cut [36] (fun s wx => RG c n (q) wc s wx)
      case first =>
        as_aux_lemma =>
          by_cases hq : q < n
          · have hcq := H.out.ch (q) hq
            cases hdg : digB (c (q)) with
            | true =>
              go_wp2_with (first | (go_at_call 24; refine (digit_any _ _).mono ?_; rintro e w' ⟨rfl, rfl⟩; rw [hdg]))
              go_meet
              case rel => exact ⟨rfl, false, by first | rfl | (simp; omega), fun _ => ⟨hq, hdg⟩⟩
            | false =>
              go_wp2_with (first | (go_at_call 24; refine (digit_any _ _).mono ?_; rintro e w' ⟨rfl, rfl⟩; rw [hdg]))
              go_meet
              case rel => exact ⟨rfl, true, rfl, fun h => by cases h⟩
          · go_wp2
            go_meet
            case rel => exact ⟨rfl, true, rfl, fun h => by cases h⟩
      case rest =>
        as_aux_lemma =>
          obtain ⟨rfl, t, rfl, ht⟩ := hcut
          cases t with
          | true =>
            clear ht
            go_wp2
            go_ret2
            exact RetV.no
          | false =>
            obtain ⟨hq, hdg⟩ := ht rfl
            have HD := hid (plain_dig hdg)
            clear ht hdg
            have hcq := H.out.ch q hq
            go_upto_if 45 with (fail)
            go_cut [1] (fun s1 wx => RP c p n wc s1 wx)
            case first =>
              as_aux_lemma =>
                cases e48 : (c q == 48) with
                | true =>
                  go_wp2
                  go_meet
                  case rel => exact ⟨rfl, q + 1, by omega, by go_num, HP.out.snoc HD.out⟩
                | false =>
                  go_wp2
                  go_loopg [1] (n - (q)) (fun g s1 wx => RL c p n wc g s1 wx)
                  case atStart => exact ⟨rfl, q, by omega, rfl, by first | rfl | go_num, HP.out⟩
                  case round =>
                    as_aux_lemma =>
                      obtain ⟨rfl, r, hrn, rfl, rfl, hpl⟩ := hrel
                      have HR := hid hpl
                      have hpr := hpl.1
                      clear hpl
                      by_cases hr : r < n
                      · have hcr := H.out.ch r hr
                        cases hdr : digB (c r) with
                        | true =>
                          go_wp2_with (first | (go_at_call 24; refine (digit_any _ _).mono ?_; rintro e w' ⟨rfl, rfl⟩; rw [hdr]))
                          go_roundg (n - (r + 1))
                          case rel => exact ⟨rfl, r + 1, by omega, rfl, by go_num, HR.out.snoc (plain_dig hdr)⟩
                          case measure => omega
                        | false =>
                          go_wp2_with (first | (go_at_call 24; refine (digit_any _ _).mono ?_; rintro e w' ⟨rfl, rfl⟩; rw [hdr]))
                          go_meet
                          case rel => exact ⟨rfl, r, hrn, rfl, HR.out⟩
                      · go_wp2
                        go_meet
                        case rel => exact ⟨rfl, r, hrn, rfl, HR.out⟩
            case rest =>
              as_aux_lemma =>
                obtain ⟨rfl, q, hqn, rfl, hpl⟩ := hcut
                have HP := hid hpl
                have hpq := hpl.1
                clear hpl
                go_upto_region 10 with (fail)
                go_cut [83] (fun s wx => RB (q < n ∧ plainB (c q)) wc s wx)
                case first =>
                  as_aux_lemma =>
                    by_cases hq : q < n
                    · have hcq := H.out.ch (q) hq
                      cases e1 : (c (q) == 46) with
                      | true =>
                        go_wp2
                        go_meet
                        case rel => exact ⟨rfl, true, rfl, fun _ => ⟨hq, plain_eq e1 (by unfold plainB; omega)⟩⟩
                      | false =>
                        go_wp2
                        go_meet
                        case rel => exact ⟨rfl, false, rfl, fun h => by cases h⟩
                    · go_wp2
                      go_meet
                      case rel => exact ⟨rfl, false, rfl, fun h => by cases h⟩
                case rest =>
                  as_aux_lemma =>
                    obtain ⟨rfl, t, rfl, ht⟩ := hcut
                    have HT := hid ht
                    clear ht
                    go_upto_if 83 with (fail)
                    go_cut [1] (fun s1 wx => RP c p n wc s1 wx)
                    case first =>
                      as_aux_lemma =>
                        cases t with
                        | false =>
                          clear HT
                          go_wp2
                          go_meet
                          case rel => exact ⟨rfl, q, hqn, rfl, HP.out⟩
                        | true =>
                          obtain ⟨hq1, hb1⟩ := HT.out rfl
                          have HB := hid hb1
                          clear HT hb1
                          go_upto_region 12 with (fail)
                          go_cut [103] (fun s wx => RG c n (q + 1) wc s wx)
                          case first =>
                            as_aux_lemma =>
                              by_cases hq : q + 1 < n
                              · have hcq := H.out.ch (q + 1) hq
                                cases hdg : digB (c (q + 1)) with
                                | true =>
                                  go_wp2_with (first | (go_at_call 24; refine (digit_any _ _).mono ?_; rintro e w' ⟨rfl, rfl⟩; rw [hdg]))
                                  go_meet
                                  case rel => exact ⟨rfl, false, by first | rfl | (simp; omega), fun _ => ⟨hq, hdg⟩⟩
                                | false =>
                                  go_wp2_with (first | (go_at_call 24; refine (digit_any _ _).mono ?_; rintro e w' ⟨rfl, rfl⟩; rw [hdg]))
                                  go_meet
                                  case rel => exact ⟨rfl, true, rfl, fun h => by cases h⟩
                              · go_wp2
                                go_meet
                                case rel => exact ⟨rfl, true, rfl, fun h => by cases h⟩
                          case rest =>
                            as_aux_lemma =>
                              obtain ⟨rfl, t, rfl, ht⟩ := hcut
                              cases t with
                              | true =>
                                clear ht
                                go_wp2
                                go_ret2
                                exact RetV.no
                              | false =>
                                obtain ⟨hq, hdg⟩ := ht rfl
                                have HD := hid (plain_dig hdg)
                                clear ht hdg
                                go_wp2
                                go_loopg [1] (n - (q + 1)) (fun g s1 wx => RL c p n wc g s1 wx)
                                case atStart => exact ⟨rfl, q + 1, by omega, rfl, by first | rfl | go_num, HP.out.snoc HB.out⟩
                                case round =>
                                  as_aux_lemma =>
                                    obtain ⟨rfl, r, hrn, rfl, rfl, hpl⟩ := hrel
                                    have HR := hid hpl
                                    have hpr := hpl.1
                                    clear hpl
                                    by_cases hr : r < n
                                    · have hcr := H.out.ch r hr
                                      cases hdr : digB (c r) with
                                      | true =>
                                        go_wp2_with (first | (go_at_call 24; refine (digit_any _ _).mono ?_; rintro e w' ⟨rfl, rfl⟩; rw [hdr]))
                                        go_roundg (n - (r + 1))
                                        case rel => exact ⟨rfl, r + 1, by omega, rfl, by go_num, HR.out.snoc (plain_dig hdr)⟩
                                        case measure => omega
                                      | false =>
                                        go_wp2_with (first | (go_at_call 24; refine (digit_any _ _).mono ?_; rintro e w' ⟨rfl, rfl⟩; rw [hdr]))
                                        go_meet
                                        case rel => exact ⟨rfl, r, hrn, rfl, HR.out⟩
                                    · go_wp2
                                      go_meet
                                      case rel => exact ⟨rfl, r, hrn, rfl, HR.out⟩
                    case rest =>
                      as_aux_lemma =>
                        obtain ⟨rfl, q, hqn, rfl, hpl⟩ := hcut
                        have HP := hid hpl
                        have hpq := hpl.1
                        clear hpl
                        go_upto_region 16 with (fail)
                        go_cut [150] (fun s wx => RB (q < n ∧ plainB (c q)) wc s wx)
                        case first =>
                          as_aux_lemma =>
                            by_cases hq : q < n
                            · have hcq := H.out.ch (q) hq
                              cases e1 : (c (q) == 101) with
                              | true =>
                                go_wp2
                                go_meet
                                case rel => exact ⟨rfl, true, rfl, fun _ => ⟨hq, plain_eq e1 (by unfold plainB; omega)⟩⟩
                              | false =>
                                cases e2 : (c (q) == 69) with
                                | true =>
                                  go_wp2
                                  go_meet
                                  case rel => exact ⟨rfl, true, rfl, fun _ => ⟨hq, plain_eq e2 (by unfold plainB; omega)⟩⟩
                                | false =>
                                  go_wp2
                                  go_meet
                                  case rel => exact ⟨rfl, false, rfl, fun h => by cases h⟩
                            · go_wp2
                              go_meet
                              case rel => exact ⟨rfl, false, rfl, fun h => by cases h⟩
                        case rest =>
                          as_aux_lemma =>
                            obtain ⟨rfl, t, rfl, ht⟩ := hcut
                            have HT := hid ht
                            clear ht
                            go_upto_if 150 with (fail)
                            go_cut [1] (fun s1 wx => RP c p n wc s1 wx)
                            case first =>
                              as_aux_lemma =>
                                cases t with
                                | false =>
                                  clear HT
                                  go_wp2
                                  go_meet
                                  case rel => exact ⟨rfl, q, hqn, rfl, HP.out⟩
                                | true =>
                                  obtain ⟨hq1, hb1⟩ := HT.out rfl
                                  have HB := hid hb1
                                  clear HT hb1
                                  go_upto_region 18 with (fail)
                                  go_cut [179] (fun s wx => RB (q + 1 < n ∧ plainB (c (q + 1))) wc s wx)
                                  case first =>
                                    as_aux_lemma =>
                                      by_cases hq : q + 1 < n
                                      · have hcq := H.out.ch (q + 1) hq
                                        cases e1 : (c (q + 1) == 43) with
                                        | true =>
                                          go_wp2
                                          go_meet
                                          case rel => exact ⟨rfl, true, rfl, fun _ => ⟨hq, plain_eq e1 (by unfold plainB; omega)⟩⟩
                                        | false =>
                                          cases e2 : (c (q + 1) == 45) with
                                          | true =>
                                            go_wp2
                                            go_meet
                                            case rel => exact ⟨rfl, true, rfl, fun _ => ⟨hq, plain_eq e2 (by unfold plainB; omega)⟩⟩
                                          | false =>
                                            go_wp2
                                            go_meet
                                            case rel => exact ⟨rfl, false, rfl, fun h => by cases h⟩
                                      · go_wp2
                                        go_meet
                                        case rel => exact ⟨rfl, false, rfl, fun h => by cases h⟩
                                  case rest =>
                                    as_aux_lemma =>
                                      obtain ⟨rfl, t, rfl, ht⟩ := hcut
                                      have HT := hid ht
                                      clear ht
                                      go_upto_if 179 with (fail)
                                      go_cut [1] (fun s1 wx => RP c p n wc s1 wx)
                                      case first =>
                                        as_aux_lemma =>
                                          cases t with
                                          | true =>
                                            obtain ⟨hq1, hb1⟩ := HT.out rfl
                                            have HB1 := hid hb1
                                            clear HT hb1
                                            go_wp2
                                            go_meet
                                            case rel => exact ⟨rfl, q + 1 + 1, by omega, by go_num, (HP.out.snoc HB.out).snoc HB1.out⟩
                                          | false =>
                                            clear HT
                                            go_wp2
                                            go_meet
                                            case rel => exact ⟨rfl, q + 1, by omega, by go_num, HP.out.snoc HB.out⟩
                                      case rest =>
                                        as_aux_lemma =>
                                          clear HP hpq hqn
                                          obtain ⟨rfl, q, hqn, rfl, hpl⟩ := hcut
                                          have HP := hid hpl
                                          have hpq := hpl.1
                                          clear hpl
                                          go_upto_region 20 with (fail)
                                          go_cut [199] (fun s wx => RG c n (q) wc s wx)
                                          case first =>
                                            as_aux_lemma =>
                                              by_cases hq : q < n
                                              · have hcq := H.out.ch (q) hq
                                                cases hdg : digB (c (q)) with
                                                | true =>
                                                  go_wp2_with (first | (go_at_call 24; refine (digit_any _ _).mono ?_; rintro e w' ⟨rfl, rfl⟩; rw [hdg]))
                                                  go_meet
                                                  case rel => exact ⟨rfl, false, by first | rfl | (simp; omega), fun _ => ⟨hq, hdg⟩⟩
                                                | false =>
                                                  go_wp2_with (first | (go_at_call 24; refine (digit_any _ _).mono ?_; rintro e w' ⟨rfl, rfl⟩; rw [hdg]))
                                                  go_meet
                                                  case rel => exact ⟨rfl, true, rfl, fun h => by cases h⟩
                                              · go_wp2
                                                go_meet
                                                case rel => exact ⟨rfl, true, rfl, fun h => by cases h⟩
                                          case rest =>
                                            as_aux_lemma =>
                                              obtain ⟨rfl, t, rfl, ht⟩ := hcut
                                              cases t with
                                              | true =>
                                                clear ht
                                                go_wp2
                                                go_ret2
                                                exact RetV.no
                                              | false =>
                                                obtain ⟨hq, hdg⟩ := ht rfl
                                                have HD := hid (plain_dig hdg)
                                                clear ht hdg
                                                go_wp2
                                                go_loopg [1] (n - (q)) (fun g s1 wx => RL c p n wc g s1 wx)
                                                case atStart => exact ⟨rfl, q, by omega, rfl, by first | rfl | go_num, HP.out⟩
                                                case round =>
                                                  as_aux_lemma =>
                                                    obtain ⟨rfl, r, hrn, rfl, rfl, hpl⟩ := hrel
                                                    have HR := hid hpl
                                                    have hpr := hpl.1
                                                    clear hpl
                                                    by_cases hr : r < n
                                                    · have hcr := H.out.ch r hr
                                                      cases hdr : digB (c r) with
                                                      | true =>
                                                        go_wp2_with (first | (go_at_call 24; refine (digit_any _ _).mono ?_; rintro e w' ⟨rfl, rfl⟩; rw [hdr]))
                                                        go_roundg (n - (r + 1))
                                                        case rel => exact ⟨rfl, r + 1, by omega, rfl, by go_num, HR.out.snoc (plain_dig hdr)⟩
                                                        case measure => omega
                                                      | false =>
                                                        go_wp2_with (first | (go_at_call 24; refine (digit_any _ _).mono ?_; rintro e w' ⟨rfl, rfl⟩; rw [hdr]))
                                                        go_meet
                                                        case rel => exact ⟨rfl, r, hrn, rfl, HR.out⟩
                                                    · go_wp2
                                                      go_meet
                                                      case rel => exact ⟨rfl, r, hrn, rfl, HR.out⟩
                            case rest =>
                              as_aux_lemma =>
                                obtain ⟨rfl, q, hqn, rfl, hpl⟩ := hcut
                                have HP := hid hpl
                                have hpq := hpl.1
                                clear hpl
                                go_wp2
                                go_loopg [7] (q - p) (fun g s7 wx => RI p q wc g s7 wx)
                                case atStart => exact ⟨rfl, p, Nat.le_refl _, hpq, rfl, rfl⟩
                                case round =>
                                  as_aux_lemma =>
                                    obtain ⟨rfl, k, hk1, hk2, rfl, rfl⟩ := hrel
                                    by_cases hk : k < q
                                    · have hck := H.out.ch k (by omega)
                                      have hkn : k < n := by omega
                                      go_wp2_with (first | (go_at_call 31; refine (put_any _ _ _ m3).mono ?_; rintro e w' ⟨rfl, rfl⟩))
                                      go_roundg (q - (k + 1))
                                      case rel => exact ⟨rfl, k + 1, by omega, by omega, rfl, by go_num⟩
                                      case measure => omega
                                    · go_wp2
                                      go_ret2
                                      exact RetV.yes rfl hqn (Val.plain hpq HP.out.2)
end Go.Proofs.Qxb6603067a
