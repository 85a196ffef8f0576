/- (*zzIndentModelB1).container, with emit off; value's contract as a hypothesis. -/
import Derived.Test.Qxb6603067aWord
import Derived.Lib.Hide
namespace Go.Proofs.Qxb6603067a
open Go Go.RowKit

def RC (bm cb co n cap : Nat) (c : Nat → Int) (p : Nat) (w : World) (g : Nat) (s1 : Value) (wx : World) : Prop :=
  ∃ r : Nat, p + 1 ≤ r ∧ r ≤ n ∧ g = n - r ∧ s1 = .int .i64 r ∧ Val c (p + 1) r ∧ MB bm cb co n cap c wx ∧ w.grownBy wx (some bm)

def RKey (c : Nat → Int) (n r : Nat) (w : World) (s1 : Value) (wx : World) : Prop :=
  wx = w ∧ ∃ r1 : Nat, r ≤ r1 ∧ r1 ≤ n ∧ s1 = .int .i64 r1 ∧ Val c r r1

theorem Val.one {c : Nat → Int} {p : Nat} (h : plainB (c p)) : Val c p (p + 1) :=
  Val.plain (by omega) (fun i h1 h2 => by rwa [show i = p by omega])

/-- The value's contract at p: every level, every world. -/
def ValueAt (bm cb co n cap : Nat) (c : Nat → Int) (p : Nat) : Prop :=
  ∀ (d : Int) (w : World), MB bm cb co n cap c w → Calls Try.prog 30 #[.pointer (some ⟨bm, 0, none⟩), .int .i64 (p : Nat), .int .i64 d] w (RetM bm cb co n cap c (fun q => Val c p q ∧ (c p = 34 → Str c p q) ∧ (c p = 123 ∨ c p = 91 → Con c p q)) w)

set_option maxRecDepth 100000 in
set_option maxHeartbeats 4000000 in
theorem cont_any {bm cb co n cap : Nat} {c : Nat → Int} (p : Nat) (d cl : Int) (obj : Bool) (w : World) (h : MB bm cb co n cap c w) (hp : p < n) (hop : c p = 123 ∨ c p = 91) (hcl : cl = 125 ∨ cl = 93)
    (ih : ∀ p', p < p' → p' ≤ n → ValueAt bm cb co n cap c p') :
    Calls Try.prog 41 #[.pointer (some ⟨bm, 0, none⟩), .int .i64 (p : Nat), .int .i64 d, .int .u8 cl, .bool obj] w (RetM bm cb co n cap c (fun q => Con c p q) w) := by
  have m0 := h.m0
  have m3 := h.m3
  have hn := h.hn
  have hc := h.ch p hp
  have HOP := hid hop
  have HCL := hid hcl
  have IH := hid ih
  clear hop hcl ih
  by_cases hend : p + 1 < n ∧ c (p + 1) = cl
  · obtain ⟨he1, he2⟩ := hend
    have hc1 := h.ch (p + 1) he1
    rw [he2] at hc1
    have HE2 := hid he2
    clear he2
    go_enter Try.func41, Try.ntmps41
    go_wp2_with (first | (go_at_call 31; refine (put_any _ _ _ m3).mono ?_; rintro e w' ⟨rfl, rfl⟩))
    go_ret2
    exact RetM.yes (q' := p + 2) h (World.grownBy.refl _ _) (by omega) (by omega) (Con.mk' HOP.out (Val.refl _ _) (by rw [HE2.out]; exact HCL.out))
  · go_enter Try.func41, Try.ntmps41
    go_upto_region 3 with (first | (go_at_call 31; refine (put_any _ _ _ m3).mono ?_; rintro e w' ⟨rfl, rfl⟩))
    go_cut [41] (fun s41 wx => s41 = .bool false ∧ wx = w)
    case first =>
      by_cases h1 : p + 1 < n
      · have hc1 := h.ch (p + 1) h1
        have hne : (c (p + 1) == cl) = false := by rw [Bool.eq_false_iff]; intro e; exact hend ⟨h1, by simpa using e⟩
        clear hend
        go_wp2
        go_meet
        case rel => exact ⟨rfl, rfl⟩
      · clear hend
        go_wp2
        go_meet
        case rel => exact ⟨rfl, rfl⟩
    case rest =>
      obtain ⟨rfl, rfl⟩ := hcut
      clear hend
      go_wp2
      go_loopg [1] (n - (p + 1)) (fun g s1 wx => RC bm cb co n cap c p wc g s1 wx)
      case atStart => exact ⟨p + 1, Nat.le_refl _, by omega, rfl, by go_num, Val.refl _ _, h, World.grownBy.refl _ _⟩
      case round =>
        obtain ⟨r, hr1, hr2, rfl, rfl, hval, hM, hgw⟩ := hrel
        have HV := hid hval
        have HG := hid hgw
        clear hval hgw m0 m3 hc
        go_upto_if 51 with (first | (go_at_call 49; refine (newline_any _ _ hM).mono ?_; rintro e w1 ⟨rfl, hM1, hg1⟩; have HG1 := hid hg1; have m0 := hM1.m0; have m3 := hM1.m3; clear hg1))
        go_cut [1] (fun s1 wx => RKey c n r w1 s1 wx)
        case first =>
          cases obj with
          | false =>
            go_wp2
            go_meet
            case rel => exact ⟨rfl, r, Nat.le_refl _, hr2, rfl, Val.refl _ _⟩
          | true =>
            by_cases hrn : r < n
            · have hcr := hM1.ch r hrn
              cases e34 : (c r != 34) with
              | true =>
                go_wp2
                go_ret2
                exact RetM.no hM1 (HG.out.trans HG1.out)
              | false =>
                have h34 : c r = 34 := by simpa using e34
                have H34 := hid h34
                clear h34
                go_wp2_with (first | (go_at_call 42; refine (str_any r _ hM1 hrn H34.out).mono ?_; rintro e w' ⟨q, ok, rfl, rfl, hok⟩; refine Hid.out ?_))
                cases ok with
                | false =>
                  refine Lib.hid ?_
                  clear hok
                  go_wp2
                  go_ret2
                  exact RetM.no hM1 (HG.out.trans HG1.out)
                | true =>
                  obtain ⟨q', rfl, hqn, hstr⟩ := hok rfl
                  have HS := hid hstr
                  have hqr : r ≤ q' := hstr.val.1
                  clear hok hstr
                  refine Lib.hid ?_
                  by_cases hql : q' < n
                  · have hcq := hM1.ch q' hql
                    cases e58 : (c q' != 58) with
                    | true =>
                      go_wp2
                      go_ret2
                      exact RetM.no hM1 (HG.out.trans HG1.out)
                    | false =>
                      have h58 : c q' = 58 := by simpa using e58
                      have H58 := hid h58
                      clear h58
                      go_wp2_with (first | (go_at_call 31; refine (put_any _ _ _ m3).mono ?_; rintro e w' ⟨rfl, rfl⟩))
                      go_meet
                      case rel => exact ⟨rfl, q' + 1, by omega, by omega, by go_num, HS.out.val.trans (Val.one (by rw [H58.out]; unfold plainB; omega))⟩
                  · go_wp2
                    go_ret2
                    exact RetM.no hM1 (HG.out.trans HG1.out)
            · go_wp2
              go_ret2
              exact RetM.no hM1 (HG.out.trans HG1.out)
        case rest =>
          obtain ⟨rfl, r1, hr3, hr4, rfl, hv1⟩ := hcut
          have HV1 := hid (HV.out.trans hv1)
          clear hv1
          go_wp2_with (first | (go_at_call 30; refine (IH.out r1 (by omega) hr4 _ _ hM1).mono ?_; rintro e w2 ⟨q, ok, rfl, hM2, hg2, hok⟩; refine Hid.out ?_))
          have HG2 := hid hg2
          clear hg2 hM m0 m3
          have m0 := hM2.m0
          have m3 := hM2.m3
          cases ok with
          | false =>
            refine Lib.hid ?_
            clear hok
            go_wp2
            go_ret2
            exact RetM.no hM2 ((HG.out.trans HG1.out).trans HG2.out)
          | true =>
            obtain ⟨q', rfl, hqn, hx⟩ := hok rfl
            have HX := hid (HV1.out.trans hx.1)
            have hqr : r1 ≤ q' := hx.1.1
            clear hok hx
            refine Lib.hid ?_
            by_cases hql : q' < n
            · have hcq := hM2.ch q' hql
              cases e44 : (c q' == 44) with
              | true =>
                have h44 : c q' = 44 := by simpa using e44
                have H44 := hid h44
                clear h44
                go_wp2_with (first | (go_at_call 31; refine (put_any _ _ _ m3).mono ?_; rintro e w' ⟨rfl, rfl⟩))
                go_roundg (n - (q' + 1))
                case rel => exact ⟨q' + 1, by omega, by omega, rfl, by go_num, HX.out.trans (Val.one (by rw [H44.out]; unfold plainB; omega)), hM2, (HG.out.trans HG1.out).trans HG2.out⟩
                case measure => omega
              | false =>
                cases ecl : (c q' == cl) with
                | true =>
                  have hcl' : c q' = cl := by simpa using ecl
                  have HC := hid hcl'
                  clear hcl'
                  go_wp2_with (first | (go_at_call 31; refine (put_any _ _ _ (by assumption)).mono ?_; rintro e w' ⟨rfl, rfl⟩) | (go_at_call 49; refine (newline_any _ _ hM2).mono ?_; rintro e w3 ⟨rfl, hM3, hg3⟩; have HG3 := hid hg3; have m3' := hM3.m3; clear hg3))
                  go_ret2
                  exact RetM.yes (q' := q' + 1) hM3 (((HG.out.trans HG1.out).trans HG2.out).trans HG3.out) (by omega) (by omega) (Con.mk' HOP.out HX.out (by rw [HC.out]; exact HCL.out))
                | false =>
                  go_wp2
                  go_ret2
                  exact RetM.no hM2 ((HG.out.trans HG1.out).trans HG2.out)
            · go_wp2
              go_ret2
              exact RetM.no hM2 ((HG.out.trans HG1.out).trans HG2.out)
end Go.Proofs.Qxb6603067a
