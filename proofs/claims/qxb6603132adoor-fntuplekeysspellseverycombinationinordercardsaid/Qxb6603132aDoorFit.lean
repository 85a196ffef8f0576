/- zzListsFit, zzTupleBound. -/
import Derived.Test.Qxb6603132aDoorBase
import Derived.Deep.QuietTactic
import Derived.BigQuiet
namespace Go.Proofs.Qxb6603132aDoor
open Go Go.RowKit

def FitB (n : Nat) (ln : Nat → Nat) (S : Nat → Nat → ByteArray) : Prop := ∀ i, i < n → ln i ≤ 65536 ∧ ∀ j, j < ln i → (S i j).size ≤ 1048576

def RetFit (n : Nat) (ln : Nat → Nat) (S : Nat → Nat → ByteArray) (w : World) (e : Ending) (w' : World) : Prop :=
  ∃ (ok : Bool) (t : Int), e = .returned (.tuple #[.bool ok, .int .i64 t]) ∧ w = w' ∧ (ok = true → n ≤ 65536 ∧ FitB n ln S)
theorem RetFit.no {n : Nat} {ln : Nat → Nat} {S : Nat → Nat → ByteArray} {w : World} {t : Int} : RetFit n ln S w (.returned (.tuple #[.bool false, .int .i64 t])) w := ⟨false, t, rfl, rfl, fun h => by cases h⟩

def R11 (n : Nat) (ln : Nat → Nat) (S : Nat → Nat → ByteArray) (w : World) (g : Nat) (s4 s5 s20 : Value) (wx : World) : Prop :=
  w = wx ∧ ∃ (i : Nat) (z t : Int), i ≤ n ∧ g = n - i ∧ s20 = .int .i64 i ∧ s4 = .int .i64 z ∧ s5 = .int .i64 t ∧ FitB i ln S
def R11j (l : Nat) (S : Nat → Nat → ByteArray) (i : Nat) (w : World) (g : Nat) (s4 s40 : Value) (wx : World) : Prop :=
  w = wx ∧ ∃ (j : Nat) (z : Int), j ≤ l ∧ g = l - j ∧ s40 = .int .i64 j ∧ s4 = .int .i64 z ∧ ∀ j', j' < j → (S i j').size ≤ 1048576

theorem FitB.snoc {i : Nat} {ln : Nat → Nat} {S : Nat → Nat → ByteArray} (h : FitB i ln S) (h1 : ln i ≤ 65536) (h2 : ∀ j, j < ln i → (S i j).size ≤ 1048576) : FitB (i + 1) ln S := by
  intro k hk
  by_cases e : k = i
  · subst e; exact ⟨h1, h2⟩
  · exact h k (by omega)

set_option maxRecDepth 100000 in
set_option maxHeartbeats 4000000 in
theorem fit_any {b o n cap : Nat} {ad : Nat → Option Addr} {ln cp : Nat → Nat} {S : Nat → Nat → ByteArray} (w : World) (h : Ls b o n ad ln cp S w) :
    Calls Tryd.prog 11 #[.slice (some ⟨b, o, none⟩) n cap] w (RetFit n ln S w) := by
  have hn := h.hn
  simp only [maxLen] at hn
  have H := hid h
  clear h
  by_cases hsm : n ≤ 65536
  · go_enter Tryd.func11, Tryd.ntmps11
    go_wp2
    · go_ret2
      exact RetFit.no
    · go_loopg [4, 5, 20] n (fun g s4 s5 s20 wx => R11 n ln S w g s4 s5 s20 wx)
      case atStart => exact ⟨rfl, 0, _, _, by omega, by omega, rfl, rfl, rfl, fun i hi => by omega⟩
      case round =>
        obtain ⟨rfl, i, z, t, hin, rfl, rfl, rfl, rfl, hF⟩ := hrel
        have HF := hid hF
        clear hF
        by_cases hi : i < n
        · have hc := H.out.out i hi
          have hli := H.out.hl i hi
          simp only [maxLen] at hli
          have hin2 : ∃ ao, ad i = ao ∧ (0 < ln i → ∃ bi oi, ao = some ⟨bi, oi, none⟩ ∧ ∀ j, j < ln i → w.cell? ⟨bi, oi + j, none⟩ = some (.string (S i j))) := ⟨_, rfl, H.out.inn i hi⟩
          obtain ⟨ao, eao, hin2⟩ := hin2
          rw [eao] at hc
          clear eao
          have inner : 0 < ln i ∨ ln i = 0 := by omega
          by_cases hl6 : ln i ≤ 65536
          · rcases inner with hl | hl
            · obtain ⟨bi, oi, rfl, hcs⟩ := hin2 hl
              have HC := hid hcs
              clear hcs hin2
              have hs := hid (H.out.hs i hi)
              go_wp2
              · go_ret2
                exact RetFit.no
              · go_loopg [4, 40] (ln i) (fun g s4 s40 wx => R11j (ln i) S i w g s4 s40 wx)
                case atStart => exact ⟨rfl, 0, _, by omega, by omega, rfl, rfl, fun j hj => by omega⟩
                case round =>
                  obtain ⟨rfl, j, z2, hjn, rfl, rfl, rfl, hJ⟩ := hrel
                  have HJ := hid hJ
                  clear hJ
                  by_cases hj : j < ln i
                  · have hcj := HC.out j hj
                    have hsj := hs.out j hj
                    simp only [maxLen] at hsj
                    by_cases hbig : (S i j).size ≤ 1048576
                    · go_wp2
                      · go_ret2
                        exact RetFit.no
                      · go_roundg (ln i - (j + 1))
                        case rel =>
                          refine ⟨rfl, j + 1, _, by omega, rfl, by go_num, rfl, fun j' hj' => ?_⟩
                          by_cases e : j' = j
                          · subst e; exact hbig
                          · exact HJ.out j' (by omega)
                        case measure => omega
                    · go_wp2
                      go_ret2
                      exact RetFit.no
                  · go_wp2
                    go_roundg (n - (i + 1))
                    case rel => exact ⟨rfl, i + 1, _, _, by omega, rfl, by go_num, rfl, rfl, HF.out.snoc hl6 (fun j' hj' => HJ.out j' (by omega))⟩
                    case measure => omega
            · clear hin2
              rw [hl] at hc
              go_wp2
              · go_ret2
                exact RetFit.no
              · go_loopg [4, 40] 0 (fun g s4 s40 wx => R11j 0 S i w g s4 s40 wx)
                case atStart => exact ⟨rfl, 0, _, by omega, by omega, rfl, rfl, fun j hj => by omega⟩
                case round =>
                  obtain ⟨rfl, j, z2, hjn, rfl, rfl, rfl, hJ⟩ := hrel
                  obtain rfl : j = 0 := by omega
                  clear hJ
                  go_wp2
                  go_roundg (n - (i + 1))
                  case rel => exact ⟨rfl, i + 1, _, _, by omega, rfl, by go_num, rfl, rfl, HF.out.snoc hl6 (fun j' hj' => by omega)⟩
                  case measure => omega
          · go_wp2
            go_ret2
            exact RetFit.no
        · obtain rfl : i = n := by omega
          go_wp2
          go_ret2
          exact ⟨true, _, rfl, rfl, fun _ => ⟨hsm, HF.out⟩⟩
  · go_enter Tryd.func11, Tryd.ntmps11
    go_wp2
    go_ret2
    exact RetFit.no

/-- The product of the first k lengths. -/
def pr (ln : Nat → Nat) : Nat → Nat
  | 0 => 1
  | k + 1 => pr ln k * ln k

theorem pr_zero {ln : Nat → Nat} {i : Nat} (h : ln i = 0) : ∀ k, i < k → pr ln k = 0
  | 0, h' => by omega
  | k + 1, h' => by
    by_cases e : i = k
    · subst e; simp [pr, h]
    · simp [pr, pr_zero h k (by omega)]
theorem pr_pos {ln : Nat → Nat} : ∀ k, (∀ i, i < k → ln i ≠ 0) → 0 < pr ln k
  | 0, _ => by simp [pr]
  | k + 1, h => Nat.mul_pos (pr_pos k (fun i hi => h i (by omega))) (Nat.pos_of_ne_zero (h k (by omega)))

/-- The count as zzTupleBound reckons it: it stands still at 65537. -/
def cnt (ln : Nat → Nat) : Nat → Nat
  | 0 => 1
  | k + 1 => satm (cnt ln k) (ln k)

theorem cnt_le (ln : Nat → Nat) : ∀ k, cnt ln k ≤ 65537
  | 0 => by simp [cnt]
  | k + 1 => by simp only [cnt, satm]; split <;> omega
theorem cnt_pr {ln : Nat → Nat} : ∀ k, (∀ i, i < k → ln i ≠ 0) → cnt ln k ≤ 65536 → cnt ln k = pr ln k
  | 0, _, _ => rfl
  | k + 1, h, hk => by
    have hp : 0 < ln k := Nat.pos_of_ne_zero (h k (by omega))
    simp only [cnt, satm] at hk ⊢
    split at hk
    case isTrue h1 =>
      have h2 : cnt ln k ≤ 65536 := Nat.le_trans (Nat.le_mul_of_pos_right _ hp) h1
      rw [if_pos h1, cnt_pr k (fun i hi => h i (by omega)) h2]
      rfl
    case isFalse => omega

def TB (n : Nat) (ln : Nat → Nat) (S : Nat → Nat → ByteArray) (c : Int) : Prop :=
  n ≤ 65536 ∧ FitB n ln S ∧ (n = 1 → c = ln 0) ∧ (n ≠ 1 → c = pr ln n ∧ pr ln n ≤ 65536)
def RetTB (n : Nat) (ln : Nat → Nat) (S : Nat → Nat → ByteArray) (w : World) (e : Ending) (w' : World) : Prop :=
  ∃ (ok : Bool) (c : Int), e = .returned (.tuple #[.bool ok, .int .i64 c]) ∧ Below w.heap.size w w' ∧ (ok = true → TB n ln S c)
theorem RetTB.no {n : Nat} {ln : Nat → Nat} {S : Nat → Nat → ByteArray} {w : World} {t : Int} : RetTB n ln S w (.returned (.tuple #[.bool false, .int .i64 t])) w := ⟨false, t, rfl, Below.refl _ _, fun h => by cases h⟩

def R6a (n : Nat) (ln : Nat → Nat) (w : World) (g : Nat) (s31 : Value) (wx : World) : Prop :=
  w = wx ∧ ∃ i : Nat, i ≤ n ∧ g = n - i ∧ s31 = .int .i64 i ∧ ∀ k, k < i → ln k ≠ 0
def R6b (n : Nat) (ln : Nat → Nat) (w : World) (g : Nat) (s8 s9 s41 : Value) (wx : World) : Prop :=
  w = wx ∧ ∃ (i : Nat) (d : Int), i ≤ n ∧ g = n - i ∧ s41 = .int .i64 i ∧ s8 = .int .i64 (cnt ln i : Nat) ∧ s9 = .int .i64 d
def R6c (l : Nat) (w : World) (g : Nat) (s12 s51 : Value) (wx : World) : Prop :=
  w = wx ∧ ∃ (j : Nat) (d : Int), j ≤ l ∧ g = l - j ∧ s51 = .int .i64 j ∧ s12 = .int .i64 d

set_option maxRecDepth 100000 in
set_option maxHeartbeats 4000000 in
theorem bound_any {b o n cap : Nat} {ad : Nat → Option Addr} {ln cp : Nat → Nat} {S : Nat → Nat → ByteArray} (w : World) (h : Ls b o n ad ln cp S w) (h0 : 0 < n) :
    Calls Tryd.prog 6 #[.slice (some ⟨b, o, none⟩) n cap] w (RetTB n ln S w) := by
  have hn := h.hn
  simp only [maxLen] at hn
  have H := hid h
  have hc0 := h.out 0 h0
  have hc0' : w.cell? ⟨b, o, none⟩ = some (.slice (ad 0) (ln 0) (cp 0)) := by simpa using hc0
  clear h
  go_enter Tryd.func6, Tryd.ntmps6
  go_wp2_with (first | (go_at_call 11; refine (fit_any _ H.out).mono ?_; rintro e w' ⟨ok, t, rfl, rfl, hok⟩; refine Hid.out ?_))
  cases ok with
  | false =>
    clear hok
    refine Lib.hid ?_
    go_wp2
    go_ret2
    exact RetTB.no
  | true =>
    obtain ⟨hn6, hF⟩ := hok rfl
    have HF := hid hF
    clear hok hF
    refine Lib.hid ?_
    by_cases h1 : n = 1
    · subst h1
      go_upto_region 5 with (fail)
      go_quiet (fail)
      go_wp2
      go_ret2
      exact ⟨true, _, rfl, ⟨rfl, rfl, rfl, Nat.le_refl _, fun _ _ => rfl⟩, fun _ => ⟨hn6, HF.out, fun _ => rfl, fun h => absurd rfl h⟩⟩
    · have hne : ((n : Int) == 1) = false := by simp; omega
      clear hc0 hc0'
      go_wp2
      go_loopg [31] n (fun g s31 wx => R6a n ln w g s31 wx)
      case atStart => exact ⟨rfl, 0, by omega, by omega, rfl, fun k hk => by omega⟩
      case round =>
        obtain ⟨rfl, i, hin, rfl, rfl, hnz⟩ := hrel
        have HNZ := hid hnz
        clear hnz
        by_cases hi : i < n
        · have hc := H.out.out i hi
          cases ez : ((ln i : Int) == 0) with
          | true =>
            have hz : ln i = 0 := by have := eq_of_beq ez; omega
            have HZ := hid (pr_zero hz n hi)
            clear hz
            go_wp2
            go_ret2
            exact ⟨true, _, rfl, Below.refl _ _, fun _ => ⟨hn6, HF.out, fun h => absurd h h1, fun _ => by rw [HZ.out]; exact ⟨rfl, by omega⟩⟩⟩
          | false =>
            have hz : ln i ≠ 0 := by intro e; rw [e] at ez; cases ez
            have HZ := hid hz
            clear hz
            go_wp2
            go_roundg (n - (i + 1))
            case rel =>
              refine ⟨rfl, i + 1, by omega, rfl, by go_num, fun k hk => ?_⟩
              by_cases e : k = i
              · rw [e]; exact HZ.out
              · exact HNZ.out k (by omega)
            case measure => omega
        · obtain rfl : i = n := by omega
          go_wp2
          go_loopg [8, 9, 41] i (fun g s8 s9 s41 wx => R6b i ln w g s8 s9 s41 wx)
          case atStart => exact ⟨rfl, 0, 0, by omega, by omega, rfl, rfl, rfl⟩
          case round =>
            obtain ⟨rfl, k, d, hkn, rfl, rfl, rfl, rfl⟩ := hrel
            by_cases hk : k < i
            · have hc := H.out.out k hk
              have hnk := Nat.pos_of_ne_zero (HNZ.out k hk)
              obtain ⟨bi, oi, eao, hcs⟩ := H.out.inn k hk hnk
              rw [eao] at hc
              clear eao
              have HC := hid hcs
              clear hcs
              have hs := hid (H.out.hs k hk)
              have hlk := (HF.out k hk).1
              have hcl := cnt_le ln k
              go_wp2_with (first | (go_at_call 14; refine (sat_mul _ _ _ hcl hlk).mono ?_; rintro e w' ⟨rfl, rfl⟩))
              go_loopg [12, 51] (ln k) (fun g s12 s51 wx => R6c (ln k) w g s12 s51 wx)
              case atStart => exact ⟨rfl, 0, 0, by omega, by omega, rfl, rfl⟩
              case round =>
                obtain ⟨rfl, j, d2, hjn, rfl, rfl, rfl⟩ := hrel
                by_cases hj : j < ln k
                · have hcj := HC.out j hj
                  have hsj := hs.out j hj
                  simp only [maxLen] at hsj
                  go_wp2
                  · go_roundg (ln k - (j + 1))
                    case rel => exact ⟨rfl, j + 1, _, by omega, rfl, by go_num, rfl⟩
                    case measure => omega
                  · go_roundg (ln k - (j + 1))
                    case rel => exact ⟨rfl, j + 1, _, by omega, rfl, by go_num, rfl⟩
                    case measure => omega
                · go_wp2
                  go_roundg (i - (k + 1))
                  case rel => exact ⟨rfl, k + 1, _, by omega, rfl, by go_num, rfl, rfl⟩
                  case measure => omega
            · obtain rfl : k = i := by omega
              have hcl := cnt_le ln k
              by_cases hbig : cnt ln k ≤ 65536
              · have HP := hid (cnt_pr k HNZ.out hbig)
                go_wp2_with (first | (go_at_call 14; refine (sat_any _ _ _ _).mono ?_; rintro e w' ⟨r, rfl, rfl⟩))
                · go_ret2
                  exact RetTB.no
                · go_ret2
                  exact ⟨true, _, rfl, Below.refl _ _, fun _ => ⟨hn6, HF.out, fun h => absurd h h1, fun _ => by rw [← HP.out]; exact ⟨rfl, hbig⟩⟩⟩
              · go_wp2
                go_ret2
                exact RetTB.no
end Go.Proofs.Qxb6603132aDoor
