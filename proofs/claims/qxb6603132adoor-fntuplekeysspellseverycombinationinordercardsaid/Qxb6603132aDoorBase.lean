/- Lists of strings in memory; zzBytes, zzSatMul, zzListsFit. -/
import Derived.Test.Qxb6603132aDoorProg
import Derived.WalkKit
import Derived.ProofKit
import Derived.WalkLawsBesides
import Derived.Deep.LoopGhost
import Derived.Deep.DeepCutAuto
import Derived.Lib.Hide
namespace Go.Proofs.Qxb6603132aDoor
open Go Go.RowKit

theorem hid {p : Prop} (h : p) : Hid p := h

/-- n lists of strings at ⟨b, o⟩: list i is (ad i, ln i, cp i), its strings are S i 0, S i 1 .. -/
structure Ls (b o n : Nat) (ad : Nat → Option Addr) (ln cp : Nat → Nat) (S : Nat → Nat → ByteArray) (w : World) : Prop where
  out : ∀ i, i < n → w.cell? ⟨b, o + i, none⟩ = some (.slice (ad i) (ln i) (cp i))
  inn : ∀ i, i < n → 0 < ln i → ∃ bi oi, ad i = some ⟨bi, oi, none⟩ ∧ ∀ j, j < ln i → w.cell? ⟨bi, oi + j, none⟩ = some (.string (S i j))
  nil : ∀ i, i < n → ad i = none → ln i = 0 ∧ cp i = 0
  hn : n ≤ maxLen
  hl : ∀ i, i < n → ln i ≤ maxLen
  hs : ∀ i, i < n → ∀ j, j < ln i → (S i j).size ≤ maxLen

/-- Some bool comes back, and the world is as it was. -/
def RetBool (w : World) (e : Ending) (w' : World) : Prop := ∃ b : Bool, e = .returned (.bool b) ∧ w = w'
theorem RetBool.mk {w : World} (b : Bool) : RetBool w (.returned (.bool b)) w := ⟨b, rfl, rfl⟩

def R5 (n : Nat) (w : World) (g : Nat) (s3 s4 : Value) (wx : World) : Prop := w = wx ∧ ∃ (i : Nat) (z : Int), i ≤ n ∧ g = n - i ∧ s4 = .int .i64 i ∧ s3 = .int .i64 z

set_option maxRecDepth 100000 in
set_option maxHeartbeats 4000000 in
theorem bytes_any {b o n cap : Nat} {ad : Nat → Option Addr} {ln cp : Nat → Nat} {S : Nat → Nat → ByteArray} (w : World) (h : Ls b o n ad ln cp S w) :
    Calls Tryd.prog 5 #[.slice (some ⟨b, o, none⟩) n cap] w (RetBool w) := by
  have hn := h.hn
  simp only [maxLen] at hn
  have H := hid h
  clear h
  by_cases hsm : n ≤ 1048576
  · go_enter Tryd.func5, Tryd.ntmps5
    go_wp2
    go_loopg [3, 4] n (fun g s3 s4 wx => R5 n w g s3 s4 wx)
    case atStart => exact ⟨rfl, 0, n, by omega, by omega, rfl, by first | rfl | go_num⟩
    case round =>
      obtain ⟨rfl, i, z, hin, rfl, rfl, rfl⟩ := hrel
      by_cases hi : i < n
      · have hc := H.out.out i hi
        have hli := H.out.hl i hi
        simp only [maxLen] at hli
        have hin : ∃ ao, ad i = ao ∧ (0 < ln i → ∃ bi oi, ao = some ⟨bi, oi, none⟩ ∧ ∀ j, j < ln i → w.cell? ⟨bi, oi + j, none⟩ = some (.string (S i j))) := ⟨_, rfl, H.out.inn i hi⟩
        obtain ⟨ao, eao, hin⟩ := hin
        rw [eao] at hc
        clear eao
        have inner : 0 < ln i ∨ ln i = 0 := by omega
        rcases inner with hl | hl
        · obtain ⟨bi, oi, rfl, hcs⟩ := hin hl
          have HC := hid hcs
          clear hcs hin
          have hs := hid (H.out.hs i hi)
          go_wp2
          · go_ret
            exact RetBool.mk _
          · go_ret
            exact RetBool.mk _
          · go_loopg [3, 5] (ln i) (fun g s3 s5 wx => R5 (ln i) w g s3 s5 wx)
            case atStart => exact ⟨rfl, 0, _, by omega, by omega, rfl, rfl⟩
            case round =>
              obtain ⟨rfl, j, z2, hjn, rfl, rfl, rfl⟩ := hrel
              by_cases hj : j < ln i
              · have hcj := HC.out j hj
                have hsj := hs.out j hj
                simp only [maxLen] at hsj
                go_wp2
                · go_ret
                  exact RetBool.mk _
                · go_ret
                  exact RetBool.mk _
                · go_roundg (ln i - (j + 1))
                  case rel => exact ⟨rfl, j + 1, _, by omega, rfl, by go_num, rfl⟩
                  case measure => omega
              · go_wp2
                go_roundg (n - (i + 1))
                case rel => exact ⟨rfl, i + 1, _, by omega, rfl, by go_num, rfl⟩
                case measure => omega
        · clear hin
          rw [hl] at hc
          go_wp2
          · go_ret
            exact RetBool.mk _
          · go_loopg [3, 5] 0 (fun g s3 s5 wx => R5 0 w g s3 s5 wx)
            case atStart => exact ⟨rfl, 0, _, by omega, by omega, rfl, rfl⟩
            case round =>
              obtain ⟨rfl, j, z2, hjn, rfl, rfl, rfl⟩ := hrel
              obtain rfl : j = 0 := by omega
              go_wp2
              go_roundg (n - (i + 1))
              case rel => exact ⟨rfl, i + 1, _, by omega, rfl, by go_num, rfl⟩
              case measure => omega
      · go_wp2
        go_ret
        exact RetBool.mk _
  · go_enter Tryd.func5, Tryd.ntmps5
    go_wp2
    go_ret
    exact RetBool.mk _
/-- zzSatMul, whatever the numbers: some number. -/
def RetInt (w : World) (e : Ending) (w' : World) : Prop := ∃ r : Int, e = .returned (.int .i64 r) ∧ w = w'

def satm (a b : Nat) : Nat := if a * b ≤ 65536 then a * b else 65537

set_option maxRecDepth 100000 in
set_option maxHeartbeats 2000000 in
theorem sat_any (a b lim : Int) (w : World) : Calls Tryd.prog 14 #[.int .i64 a, .int .i64 b, .int .i64 lim] w (RetInt w) := by
  cases ea : (a == 0) with
  | true =>
    go_enter Tryd.func14, Tryd.ntmps14
    go_wp2
    go_ret
    exact ⟨_, rfl, rfl⟩
  | false =>
    cases eb : (b == 0) with
    | true =>
      go_enter Tryd.func14, Tryd.ntmps14
      go_wp2
      go_ret
      exact ⟨_, rfl, rfl⟩
    | false =>
      have hb0 : ¬ b = 0 := by intro e; rw [e] at eb; cases eb
      go_enter Tryd.func14, Tryd.ntmps14
      go_wp2
      · go_ret
        exact ⟨_, rfl, rfl⟩
      · go_ret
        exact ⟨_, rfl, rfl⟩

theorem tdiv_nat (b : Nat) : Int.tdiv 65536 (b : Int) = ((65536 / b : Nat) : Int) := rfl

set_option maxRecDepth 100000 in
set_option maxHeartbeats 2000000 in
theorem sat_mul (a b : Nat) (w : World) (ha : a ≤ 65537) (hb : b ≤ 65536) : Calls Tryd.prog 14 #[.int .i64 (a : Nat), .int .i64 (b : Nat), .int .i64 65536] w fun e w' => e = .returned (.int .i64 (satm a b : Nat)) ∧ w = w' := by
  by_cases ha0 : a = 0
  · subst ha0
    go_enter Tryd.func14, Tryd.ntmps14
    go_wp2
    go_ret
    exact ⟨by simp [satm], rfl⟩
  · have ea : ((a : Int) == 0) = false := by simp; omega
    by_cases hb0 : b = 0
    · subst hb0
      go_enter Tryd.func14, Tryd.ntmps14
      go_wp2
      go_ret
      exact ⟨by simp [satm], rfl⟩
    · have eb : ((b : Int) == 0) = false := by simp; omega
      go_enter Tryd.func14, Tryd.ntmps14
      by_cases hab : a * b ≤ 65536
      · have h1 : (a : Int) ≤ 65536 / (b : Int) := by
          have h2 : a ≤ 65536 / b := (Nat.le_div_iff_mul_le (by omega)).2 hab
          have h3 : ((65536 / b : Nat) : Int) = (65536 : Int) / (b : Int) := by simp
          omega
        have h4 : wrap64 ((a : Int) * (b : Int)) = ((a * b : Nat) : Int) := by
          have h5 : ((a * b : Nat) : Int) = (a : Int) * (b : Int) := by simp
          rw [← h5]
          exact IntWalk.wrap64_in _ (by omega)
        go_wp2
        go_ret
        exact ⟨by simp [satm, hab], rfl⟩
      · have h1 : (65536 : Int) / (b : Int) < (a : Int) := by
          have h2 : ¬ a ≤ 65536 / b := fun h => hab ((Nat.le_div_iff_mul_le (by omega)).1 h)
          have h3 : ((65536 / b : Nat) : Int) = (65536 : Int) / (b : Int) := by simp
          omega
        go_wp2
        go_ret
        exact ⟨by simp [satm, hab], rfl⟩
end Go.Proofs.Qxb6603132aDoor
