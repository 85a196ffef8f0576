/- (*zzIndentModelB1).word, with emit off. -/
import Derived.Test.Qxb6603067aStr
import Derived.Deep.RegionHeld3
namespace Go.Proofs.Qxb6603067a
open Go Go.RowKit

def RetV (c : Nat → Int) (p n : Nat) (w : World) (e : Ending) (w' : World) : Prop :=
  ∃ (q : Int) (ok : Bool), e = .returned (.tuple #[.int .i64 q, .bool ok]) ∧ w = w' ∧ (ok = true → ∃ q' : Nat, q = q' ∧ q' ≤ n ∧ Val c p q')

theorem RetV.no {c : Nat → Int} {p n : Nat} {w : World} {q : Int} : RetV c p n w (.returned (.tuple #[.int .i64 q, .bool false])) w := ⟨q, false, rfl, rfl, fun h => by cases h⟩
theorem RetV.yes {c : Nat → Int} {p n : Nat} {w : World} {q : Int} {q' : Nat} (hq : q = q') (hn : q' ≤ n) (h : Val c p q') : RetV c p n w (.returned (.tuple #[.int .i64 q, .bool true])) w := ⟨q, true, rfl, rfl, fun _ => ⟨q', hq, hn, h⟩⟩

/-- What value and container hand back: they turn two counters of the model alone. -/
def RetM (bm cb co n cap : Nat) (c : Nat → Int) (X : Nat → Prop) (w : World) (e : Ending) (w' : World) : Prop :=
  ∃ (q : Int) (ok : Bool), e = .returned (.tuple #[.int .i64 q, .bool ok]) ∧ MB bm cb co n cap c w' ∧ w.grownBy w' (some bm) ∧ (ok = true → ∃ q' : Nat, q = q' ∧ q' ≤ n ∧ X q')

theorem RetM.no {bm cb co n cap : Nat} {c : Nat → Int} {X : Nat → Prop} {w w' : World} {q : Int} (h : MB bm cb co n cap c w') (hg : w.grownBy w' (some bm)) : RetM bm cb co n cap c X w (.returned (.tuple #[.int .i64 q, .bool false])) w' :=
  ⟨q, false, rfl, h, hg, fun h => by cases h⟩
theorem RetM.yes {bm cb co n cap : Nat} {c : Nat → Int} {X : Nat → Prop} {w w' : World} {q : Int} {q' : Nat} (h : MB bm cb co n cap c w') (hg : w.grownBy w' (some bm)) (hq : q = q') (hn : q' ≤ n) (hX : X q') : RetM bm cb co n cap c X w (.returned (.tuple #[.int .i64 q, .bool true])) w' :=
  ⟨q, true, rfl, h, hg, fun _ => ⟨q', hq, hn, hX⟩⟩

theorem MB.drew {bm cb co n cap : Nat} {c : Nat → Int} {w : World} (h : MB bm cb co n cap c w) : MB bm cb co n cap c w.drew := ⟨h.m0, h.m3, h.m5, h.m6, h.fr, h.ch, h.rg, h.ne, h.hn, h.m4⟩
theorem grown_drew {w w1 : World} {row : Option Nat} (h : w.grownBy w1 row) : w.grownBy w1.drew row := ⟨h.os, h.tape, h.output, h.size, h.block⟩

def RWd (bm cb co n cap : Nat) (c : Nat → Int) (p : Nat) (s : ByteArray) (w : World) (g : Nat) (s8 : Value) (wx : World) : Prop :=
  (MB bm cb co n cap c wx ∧ w.grownBy wx (some bm)) ∧ ∃ k : Nat, k ≤ s.size ∧ g = s.size - k ∧ s8 = .int .i64 k ∧ ∀ i, i < k → plainB (c (p + i))

theorem wrap_in (x : Int) (h1 : -9223372036854775808 ≤ x) (h2 : x ≤ 9223372036854775807) : IntKind.i64.wrap x = x := by
  rw [IntKind.wrap_i64]
  omega

set_option maxRecDepth 100000 in
set_option maxHeartbeats 2000000 in
theorem word_any {bm cb co n cap : Nat} {c : Nat → Int} (p : Nat) (s : ByteArray) (w : World) (h : MB bm cb co n cap c w) (hp : p < n) (hs : s.size ≤ 100) (hpl : ∀ i, (hi : i < s.size) → plainB ((s[i].toNat : Int))) :
    Calls Try.prog 43 #[.pointer (some ⟨bm, 0, none⟩), .int .i64 (p : Nat), .string s] w (RetM bm cb co n cap c (fun q => Val c p q) w) := by
  have m0 := h.m0
  have m3 := h.m3
  have hn := h.hn
  have HPL := hid hpl
  clear hpl
  by_cases hlen : p + s.size ≤ n
  · go_enter Try.func43, Try.ntmps43
    go_wp2
    go_loopg [8] s.size (fun g s8 wx => RWd bm cb co n cap c p s w g s8 wx)
    case atStart => exact ⟨⟨h, World.grownBy.refl _ _⟩, 0, Nat.zero_le _, rfl, rfl, fun i hi => by omega⟩
    case round =>
      obtain ⟨⟨hM, hgw⟩, k, hk, rfl, rfl, hall⟩ := hrel
      have HA := hid hall
      have HG := hid hgw
      clear hall hgw h m0 m3
      have m0 := hM.m0
      have m3 := hM.m3
      by_cases hkl : k < s.size
      · have hc := hM.ch (p + k) (by omega)
        have hz : (0 : Int) ≤ (p : Int) + k := by omega
        have hz2 : (p : Int) + k < n := by omega
        have hz3 : (k : Int) < s.size := by omega
        have hz4 : IntKind.i64.wrap ((p : Int) + (k : Int)) = (p : Int) + k := wrap_in _ (by omega) (by omega)
        have hz5 : ((p : Int) + (k : Int)).toNat = p + k := by omega
        go_wp2
        go_region_held3 (fun w' => w'.cell? ⟨bm, 0, none⟩ = some (.slice (some ⟨cb, co, none⟩) n cap) ∧ w'.cell? ⟨cb, co + (p + k), none⟩ = some (.int .u8 (c (p + k)))) (go_keep) (fail)
        go_wp2
        · go_ret2
          exact RetM.no hM.drew (grown_drew HG.out)
        · have heq : (c (p + k) != (s[k].toNat : Int)) = false := by assumption
          go_roundg (s.size - (k + 1))
          case rel =>
            refine ⟨⟨hM.drew, grown_drew HG.out⟩, k + 1, by omega, rfl, by go_num, fun i hi => ?_⟩
            by_cases e : i = k
            · subst e
              have : c (p + i) = (s[i].toNat : Int) := by simpa using heq
              rw [this]
              exact HPL.out i hkl
            · exact HA.out i (by omega)
          case measure => omega
      · obtain rfl : k = s.size := by omega
        go_wp2_with (first | (go_at_call 29; refine (putString_any _ _ _ m3).mono ?_; rintro e w' ⟨rfl, rfl⟩))
        go_ret2
        exact RetM.yes (q' := p + s.size) hM HG.out (by omega) hlen (Val.plain (by omega) (fun i h1 h2 => by have := HA.out (i - p) (by omega); rwa [show p + (i - p) = i by omega] at this))
  · go_enter Try.func43, Try.ntmps43
    go_wp2
    go_ret2
    exact RetM.no h (World.grownBy.refl _ _)
end Go.Proofs.Qxb6603067a
