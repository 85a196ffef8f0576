import Derived.Test.Qxb6601594aBase
import Derived.Deep.LoopGhost
namespace Go.Proofs.Qxb6601594a
open Go.RowKit

def RetTB (w : World) (e : Ending) (w' : World) : Prop := ∃ (t' : Int) (ok : Bool), e = .returned (.tuple #[.int .i64 t', .bool ok]) ∧ w = w'

/-- zzAdd: a number and a bool come back; the world is as it was. -/
theorem add_any (t n : Int) (w : World) :
    Calls Try.prog 17 #[.int .i64 t, .int .i64 n] w (RetTB w) := by
  by_cases h : wrap64 (1048576 - t) < n
  · go_enter Try.func17, Try.ntmps17
    go_wp2
    go_ret2
    exact ⟨_, _, rfl, rfl⟩
  · go_enter Try.func17, Try.ntmps17
    go_wp2
    go_ret2
    exact ⟨_, _, rfl, rfl⟩

/-- A counter at most n, and a number. -/
def CntNum (n g : Nat) (z i : Value) : Prop := ∃ k : Nat, ∃ t : Int, k ≤ n ∧ g = n - k ∧ i = .int .i64 k ∧ z = .int .i64 t

set_option maxRecDepth 100000 in
set_option maxHeartbeats 4000000 in
theorem fit_any (l : Lab) (a0 : Option Addr) (cap : Nat) (s1 s2 s3 s4 : ByteArray) (w : World) (h : l.In w) (ha0 : 0 < l.n → a0 = some ⟨l.B, l.O, none⟩) :
    Calls Try.prog 7 #[.slice a0 l.n cap, .string s1, .string s2, .string s3, .string s4] w (RetB True w) := by
  have hr := h.reach
  go_enter Try.func7, Try.ntmps7
  go_wp2_with (go_at_call 17; refine (add_any _ _ _).mono ?_; rintro e w' ⟨t1, ok, rfl, rfl⟩; cases ok)
  · go_ret
    exact RetB.no rfl
  · go_ret
    exact RetB.no rfl
  · go_ret
    exact RetB.no rfl
  · go_ret
    exact RetB.no rfl
  · go_ret
    exact RetB.no rfl
  · go_loopg [11, 13] l.n (fun g z i wx => w = wx ∧ CntNum l.n g z i)
    case atStart => exact ⟨rfl, 0, _, Nat.zero_le _, rfl, rfl, rfl⟩
    case round =>
      obtain ⟨rfl, k, t, hk, rfl, rfl, rfl⟩ := hrel
      by_cases hlt : k < l.n
      · obtain rfl := ha0 (by omega)
        have hlen := h.len k hlt
        have hrow := h.row k hlt
        obtain ⟨A, hA⟩ : ∃ A, A = l.A k := ⟨_, rfl⟩
        rw [← hA] at hrow
        have HA : Hid (A = l.A k) := hA
        clear hA
        go_wp2_with (go_at_call 17; refine (add_any _ _ _).mono ?_; rintro e w' ⟨t1, ok, rfl, rfl⟩; cases ok)
        · go_ret
          exact RetB.no rfl
        · go_ret
          exact RetB.no rfl
        · go_loopg [11, 15] (l.L k) (fun g z i wx => w = wx ∧ CntNum (l.L k) g z i)
          case atStart => exact ⟨rfl, 0, _, Nat.zero_le _, rfl, rfl, rfl⟩
          case round =>
            obtain ⟨rfl, j, t', hj, rfl, rfl, rfl⟩ := hrel
            by_cases hjl : j < l.L k
            · have hkc := h.key k j hlt hjl
              have hvc := h.val k j hlt hjl
              obtain rfl : A = some ⟨l.RB k, l.RO k, none⟩ := HA.out.trans (h.adr k hlt (by omega)).1
              go_wp2_with (go_at_call 17; refine (add_any _ _ _).mono ?_; rintro e w' ⟨t1, ok, rfl, rfl⟩; cases ok)
              · go_ret
                exact RetB.no rfl
              · go_ret
                exact RetB.no rfl
              · go_roundg (l.L k - (j + 1))
                case rel => exact ⟨rfl, j + 1, _, by omega, rfl, by go_num, rfl⟩
                case measure => omega
            · go_wp2
              go_roundg (l.n - (k + 1))
              case rel => exact ⟨rfl, k + 1, _, by omega, rfl, by go_num, rfl⟩
              case measure => omega
      · go_wp2
        go_ret
        exact RetB.yes rfl trivial
end Go.Proofs.Qxb6601594a
