import Derived.Test.Qxb6601594aBase
namespace Go.Proofs.Qxb6601594a
open Go.RowKit
set_option maxRecDepth 100000 in
set_option maxHeartbeats 4000000 in
theorem bytes_any (l : Lab) (a0 : Option Addr) (cap : Nat) (a1 a4 : Int) (s2 s3 s5 s6 : ByteArray) (w : World) (h : l.In w) (ha0 : 0 < l.n → a0 = some ⟨l.B, l.O, none⟩) (h2 : s2.size ≤ 9223372036854775807) (h3 : s3.size ≤ 9223372036854775807) (h5 : s5.size ≤ 9223372036854775807) (h6 : s6.size ≤ 9223372036854775807) :
    Calls Try.prog 16 #[.slice a0 l.n cap, .int .i64 a1, .string s2, .string s3, .int .i64 a4, .string s5, .string s6] w (RetB (l.n + rs l.L l.n ≤ 1048576) w) := by
  have hr := h.reach
  go_enter Try.func16, Try.ntmps16
  go_wp2
  · go_ret
    exact RetB.no rfl
  · go_loop [15, 16] (fun z i => ∃ k t : Nat, k ≤ l.n ∧ i = .int .i64 k ∧ z = .int .i64 t ∧ l.n + rs l.L k ≤ t ∧ t ≤ 1048576) (fun _ i => l.n - (intOf i).toNat)
    case atStart => exact ⟨0, l.n, Nat.zero_le _, rfl, rfl, by simp [rs], by omega⟩
    case round =>
      obtain ⟨k, t, hk, rfl, rfl, ht, ht2⟩ := hrel
      by_cases hlt : k < l.n
      · obtain rfl := ha0 (by omega)
        have hrow := h.row k hlt
        have hlen := h.len k hlt
        have hrs : rs l.L (k + 1) = rs l.L k + l.L k := rfl
        have HRS : Hid (rs l.L (k + 1) = rs l.L k + l.L k) := hrs
        clear hrs
        go_wp2
        · go_ret
          exact RetB.no rfl
        · go_ret
          exact RetB.no rfl
        · go_loop [15, 17] (fun z i => ∃ j t : Nat, j ≤ l.L k ∧ i = .int .i64 j ∧ z = .int .i64 t ∧ l.n + rs l.L (k + 1) ≤ t ∧ t ≤ 1048576) (fun _ i => l.L k - (intOf i).toNat)
          case atStart => exact ⟨0, t + l.L k, Nat.zero_le _, rfl, by go_num, by rw [HRS.out]; omega, by omega⟩
          case round =>
            obtain ⟨j, t', hj, rfl, rfl, ht', ht2'⟩ := hrel
            by_cases hjl : j < l.L k
            · have hrow2 : w.cell? ⟨l.B, l.O + k, none⟩ = some (.slice (some ⟨l.RB k, l.RO k, none⟩) (l.L k) (l.C k)) := by
                rw [hrow, (h.adr k hlt (by omega)).1]
              clear hrow
              have hkc := h.key k j hlt hjl
              have hvc := h.val k j hlt hjl
              have hks := h.ksz k j hlt hjl
              have hvs := h.vsz k j hlt hjl
              go_wp2
              · go_ret
                exact RetB.no rfl
              · go_ret
                exact RetB.no rfl
              · go_ret
                exact RetB.no rfl
              · go_ret
                exact RetB.no rfl
              · go_round
                case rel => exact ⟨j + 1, t' + (l.Ks k j).size + (l.Vs k j).size, by omega, by go_num, by go_num, by omega, by omega⟩
                case measure => simp [intOf]; omega
            · go_wp2
              go_round
              case rel => exact ⟨k + 1, t', by omega, by go_num, by go_num, by omega, by omega⟩
              case measure => simp [intOf]; omega
      · have : k = l.n := by omega
        subst this
        go_wp2
        all_goals go_ret
        all_goals first | exact RetB.no rfl | exact RetB.yes rfl (by omega)
end Go.Proofs.Qxb6601594a
