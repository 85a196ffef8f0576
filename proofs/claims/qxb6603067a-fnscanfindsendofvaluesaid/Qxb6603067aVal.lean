/- (*zzIndentModelB1).value: by induction on what is left of the bytes. -/
import Derived.Test.Qxb6603067aCont
import Derived.Test.Qxb6603067aNum
namespace Go.Proofs.Qxb6603067a
open Go Go.RowKit

theorem RetM.ofX {bm cb co n cap : Nat} {c : Nat → Int} {X Y : Nat → Prop} {w : World} {e : Ending} {w' : World} (h : RetM bm cb co n cap c X w e w') (hXY : ∀ q, X q → Y q) : RetM bm cb co n cap c Y w e w' := by
  obtain ⟨q, ok, he, hM, hg, hok⟩ := h
  exact ⟨q, ok, he, hM, hg, fun h => by obtain ⟨q', h1, h2, h3⟩ := hok h; exact ⟨q', h1, h2, hXY _ h3⟩⟩
theorem RetM.mk {bm cb co n cap : Nat} {c : Nat → Int} {X : Nat → Prop} {w w' : World} {q : Int} {ok : Bool} (h : MB bm cb co n cap c w') (hg : w.grownBy w' (some bm)) (hok : ok = true → ∃ q' : Nat, q = q' ∧ q' ≤ n ∧ X q') : RetM bm cb co n cap c X w (.returned (.tuple #[.int .i64 q, .bool ok])) w' :=
  ⟨q, ok, rfl, h, hg, hok⟩

def VX (c : Nat → Int) (p q : Nat) : Prop := Val c p q ∧ (c p = 34 → Str c p q) ∧ (c p = 123 ∨ c p = 91 → Con c p q)
theorem VX.con {c : Nat → Int} {p q : Nat} (h : c p = 123 ∨ c p = 91) (hc : Con c p q) : VX c p q := ⟨hc.val, fun e => by omega, fun _ => hc⟩
theorem VX.str {c : Nat → Int} {p q : Nat} (h : c p = 34) (hc : Str c p q) : VX c p q := ⟨hc.val, fun _ => hc, fun e => by omega⟩
theorem VX.plain {c : Nat → Int} {p q : Nat} (h1 : c p ≠ 34) (h2 : c p ≠ 123) (h3 : c p ≠ 91) (hc : Val c p q) : VX c p q := ⟨hc, fun e => absurd e h1, fun e => by omega⟩

theorem word_plain (s : ByteArray) (h : s.data.toList.all (fun b => b != 34 && b != 123 && b != 91 && b != 125 && b != 93) = true) : ∀ i, (hi : i < s.size) → plainB ((s[i].toNat : Int)) := by
  intro i hi
  have hm : s[i] ∈ s.data.toList := by
    show s.data[i] ∈ s.data.toList
    exact Array.getElem_mem_toList hi
  have := List.all_eq_true.mp h _ hm
  simp only [Bool.and_eq_true, bne_iff_ne, ne_eq] at this
  obtain ⟨⟨⟨⟨a1, a2⟩, a3⟩, a4⟩, a5⟩ := this
  unfold plainB
  refine ⟨fun e => a1 ?_, fun e => a2 ?_, fun e => a3 ?_, fun e => a4 ?_, fun e => a5 ?_⟩ <;> (apply UInt8.toNat_inj.mp; simp; omega)

set_option maxRecDepth 100000 in
set_option maxHeartbeats 4000000 in
theorem value_any {bm cb co n cap : Nat} {c : Nat → Int} : ∀ (k p : Nat), n - p ≤ k → p ≤ n → ValueAt bm cb co n cap c p := by
  intro k
  induction k with
  | zero =>
    intro p hk hp d w h
    obtain rfl : p = n := by omega
    have m0 := h.m0
    have hn := h.hn
    go_enter Try.func30, Try.ntmps30
    go_wp2
    go_ret2
    exact RetM.no h (World.grownBy.refl _ _)
  | succ k ih =>
    intro p hk hp d w h
    have m0 := h.m0
    have hn := h.hn
    by_cases hpn : p < n
    · have IH : Hid (∀ p', p < p' → p' ≤ n → ValueAt bm cb co n cap c p') := hid (fun p' h1 h2 => ih p' (by omega) h2)
      clear ih
      have hc := h.ch p hpn
      show Calls _ _ _ _ (RetM bm cb co n cap c (VX c p) w)
      cases e1 : (c p == 123) with
      | true =>
        have E := hid (show c p = 123 by simpa using e1)
        go_enter Try.func30, Try.ntmps30
        go_wp2_with (first | (go_at_call 41; refine (cont_any p _ _ _ _ h hpn (Or.inl E.out) (Or.inl rfl) IH.out).mono ?_; rintro e w' ⟨q, ok, rfl, hM, hg, hok⟩; have HG := hid hg; have HK := hid hok; clear hg hok))
        go_ret2
        exact RetM.ofX (RetM.mk hM HG.out HK.out) (fun q hq => VX.con (Or.inl E.out) hq)
      | false =>
      cases e2 : (c p == 91) with
      | true =>
        have E := hid (show c p = 91 by simpa using e2)
        go_enter Try.func30, Try.ntmps30
        go_wp2_with (first | (go_at_call 41; refine (cont_any p _ _ _ _ h hpn (Or.inr E.out) (Or.inr rfl) IH.out).mono ?_; rintro e w' ⟨q, ok, rfl, hM, hg, hok⟩; have HG := hid hg; have HK := hid hok; clear hg hok))
        go_ret2
        exact RetM.ofX (RetM.mk hM HG.out HK.out) (fun q hq => VX.con (Or.inr E.out) hq)
      | false =>
      cases e3 : (c p == 34) with
      | true =>
        have E := hid (show c p = 34 by simpa using e3)
        go_enter Try.func30, Try.ntmps30
        go_wp2_with (first | (go_at_call 42; refine (str_any p _ h hpn E.out).mono ?_; rintro e w' ⟨q, ok, rfl, rfl, hok⟩; have HK := hid hok; clear hok))
        go_ret2
        exact RetM.ofX (RetM.mk h (World.grownBy.refl _ _) HK.out) (fun q hq => VX.str E.out hq)
      | false =>
      have E1 := hid (show c p ≠ 123 by intro e; rw [e] at e1; cases e1)
      have E2 := hid (show c p ≠ 91 by intro e; rw [e] at e2; cases e2)
      have E3 := hid (show c p ≠ 34 by intro e; rw [e] at e3; cases e3)
      cases e4 : (c p == 116) with
      | true =>
        go_enter Try.func30, Try.ntmps30
        go_wp2_with (first | (go_at_call 43; refine (word_any p _ _ h hpn (by decide) (word_plain _ (by decide))).mono ?_; rintro e w' ⟨q, ok, rfl, hM, hg, hok⟩; have HG := hid hg; have HK := hid hok; clear hg hok))
        go_ret2
        exact RetM.ofX (RetM.mk hM HG.out HK.out) (fun q hq => VX.plain E3.out E1.out E2.out hq)
      | false =>
      cases e5 : (c p == 102) with
      | true =>
        go_enter Try.func30, Try.ntmps30
        go_wp2_with (first | (go_at_call 43; refine (word_any p _ _ h hpn (by decide) (word_plain _ (by decide))).mono ?_; rintro e w' ⟨q, ok, rfl, hM, hg, hok⟩; have HG := hid hg; have HK := hid hok; clear hg hok))
        go_ret2
        exact RetM.ofX (RetM.mk hM HG.out HK.out) (fun q hq => VX.plain E3.out E1.out E2.out hq)
      | false =>
      cases e6 : (c p == 110) with
      | true =>
        go_enter Try.func30, Try.ntmps30
        go_wp2_with (first | (go_at_call 43; refine (word_any p _ _ h hpn (by decide) (word_plain _ (by decide))).mono ?_; rintro e w' ⟨q, ok, rfl, hM, hg, hok⟩; have HG := hid hg; have HK := hid hok; clear hg hok))
        go_ret2
        exact RetM.ofX (RetM.mk hM HG.out HK.out) (fun q hq => VX.plain E3.out E1.out E2.out hq)
      | false =>
        go_enter Try.func30, Try.ntmps30
        go_wp2_with (first | (go_at_call 44; refine (num_any p _ h hpn).mono ?_; rintro e w' ⟨q, ok, rfl, rfl, hok⟩; have HK := hid hok; clear hok))
        go_ret2
        exact RetM.ofX (RetM.mk h (World.grownBy.refl _ _) HK.out) (fun q hq => VX.plain E3.out E1.out E2.out hq)
    · obtain rfl : p = n := by omega
      go_enter Try.func30, Try.ntmps30
      go_wp2
      go_ret2
      exact RetM.no h (World.grownBy.refl _ _)
end Go.Proofs.Qxb6603067a
