/- The proof of Rows.FnTupleKeysSpellsEveryCombinationInOrderCardSaid: the row, then its tied card. -/
import Derived.Test.Qxb6603132aDoorTie
import Derived.Test.Qxb6603132aDoorCards
import Derived.Test.Qxb6603132aDoorOpen
import Derived.ProofKit
import Derived.OpenShut
import Derived.ShutString
import Derived.ChangeOld
import Derived.Below
import Derived.LaidMore
import Derived.Lay
import Derived.SevenTiedAt
import Derived.Stop.Joined
namespace Go.Proofs.Qxb6603132aDoor.fnTupleKeysSpellsEveryCombinationInOrder
open Go.ChangeShapes Go.WideShapes Go.ChangeAt Go.RowKit
set_option linter.unusedVariables false

theorem own : ownKnob Tryd.prog.godebug = none := by kernel_rfl

theorem laidOut : laidOutB Tryd.prog = true := by kernel_rfl

theorem pow10_data : (Rows.laid_internal_strconv_uint64pow10 : DataW Unit) = Lib.tabData .u64 Lib.pow10Tab := by kernel_rfl

/-- What the row lists of uint64pow10, as the walk asks for it. -/
theorem tab_of_laid {W : World} (h : laidMetH Tryd.prog Rows.fnTupleKeysSpellsEveryCombinationInOrderRow.laid W) : Lib.TabIs Tryd.prog W "internal/strconv.uint64pow10" .u64 Lib.pow10Tab := by
  rw [MakeChecks.laidMetH_plain _ _ _ (by kernel_rfl)] at h
  obtain ⟨ps, ⟨g1, t1, cs1, fuel1, p1, q1, _, _, _, _, ⟨g2, t2, cs2, fuel2, p2, q2, _, _, _, _, ⟨g, t, cs, fuel, p, q, hg, ht, hv, hd, _, _⟩, _⟩, _⟩, _⟩ := h
  obtain rfl := Option.some.inj ((show Tryd.prog.globalNamed "internal/strconv.uint64pow10" = some 0 by kernel_rfl).symm.trans hg)
  obtain rfl := Option.some.inj ((show (Tryd.prog.globals[0]?).map (·.type) = some 52 by kernel_rfl).symm.trans ht)
  rw [pow10_data] at hd
  unfold Lib.TabIs
  rw [hv, ← Lib.cells_of_tab Tryd.underlying52 Tryd.underlying42 (by kernel_rfl) (by kernel_rfl) hd]

set_option maxRecDepth 100000 in
theorem lifted (os : Os) (started : os.Started) (H : Type) (enc : TypeId × Value → H) :
    ReturnsInHanded {} Tryd.checked os 3 .any (fun w args => (Rows.fnTupleKeysSpellsEveryCombinationInOrderSpec.pre enc Tryd.prog Tryd.f3 Rows.fnTupleKeysSpellsEveryCombinationInOrderRow.domain false w args ∧ laidMetH Tryd.prog Rows.fnTupleKeysSpellsEveryCombinationInOrderRow.laid w) ∧ sizedMet enc Tryd.prog Tryd.f3 (OpenSpec.ofChange Rows.fnTupleKeysSpellsEveryCombinationInOrderSpec) false w args)
      (Rows.fnTupleKeysSpellsEveryCombinationInOrderSpec.post enc Tryd.prog Tryd.f3 false true false false) := by
  refine returnsInHanded_of_change_and (C := Tryd.checked) (X := fun w _ => laidMetH Tryd.prog Rows.fnTupleKeysSpellsEveryCombinationInOrderRow.laid w) (fun _ _ _ hh h => h.of_heap hh) own started (by kernel_rfl) Tryd.func3
    (ChangeSpec.witness_shaped (enc := enc) (C := Tryd.checked) (os := os) (X := fun w _ => laidMetH Tryd.prog Rows.fnTupleKeysSpellsEveryCombinationInOrderRow.laid w) false (World.laidAll Tryd.prog os Rows.fnTupleKeysSpellsEveryCombinationInOrderRow.laid) #[.slice none 0 0] 8 (World.laidAll_os _ _ _)
      (World.shaped_of_ZipB (by kernel_rfl) (by kernel_rfl)) (by kernel_rfl) (by kernel_rfl) (by kernel_rfl)
      (by rw [MakeChecks.laidMetH_plain _ _ _ (by kernel_rfl)]; exact laidMet_laidAll _ (by kernel_rfl) (by kernel_rfl))) ?_
  intro W base args ds gs before hval0 hW hc _ hL _
  have hval : ∀ (j : Nat) t v, Tryd.f3.params[j]? = some t → args[j]? = some v → Value.okWide Tryd.prog W .any base t v := hval0
  have hW' := hW
  obtain ⟨p, q, hA0, hV, rfl, _, _⟩ := hW
  have hA : DataW.TrodAll enc Tryd.prog W 0 (fun _ => true) true Tryd.f3.params.toList args.toList ds p := hA0
  rw [Tryd.params3] at hA hval
  obtain ⟨v0, d0, rfl, rfl, h0⟩ := trodAll_one hA
  obtain ⟨rfl, rfl⟩ := trodVars_none hV
  obtain ⟨a0, len0, cap0, rfl⟩ := okWide_slice Tryd.underlying22 (hval 0 22 v0 rfl rfl)
  have k0 := h0
  have lt0 : ∀ x ∈ p, x.block < W.heap.size := by obtain ⟨m, hm⟩ := k0; exact DataW.trod_lt m _ _ _ hm
  clear hA0 hval0
  refine (law_all a0 len0 cap0 h0 (tab_of_laid hL)).mono fun e W' ⟨he, bel⟩ => ?_
  subst he
  exact ⟨_, rfl, _, _, _, [], _, [], hW', trodAll_mk1 (shut_bool Tryd.underlying4 _), trodAll_mk1 (Below.trod laidOut (by kernel_rfl) (of_decide_eq_true (by kernel_rfl)) k0 bel lt0), rfl, bel.frame _, fun h => by cases h⟩

theorem over : Rows.FnTupleKeysSpellsEveryCombinationInOrderSaid :=
  OpenClaim.holds_of_wide 3 Tryd.f3 rfl rfl rfl rfl rfl rfl rfl ⟨rfl, rfl, rfl, rfl, rfl⟩ rfl rfl rfl rfl rfl (by kernel_rfl) Tryd.func3 (by kernel_rfl)
    (of_decide_eq_true (by kernel_rfl)) (by unfold Func.isWrapper; first | (rw [if_pos (by decide +kernel)]; kernel_rfl) | (rw [if_neg (by decide +kernel)]; exact ⟨rfl, rfl⟩))
    (fun os started H enc _ => lifted os started H enc)

/-- The statement: the row, its listed variables tied to the program's text. -/
theorem proved : Rows.FnTupleKeysSpellsEveryCombinationInOrderCardSaid :=
  Claim7.holds_tied_plain_at .later [] [.data, .data, .data] true (true, "7025207fb41c15235529243870b14cdd95d7f62c3e9dccb0d8fe341477d8403c") false over (fun _ h => by cases h) (by kernel_rfl) (fun _ h => by cases h) fnTupleKeysSpellsEveryCombinationInOrder_row_tie rfl ⟨rfl, rfl⟩ (by kernel_rfl) rfl
    (fun f fn hf hfn => by
      obtain rfl : f = 3 := Option.some.inj ((show Tryd.prog.funcNamed "example.com/keelson/keelson/zzlaws_xpath_b1.FnTupleKeysSpellsEveryCombinationInOrder" = some 3 by kernel_rfl).symm.trans hf) |>.symm
      obtain rfl : fn = Tryd.f3 := (Option.some.inj (Tryd.func3.symm.trans hfn)).symm
      exact ⟨by kernel_rfl, fun j t ht => by
        rw [Tryd.params3] at ht
        have hm : t ∈ [22] := by simpa using Array.mem_of_getElem? ht
        have hall : ([22].all fun u => !Tryd.prog.wantsStandIn u) = true := by kernel_rfl
        exact (show Tryd.prog.wantsStandIn t = false by simpa using List.all_eq_true.1 hall t hm)⟩)
    (by kernel_rfl)
end Go.Proofs.Qxb6603132aDoor.fnTupleKeysSpellsEveryCombinationInOrder
