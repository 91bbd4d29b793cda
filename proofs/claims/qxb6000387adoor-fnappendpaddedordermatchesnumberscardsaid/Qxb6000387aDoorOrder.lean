/-
  FnAppendPaddedOrderMatchesNumbers: the row proved, and its tied card.
-/
import Derived.Test.Qxb6000387aDoorLaid
import Derived.Test.Qxb6000387aDoorTie
import Derived.Test.Qxb6000387aDoorCards
import Derived.OpenShut
namespace Go.Proofs.Qxb6000387aDoor
open Go.ChangeShapes Go.WideShapes Go.ChangeAt Go.RowKit
open Go.WideMaps Go.WideElems

set_option maxRecDepth 100000 in
theorem order_lifted (os : Os) (started : os.Started) (H : Type) (enc : TypeId × Value → H) :
    ReturnsInHanded {} Tryd.checked os 4 .any (fun w args => (Rows.fnAppendPaddedOrderMatchesNumbersSpec.pre enc Tryd.prog Tryd.f4 [] false w args ∧ laidMetH Tryd.prog Rows.fnAppendPaddedOrderMatchesNumbersRow.laid w) ∧ sizedMet enc Tryd.prog Tryd.f4 (OpenSpec.ofChange Rows.fnAppendPaddedOrderMatchesNumbersSpec) false w args)
      (Rows.fnAppendPaddedOrderMatchesNumbersSpec.post enc Tryd.prog Tryd.f4 false true false false) := by
  refine returnsInHanded_of_change_and (C := Tryd.checked) (X := fun w _ => laidMetH Tryd.prog Rows.fnAppendPaddedOrderMatchesNumbersRow.laid w) (fun _ _ _ hh h => h.of_heap hh) Tryd.own started (by kernel_rfl) Tryd.func4
    (ChangeSpec.witness_shaped (enc := enc) (C := Tryd.checked) (os := os) (X := fun w _ => laidMetH Tryd.prog Rows.fnAppendPaddedOrderMatchesNumbersRow.laid w) false (World.doorLaid Tryd.prog 400 os) #[.int .u64 0, .int .u64 0, .int .i64 0, .int .i64 0] 8 rfl (World.shaped_of_RefB (by kernel_rfl) (by kernel_rfl)) (by kernel_rfl) (by kernel_rfl) (by kernel_rfl) (door_met os _)) ?_
  intro W base args ds gs before hval0 hW _ _ hL _
  have hval : ∀ (j : Nat) t v, Tryd.f4.params[j]? = some t → args[j]? = some v → Value.okWide Tryd.prog W .any base t v := hval0
  have hW' := hW
  obtain ⟨p, q, hA0, hV, rfl, hfz, hnd⟩ := hW
  have hA : DataW.TrodAll enc Tryd.prog W 0 (fun _ => true) true Tryd.f4.params.toList args.toList ds p := hA0
  rw [Tryd.params4] at hA hval
  obtain ⟨v0, v1, v2, v3, d0, d1, d2, d3, p0, p1, p2, p3, rfl, rfl, rfl, h0, h1, h2, h3⟩ := trodAll_four hA
  obtain ⟨rfl, rfl⟩ := trodVars_none hV
  obtain ⟨a, rfl, rfl, rfl, wa⟩ := open_int Tryd.underlying23 (hval 0 23 v0 rfl rfl) h0
  obtain ⟨b, rfl, rfl, rfl, wb⟩ := open_int Tryd.underlying23 (hval 1 23 v1 rfl rfl) h1
  obtain ⟨x, rfl, rfl, rfl, wx⟩ := open_int Tryd.underlying3 (hval 2 3 v2 rfl rfl) h2
  obtain ⟨y, rfl, rfl, rfl, wy⟩ := open_int Tryd.underlying3 (hval 3 3 v3 rfl rfl) h3
  have ba := bounds_u64 wa
  have bb := bounds_u64 wb
  clear hA0 hval0
  simp only [List.append_nil] at hW'
  refine (order_true a b x y W ba.1 ba.2 bb.1 bb.2 (tabs_of_laid hL)).mono fun e W' ⟨he, hb'⟩ => ?_
  subst he
  exact ⟨_, rfl, _, _, _, [], [], [], hW', trodAll_mk1 (shut_bool Tryd.underlying4 true), trodAll_mk4 (shut_int Tryd.underlying23 wa) (shut_int Tryd.underlying23 wb) (shut_int Tryd.underlying3 wx) (shut_int Tryd.underlying3 wy), rfl, hb'.frame _, fun h => by cases h⟩

theorem order_holds : Rows.FnAppendPaddedOrderMatchesNumbersSaid :=
  OpenClaim.holds_of_wide 4 Tryd.f4 rfl rfl rfl rfl rfl rfl rfl ⟨rfl, rfl, rfl, rfl, rfl⟩ rfl rfl rfl rfl rfl (by kernel_rfl) Tryd.func4 (by kernel_rfl)
    (of_decide_eq_true (by kernel_rfl)) (by unfold Func.isWrapper; first | (rw [if_pos (by decide +kernel)]; kernel_rfl) | (rw [if_neg (by decide +kernel)]; exact ⟨rfl, rfl⟩))
    (fun os started H enc _ => order_lifted os started H enc)

theorem order_card : Rows.FnAppendPaddedOrderMatchesNumbersCardSaid :=
  Claim7.holds_tied_plain_at .later [] [.data, .data, .data] true Rows.fnAppendPaddedOrderMatchesNumbersCard.stood.harness false
    order_holds (fun _ h => by cases h) (by kernel_rfl) (fun _ h => by cases h) fnAppendPaddedOrderMatchesNumbers_row_tie rfl ⟨rfl, rfl⟩ (by kernel_rfl) rfl
    (fun f fn hf hfn => by
      obtain rfl : f = 4 := Option.some.inj ((show Tryd.prog.funcNamed Rows.fnAppendPaddedOrderMatchesNumbersRow.func = some 4 by kernel_rfl).symm.trans hf) |>.symm
      obtain rfl : fn = Tryd.f4 := (Option.some.inj (Tryd.func4.symm.trans hfn)).symm
      exact ⟨by kernel_rfl, fun j t ht => by
        rw [Tryd.params4] at ht
        have hm : t ∈ [23, 23, 3, 3] := by simpa using Array.mem_of_getElem? ht
        have hall : ([23, 23, 3, 3].all fun u => !Tryd.prog.wantsStandIn u) = true := by kernel_rfl
        exact (show Tryd.prog.wantsStandIn t = false by simpa using List.all_eq_true.1 hall t hm)⟩)
    (by kernel_rfl)

end Go.Proofs.Qxb6000387aDoor
