/-
  FnOfUpdateTouchesOnlyItsSecurity: the row proved.
-/
import Derived.Test.Qxb6001143aUpdW
import Derived.Test.Qxb6001143aView
namespace Go.Proofs.Qxb6001143a
open Go.ChangeShapes Go.WideShapes Go.ChangeAt Go.RowKit
open Go.WideMaps Go.WideElems
open Go.ChangeMaps (open_string shut_string)

set_option maxRecDepth 100000 in
theorem upd_lifted (os : Os) (started : os.Started) (H : Type) (enc : TypeId × Value → H) :
    ReturnsInHanded {} Try.checked os 5 .any (Rows.fnOfUpdateTouchesOnlyItsSecuritySpec.pre6 enc Try.prog Try.f5 Rows.fnOfUpdateTouchesOnlyItsSecurityRow.domain false) (Rows.fnOfUpdateTouchesOnlyItsSecuritySpec.post enc Try.prog Try.f5 false true false false) := by
  refine returnsInHanded_of_change_sized (C := Try.checked) Try.own started (by kernel_rfl) Try.func5
    (ChangeSpec.witness6 (enc := enc) (C := Try.checked) false ⟨#[], #[.slice none 0 0, .slice none 0 0, .string ⟨#[]⟩, .string ⟨#[]⟩, .string ⟨#[]⟩], []⟩ 8 (by kernel_rfl) (by kernel_rfl) (by kernel_rfl) (by kernel_rfl)) ?_
  intro W base args ds gs before hval0 hW _ hsz0 _
  have hval : ∀ (j : Nat) t v, Try.f5.params[j]? = some t → args[j]? = some v → Value.okWide Try.prog W .any base t v := hval0
  have hsz : (DataW.weightsEach Try.prog (Try.f5.params.toList ++ Rows.fnOfUpdateTouchesOnlyItsSecuritySpec.plain.varTypes Try.prog) (ds ++ gs)).all (· ≤ reachBytes) = true := hsz0
  have hW' := hW
  obtain ⟨p, q, hA0, hV, rfl, hfz, hnd⟩ := hW
  have hA : DataW.TrodAll enc Try.prog W 0 (fun _ => true) true Try.f5.params.toList args.toList ds p := hA0
  rw [Try.params5] at hA hval hsz
  obtain ⟨v0, vs0, d0, ds0, p0, q0, hargs, rfl, rfl, h0, r0⟩ := trodAll_cons hA
  obtain ⟨v1, vs1, d1, ds1, p1, q1, rfl, rfl, rfl, h1, r1⟩ := trodAll_cons r0
  obtain ⟨v2, vs2, d2, ds2, p2, q2, rfl, rfl, rfl, h2, r2⟩ := trodAll_cons r1
  obtain ⟨v3, vs3, d3, ds3, p3, q3, rfl, rfl, rfl, h3, r3⟩ := trodAll_cons r2
  obtain ⟨v4, vs4, d4, ds4, p4, q4, rfl, rfl, rfl, h4, r4⟩ := trodAll_cons r3
  obtain ⟨rfl, rfl, rfl⟩ := trodAll_nil r4
  obtain rfl : args = #[v0, v1, v2, v3, v4] := by cases args; simp_all
  obtain ⟨rfl, rfl⟩ := trodVars_none hV
  obtain ⟨k, rfl, rfl, rfl, hk⟩ := open_string Try.underlying9 (hval 2 9 v2 rfl rfl) h2
  obtain ⟨v, rfl, rfl, rfl, hv⟩ := open_string Try.underlying9 (hval 3 9 v3 rfl rfl) h3
  obtain ⟨x, rfl, rfl, rfl, hx⟩ := open_string Try.underlying9 (hval 4 9 v4 rfl rfl) h4
  obtain ⟨a0, n0, c0, rfl⟩ := okWide_slice Try.underlying27 (hval 0 27 v0 rfl rfl)
  obtain ⟨a1, n1, c1, rfl⟩ := okWide_slice Try.underlying27 (hval 1 27 v1 rfl rfl)
  have k0 := h0
  have k1 := h1
  obtain ⟨f0, hf0⟩ := h0
  obtain ⟨f1, hf1⟩ := h1
  obtain ⟨ks, ss0, hS0, hb0, hnc0, hl0, hd0⟩ := strs_view hf0 (fun _ => rfl)
  obtain ⟨vs, ss1, hS1, hb1, hnc1, hl1, hd1⟩ := strs_view hf1 (fun _ => rfl)
  have b0 : n0 ≤ 1000000000000000 := by
    rcases hd0 with ⟨_, hc⟩ | hd
    · omega
    · have := sized_slice hsz (j := 0) (t := 27) (e := 9) rfl (show _ = some _ from congrArg some hd) Try.underlying27
      rw [Try.bytes9] at this
      simp only [strs, List.length_map, List.length_take, List.length_drop, reachBytes] at this
      omega
  have b1 : n1 ≤ 1000000000000000 := by
    rcases hd1 with ⟨_, hc⟩ | hd
    · omega
    · have := sized_slice hsz (j := 1) (t := 27) (e := 9) rfl (show _ = some _ from congrArg some hd) Try.underlying27
      rw [Try.bytes9] at this
      simp only [strs, List.length_map, List.length_take, List.length_drop, reachBytes] at this
      omega
  clear hA0 hval0
  simp only [List.append_nil] at hW'
  refine (upd_true a0 a1 n0 c0 n1 c1 ks vs k v x W hS0 hS1 b0 b1 hb0 hb1 hk hv hx).mono fun e W' ⟨he, hb⟩ => ?_
  subst he
  have hlt : ∀ z ∈ p0 ++ p1, z.block < W.heap.size := fun z hz => by simpa using hW'.lt z hz
  have A0 := Below.trod Try.laidOut (by kernel_rfl) (of_decide_eq_true (by kernel_rfl)) k0 hb (fun z hz => hlt z (List.mem_append_left _ hz))
  have A1 := Below.trod Try.laidOut (by kernel_rfl) (of_decide_eq_true (by kernel_rfl)) k1 hb (fun z hz => hlt z (List.mem_append_right _ hz))
  exact ⟨_, rfl, _, _, _, [], p0 ++ (p1 ++ ([] ++ ([] ++ ([] ++ [])))), [], hW', trodAll_mk1 (shut_bool Try.underlying4 true), trodAll_cons_mk A0 (trodAll_cons_mk A1 (trodAll_cons_mk (shut_string Try.underlying9 hk) (trodAll_cons_mk (shut_string Try.underlying9 hv) (trodAll_cons_mk (shut_string Try.underlying9 hx) trodAll_mk0)))), rfl, hb.frame _, fun h => by cases h⟩

theorem upd_holds : Rows.FnOfUpdateTouchesOnlyItsSecuritySaid :=
  OpenClaim.holds_of_wide 5 Try.f5 rfl rfl rfl rfl rfl rfl rfl ⟨rfl, rfl, rfl, rfl, rfl⟩ rfl rfl rfl rfl rfl (by kernel_rfl) Try.func5 (by kernel_rfl)
    (of_decide_eq_true (by kernel_rfl)) (by unfold Func.isWrapper; first | (rw [if_pos (by decide +kernel)]; kernel_rfl) | (rw [if_neg (by decide +kernel)]; exact ⟨rfl, rfl⟩))
    (fun os started H enc _ => upd_lifted os started H enc)

end Go.Proofs.Qxb6001143a
