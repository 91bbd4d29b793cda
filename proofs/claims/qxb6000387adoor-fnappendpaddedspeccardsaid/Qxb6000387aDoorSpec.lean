/-
  FnAppendPaddedSpec: the row proved, and its tied card.
-/
import Derived.Test.Qxb6000387aDoorSpecW
import Derived.Test.Qxb6000387aDoorLaid
import Derived.Test.Qxb6000387aDoorTie
import Derived.Test.Qxb6000387aDoorCards
import Derived.OpenShut
namespace Go.Proofs.Qxb6000387aDoor
open Go.ChangeShapes Go.WideShapes Go.ChangeAt Go.RowKit
open Go.WideMaps Go.WideElems

theorem Tryd.bytes5 : Tryd.prog.bytesOf 5 = 1 := by kernel_rfl

theorem block_lt {w : World} {a : Addr} {v : Value} (h : w.cell? a = some v) : a.block < w.heap.size := by
  unfold World.cell? at h
  by_cases hlt : a.block < w.heap.size
  · exact hlt
  · simp [Array.getElem?_eq_none (Nat.le_of_not_lt hlt)] at h

theorem bytes_view {H : Type} {enc : TypeId × Value → H} {W : World} {base : Nat} {sp : Nat → Bool} {held : Bool} {fuel : Nat} {ao : Option Addr} {n c : Nat} {x : DataW H × List MemPlace}
    (h : DataW.trod enc Tryd.prog W base sp held fuel 22 [.slice ao n c] = some x) (hsp : ∀ b, sp b = true) :
    ∃ (f : Nat → Nat) (zs : List Int), BytesIn W ao n f ∧ (ao = none → n = 0 ∧ c = 0) ∧ n ≤ c ∧ zs.length = c ∧ (x.1 = .nil ∧ c = 0 ∨ x.1 = .slice (lits .u8 (zs.take n)) (lits .u8 (zs.drop n))) := by
  rcases open_ints Tryd.underlying22 Tryd.underlying5 Tryd.cells5 h with ⟨hcs, hx⟩ | ⟨a, len, cap, zs, hcs, _, hl, hm, hz, hx, hcell, hws⟩
  · simp only [List.cons.injEq, Value.slice.injEq, and_true] at hcs
    obtain ⟨rfl, rfl, rfl⟩ := hcs
    exact ⟨fun _ => 0, [], fun h => absurd h (by omega), fun _ => ⟨rfl, rfl⟩, Nat.le_refl _, rfl, .inl ⟨by rw [hx], rfl⟩⟩
  · simp only [List.cons.injEq, Value.slice.injEq, and_true] at hcs
    obtain ⟨rfl, rfl, rfl⟩ := hcs
    rw [hsp, if_pos rfl] at hz
    refine ⟨fun i => (zs.getD i 0).toNat, zs, fun h0 => ?_, fun h => by simp at h, hl, hz, .inr (by rw [hx])⟩
    obtain ⟨b, off, spot⟩ := a
    have hspot : spot = none := by simpa [Addr.add] using World.cell?_spot (hcell 0 (by omega))
    subst hspot
    have hlt := block_lt (hcell 0 (by omega))
    refine ⟨b, off, rfl, by simpa [Addr.add] using hlt, fun k hk => ?_⟩
    have hk2 : k < zs.length := by omega
    have hb : 0 ≤ zs.getD k 0 := by
      have := bounds_u8 (hws _ (List.getElem_mem hk2))
      simp only [List.getD_eq_getElem?_getD, List.getElem?_eq_getElem hk2, Option.getD_some]
      exact this.1
    rw [← Go.WideShapes.add_plain, hcell k hk2, Int.toNat_of_nonneg hb]

set_option maxRecDepth 100000 in
theorem spec_lifted (os : Os) (started : os.Started) (H : Type) (enc : TypeId × Value → H) :
    ReturnsInHanded {} Tryd.checked os 3 .any (fun w args => (Rows.fnAppendPaddedSpecSpec.pre enc Tryd.prog Tryd.f3 [] false w args ∧ laidMetH Tryd.prog Rows.fnAppendPaddedSpecRow.laid w) ∧ sizedMet enc Tryd.prog Tryd.f3 (OpenSpec.ofChange Rows.fnAppendPaddedSpecSpec) false w args)
      (Rows.fnAppendPaddedSpecSpec.post enc Tryd.prog Tryd.f3 false true false false) := by
  refine returnsInHanded_of_change_and (C := Tryd.checked) (X := fun w _ => laidMetH Tryd.prog Rows.fnAppendPaddedSpecRow.laid w) (fun _ _ _ hh h => h.of_heap hh) Tryd.own started (by kernel_rfl) Tryd.func3
    (ChangeSpec.witness_shaped (enc := enc) (C := Tryd.checked) (os := os) (X := fun w _ => laidMetH Tryd.prog Rows.fnAppendPaddedSpecRow.laid w) false (World.doorLaid Tryd.prog 400 os) #[.slice none 0 0, .int .u64 0, .int .i64 0, .int .i64 0] 8 rfl (World.shaped_of_RefB (by kernel_rfl) (by kernel_rfl)) (by kernel_rfl) (by kernel_rfl) (by kernel_rfl) (door_met os _)) ?_
  intro W base args ds gs before hval0 hW _ hsz0 hL _
  have hval : ∀ (j : Nat) t v, Tryd.f3.params[j]? = some t → args[j]? = some v → Value.okWide Tryd.prog W .any base t v := hval0
  have hsz : (DataW.weightsEach Tryd.prog (Tryd.f3.params.toList ++ Rows.fnAppendPaddedSpecSpec.plain.varTypes Tryd.prog) (ds ++ gs)).all (· ≤ reachBytes) = true := hsz0
  have hW' := hW
  obtain ⟨p, q, hA0, hV, rfl, hfz, hnd⟩ := hW
  have hA : DataW.TrodAll enc Tryd.prog W 0 (fun _ => true) true Tryd.f3.params.toList args.toList ds p := hA0
  rw [Tryd.params3] at hA hval hsz
  obtain ⟨v0, v1, v2, v3, d0, d1, d2, d3, p0, p1, p2, p3, rfl, rfl, rfl, h0, h1, h2, h3⟩ := trodAll_four hA
  obtain ⟨rfl, rfl⟩ := trodVars_none hV
  obtain ⟨a, rfl, rfl, rfl, wa⟩ := open_int Tryd.underlying23 (hval 1 23 v1 rfl rfl) h1
  obtain ⟨x, rfl, rfl, rfl, wx⟩ := open_int Tryd.underlying3 (hval 2 3 v2 rfl rfl) h2
  obtain ⟨y, rfl, rfl, rfl, wy⟩ := open_int Tryd.underlying3 (hval 3 3 v3 rfl rfl) h3
  obtain ⟨a0, n0, c0, rfl⟩ := okWide_slice Tryd.underlying22 (hval 0 22 v0 rfl rfl)
  have k0 := h0
  obtain ⟨f0, hf0⟩ := h0
  obtain ⟨f, zs, hB, hnil, hnc, hzl, hd⟩ := bytes_view hf0 (fun _ => rfl)
  have b0 : n0 ≤ 1000000000000000 := by
    rcases hd with ⟨_, hc⟩ | hd
    · omega
    · have := sized_slice hsz (j := 0) (t := 22) (e := 5) rfl (show _ = some _ from congrArg some hd) Tryd.underlying22
      rw [Tryd.bytes5] at this
      simp only [lits, List.length_map, List.length_take, List.length_drop, reachBytes] at this
      omega
  have ba := bounds_u64 wa
  clear hA0 hval0
  simp only [List.append_nil] at hW'
  refine (spec_true a0 n0 c0 f a x y W hB hnil b0 ba.1 ba.2 (tabs_of_laid hL)).mono fun e W' ⟨he, hb'⟩ => ?_
  subst he
  have hlt : ∀ z ∈ p0, z.block < W.heap.size := fun z hz => by simpa using hW'.lt z hz
  have A0 := Below.trod Tryd.laidOut (by kernel_rfl) (of_decide_eq_true (by kernel_rfl)) k0 hb' hlt
  exact ⟨_, rfl, _, _, _, [], p0 ++ ([] ++ ([] ++ [])), [], hW', trodAll_mk1 (shut_bool Tryd.underlying4 true), trodAll_mk4 A0 (shut_int Tryd.underlying23 wa) (shut_int Tryd.underlying3 wx) (shut_int Tryd.underlying3 wy), rfl, hb'.frame _, fun h => by cases h⟩

theorem spec_holds : Rows.FnAppendPaddedSpecSaid :=
  OpenClaim.holds_of_wide 3 Tryd.f3 rfl rfl rfl rfl rfl rfl rfl ⟨rfl, rfl, rfl, rfl, rfl⟩ rfl rfl rfl rfl rfl (by kernel_rfl) Tryd.func3 (by kernel_rfl)
    (of_decide_eq_true (by kernel_rfl)) (by unfold Func.isWrapper; first | (rw [if_pos (by decide +kernel)]; kernel_rfl) | (rw [if_neg (by decide +kernel)]; exact ⟨rfl, rfl⟩))
    (fun os started H enc _ => spec_lifted os started H enc)

theorem spec_card : Rows.FnAppendPaddedSpecCardSaid :=
  Claim7.holds_tied_plain_at .later [] [.data, .data, .data] true Rows.fnAppendPaddedSpecCard.stood.harness false
    spec_holds (fun _ h => by cases h) (by kernel_rfl) (fun _ h => by cases h) fnAppendPaddedSpec_row_tie rfl ⟨rfl, rfl⟩ (by kernel_rfl) rfl
    (fun f fn hf hfn => by
      obtain rfl : f = 3 := Option.some.inj ((show Tryd.prog.funcNamed Rows.fnAppendPaddedSpecRow.func = some 3 by kernel_rfl).symm.trans hf) |>.symm
      obtain rfl : fn = Tryd.f3 := (Option.some.inj (Tryd.func3.symm.trans hfn)).symm
      exact ⟨by kernel_rfl, fun j t ht => by
        rw [Tryd.params3] at ht
        have hm : t ∈ [22, 23, 3, 3] := by simpa using Array.mem_of_getElem? ht
        have hall : ([22, 23, 3, 3].all fun u => !Tryd.prog.wantsStandIn u) = true := by kernel_rfl
        exact (show Tryd.prog.wantsStandIn t = false by simpa using List.all_eq_true.1 hall t hm)⟩)
    (by kernel_rfl)

end Go.Proofs.Qxb6000387aDoor
