/-
  FnPathStringParsesBack: the row proved, and its tied card.
-/
import Derived.Test.Qxb6000049aDoorLawC
import Derived.Test.Qxb6000049aDoorLaid
import Derived.Test.Qxb6000049aDoorTie
import Derived.Test.Qxb6000049aDoorCards
import Derived.OpenShut
namespace Go.Proofs.Qxb6000049aDoor
open Go.ChangeShapes Go.WideShapes Go.ChangeAt Go.RowKit
open Go.WideMaps Go.WideElems

theorem Tryd.cells9 : Tryd.prog.cellsOf 9 = 1 := by kernel_rfl
theorem Tryd.cells3 : Tryd.prog.cellsOf 3 = 1 := by kernel_rfl
theorem Tryd.bytes9 : Tryd.prog.bytesOf 9 = 16 := by kernel_rfl
theorem Tryd.bytes3 : Tryd.prog.bytesOf 3 = 8 := by kernel_rfl

theorem block_lt {w : World} {a : Addr} {v : Value} (h : w.cell? a = some v) : a.block < w.heap.size := by
  unfold World.cell? at h
  by_cases hlt : a.block < w.heap.size
  · exact hlt
  · simp [Array.getElem?_eq_none (Nat.le_of_not_lt hlt)] at h

theorem strs_of {w : World} {a : Addr} {n : Nat} {ss : List ByteArray} (hn : n ≤ ss.length) (h : ∀ i, i < ss.length → w.cell? (a.add i) = some (.string (ss.getD i ByteArray.empty))) :
    StrsAt w (some a) n (fun i => ss.getD i ByteArray.empty) := fun h0 => by
  obtain ⟨b, off, spot⟩ := a
  have hspot : spot = none := by simpa [Addr.add] using World.cell?_spot (h 0 (by omega))
  subst hspot
  refine ⟨b, off, rfl, ?_, fun k hk => by rw [← Go.WideShapes.add_plain]; exact h k (by omega)⟩
  have := block_lt (h 0 (by omega))
  simpa [Addr.add] using this

theorem ints_of {w : World} {a : Addr} {n : Nat} {zs : List Int} (hn : n ≤ zs.length) (h : ∀ i, i < zs.length → w.cell? (a.add i) = some (.int .i64 (zs.getD i 0))) :
    IntsAt w (some a) n (fun i => zs.getD i 0) := fun h0 => by
  obtain ⟨b, off, spot⟩ := a
  have hspot : spot = none := by simpa [Addr.add] using World.cell?_spot (h 0 (by omega))
  subst hspot
  refine ⟨b, off, rfl, ?_, fun k hk => by rw [← Go.WideShapes.add_plain]; exact h k (by omega)⟩
  have := block_lt (h 0 (by omega))
  simpa [Addr.add] using this

/-- What the walks ask of a slice of strings that came in. -/
theorem strs_view {H : Type} {enc : TypeId × Value → H} {W : World} {base : Nat} {sp : Nat → Bool} {held : Bool} {fuel : Nat} {ao : Option Addr} {n c : Nat} {x : DataW H × List MemPlace}
    (h : DataW.trod enc Tryd.prog W base sp held fuel 22 [.slice ao n c] = some x) (hsp : ∀ b, sp b = true) :
    ∃ (nm : Nat → ByteArray) (ss : List ByteArray), StrsAt W ao n nm ∧ (ao = none → n = 0 ∧ c = 0) ∧ (∀ k, k < n → (nm k).size ≤ 9223372036854775807) ∧ n ≤ c ∧ ss.length = c ∧ (x.1 = .nil ∧ c = 0 ∨ x.1 = .slice (strs (ss.take n)) (strs (ss.drop n))) := by
  rcases open_strings Tryd.underlying22 Tryd.underlying9 Tryd.cells9 h with ⟨hcs, hx⟩ | ⟨a, len, cap, ss, hcs, _, hl, hm, hz, hx, hcell, hws⟩
  · simp only [List.cons.injEq, Value.slice.injEq, and_true] at hcs
    obtain ⟨rfl, rfl, rfl⟩ := hcs
    exact ⟨fun _ => ByteArray.empty, [], fun h => absurd h (by omega), fun _ => ⟨rfl, rfl⟩, fun k hk => absurd hk (by omega), Nat.le_refl _, rfl, .inl ⟨by rw [hx], rfl⟩⟩
  · simp only [List.cons.injEq, Value.slice.injEq, and_true] at hcs
    obtain ⟨rfl, rfl, rfl⟩ := hcs
    rw [hsp, if_pos rfl] at hz
    refine ⟨fun i => ss.getD i ByteArray.empty, ss, strs_of (by omega) hcell, fun h => by simp at h, fun k hk => ?_, hl, hz, .inr (by rw [hx])⟩
    have hk2 : k < ss.length := by omega
    have := hws _ (List.getElem_mem hk2)
    simp only [List.getD_eq_getElem?_getD, List.getElem?_eq_getElem hk2, Option.getD_some]
    unfold maxLen at this; omega

theorem ints_view {H : Type} {enc : TypeId × Value → H} {W : World} {base : Nat} {sp : Nat → Bool} {held : Bool} {fuel : Nat} {ao : Option Addr} {n c : Nat} {x : DataW H × List MemPlace}
    (h : DataW.trod enc Tryd.prog W base sp held fuel 23 [.slice ao n c] = some x) (hsp : ∀ b, sp b = true) :
    ∃ (ix : Nat → Int) (zs : List Int), IntsAt W ao n ix ∧ (ao = none → n = 0 ∧ c = 0) ∧ (∀ k, k < n → -9223372036854775808 ≤ ix k) ∧ (∀ k, k < n → ix k ≤ 9223372036854775807) ∧ n ≤ c ∧ zs.length = c ∧ (x.1 = .nil ∧ c = 0 ∨ x.1 = .slice (lits .i64 (zs.take n)) (lits .i64 (zs.drop n))) := by
  rcases open_ints Tryd.underlying23 Tryd.underlying3 Tryd.cells3 h with ⟨hcs, hx⟩ | ⟨a, len, cap, zs, hcs, _, hl, hm, hz, hx, hcell, hws⟩
  · simp only [List.cons.injEq, Value.slice.injEq, and_true] at hcs
    obtain ⟨rfl, rfl, rfl⟩ := hcs
    exact ⟨fun _ => 0, [], fun h => absurd h (by omega), fun _ => ⟨rfl, rfl⟩, fun k hk => absurd hk (by omega), fun k hk => absurd hk (by omega), Nat.le_refl _, rfl, .inl ⟨by rw [hx], rfl⟩⟩
  · simp only [List.cons.injEq, Value.slice.injEq, and_true] at hcs
    obtain ⟨rfl, rfl, rfl⟩ := hcs
    rw [hsp, if_pos rfl] at hz
    have hb : ∀ k, k < n → -9223372036854775808 ≤ zs.getD k 0 ∧ zs.getD k 0 ≤ 9223372036854775807 := fun k hk => by
      have hk2 : k < zs.length := by omega
      have := bounds_i64 (hws _ (List.getElem_mem hk2))
      simpa only [List.getD_eq_getElem?_getD, List.getElem?_eq_getElem hk2, Option.getD_some] using this
    exact ⟨fun i => zs.getD i 0, zs, ints_of (by omega) hcell, fun h => by simp at h, fun k hk => (hb k hk).1, fun k hk => (hb k hk).2, hl, hz, .inr (by rw [hx])⟩

set_option maxRecDepth 100000 in
theorem back_lifted (os : Os) (started : os.Started) (H : Type) (enc : TypeId × Value → H) :
    ReturnsInHanded {} Tryd.checked os 3 .any (fun w args => (Rows.fnPathStringParsesBackSpec.pre enc Tryd.prog Tryd.f3 [] false w args ∧ laidMetH Tryd.prog Rows.fnPathStringParsesBackRow.laid w) ∧ sizedMet enc Tryd.prog Tryd.f3 (OpenSpec.ofChange Rows.fnPathStringParsesBackSpec) false w args)
      (Rows.fnPathStringParsesBackSpec.post enc Tryd.prog Tryd.f3 false true false false) := by
  refine returnsInHanded_of_change_and (C := Tryd.checked) (X := fun w _ => laidMetH Tryd.prog Rows.fnPathStringParsesBackRow.laid w) (fun _ _ _ hh h => h.of_heap hh) Tryd.own started (by kernel_rfl) Tryd.func3
    (ChangeSpec.witness_shaped (enc := enc) (C := Tryd.checked) (os := os) (X := fun w _ => laidMetH Tryd.prog Rows.fnPathStringParsesBackRow.laid w) false (World.doorLaid Tryd.prog 400 os) #[.slice none 0 0, .slice none 0 0] 8 rfl (World.shaped_of_RefB (by kernel_rfl) (by kernel_rfl)) (by kernel_rfl) (by kernel_rfl) (by kernel_rfl) (door_met os _)) ?_
  intro W base args ds gs before hval0 hW _ hsz0 hL _
  have hval : ∀ (j : Nat) t v, Tryd.f3.params[j]? = some t → args[j]? = some v → Value.okWide Tryd.prog W .any base t v := hval0
  have hsz : (DataW.weightsEach Tryd.prog (Tryd.f3.params.toList ++ Rows.fnPathStringParsesBackSpec.plain.varTypes Tryd.prog) (ds ++ gs)).all (· ≤ reachBytes) = true := hsz0
  have hW' := hW
  obtain ⟨p, q, hA0, hV, rfl, hfz, hnd⟩ := hW
  have hA : DataW.TrodAll enc Tryd.prog W 0 (fun _ => true) true Tryd.f3.params.toList args.toList ds p := hA0
  rw [Tryd.params3] at hA hval hsz
  obtain ⟨v0, v1, d0, d1, p0, p1, rfl, rfl, rfl, h0, h1⟩ := trodAll_two hA
  obtain ⟨rfl, rfl⟩ := trodVars_none hV
  obtain ⟨a0, n0, c0, rfl⟩ := okWide_slice Tryd.underlying22 (hval 0 22 v0 rfl rfl)
  obtain ⟨a1, n1, c1, rfl⟩ := okWide_slice Tryd.underlying23 (hval 1 23 v1 rfl rfl)
  have k0 := h0
  have k1 := h1
  obtain ⟨f0, hf0⟩ := h0
  obtain ⟨f1, hf1⟩ := h1
  obtain ⟨nm, ss, hS, hn0, hsb, hnc0, hsl, hd0⟩ := strs_view hf0 (fun _ => rfl)
  obtain ⟨ix, zs, hI, hn1, hlo, hhi, hnc1, hzl, hd1⟩ := ints_view hf1 (fun _ => rfl)
  have b0 : n0 ≤ 1000000000000000 := by
    rcases hd0 with ⟨_, hc⟩ | hd
    · omega
    · have := sized_slice hsz (j := 0) (t := 22) (e := 9) rfl (show _ = some _ from congrArg some hd) Tryd.underlying22
      rw [Tryd.bytes9] at this
      simp only [strs, List.length_map, List.length_take, List.length_drop, reachBytes] at this
      omega
  have b1 : n1 ≤ 1000000000000000 := by
    rcases hd1 with ⟨_, hc⟩ | hd
    · omega
    · have := sized_slice hsz (j := 1) (t := 23) (e := 3) rfl (show _ = some _ from congrArg some hd) Tryd.underlying23
      rw [Tryd.bytes3] at this
      simp only [lits, List.length_map, List.length_take, List.length_drop, reachBytes] at this
      omega
  have hp := powTab_of_laid hL
  clear hA0 hval0
  simp only [List.append_nil] at hW'
  refine (law_true a0 a1 n0 c0 n1 c1 nm ix W hS hI hn0 hn1 b0 b1 hsb hlo hhi hp hp.size).mono fun e W' ⟨he, hb⟩ => ?_
  subst he
  have hlt : ∀ z ∈ p0 ++ p1, z.block < W.heap.size := fun z hz => by simpa using hW'.lt z hz
  have A0 := Below.trod Tryd.laidOut (by kernel_rfl) (of_decide_eq_true (by kernel_rfl)) k0 hb (fun z hz => hlt z (List.mem_append_left _ hz))
  have A1 := Below.trod Tryd.laidOut (by kernel_rfl) (of_decide_eq_true (by kernel_rfl)) k1 hb (fun z hz => hlt z (List.mem_append_right _ hz))
  exact ⟨_, rfl, _, _, _, [], p0 ++ p1, [], hW', trodAll_mk1 (shut_bool Tryd.underlying4 true), trodAll_mk2 A0 A1, rfl, hb.frame _, fun h => by cases h⟩

theorem back_holds : Rows.FnPathStringParsesBackSaid :=
  OpenClaim.holds_of_wide 3 Tryd.f3 rfl rfl rfl rfl rfl rfl rfl ⟨rfl, rfl, rfl, rfl, rfl⟩ rfl rfl rfl rfl rfl (by kernel_rfl) Tryd.func3 (by kernel_rfl)
    (of_decide_eq_true (by kernel_rfl)) (by unfold Func.isWrapper; first | (rw [if_pos (by decide +kernel)]; kernel_rfl) | (rw [if_neg (by decide +kernel)]; exact ⟨rfl, rfl⟩))
    (fun os started H enc _ => back_lifted os started H enc)

theorem back_card : Rows.FnPathStringParsesBackCardSaid :=
  Claim7.holds_tied_plain_at .later [] [.data, .data, .data] true Rows.fnPathStringParsesBackCard.stood.harness false
    back_holds (fun _ h => by cases h) (by kernel_rfl) (fun _ h => by cases h) fnPathStringParsesBack_row_tie rfl ⟨rfl, rfl⟩ (by kernel_rfl) rfl
    (fun f fn hf hfn => by
      obtain rfl : f = 3 := Option.some.inj ((show Tryd.prog.funcNamed Rows.fnPathStringParsesBackRow.func = some 3 by kernel_rfl).symm.trans hf) |>.symm
      obtain rfl : fn = Tryd.f3 := (Option.some.inj (Tryd.func3.symm.trans hfn)).symm
      exact ⟨by kernel_rfl, fun j t ht => by
        rw [Tryd.params3] at ht
        have hm : t ∈ [22, 23] := by simpa using Array.mem_of_getElem? ht
        have hall : ([22, 23].all fun u => !Tryd.prog.wantsStandIn u) = true := by kernel_rfl
        exact (show Tryd.prog.wantsStandIn t = false by simpa using List.all_eq_true.1 hall t hm)⟩)
    (by kernel_rfl)

end Go.Proofs.Qxb6000049aDoor
