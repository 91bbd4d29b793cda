/-
  The walk of FnPathStringSplitsAtAnyStep: no step at all; and all cases together.
-/
import Derived.Test.Qxb6000096aDoorSplitD
namespace Go.Proofs.Qxb6000096aDoor
open Go.RowKit

theorem ret_empty : Ending.returned (Value.bool (((({ data := #[] } : ByteArray) ++ { data := #[] } ++ { data := #[] }).toList).isEmpty)) = .returned (.bool true) := by
  have e : (({ data := #[] } : ByteArray) ++ { data := #[] } ++ { data := #[] }) = { data := #[] } := bytes_ext (by simp)
  rw [e, ByteArray.toList_eq]
  rfl

set_option maxHeartbeats 1000000 in
theorem split_none (ao ai : Option Addr) (c ci : Nat) (len : Nat) (w : World) (hnil : ao = none → c = 0) (hnil' : ai = none → ci = 0) (hlen : len ≤ 1048576) (htab : PowTab w) (hsz : 1 < w.heap.size) :
    Calls Tryd.prog 3 #[.slice ao 0 c, .slice ai 0 ci, .int .i64 len, .int .i64 0] w fun e w' => e = .returned (.bool true) ∧ Below w.heap.size w w' := by
  have H1 := Lib.hid hnil
  have H2 := Lib.hid hnil'
  clear hnil hnil'
  go_enter Tryd.func3, Tryd.ntmps3
  go_wp2_with (first
    | (go_at_call 5; refine (guard_any _ _ 0 c 0 ci (fun _ => ⟨#[]⟩) _ _ _ (fun h => absurd h (by omega)) (by omega) (by omega) (fun _ h => absurd h (by omega))).mono ?_; rintro e w' ⟨⟨r, rfl, _⟩, rfl⟩)
    | (go_at_call 6; refine (small_any _ _ 0 c 0 ci (fun _ => ⟨#[]⟩) _ (fun h => absurd h (by omega)) (by omega) (by omega) (fun _ h => absurd h (by omega))).mono ?_; rintro e w' ⟨⟨r', rfl, hr⟩, rfl⟩; clear hr)
    | (go_at_call 7; refine (clone0 ao c _ H1.out).mono ?_; rintro e w1 ⟨⟨a1, rfl⟩, hb1⟩)
    | (go_at_call 8; refine (cloneI0 ai ci _ H2.out).mono ?_; rintro e w2 ⟨⟨a2, rfl⟩, hb2⟩))
  · go_ret; exact ⟨rfl, Below.refl _ _⟩
  · go_ret; exact ⟨rfl, Below.refl _ _⟩
  have hB2 : Below w'.heap.size w' w2 := hb1.trans (hb2.mono hb1.size)
  have T2 := htab.below hB2 hsz
  have Z2 : 1 < w2.heap.size := by have := hB2.size; omega
  clear hb1 hb2 H1 H2
  refine (zz_none a1 a2 0 0 len hlen T2 Z2).mono ?_
  rintro e w3 ⟨rfl, hb3⟩
  have hB3 : Below w'.heap.size w' w3 := hB2.trans (hb3.mono hB2.size)
  have T3 : PowTab w3.drew := htab.below hB3.drew hsz
  have Z3 : 1 < w3.drew.heap.size := by have := hB3.size; show 1 < w3.heap.size; omega
  clear hb3 hB2 T2 Z2
  go_wp2_with fail
  go_region_with (go_at_call 9; refine (zz_none0 a1 a2 0 0 T3 Z3).mono ?_; rintro e w4 ⟨rfl, hb4⟩)
  all_goals
    have hB4 : Below w'.heap.size w' w4 := hB3.drew.trans (hb4.mono hB3.size)
    have T4 : PowTab w4.drew := htab.below hB4.drew hsz
    have Z4 : 1 < w4.drew.heap.size := by have := hB4.size; show 1 < w4.heap.size; omega
    clear hb4 hB3 T3 Z3
    go_wp2_with fail
    go_region_with (go_at_call 9; refine (zz_none0 a1 a2 0 0 T4 Z4).mono ?_; rintro e w5 ⟨rfl, hb5⟩)
    all_goals
      have hB5 : Below w'.heap.size w' w5 := hB4.drew.trans (hb5.mono hB4.size)
      clear hb5 hB4 T4 Z4
      go_wp2
      go_ret
      exact ⟨ret_empty, hB5⟩

theorem split_true (ao ai : Option Addr) (n c ni ci : Nat) (nm : Nat → ByteArray) (ix : Nat → Int) (len k : Int) (w : World) (hS : StrsAt w ao n nm) (hI : IntsAt w ai ni ix)
    (hnil : ao = none → n = 0 ∧ c = 0) (hnil' : ai = none → ni = 0 ∧ ci = 0) (hn : n ≤ 1000000000000000) (hni : ni ≤ 1000000000000000) (hs : ∀ k, k < n → (nm k).size ≤ 9223372036854775807)
    (hlo : ∀ k, k < ni → -9223372036854775808 ≤ ix k) (hhi : ∀ k, k < ni → ix k ≤ 9223372036854775807) (htab : PowTab w) (hsz : 1 < w.heap.size) :
    Calls Tryd.prog 3 #[.slice ao n c, .slice ai ni ci, .int .i64 len, .int .i64 k] w fun e w' => e = .returned (.bool true) ∧ Below w.heap.size w w' := by
  by_cases c1 : n ≤ 65536 ∧ namesSize nm n ≤ 1048576
  · by_cases c2 : n = ni
    · by_cases c3 : 0 ≤ len ∧ len ≤ 1048576
      · by_cases c4 : 0 ≤ k ∧ k ≤ n
        · subst c2
          obtain ⟨l, rfl⟩ : ∃ l : Nat, len = l := ⟨len.toNat, by omega⟩
          obtain ⟨m, rfl⟩ : ∃ m : Nat, k = m := ⟨k.toNat, by omega⟩
          have hl : l ≤ 1048576 := by omega
          by_cases h0 : 0 < n
          · obtain ⟨b, o, rfl, _⟩ := hS h0
            obtain ⟨b', o', rfl, _⟩ := hI h0
            have B : Bd n nm ix := ⟨c1.1, c1.2, hlo, hhi⟩
            by_cases hm : m = 0
            · subst hm
              exact split_zero b o b' o' n c ci nm ix l w hS hI B hl h0 hs htab hsz
            · by_cases he : m = n
              · subst he
                exact split_end b o b' o' m c ci nm ix l w hS hI B hl h0 hs htab hsz
              · exact split_mid b o b' o' n c ci nm ix l m w hS hI B hl (by omega) (by omega) hs htab hsz
          · have e0 : n = 0 := by omega
            subst e0
            have e1 : m = 0 := by omega
            subst e1
            exact split_none ao ai c ci l w (fun h => (hnil h).2) (fun h => (hnil' h).2) hl htab hsz
        · exact split_out ao ai n c ni ci nm len k w hS hn hni hs (.inr (.inr (.inr c4)))
      · exact split_out ao ai n c ni ci nm len k w hS hn hni hs (.inr (.inr (.inl c3)))
    · exact split_out ao ai n c ni ci nm len k w hS hn hni hs (.inr (.inl (by simpa using fun h => c2 (by omega))))
  · exact split_out ao ai n c ni ci nm len k w hS hn hni hs (.inl c1)

end Go.Proofs.Qxb6000096aDoor
