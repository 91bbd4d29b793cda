/-
  The walk of FnPathStringSplitsAtAnyStep.
-/
import Derived.Test.Qxb6000096aDoorSplitA
namespace Go.Proofs.Qxb6000096aDoor
open Go.RowKit

theorem clone0 (ao : Option Addr) (c : Nat) (w : World) (hnil : ao = none → c = 0) :
    Calls Tryd.prog 7 #[.slice ao 0 c] w fun e w' => (∃ ao', e = .returned (.slice ao' 0 0)) ∧ Below w.heap.size w w' := by
  cases ao with
  | none =>
    obtain rfl := hnil rfl
    refine (cloneStrings_nil w).mono ?_
    rintro e w' ⟨rfl, rfl⟩
    exact ⟨⟨_, rfl⟩, Below.refl _ _⟩
  | some a =>
    refine (cloneStrings_some a 0 c (fun _ => ⟨#[]⟩) w (fun h => absurd h (by omega)) (by omega)).mono ?_
    rintro e w' ⟨rfl, hb, _⟩
    exact ⟨⟨_, rfl⟩, hb⟩

theorem cloneI0 (ao : Option Addr) (c : Nat) (w : World) (hnil : ao = none → c = 0) :
    Calls Tryd.prog 8 #[.slice ao 0 c] w fun e w' => (∃ ao', e = .returned (.slice ao' 0 0)) ∧ Below w.heap.size w w' := by
  cases ao with
  | none =>
    obtain rfl := hnil rfl
    refine (cloneInts_nil w).mono ?_
    rintro e w' ⟨rfl, rfl⟩
    exact ⟨⟨_, rfl⟩, Below.refl _ _⟩
  | some a =>
    refine (cloneInts_some a 0 c (fun _ => 0) w (fun h => absurd h (by omega)) (by omega)).mono ?_
    rintro e w' ⟨rfl, hb, _⟩
    exact ⟨⟨_, rfl⟩, hb⟩

set_option maxHeartbeats 400000 in
/-- The early ways out. -/
theorem split_out (ao ai : Option Addr) (n c ni ci : Nat) (nm : Nat → ByteArray) (len k : Int) (w : World) (hS : StrsAt w ao n nm) (hn : n ≤ 1000000000000000) (hni : ni ≤ 1000000000000000) (hs : ∀ k, k < n → (nm k).size ≤ 9223372036854775807)
    (hout : ¬ (n ≤ 65536 ∧ namesSize nm n ≤ 1048576) ∨ (((n : Int) == (ni : Int)) = false) ∨ ¬ (0 ≤ len ∧ len ≤ 1048576) ∨ ¬ (0 ≤ k ∧ k ≤ n)) :
    Calls Tryd.prog 3 #[.slice ao n c, .slice ai ni ci, .int .i64 len, .int .i64 k] w fun e w' => e = .returned (.bool true) ∧ Below w.heap.size w w' := by
  have HS := Lib.hid hS
  have HB := Lib.hid hs
  clear hS hs
  have c6 : Calls Tryd.prog 6 #[.slice ao n c, .slice ai ni ci] w fun e w' => RetB e (fun r => r = true → n ≤ 65536 ∧ namesSize nm n ≤ 1048576) ∧ w' = w := small_any ao ai n c ni ci nm w HS.out hn hni HB.out
  have C6 := Lib.hid c6
  clear c6
  rcases hout with h | h | h | h
  · have HO := Lib.hid h
    clear h
    go_enter Tryd.func3, Tryd.ntmps3
    go_wp2_with (first
      | (go_at_call 5; refine (guard_any ao ai n c ni ci nm _ _ _ HS.out hn hni HB.out).mono ?_; rintro e w' ⟨⟨r, rfl, _⟩, rfl⟩)
      | (go_at_call 6; refine (C6.out).mono ?_; rintro e w' ⟨⟨r', rfl, hr⟩, rfl⟩; obtain rfl : r' = false := by (cases r' with | false => rfl | true => exact absurd (hr rfl) HO.out)))
    all_goals (go_ret; exact ⟨rfl, Below.refl _ _⟩)
  · go_enter Tryd.func3, Tryd.ntmps3
    go_wp2_with (first
      | (go_at_call 5; refine (guard_any ao ai n c ni ci nm _ _ _ HS.out hn hni HB.out).mono ?_; rintro e w' ⟨⟨r, rfl, _⟩, rfl⟩)
      | (go_at_call 6; refine (C6.out).mono ?_; rintro e w' ⟨⟨r', rfl, hr⟩, rfl⟩; clear hr))
    all_goals (go_ret; exact ⟨rfl, Below.refl _ _⟩)
  · go_enter Tryd.func3, Tryd.ntmps3
    go_wp2_with (first
      | (go_at_call 5; refine (guard_any ao ai n c ni ci nm _ _ _ HS.out hn hni HB.out).mono ?_; rintro e w' ⟨⟨r, rfl, _⟩, rfl⟩)
      | (go_at_call 6; refine (C6.out).mono ?_; rintro e w' ⟨⟨r', rfl, hr⟩, rfl⟩; clear hr))
    all_goals (go_ret; exact ⟨rfl, Below.refl _ _⟩)
  · go_enter Tryd.func3, Tryd.ntmps3
    go_wp2_with (first
      | (go_at_call 5; refine (guard_any ao ai n c ni ci nm _ _ _ HS.out hn hni HB.out).mono ?_; rintro e w' ⟨⟨r, rfl, _⟩, rfl⟩)
      | (go_at_call 6; refine (C6.out).mono ?_; rintro e w' ⟨⟨r', rfl, hr⟩, rfl⟩; clear hr))
    all_goals (go_ret; exact ⟨rfl, Below.refl _ _⟩)

end Go.Proofs.Qxb6000096aDoor
