/-
  The walk of FnPathStringParsesBack: the early ways out.
-/
import Derived.Test.Qxb6000049aDoorLawA
namespace Go.Proofs.Qxb6000049aDoor
open Go.RowKit

set_option maxHeartbeats 400000 in
theorem law_long (ao ai : Option Addr) (n c ni ci : Nat) (nm : Nat → ByteArray) (w : World) (hS : StrsAt w ao n nm) (hn : n ≤ 1000000000000000) (hni : ni ≤ 1000000000000000) (hs : ∀ k, k < n → (nm k).size ≤ 9223372036854775807)
    (hout : ¬ (n ≤ 65536 ∧ ni ≤ 65536)) :
    Calls Tryd.prog 3 #[.slice ao n c, .slice ai ni ci] w fun e w' => e = .returned (.bool true) ∧ Below w.heap.size w w' := by
  have C5 := Lib.hid (guard_any ao ai n c ni ci nm w hS hn hni hs)
  clear hS hs
  by_cases h1 : n ≤ 65536
  · have h2 : 65536 < ni := by omega
    clear hout
    go_enter Tryd.func3, Tryd.ntmps3
    go_wp2_with (go_at_call 5; refine (C5.out).mono ?_; rintro e w' ⟨⟨r, rfl, _⟩, hw⟩; have hw := hw.symm; subst hw)
    all_goals (go_ret; exact ⟨rfl, Below.refl _ _⟩)
  · have h2 : 65536 < n := by omega
    clear hout
    go_enter Tryd.func3, Tryd.ntmps3
    go_wp2_with (go_at_call 5; refine (C5.out).mono ?_; rintro e w' ⟨⟨r, rfl, _⟩, hw⟩; have hw := hw.symm; subst hw)
    all_goals (go_ret; exact ⟨rfl, Below.refl _ _⟩)

set_option maxHeartbeats 400000 in
theorem law_big (ao ai : Option Addr) (n c ni ci : Nat) (nm : Nat → ByteArray) (w : World) (hS : StrsAt w ao n nm) (hn : n ≤ 65536) (hni : ni ≤ 65536) (hs : ∀ k, k < n → (nm k).size ≤ 9223372036854775807)
    (hout : ¬ (namesSize nm n ≤ 1048576)) :
    Calls Tryd.prog 3 #[.slice ao n c, .slice ai ni ci] w fun e w' => e = .returned (.bool true) ∧ Below w.heap.size w w' := by
  have C5 := Lib.hid (guard_any ao ai n c ni ci nm w hS (by omega) (by omega) hs)
  have C6 := Lib.hid (bytes_any ao ai n c ni ci nm w hS hn hni hs)
  have HO := Lib.hid hout
  clear hS hs hout
  go_enter Tryd.func3, Tryd.ntmps3
  go_wp2_with (first
    | (go_at_call 5; refine (C5.out).mono ?_; rintro e w' ⟨⟨r, rfl, _⟩, hw⟩; have hw := hw.symm; subst hw)
    | (go_at_call 6; refine (C6.out).mono ?_; rintro e w' ⟨⟨r', rfl, hr0, hr1, hr⟩, hw⟩; have hw := hw.symm; subst hw; have hr2 : 1048576 < r' := (by have := HO.out; omega); clear hr))
  all_goals (go_ret; exact ⟨rfl, Below.refl _ _⟩)

set_option maxHeartbeats 400000 in
theorem law_uneven (ao ai : Option Addr) (n c ni ci : Nat) (nm : Nat → ByteArray) (w : World) (hS : StrsAt w ao n nm) (hn : n ≤ 65536) (hni : ni ≤ 65536) (hs : ∀ k, k < n → (nm k).size ≤ 9223372036854775807)
    (hne : ((n : Int) != (ni : Int)) = true) :
    Calls Tryd.prog 3 #[.slice ao n c, .slice ai ni ci] w fun e w' => e = .returned (.bool true) ∧ Below w.heap.size w w' := by
  have C5 := Lib.hid (guard_any ao ai n c ni ci nm w hS (by omega) (by omega) hs)
  have C6 := Lib.hid (bytes_any ao ai n c ni ci nm w hS hn hni hs)
  clear hS hs
  go_enter Tryd.func3, Tryd.ntmps3
  go_wp2_with (first
    | (go_at_call 5; refine (C5.out).mono ?_; rintro e w' ⟨⟨r, rfl, _⟩, hw⟩; have hw := hw.symm; subst hw)
    | (go_at_call 6; refine (C6.out).mono ?_; rintro e w' ⟨⟨r', rfl, hr0, hr1, hr⟩, hw⟩; have hw := hw.symm; subst hw; clear hr))
  all_goals (go_ret; exact ⟨rfl, Below.refl _ _⟩)

end Go.Proofs.Qxb6000049aDoor
