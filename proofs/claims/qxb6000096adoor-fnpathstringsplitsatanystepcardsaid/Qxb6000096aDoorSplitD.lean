/-
  The walk of FnPathStringSplitsAtAnyStep, at the edges.
-/
import Derived.Test.Qxb6000096aDoorSplitC
namespace Go.Proofs.Qxb6000096aDoor
open Go.RowKit

theorem zz_whole_at {w : World} {b b' n : Nat} {nm : Nat → ByteArray} {ix : Nat → Int} (S : ByteArray) (hS : S = ⟨(pathText nm ix n).toArray⟩) (len : Nat) (hlen : len ≤ 1048576) (R : Rd w b b' n nm ix) (B : Bd n nm ix) :
    Calls Tryd.prog 9 #[.slice (some ⟨b, 0, none⟩) n n, .slice (some ⟨b', 0, none⟩) n n, .int .i64 len] w fun e w' => e = .returned (.string S) ∧ Below w.heap.size w w' := by
  rw [hS]; exact zz_whole len hlen R B

theorem zz_whole0 {w : World} {b b' n : Nat} {nm : Nat → ByteArray} {ix : Nat → Int} (S : ByteArray) (hS : S = ⟨(pathText nm ix n).toArray⟩) (R : Rd w b b' n nm ix) (B : Bd n nm ix) :
    Calls Tryd.prog 9 #[.slice (some ⟨b, 0, none⟩) n n, .slice (some ⟨b', 0, none⟩) n n, .int .i64 0] w fun e w' => e = .returned (.string S) ∧ Below w.heap.size w w' :=
  zz_whole_at S hS 0 (by omega) R B

theorem zz_none0 {w : World} (ao ai : Option Addr) (c c' : Nat) (htab : PowTab w) (hsz : 1 < w.heap.size) :
    Calls Tryd.prog 9 #[.slice ao 0 c, .slice ai 0 c', .int .i64 0] w fun e w' => e = .returned (.string ⟨#[]⟩) ∧ Below w.heap.size w w' :=
  zz_none ao ai c c' 0 (by omega) htab hsz

theorem ret_left (S : ByteArray) : Ending.returned (Value.bool (S.toList == (({ data := #[] } : ByteArray) ++ { data := #[] } ++ S).toList)) = .returned (.bool true) :=
  ret_true (bytes_ext (by simp))
theorem ret_right (S : ByteArray) : Ending.returned (Value.bool (S.toList == (S ++ ({ data := #[] } : ByteArray) ++ { data := #[] }).toList)) = .returned (.bool true) :=
  ret_true (bytes_ext (by simp))

set_option maxHeartbeats 1000000 in
/-- k = 0 < n. -/
theorem split_zero (b o b' o' n c ci : Nat) (nm : Nat → ByteArray) (ix : Nat → Int) (len : Nat) (w : World)
    (hS : StrsAt w (some ⟨b, o, none⟩) n nm) (hI : IntsAt w (some ⟨b', o', none⟩) n ix) (B : Bd n nm ix) (hlen : len ≤ 1048576) (hn1 : 0 < n) (hs : ∀ k, k < n → (nm k).size ≤ 9223372036854775807)
    (htab : PowTab w) (hsz : 1 < w.heap.size) :
    Calls Tryd.prog 3 #[.slice (some ⟨b, o, none⟩) n c, .slice (some ⟨b', o', none⟩) n ci, .int .i64 len, .int .i64 0] w fun e w' => e = .returned (.bool true) ∧ Below w.heap.size w w' := by
  have hn := B.n16
  have HS := Lib.hid hS
  have HI := Lib.hid hI
  have HB := Lib.hid hs
  have hS1 : (⟨(pathText nm ix n).toArray⟩ : ByteArray).size ≤ 3000000 := by show (pathText nm ix n).toArray.size ≤ _; have := B.total; simpa using this
  obtain ⟨S, hSe⟩ : ∃ S : ByteArray, S = ⟨(pathText nm ix n).toArray⟩ := ⟨_, rfl⟩
  rw [← hSe] at hS1
  have HE := Lib.hid hSe
  clear hSe
  have hn0 : ¬ n = 0 := by omega
  have C7 := Lib.hid (cloneStrings_some ⟨b, o, none⟩ n c nm w hS (by omega))
  clear hS hI hs
  go_enter Tryd.func3, Tryd.ntmps3
  go_wp2_with (first
    | (go_at_call 5; refine (guard_any _ _ n c n ci nm _ _ _ HS.out (by omega) (by omega) HB.out).mono ?_; rintro e w' ⟨⟨r, rfl, _⟩, rfl⟩)
    | (go_at_call 6; refine (small_any _ _ n c n ci nm _ HS.out (by omega) (by omega) HB.out).mono ?_; rintro e w' ⟨⟨r', rfl, hr⟩, rfl⟩; clear hr)
    | (go_at_call 7; refine (C7.out).mono ?_; rintro e w1 ⟨rfl, hb1, hz1, hc1⟩; have HC1 := Lib.hid hc1; clear hc1)
    | (go_at_call 8; refine (cloneInts_some ⟨b', o', none⟩ n ci ix _ (HI.out.below hb1) (by omega)).mono ?_; rintro e w2 ⟨rfl, hb2, hz2, hc2⟩; have HC2 := Lib.hid hc2; clear hc2))
  · go_ret; exact ⟨rfl, Below.refl _ _⟩
  · go_ret; exact ⟨rfl, Below.refl _ _⟩
  have R2 := Rd.of_clones hb1 hz1 HC1.out hb2 hz2 HC2.out htab hsz
  have hB2 : Below w'.heap.size w' w2 := hb1.trans (hb2.mono (Nat.le_of_lt hz1))
  clear HC1 HC2 HS HI HB C7 htab
  refine (zz_whole_at S HE.out len hlen R2 B).mono ?_
  rintro e w3 ⟨rfl, hb3⟩
  have R3 := R2.below hb3
  have hB3 : Below w'.heap.size w' w3 := hB2.trans (hb3.mono hB2.size)
  clear hb3 hB2 R2 hb1 hb2
  go_wp2_with fail
  go_region_with (go_at_call 9; refine (zz_none0 (some ⟨w'.heap.size, 0, none⟩) (some ⟨w1.heap.size, 0, none⟩) n n R3.drew.tab R3.drew.sz).mono ?_; rintro e w4 ⟨rfl, hb4⟩)
  all_goals
    have R4 := R3.drew.below hb4
    have hB4 : Below w'.heap.size w' w4 := hB3.drew.trans (hb4.mono hB3.size)
    clear hb4 R3 hB3
    go_wp2_with fail
    go_region_with (go_at_call 9; refine (zz_whole0 (b := w'.heap.size) (b' := w1.heap.size) S HE.out R4.drew B).mono ?_; rintro e w5 ⟨rfl, hb5⟩)
    all_goals
      have hB5 : Below w'.heap.size w' w5 := hB4.drew.trans (hb5.mono hB4.size)
      clear hb5 R4 hB4
      go_wp2
      go_ret
      exact ⟨ret_left S, hB5⟩

set_option maxHeartbeats 1000000 in
/-- k = n > 0. -/
theorem split_end (b o b' o' n c ci : Nat) (nm : Nat → ByteArray) (ix : Nat → Int) (len : Nat) (w : World)
    (hS : StrsAt w (some ⟨b, o, none⟩) n nm) (hI : IntsAt w (some ⟨b', o', none⟩) n ix) (B : Bd n nm ix) (hlen : len ≤ 1048576) (hn1 : 0 < n) (hs : ∀ k, k < n → (nm k).size ≤ 9223372036854775807)
    (htab : PowTab w) (hsz : 1 < w.heap.size) :
    Calls Tryd.prog 3 #[.slice (some ⟨b, o, none⟩) n c, .slice (some ⟨b', o', none⟩) n ci, .int .i64 len, .int .i64 n] w fun e w' => e = .returned (.bool true) ∧ Below w.heap.size w w' := by
  have hn := B.n16
  have HS := Lib.hid hS
  have HI := Lib.hid hI
  have HB := Lib.hid hs
  have hS1 : (⟨(pathText nm ix n).toArray⟩ : ByteArray).size ≤ 3000000 := by show (pathText nm ix n).toArray.size ≤ _; have := B.total; simpa using this
  obtain ⟨S, hSe⟩ : ∃ S : ByteArray, S = ⟨(pathText nm ix n).toArray⟩ := ⟨_, rfl⟩
  rw [← hSe] at hS1
  have HE := Lib.hid hSe
  clear hSe
  have hn0 : ¬ n = 0 := by omega
  have C7 := Lib.hid (cloneStrings_some ⟨b, o, none⟩ n c nm w hS (by omega))
  clear hS hI hs
  go_enter Tryd.func3, Tryd.ntmps3
  go_wp2_with (first
    | (go_at_call 5; refine (guard_any _ _ n c n ci nm _ _ _ HS.out (by omega) (by omega) HB.out).mono ?_; rintro e w' ⟨⟨r, rfl, _⟩, rfl⟩)
    | (go_at_call 6; refine (small_any _ _ n c n ci nm _ HS.out (by omega) (by omega) HB.out).mono ?_; rintro e w' ⟨⟨r', rfl, hr⟩, rfl⟩; clear hr)
    | (go_at_call 7; refine (C7.out).mono ?_; rintro e w1 ⟨rfl, hb1, hz1, hc1⟩; have HC1 := Lib.hid hc1; clear hc1)
    | (go_at_call 8; refine (cloneInts_some ⟨b', o', none⟩ n ci ix _ (HI.out.below hb1) (by omega)).mono ?_; rintro e w2 ⟨rfl, hb2, hz2, hc2⟩; have HC2 := Lib.hid hc2; clear hc2))
  · go_ret; exact ⟨rfl, Below.refl _ _⟩
  · go_ret; exact ⟨rfl, Below.refl _ _⟩
  have R2 := Rd.of_clones hb1 hz1 HC1.out hb2 hz2 HC2.out htab hsz
  have hB2 : Below w'.heap.size w' w2 := hb1.trans (hb2.mono (Nat.le_of_lt hz1))
  clear HC1 HC2 HS HI HB C7 htab
  refine (zz_whole_at S HE.out len hlen R2 B).mono ?_
  rintro e w3 ⟨rfl, hb3⟩
  have R3 := R2.below hb3
  have hB3 : Below w'.heap.size w' w3 := hB2.trans (hb3.mono hB2.size)
  clear hb3 hB2 R2 hb1 hb2
  go_wp2_with fail
  go_region_with (go_at_call 9; refine (zz_whole0 (b := w'.heap.size) (b' := w1.heap.size) S HE.out R3.drew B).mono ?_; rintro e w4 ⟨rfl, hb4⟩)
  all_goals
    have R4 := R3.drew.below hb4
    have hB4 : Below w'.heap.size w' w4 := hB3.drew.trans (hb4.mono hB3.size)
    clear hb4 R3 hB3
    go_wp2_with fail
    go_region_with (go_at_call 9; refine (zz_none0 (some ⟨w'.heap.size, 0, none⟩) (some ⟨w1.heap.size, 0, none⟩) 0 0 R4.drew.tab R4.drew.sz).mono ?_; rintro e w5 ⟨rfl, hb5⟩)
    all_goals
      have hB5 : Below w'.heap.size w' w5 := hB4.drew.trans (hb5.mono hB4.size)
      clear hb5 R4 hB4
      go_wp2
      go_ret
      exact ⟨ret_right S, hB5⟩

end Go.Proofs.Qxb6000096aDoor
