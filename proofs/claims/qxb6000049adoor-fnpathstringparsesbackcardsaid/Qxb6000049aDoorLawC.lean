/-
  The walk of FnPathStringParsesBack, where it comes to the comparison.
-/
import Derived.Test.Qxb6000049aDoorLawB
namespace Go.Proofs.Qxb6000049aDoor
open Go.RowKit

set_option maxRecDepth 4000 in
set_option maxHeartbeats 2000000 in
theorem law_even (ao ai : Option Addr) (n c ci : Nat) (nm : Nat → ByteArray) (ix : Nat → Int) (w : World) (hS : StrsAt w ao n nm) (hI : IntsAt w ai n ix)
    (hnil : ao = none → n = 0 ∧ c = 0) (hnil' : ai = none → n = 0 ∧ ci = 0) (hs : ∀ k, k < n → (nm k).size ≤ 9223372036854775807) (B : Bd n nm ix) (htab : PowTab w) (hsz : 1 < w.heap.size) :
    Calls Tryd.prog 3 #[.slice ao n c, .slice ai n ci] w fun e w' => e = .returned (.bool true) ∧ Below w.heap.size w w' := by
  have hn := B.n16
  have C5 := Lib.hid (guard_any ao ai n c n ci nm w hS (by omega) (by omega) hs)
  have C6 := Lib.hid (bytes_any ao ai n c n ci nm w hS hn hn hs)
  have HS := Lib.hid hS
  have HI := Lib.hid hI
  have HB := Lib.hid hs
  have HN := Lib.hid hnil
  have HN' := Lib.hid hnil'
  clear hS hI hs hnil hnil'
  go_enter Tryd.func3, Tryd.ntmps3
  go_wp2_with (first
    | (go_at_call 5; refine (C5.out).mono ?_; rintro e w' ⟨⟨r, rfl, _⟩, hw⟩; have hw := hw.symm; subst hw)
    | (go_at_call 6; refine (C6.out).mono ?_; rintro e w' ⟨⟨r', rfl, hr0, hr1, hr⟩, hw⟩; have hw := hw.symm; subst hw; clear hr))
  · go_ret; exact ⟨rfl, Below.refl _ _⟩
  · go_ret; exact ⟨rfl, Below.refl _ _⟩
  clear C5 C6
  go_loop [5] (fun i => ∃ k : Nat, k ≤ n ∧ i = .int .i64 k ∧ PlainAll k nm ix) (fun i => n - (intOf i).toNat)
  case atStart => exact ⟨0, Nat.zero_le _, rfl, fun k h => absurd h (by omega)⟩
  case round =>
    obtain ⟨k, hk, rfl, hP⟩ := hrel
    have HP := Lib.hid hP
    clear hP
    by_cases hlt : k < n
    · obtain ⟨b, o, rfl, hb, hc⟩ := HS.out (by omega)
      obtain ⟨b', o', rfl, hb', hc'⟩ := HI.out (by omega)
      have hck := hc k hlt
      have hck' := hc' k hlt
      have hsk := HB.out k hlt
      clear hc hc' HS HI HB HN HN'
      by_cases hx : ix k < 0
      · go_wp2_with (go_at_call 7; refine (plain_any (nm k) _ hsk).mono ?_; rintro e w' ⟨⟨r7, rfl, hr7⟩, hw⟩; have hw := hw.symm; subst hw; have HR := Lib.hid hr7; clear hr7)
        · go_ret; exact ⟨rfl, Below.refl _ _⟩
        · have e7 : r7 = true := by
            have : (!r7) = false := by assumption
            simpa using this
          exact ⟨⟨k + 1, by omega, by go_num, HP.out.succ (fun _ => HR.out e7)⟩, by simp [intOf]; omega⟩
      · have HX := Lib.hid hx
        have hd : decide (ix k < 0) = false := decide_eq_false hx
        clear hck
        go_wp2
        exact ⟨⟨k + 1, by omega, by go_num, HP.out.succ (fun h => absurd h HX.out)⟩, by simp [intOf]; omega⟩
    · have hkn : n = k := by omega
      subst hkn
      go_wp2_with (first
        | (go_at_call 8; refine (cloneStrings_any ao n c nm _ HS.out HN.out (by omega)).mono ?_; rintro e w1 ⟨a1, rfl, hs1, hb1⟩)
        | (go_at_call 9; refine (cloneInts_any ai n ci ix _ (HI.out.below hb1) HN'.out (by omega)).mono ?_; rintro e w2 ⟨a2, rfl, hi2, hb2⟩; have T2 := (htab.below hb1 hsz).below hb2 (by have := hb1.size; omega); have z2 : 1 < w2.heap.size := (by have := hb1.size; have := hb2.size; omega); have S2 := hs1.below hb2; have hB2 : Below w.heap.size w w2 := hb1.trans (hb2.mono hb1.size); clear hs1 hb1 hb2)
        | (go_at_call 10; refine (text_of a1 a2 n nm ix _ S2 hi2 (by omega)).mono ?_; rintro e w3 ⟨pb, sb, rfl, hPA, hb3⟩; have T3 := T2.below hb3 z2; have z3 : 1 < w3.heap.size := (by have := hb3.size; omega); have S3 := S2.below hb3; have I3 := hi2.below hb3; have hB3 : Below w.heap.size w w3 := hB2.trans (hb3.mono hB2.size); clear S2 hi2 hb3 hB2 T2)
        | (go_at_call 11; refine (path_at hPA (by omega) (by omega) B.lo B.hi B.total T3 z3).mono ?_; rintro e w4 ⟨rfl, hb4⟩; have S4 := S3.below hb4; have I4 := I3.below hb4; have hB4 : Below w.heap.size w w4 := hB3.trans (hb4.mono hB3.size); clear S3 I3 hb4 hB3 T3 hPA)
        | (go_at_call 12; refine (parse_rows n nm ix _ B HP.out).mono ?_; rintro e w5 ⟨a5, c5, a6, c6, rfl, h5, h6, hb5⟩; have F5 : Four w n nm ix a1 a2 a5 a6 w5 := ⟨S4.below hb5, I4.below hb5, h5, h6, hB4.trans (hb5.mono hB4.size)⟩; clear S4 I4 hB4 h5 h6 hb5))
      clear HS HI HB HN HN' HP B htab hk hlt z2 z3
      go_loopw [10] (fun i wr => ∃ k : Nat, k ≤ n ∧ i = .int .i64 k ∧ Four w n nm ix a1 a2 a5 a6 wr) (fun i _ => n - (intOf i).toNat)
      case atStart => exact ⟨0, Nat.zero_le _, rfl, F5⟩
      case round =>
        obtain ⟨k, hk, rfl, F⟩ := hrel
        clear F5
        by_cases hlt : k < n
        · obtain ⟨g1, o1, rfl, _, d1⟩ := F.s1 (by omega)
          obtain ⟨g2, o2, rfl, _, d2⟩ := F.i1 (by omega)
          obtain ⟨g5, o5, rfl, _, d5⟩ := F.s2 (by omega)
          obtain ⟨g6, o6, rfl, _, d6⟩ := F.i2 (by omega)
          have e1 := d1 k hlt
          have e2 := d2 k hlt
          have e5 := d5 k hlt
          have e6 := d6 k hlt
          have hb1 : (k : Int) < (n : Int) := by omega
          clear d1 d2 d5 d6
          by_cases hx : 0 ≤ ix k
          · rw [outI, if_pos hx] at e6
            clear e5 e1
            go_wp2_with fail
            go_quiet (fail)
            go_wp2
            exact ⟨⟨k + 1, by omega, by go_num, F.drewN nq⟩, by simp [intOf]; omega⟩
          · rw [outI, if_neg hx] at e6
            rw [outN, if_neg hx] at e5
            go_wp2_with fail
            go_quiet (fail)
            go_wp2
            exact ⟨⟨k + 1, by omega, by go_num, F.drewN nq⟩, by simp [intOf]; omega⟩
        · go_wp2
          go_ret
          exact ⟨rfl, F.below⟩

theorem law_true (ao ai : Option Addr) (n c ni ci : Nat) (nm : Nat → ByteArray) (ix : Nat → Int) (w : World) (hS : StrsAt w ao n nm) (hI : IntsAt w ai ni ix)
    (hnil : ao = none → n = 0 ∧ c = 0) (hnil' : ai = none → ni = 0 ∧ ci = 0) (hn : n ≤ 1000000000000000) (hni : ni ≤ 1000000000000000) (hs : ∀ k, k < n → (nm k).size ≤ 9223372036854775807)
    (hlo : ∀ k, k < ni → -9223372036854775808 ≤ ix k) (hhi : ∀ k, k < ni → ix k ≤ 9223372036854775807) (htab : PowTab w) (hsz : 1 < w.heap.size) :
    Calls Tryd.prog 3 #[.slice ao n c, .slice ai ni ci] w fun e w' => e = .returned (.bool true) ∧ Below w.heap.size w w' := by
  by_cases c1 : n ≤ 65536 ∧ ni ≤ 65536
  · by_cases c2 : namesSize nm n ≤ 1048576
    · by_cases c3 : n = ni
      · subst c3
        exact law_even ao ai n c ci nm ix w hS hI hnil hnil' hs ⟨c1.1, c2, hlo, hhi⟩ htab hsz
      · exact law_uneven ao ai n c ni ci nm w hS c1.1 c1.2 hs (bne_iff_ne.2 (by omega))
    · exact law_big ao ai n c ni ci nm w hS c1.1 c1.2 hs c2
  · exact law_long ao ai n c ni ci nm w hS hn hni hs c1

end Go.Proofs.Qxb6000049aDoor
