/-
  The walk of zzParsePath.
-/
import Derived.Test.Qxb6000049aDoorTwo
namespace Go.Proofs.Qxb6000049aDoor
open Go.RowKit

/-- Where the steps stand in the text S: p k is the place behind k steps. -/
structure TextIs (S : ByteArray) (n : Nat) (nm : Nat → ByteArray) (ix : Nat → Int) (p : Nat → Nat) : Prop where
  zero : p 0 = 0
  size : S.size = p n
  lt : ∀ k, k < n → p k < S.size
  pos : ∀ k, 0 < k → k ≤ n → 0 < p k
  elem : ∀ k (u : Nat), k < n → ix k = u → ElemAt S (p k) u ∧ p (k + 1) = p k + Lib.nDigits u + 2
  head : 0 < n → ix 0 < 0 → NameAt S 0 (nm 0) ∧ p 1 = (nm 0).size
  later : ∀ k, 0 < k → k < n → ix k < 0 → NameAt S (p k + 1) (nm k) ∧ p (k + 1) = p k + 1 + (nm k).size ∧ ∀ h' : p k < S.size, (S[p k]'h').toNat = 46
  big : S.size ≤ 1000000000

theorem textIs (nm : Nat → ByteArray) (ix : Nat → Int) (n : Nat) (hp : ∀ k, k < n → ix k < 0 → Plain (nm k)) (hL : (pathText nm ix n).length ≤ 1000000000) :
    TextIs ⟨(pathText nm ix n).toArray⟩ n nm ix (fun k => (pathText nm ix k).length) := by
  have hs : (⟨(pathText nm ix n).toArray⟩ : ByteArray).size = (pathText nm ix n).length := by show (pathText nm ix n).toArray.size = _; simp
  refine ⟨rfl, hs, fun k h => by rw [hs]; exact path_lt nm ix n hp k h, fun k h0 h => ?_, fun k u h hx => at_elem nm ix k n h u hx, fun h hx => at_head nm ix n h hx, fun k h0 h hx => at_later nm ix k n h h0 hx, by rw [hs]; exact hL⟩
  have := path_lt nm ix k (fun j hj => hp j (by omega)) 0 h0
  show 0 < (pathText nm ix k).length
  omega

set_option maxRecDepth 4000 in
set_option maxHeartbeats 2000000 in
theorem parse_text (S : ByteArray) (n : Nat) (nm : Nat → ByteArray) (ix : Nat → Int) (p : Nat → Nat) (w : World) (hn : n ≤ 65536) (hp : ∀ k, k < n → ix k < 0 → Plain (nm k)) (hhi : ∀ k, k < n → ix k ≤ 9223372036854775807)
    (hT : TextIs S n nm ix p) :
    Calls Tryd.prog 12 #[.string S] w fun e w' => ParsePost w n nm ix e w' := by
  have hbig := hT.big
  have P0 := Two.start w nm ix
  go_enter Tryd.func12, Tryd.ntmps12
  go_wp2
  go_loopw [5, 6, 7] (fun v5 v6 i wr => ∃ k : Nat, k ≤ n ∧ i = .int .i64 (p k) ∧ Two w nm ix k k v5 v6 wr) (fun _ _ i _ => S.size - (intOf i).toNat)
  case atStart => exact ⟨0, Nat.zero_le _, by rw [hT.zero]; rfl, P0⟩
  case round =>
    obtain ⟨k, hk, rfl, P⟩ := hrel
    clear P0
    by_cases hlt : k < n
    · by_cases hx : 0 ≤ ix k
      · obtain ⟨u, hu⟩ : ∃ u : Nat, ix k = u := ⟨(ix k).toNat, by omega⟩
        obtain ⟨hE, hpk⟩ := hT.elem k u hlt hu
        have hpl := hT.lt k hlt
        have hu2 := hhi k hlt
        have hPN : outN nm ix k = ⟨#[]⟩ := by rw [outN, if_pos hx]
        have hPI : outI ix k = u := by rw [outI, if_pos hx, hu]
        generalize p k = i at hE hpk hpl ⊢
        have hnd := nDigits_le19 u (by omega)
        have hnp := Lib.nDigits_pos u
        have hsz := hE.size
        have hf0 : ((S[i]'hpl).toNat : Int) = 91 := congrArg Nat.cast (hE.first hpl)
        go_wp2
        go_loop [8, 10] (fun jv v => ∃ q j : Nat, q ≤ Lib.nDigits u ∧ j = i + 1 + q ∧ jv = .int .i64 j ∧ v = .int .i64 (pre u q)) (fun jv _ => S.size - (intOf jv).toNat)
        case atStart => exact ⟨0, i + 1, Nat.zero_le _, rfl, by go_num, by rw [pre_zero]; rfl⟩
        case round =>
          obtain ⟨q, j, hq, hj, rfl, rfl⟩ := hrel
          by_cases hlq : q < Lib.nDigits u
          · have hjs : j < S.size := by omega
            have q1 : (S[j]'hjs).toNat = 48 + u / 10 ^ (Lib.nDigits u - 1 - q) % 10 := by subst hj; exact hE.digit q hjs hlq
            have q2 := pre_succ u q hlq
            have q3 := pre_le u (q + 1)
            have q4 : u / 10 ^ (Lib.nDigits u - 1 - q) % 10 < 10 := Nat.mod_lt _ (by omega)
            generalize u / 10 ^ (Lib.nDigits u - 1 - q) % 10 = d at q1 q2 q4
            have q5 : ((S[j]'hjs).toNat : Int) = 48 + (d : Int) := by rw [q1]; rfl
            have q6 : (pre u q : Int) * 10 + d ≤ 9223372036854775807 := by omega
            have Q2 : Hid (pre u (q + 1) = pre u q * 10 + d) := q2
            have HJ := Lib.hid hj
            clear q1 q2 q3 hj hf0 hE P hT hp hhi hu hpk hPN hPI
            have R : Value.int .i64 ((pre u q : Int) * 10 + (48 + (d : Int) - 48)) = .int .i64 (pre u (q + 1)) := by rw [Q2.out]; go_num
            have HR : Hid _ := R
            clear R
            go_wp2
            exact ⟨⟨q + 1, j + 1, by omega, by have := HJ.out; omega, by go_num, HR.out⟩, by simp [intOf]; omega⟩
          · have hqn : q = Lib.nDigits u := by omega
            subst hqn
            have hjs : j < S.size := by omega
            have q5 : ((S[j]'hjs).toNat : Int) = 93 := by subst hj; exact congrArg Nat.cast (hE.last hjs)
            have hls : i + 1 < S.size := by omega
            have q0 := hE.digit 0 hls hnp
            have q4 : u / 10 ^ (Lib.nDigits u - 1 - 0) % 10 < 10 := Nat.mod_lt _ (by omega)
            have q7 := lead u
            rw [Nat.sub_zero] at q0 q4
            generalize u / 10 ^ (Lib.nDigits u - 1) % 10 = d at q0 q4 q7
            have q8 : ((S[i + 1]'hls).toNat : Int) = 48 + (d : Int) := congrArg Nat.cast q0
            have q9 : ((j : Int) == (i : Int) + 1) = false := beq_false_of_ne (by omega)
            have q10 : i + 1 < j := by omega
            have HJ := Lib.hid hj
            have HP := Lib.hid hpk
            have HN := Lib.hid hPN
            have HI := Lib.hid hPI
            have hkb : k ≤ 1000000 := by omega
            rw [pre_all]
            by_cases hd : d = 0
            · have q11 : ¬ (1 < (j : Int) - ((i : Int) + 1)) := by
                have : ¬ 2 ≤ Lib.nDigits u := fun h => q7 h hd
                omega
              have q12 : ((S[i + 1]'hls).toNat : Int) = 48 := by rw [q8, hd]; rfl
              clear q0 q7 q8 q4 hd hj hf0 hE hT hp hhi hu hpk hPN hPI
              go_wp2_with (at_builtin; first
                | (refine app_names P _ HN.out.symm hkb rfl _ _ rfl rfl rfl ?_; intro g1 cap1 w1 P1)
                | (refine app_ints P1 _ HI.out.symm hkb rfl _ _ rfl rfl rfl ?_; intro g2 cap2 w2 P2))
              exact ⟨⟨k + 1, by omega, congrArg (Value.int .i64) (by have a := HJ.out; have b := HP.out; omega), P2⟩, by simp [intOf]; omega⟩
            · have q12 : ((48 : Int) + d == 48) = false := beq_false_of_ne (by omega)
              clear q0 q7 q4 hd hj hf0 hE hT hp hhi hu hpk hPN hPI
              go_wp2_with (at_builtin; first
                | (refine app_names P _ HN.out.symm hkb rfl _ _ rfl rfl rfl ?_; intro g1 cap1 w1 P1)
                | (refine app_ints P1 _ HI.out.symm hkb rfl _ _ rfl rfl rfl ?_; intro g2 cap2 w2 P2))
              exact ⟨⟨k + 1, by omega, congrArg (Value.int .i64) (by have a := HJ.out; have b := HP.out; omega), P2⟩, by simp [intOf]; omega⟩
      · have hx : ix k < 0 := by omega
        by_cases hk0 : 0 < k
        · obtain ⟨hN, hpk, h46⟩ := hT.later k (by omega) hlt hx
          have hpl := hT.lt k hlt
          have hpp := hT.pos k (by omega) hk
          have hPl := hp k hlt hx
          have hPN : outN nm ix k = nm k := by rw [outN, if_neg (by omega)]
          have hPI : outI ix k = -1 := by rw [outI, if_neg (by omega)]
          have z0 := h46 hpl
          generalize p k = i at hN hpk h46 hpl hpp z0 ⊢
          have HP := Lib.hid hpk
          generalize nm k = s at hN hPl hPN HP
          have hs0 := hPl.1
          have hsz := hN.size
          have zz : ((S[i]'hpl).toNat : Int) = 46 := congrArg Nat.cast z0
          clear hpk h46 z0
          go_wp2
          go_loop [7] (fun jv => ∃ q j : Nat, q ≤ s.size ∧ j = (i + 1) + q ∧ jv = .int .i64 j) (fun jv => S.size - (intOf jv).toNat)
          case atStart => exact ⟨0, (i + 1), Nat.zero_le _, rfl, by first | rfl | go_num⟩
          case round =>
            obtain ⟨q, j, hq, hj, rfl⟩ := hrel
            by_cases hlq : q < s.size
            · have hjs : j < S.size := by omega
              have a1 := hPl.2 q hlq
              have a2 : (S[j]'hjs).toNat = (s[q]'hlq).toNat := by subst hj; exact hN.byte q hjs hlq
              rw [← a2] at a1
              obtain ⟨b1, b2, b3⟩ := a1
              have c1 : (((S[j]'hjs).toNat : Int) != 46) = true := bne_iff_ne.2 (by omega)
              have c2 : (((S[j]'hjs).toNat : Int) != 91) = true := bne_iff_ne.2 (by omega)
              have c3 : (((S[j]'hjs).toNat : Int) != 93) = true := bne_iff_ne.2 (by omega)
              have HJ := Lib.hid hj
              clear zz hN hPl a2 b1 b2 b3 hj hT hp hhi P hPN hPI
              go_wp2
              exact ⟨⟨q + 1, j + 1, by omega, by have := HJ.out; omega, by go_num⟩, by simp [intOf]; omega⟩
            · have hqn : q = s.size := by omega
              subst hqn
              have hext : S.extract (i + 1) j = s := by rw [hj]; exact hN.ext
              have HJ := Lib.hid hj
              have hst := hN.stop
              rw [← hj] at hst
              have c0 : ((j : Int) == ((i : Int) + 1)) = false := beq_false_of_ne (by omega)
              have c9 : (i + 1) < j := by omega
              have hjl : j ≤ S.size := by omega
              have HN : Hid (outN nm ix k = S.extract (i + 1) j) := by rw [hext]; exact hPN
              have HI := Lib.hid hPI
              have hkb : k ≤ 1000000 := by omega
              clear hN hPl hj hT hp hhi zz hPN hPI hext
              by_cases hjs : j < S.size
              · rcases hst hjs with h46 | h91
                · have c1 : ((S[j]'hjs).toNat : Int) = 46 := congrArg Nat.cast h46
                  clear hst h46
                  go_wp2_with (at_builtin; first
                    | (refine app_names P _ HN.out.symm hkb rfl _ _ rfl rfl rfl ?_; intro g1 cap1 w1 P1)
                    | (refine app_ints P1 _ HI.out.symm hkb rfl _ _ rfl rfl rfl ?_; intro g2 cap2 w2 P2))
                  exact ⟨⟨k + 1, by omega, congrArg (Value.int .i64) (by have a := HJ.out; have b := HP.out; omega), P2⟩, by simp [intOf]; omega⟩
                · have c1 : ((S[j]'hjs).toNat : Int) = 91 := congrArg Nat.cast h91
                  clear hst h91
                  go_wp2_with (at_builtin; first
                    | (refine app_names P _ HN.out.symm hkb rfl _ _ rfl rfl rfl ?_; intro g1 cap1 w1 P1)
                    | (refine app_ints P1 _ HI.out.symm hkb rfl _ _ rfl rfl rfl ?_; intro g2 cap2 w2 P2))
                  exact ⟨⟨k + 1, by omega, congrArg (Value.int .i64) (by have a := HJ.out; have b := HP.out; omega), P2⟩, by simp [intOf]; omega⟩
              · clear hst
                go_wp2_with (at_builtin; first
                    | (refine app_names P _ HN.out.symm hkb rfl _ _ rfl rfl rfl ?_; intro g1 cap1 w1 P1)
                    | (refine app_ints P1 _ HI.out.symm hkb rfl _ _ rfl rfl rfl ?_; intro g2 cap2 w2 P2))
                exact ⟨⟨k + 1, by omega, congrArg (Value.int .i64) (by have a := HJ.out; have b := HP.out; omega), P2⟩, by simp [intOf]; omega⟩
        · have hk0 : k = 0 := by omega
          subst hk0
          obtain ⟨hN, hpk⟩ := hT.head (by omega) hx
          have hpl := hT.lt 0 hlt
          have hp0 := hT.zero
          have hPl := hp 0 hlt hx
          have hPN : outN nm ix 0 = nm 0 := by rw [outN, if_neg (by omega)]
          have hPI : outI ix 0 = -1 := by rw [outI, if_neg (by omega)]
          rw [hp0] at hpl ⊢
          have HP : Hid (p (0 + 1) = 0 + (nm 0).size) := by rw [Nat.zero_add, Nat.zero_add]; exact hpk
          generalize nm 0 = s at hN hPl hPN HP
          have hs0 := hPl.1
          have hsz := hN.size
          have z1 := hPl.2 0 hs0
          have z2 := hN.byte 0 hpl hs0
          have z0 : ((S[0]'hpl).toNat : Int) ≠ 91 := by
            have : S[0 + 0]'hpl = S[0]'hpl := rfl
            rw [this] at z2
            omega
          have zz : (((S[0]'hpl).toNat : Int) == 91) = false := beq_false_of_ne z0
          clear z1 z2 z0 hpk
          go_wp2
          go_loop [7] (fun jv => ∃ q j : Nat, q ≤ s.size ∧ j = 0 + q ∧ jv = .int .i64 j) (fun jv => S.size - (intOf jv).toNat)
          case atStart => exact ⟨0, 0, Nat.zero_le _, rfl, by first | rfl | go_num⟩
          case round =>
            obtain ⟨q, j, hq, hj, rfl⟩ := hrel
            by_cases hlq : q < s.size
            · have hjs : j < S.size := by omega
              have a1 := hPl.2 q hlq
              have a2 : (S[j]'hjs).toNat = (s[q]'hlq).toNat := by subst hj; exact hN.byte q hjs hlq
              rw [← a2] at a1
              obtain ⟨b1, b2, b3⟩ := a1
              have c1 : (((S[j]'hjs).toNat : Int) != 46) = true := bne_iff_ne.2 (by omega)
              have c2 : (((S[j]'hjs).toNat : Int) != 91) = true := bne_iff_ne.2 (by omega)
              have c3 : (((S[j]'hjs).toNat : Int) != 93) = true := bne_iff_ne.2 (by omega)
              have HJ := Lib.hid hj
              clear zz hN hPl a2 b1 b2 b3 hj hT hp hhi P hPN hPI
              go_wp2
              exact ⟨⟨q + 1, j + 1, by omega, by have := HJ.out; omega, by go_num⟩, by simp [intOf]; omega⟩
            · have hqn : q = s.size := by omega
              subst hqn
              have hext : S.extract 0 j = s := by rw [hj]; exact hN.ext
              have HJ := Lib.hid hj
              have hst := hN.stop
              rw [← hj] at hst
              have c0 : ((j : Int) == (0 : Int)) = false := beq_false_of_ne (by omega)
              have c9 : 0 < j := by omega
              have hjl : j ≤ S.size := by omega
              have HN : Hid (outN nm ix 0 = S.extract 0 j) := by rw [hext]; exact hPN
              have HI := Lib.hid hPI
              have hkb : 0 ≤ 1000000 := by omega
              clear hN hPl hj hT hp hhi zz hPN hPI hext
              by_cases hjs : j < S.size
              · rcases hst hjs with h46 | h91
                · have c1 : ((S[j]'hjs).toNat : Int) = 46 := congrArg Nat.cast h46
                  clear hst h46
                  go_wp2_with (at_builtin; first
                    | (refine app_names P _ HN.out.symm hkb rfl _ _ rfl rfl rfl ?_; intro g1 cap1 w1 P1)
                    | (refine app_ints P1 _ HI.out.symm hkb rfl _ _ rfl rfl rfl ?_; intro g2 cap2 w2 P2))
                  exact ⟨⟨0 + 1, by omega, congrArg (Value.int .i64) (by have a := HJ.out; have b := HP.out; omega), P2⟩, by simp [intOf]; omega⟩
                · have c1 : ((S[j]'hjs).toNat : Int) = 91 := congrArg Nat.cast h91
                  clear hst h91
                  go_wp2_with (at_builtin; first
                    | (refine app_names P _ HN.out.symm hkb rfl _ _ rfl rfl rfl ?_; intro g1 cap1 w1 P1)
                    | (refine app_ints P1 _ HI.out.symm hkb rfl _ _ rfl rfl rfl ?_; intro g2 cap2 w2 P2))
                  exact ⟨⟨0 + 1, by omega, congrArg (Value.int .i64) (by have a := HJ.out; have b := HP.out; omega), P2⟩, by simp [intOf]; omega⟩
              · clear hst
                go_wp2_with (at_builtin; first
                    | (refine app_names P _ HN.out.symm hkb rfl _ _ rfl rfl rfl ?_; intro g1 cap1 w1 P1)
                    | (refine app_ints P1 _ HI.out.symm hkb rfl _ _ rfl rfl rfl ?_; intro g2 cap2 w2 P2))
                exact ⟨⟨0 + 1, by omega, congrArg (Value.int .i64) (by have a := HJ.out; have b := HP.out; omega), P2⟩, by simp [intOf]; omega⟩
    · have hkn : k = n := by omega
      subst hkn
      have hps := hT.size
      go_wp2
      go_ret3
      exact ⟨_, _, rfl, P⟩

theorem parse_any (n : Nat) (nm : Nat → ByteArray) (ix : Nat → Int) (w : World) (hn : n ≤ 65536) (hp : ∀ k, k < n → ix k < 0 → Plain (nm k)) (hhi : ∀ k, k < n → ix k ≤ 9223372036854775807)
    (hL : (pathText nm ix n).length ≤ 1000000000) :
    Calls Tryd.prog 12 #[.string ⟨(pathText nm ix n).toArray⟩] w fun e w' => ParsePost w n nm ix e w' :=
  parse_text _ n nm ix _ w hn hp hhi (textIs nm ix n hp hL)

end Go.Proofs.Qxb6000049aDoor
