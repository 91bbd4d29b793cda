/-
  The walk of FnOfAgreesWithAssocList.
-/
import Derived.Test.Qxb6001143aGuard
namespace Go.Proofs.Qxb6001143a
open Go.RowKit Go.Maps

theorem bytes_ext {S T : ByteArray} (h : S.data.toList = T.data.toList) : S = T := by
  cases S; cases T; simp at h; simp [h]

theorem ret_true {S T : ByteArray} (h : S = T) : Ending.returned (Value.bool (S.toList == T.toList)) = .returned (.bool true) := by rw [h, beq_self_eq_true]

theorem lastP_hit {ks vs : Nat → ByteArray} {k : Nat} {s : ByteArray} (h : ks k = s) : lastP ks vs (k + 1) s.data.toList = some (vs k).data.toList := by
  show (if s.data.toList = (ks k).data.toList then some (vs k).data.toList else _) = _
  rw [if_pos (by rw [h])]
theorem lastP_miss {ks vs : Nat → ByteArray} {k : Nat} {s : ByteArray} (h : ks k ≠ s) : lastP ks vs (k + 1) s.data.toList = lastP ks vs k s.data.toList := by
  show (if s.data.toList = (ks k).data.toList then some (vs k).data.toList else _) = _
  rw [if_neg (fun e => h (bytes_ext e.symm))]

/-- Two strings compare as they are. -/
theorem beq_no {S T : ByteArray} (h : S ≠ T) : (S.toList == T.toList) = false := by
  rw [beq_eq_false_iff_ne]
  intro e
  rw [ByteArray.toList_eq, ByteArray.toList_eq] at e
  exact h (bytes_ext e)
theorem beq_yes {S T : ByteArray} (h : S = T) : (S.toList == T.toList) = true := by rw [h]; simp

set_option maxHeartbeats 1000000 in
theorem assoc_true (ao av : Option Addr) (n c nv cv : Nat) (ks vs : Nat → ByteArray) (s : ByteArray) (w : World) (hK : StrsAt w ao n ks) (hV : StrsAt w av nv vs) (hn : n ≤ 1000000000000000) (hnv : nv ≤ 1000000000000000)
    (hsk : ∀ k, k < n → (ks k).size ≤ maxLen) (hsv : ∀ k, k < nv → (vs k).size ≤ maxLen) (hs : s.size ≤ maxLen) :
    Calls Try.prog 4 #[.slice ao n c, .slice av nv cv, .string s] w fun e w' => e = .returned (.bool true) ∧ Below w.heap.size w w' := by
  have e0 : maxLen = 9223372036854775807 := by unfold maxLen; rfl
  have G9 := Lib.hid (guard9 ao av n c nv cv ks vs s w hK hV hn hnv (by rw [← e0]; exact hsk) (by rw [← e0]; exact hsv) (by rw [← e0]; exact hs))
  have S1 := Lib.hid (strBytes_any ao n c ks w hK hn (by rw [← e0]; exact hsk))
  have S2 := Lib.hid (strBytes_any av nv cv vs w hV hnv (by rw [← e0]; exact hsv))
  by_cases h1 : n ≤ 65536 ∧ nv ≤ 65536 ∧ s.size ≤ 1048576
  · obtain ⟨h1, h2, h3⟩ := h1
    have BB := Lib.hid (build_any ao av n c nv cv ks vs w hK hV h1 h2 hsk hsv)
    have H1 := Lib.hid hK
    have H2 := Lib.hid hV
    have H5 := Lib.hid hs
    clear hK hV hsk hsv hs e0
    obtain ⟨m, hm⟩ : ∃ m, m = min n nv := ⟨_, rfl⟩
    have hm1 : m ≤ n := by omega
    have hm2 : m ≤ nv := by omega
    have hp := pair_any n nv
    rw [← hm] at hp BB
    have HP := Lib.hid hp
    clear hm hp
    go_enter Try.func4, Try.ntmps4
    go_wp2_with fail
    refine (G9.out).mono ?_
    rintro e w' ⟨⟨r, rfl⟩, hw⟩
    have hw2 := hw.symm
    subst hw2
    clear hw
    go_wp2_with fail
    · go_ret; exact ⟨rfl, Below.refl _ _⟩
    refine (S1.out).mono ?_
    rintro e w' ⟨⟨z1, rfl, hz1, hz1b⟩, hw⟩
    have hw2 := hw.symm
    subst hw2
    clear hw
    go_wp2_with fail
    refine (S2.out).mono ?_
    rintro e w' ⟨⟨z2, rfl, hz2, hz2b⟩, hw⟩
    have hw2 := hw.symm
    subst hw2
    clear hw
    go_wp2_with fail
    · go_ret; exact ⟨rfl, Below.refl _ _⟩
    refine (BB.out).mono ?_
    rintro e w1 ⟨rfl, hM, hb⟩
    have HK := Lib.hid (H1.out.below hb)
    have HV := Lib.hid (H2.out.below hb)
    have HO := Lib.hid (zzof_any _ _ _ s H5.out w1 hM)
    clear hM G9 S1 S2 BB H1 H2 H5
    go_wp2_with (go_at_call 12; refine (HP.out _).mono ?_; rintro e w' ⟨rfl, rfl⟩)
    clear HP
    go_loop [9, 10] (fun t i => t = .string closeS ∧ ∃ j : Nat, j ≤ m ∧ Hid (lastP ks vs m s.data.toList = lastP ks vs j s.data.toList) ∧ ((i = .int .i64 (-1) ∧ j = 0) ∨ ∃ k : Nat, j = k + 1 ∧ i = .int .i64 k)) (fun _ i => (intOf i + 1).toNat)
    case atStart =>
      refine ⟨rfl, m, Nat.le_refl _, rfl, ?_⟩
      by_cases h0 : m = 0
      · exact .inl ⟨by rw [h0]; rfl, h0⟩
      · exact .inr ⟨m - 1, by omega, by go_num⟩
    case round =>
      obtain ⟨rfl, j, hj, HL, ⟨rfl, hj0⟩ | ⟨k, hjk, rfl⟩⟩ := hrel
      · have HJ : Hid (lastP ks vs m s.data.toList = none) := by rw [HL.out, hj0]; exact rfl
        clear HL hj0
        go_wp2_with (go_at_call 13; refine (HO.out).mono ?_; rintro e w' ⟨x, rfl, hx, rfl⟩)
        go_ret
        exact ⟨ret_true (bytes_ext (by rw [hx, ofIs, HJ.out]; rfl)), hb⟩
      · have HJ : Hid (lastP ks vs m s.data.toList = lastP ks vs (k + 1) s.data.toList) := by rw [HL.out, hjk]; exact rfl
        have hkm : k < m := by omega
        clear HL hjk
        obtain ⟨b1, o1, rfl, hbb1, hc1⟩ := HK.out (by omega)
        obtain ⟨b2, o2, rfl, hbb2, hc2⟩ := HV.out (by omega)
        have d1 := hc1 k (by omega)
        have d2 := hc2 k (by omega)
        have hkn : k < n := by omega
        have hkv : k < nv := by omega
        clear hc1 hc2
        by_cases hk : ks k = s
        · have hbq := beq_yes hk
          have HR := Lib.hid (lastP_hit (vs := vs) hk)
          clear hk
          go_wp2_with (go_at_call 13; refine (HO.out).mono ?_; rintro e w' ⟨x, rfl, hx, rfl⟩)
          go_ret
          exact ⟨ret_true (bytes_ext (by rw [hx, ofIs, HJ.out, HR.out]; rfl)), hb⟩
        · have hbq := beq_no hk
          have HR := Lib.hid (lastP_miss (vs := vs) hk)
          clear hk
          go_wp2
          go_round
          case rel =>
            refine ⟨rfl, k, by omega, HJ.out.trans HR.out, ?_⟩
            by_cases h0 : k = 0
            · exact .inl ⟨by rw [h0]; rfl, h0⟩
            · exact .inr ⟨k - 1, by omega, by go_num⟩
          case measure => simp [intOf]
  · clear hK hV hsk hsv hs e0
    go_enter Try.func4, Try.ntmps4
    go_wp2_with fail
    refine (G9.out).mono ?_
    rintro e w' ⟨⟨r, rfl⟩, hw⟩
    have hw2 := hw.symm
    subst hw2
    clear hw
    go_wp2_with fail
    all_goals (go_ret; exact ⟨rfl, Below.refl _ _⟩)

end Go.Proofs.Qxb6001143a
