/-
  The walks of the two guards on total length.
-/
import Derived.Test.Qxb6001143aBuild
namespace Go.Proofs.Qxb6001143a
open Go.RowKit Go.Maps

/-- It returned a bool (shut for the walk). -/
theorem retB_mk (r : Bool) : RetB (.returned (.bool r)) := ⟨r, rfl⟩

set_option maxHeartbeats 1000000 in
theorem guard9 (ao av : Option Addr) (n c nv cv : Nat) (ks vs : Nat → ByteArray) (s : ByteArray) (w : World) (hK : StrsAt w ao n ks) (hV : StrsAt w av nv vs) (hn : n ≤ 1000000000000000) (hnv : nv ≤ 1000000000000000)
    (hsk : ∀ k, k < n → (ks k).size ≤ 9223372036854775807) (hsv : ∀ k, k < nv → (vs k).size ≤ 9223372036854775807) (hs : s.size ≤ 9223372036854775807) :
    Calls Try.prog 9 #[.slice ao n c, .slice av nv cv, .string s] w fun e w' => RetB e ∧ w' = w := by
  have H1 := Lib.hid hK
  have H2 := Lib.hid hV
  have H3 := Lib.hid hsk
  have H4 := Lib.hid hsv
  clear hK hV hsk hsv
  by_cases h1 : n ≤ 1048576
  · go_enter Try.func9, Try.ntmps9
    go_wp2
    go_loop [7, 8] (fun t i => ∃ (k : Nat) (z : Int), k ≤ n ∧ i = .int .i64 k ∧ t = .int .i64 z ∧ 0 ≤ z ∧ z ≤ 1048576) (fun _ i => n - (intOf i).toNat)
    case atStart => exact ⟨0, _, Nat.zero_le _, rfl, rfl, by omega, by omega⟩
    case round =>
      obtain ⟨k, z, hk, rfl, rfl, hz0, hz1⟩ := hrel
      by_cases hlt : k < n
      · obtain ⟨b, o, rfl, hb, hc⟩ := H1.out (by omega)
        have hck := hc k hlt
        have hsk := H3.out k hlt
        clear hc
        go_wp2
        · go_ret; exact ⟨retB_mk _, rfl⟩
        · go_ret; exact ⟨retB_mk _, rfl⟩
        · go_round
          case rel => exact ⟨k + 1, _, by omega, by go_num, rfl, by omega, by omega⟩
          case measure => simp [intOf]; omega
      · by_cases h2 : nv ≤ 1048576
        · by_cases h3 : z + nv ≤ 1048576
          · go_wp2
            go_loop [7, 9] (fun t i => ∃ (k : Nat) (z : Int), k ≤ nv ∧ i = .int .i64 k ∧ t = .int .i64 z ∧ 0 ≤ z ∧ z ≤ 1048576) (fun _ i => nv - (intOf i).toNat)
            case atStart => exact ⟨0, _, Nat.zero_le _, rfl, rfl, by omega, by omega⟩
            case round =>
              obtain ⟨k2, z2, hk2, rfl, rfl, hz20, hz21⟩ := hrel
              by_cases hlt2 : k2 < nv
              · obtain ⟨b, o, rfl, hb, hc⟩ := H2.out (by omega)
                have hck := hc k2 hlt2
                have hsk := H4.out k2 hlt2
                clear hc
                go_wp2
                · go_ret; exact ⟨retB_mk _, rfl⟩
                · go_ret; exact ⟨retB_mk _, rfl⟩
                · go_round
                  case rel => exact ⟨k2 + 1, _, by omega, by go_num, rfl, by omega, by omega⟩
                  case measure => simp [intOf]; omega
              · go_wp2
                all_goals (go_ret; exact ⟨retB_mk _, rfl⟩)
          · go_wp2
            all_goals (go_ret; exact ⟨retB_mk _, rfl⟩)
        · go_wp2
          all_goals (go_ret; exact ⟨retB_mk _, rfl⟩)
  · go_enter Try.func9, Try.ntmps9
    go_wp2
    go_ret
    exact ⟨retB_mk _, rfl⟩

set_option maxHeartbeats 1000000 in
theorem guard14 (ao av : Option Addr) (n c nv cv : Nat) (ks vs : Nat → ByteArray) (s1 s2 s3 : ByteArray) (w : World) (hK : StrsAt w ao n ks) (hV : StrsAt w av nv vs) (hn : n ≤ 1000000000000000) (hnv : nv ≤ 1000000000000000)
    (hsk : ∀ k, k < n → (ks k).size ≤ 9223372036854775807) (hsv : ∀ k, k < nv → (vs k).size ≤ 9223372036854775807) (hs1 : s1.size ≤ 9223372036854775807) (hs2 : s2.size ≤ 9223372036854775807) (hs3 : s3.size ≤ 9223372036854775807) :
    Calls Try.prog 14 #[.slice ao n c, .slice av nv cv, .string s1, .string s2, .string s3] w fun e w' => RetB e ∧ w' = w := by
  have H1 := Lib.hid hK
  have H2 := Lib.hid hV
  have H3 := Lib.hid hsk
  have H4 := Lib.hid hsv
  clear hK hV hsk hsv
  by_cases h1 : n ≤ 1048576
  · go_enter Try.func14, Try.ntmps14
    go_wp2
    go_loop [11, 12] (fun t i => ∃ (k : Nat) (z : Int), k ≤ n ∧ i = .int .i64 k ∧ t = .int .i64 z ∧ 0 ≤ z ∧ z ≤ 1048576) (fun _ i => n - (intOf i).toNat)
    case atStart => exact ⟨0, _, Nat.zero_le _, rfl, rfl, by omega, by omega⟩
    case round =>
      obtain ⟨k, z, hk, rfl, rfl, hz0, hz1⟩ := hrel
      by_cases hlt : k < n
      · obtain ⟨b, o, rfl, hb, hc⟩ := H1.out (by omega)
        have hck := hc k hlt
        have hsk := H3.out k hlt
        clear hc
        go_wp2
        · go_ret; exact ⟨retB_mk _, rfl⟩
        · go_ret; exact ⟨retB_mk _, rfl⟩
        · go_round
          case rel => exact ⟨k + 1, _, by omega, by go_num, rfl, by omega, by omega⟩
          case measure => simp [intOf]; omega
      · by_cases h2 : nv ≤ 1048576
        · by_cases h3 : z + nv ≤ 1048576
          · go_wp2
            go_loop [11, 13] (fun t i => ∃ (k : Nat) (z : Int), k ≤ nv ∧ i = .int .i64 k ∧ t = .int .i64 z ∧ 0 ≤ z ∧ z ≤ 1048576) (fun _ i => nv - (intOf i).toNat)
            case atStart => exact ⟨0, _, Nat.zero_le _, rfl, rfl, by omega, by omega⟩
            case round =>
              obtain ⟨k2, z2, hk2, rfl, rfl, hz20, hz21⟩ := hrel
              by_cases hlt2 : k2 < nv
              · obtain ⟨b, o, rfl, hb, hc⟩ := H2.out (by omega)
                have hck := hc k2 hlt2
                have hsk := H4.out k2 hlt2
                clear hc
                go_wp2
                · go_ret; exact ⟨retB_mk _, rfl⟩
                · go_ret; exact ⟨retB_mk _, rfl⟩
                · go_round
                  case rel => exact ⟨k2 + 1, _, by omega, by go_num, rfl, by omega, by omega⟩
                  case measure => simp [intOf]; omega
              · go_wp2
                all_goals (go_ret; exact ⟨retB_mk _, rfl⟩)
          · go_wp2
            all_goals (go_ret; exact ⟨retB_mk _, rfl⟩)
        · go_wp2
          all_goals (go_ret; exact ⟨retB_mk _, rfl⟩)
  · go_enter Try.func14, Try.ntmps14
    go_wp2
    go_ret
    exact ⟨retB_mk _, rfl⟩

end Go.Proofs.Qxb6001143a
