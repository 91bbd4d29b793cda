/-
  The walks of buildMethods and of the guards on sizes.
-/
import Derived.Test.Qxb6001143aMap
namespace Go.Proofs.Qxb6001143a
open Go.RowKit Go.Maps

/-- It returned a bool. -/
def RetB (e : Ending) : Prop := ∃ r : Bool, e = .returned (.bool r)
/-- It returned a small count. -/
def RetN (e : Ending) : Prop := ∃ z : Int, e = .returned (.int .i64 z) ∧ 0 ≤ z ∧ z ≤ 1048577

/-- A slice of strings, readable. -/
def StrsAt (w : World) (ao : Option Addr) (n : Nat) (nm : Nat → ByteArray) : Prop :=
  0 < n → ∃ b o, ao = some ⟨b, o, none⟩ ∧ b < w.heap.size ∧ ∀ k, k < n → w.cell? ⟨b, o + k, none⟩ = some (.string (nm k))

theorem StrsAt.below {w w' : World} {ao : Option Addr} {n : Nat} {nm : Nat → ByteArray} (h : StrsAt w ao n nm) (hb : Below w.heap.size w w') : StrsAt w' ao n nm := fun hn => by
  obtain ⟨b, o, e, hbb, hc⟩ := h hn
  have := hb.size
  exact ⟨b, o, e, by omega, fun k hk => (hb.cell (by exact hbb)).trans (hc k hk)⟩

set_option maxHeartbeats 400000 in
theorem pair_any (a b : Nat) (w : World) : Calls Try.prog 12 #[.int .i64 a, .int .i64 b] w fun e w' => e = .returned (.int .i64 (min a b : Nat)) ∧ w' = w := by
  by_cases h : a < b
  · rw [Nat.min_eq_left (by omega)]
    go_enter Try.func12, Try.ntmps12
    go_wp2
    go_ret
    exact ⟨rfl, rfl⟩
  · rw [Nat.min_eq_right (by omega)]
    go_enter Try.func12, Try.ntmps12
    go_wp2
    go_ret
    exact ⟨rfl, rfl⟩

set_option maxHeartbeats 400000 in
theorem strBytes_any (ao : Option Addr) (n c : Nat) (nm : Nat → ByteArray) (w : World) (hA : StrsAt w ao n nm) (hn : n ≤ 1000000000000000) (hs : ∀ k, k < n → (nm k).size ≤ 9223372036854775807) :
    Calls Try.prog 10 #[.slice ao n c] w fun e w' => RetN e ∧ w' = w := by
  by_cases h1 : n ≤ 65536
  · go_enter Try.func10, Try.ntmps10
    go_wp2
    go_loop [3, 4] (fun t i => ∃ (k : Nat) (z : Int), k ≤ n ∧ i = .int .i64 k ∧ t = .int .i64 z ∧ 0 ≤ z ∧ z ≤ 1048576) (fun _ i => n - (intOf i).toNat)
    case atStart => exact ⟨0, _, Nat.zero_le _, rfl, rfl, by omega, by omega⟩
    case round =>
      obtain ⟨k, z, hk, rfl, rfl, hz0, hz1⟩ := hrel
      by_cases hlt : k < n
      · obtain ⟨b, o, rfl, hb, hc⟩ := hA (by omega)
        have hck := hc k hlt
        have hsk := hs k hlt
        clear hc hA
        go_wp2
        · go_ret; exact ⟨⟨1048577, rfl, by omega, by omega⟩, rfl⟩
        · go_round
          case rel => exact ⟨k + 1, _, by omega, by go_num, rfl, by omega, by omega⟩
          case measure => simp [intOf]; omega
      · go_wp2
        go_ret
        exact ⟨⟨z, rfl, by omega, by omega⟩, rfl⟩
  · go_enter Try.func10, Try.ntmps10
    go_wp2
    go_ret
    exact ⟨⟨1048577, rfl, by omega, by omega⟩, rfl⟩

/-- The last pair of the first k that bears the key. -/
def lastP (ks vs : Nat → ByteArray) : Nat → List UInt8 → Option (List UInt8)
  | 0 => fun _ => none
  | k + 1 => fun key => if key = (ks k).data.toList then some (vs k).data.toList else lastP ks vs k key

def BuildPost (w : World) (ks vs : Nat → ByteArray) (m : Nat) (e : Ending) (w' : World) : Prop :=
  e = .returned (.map (some w.heap.size)) ∧ MapIs w' w.heap.size m (lastP ks vs m) ∧ Below w.heap.size w w'

set_option maxHeartbeats 1000000 in
theorem build_any (ao av : Option Addr) (n c nv cv : Nat) (ks vs : Nat → ByteArray) (w : World) (hK : StrsAt w ao n ks) (hV : StrsAt w av nv vs) (hn : n ≤ 65536) (hnv : nv ≤ 65536)
    (hsk : ∀ k, k < n → (ks k).size ≤ maxLen) (hsv : ∀ k, k < nv → (vs k).size ≤ maxLen) :
    Calls Try.prog 11 #[.slice ao n c, .slice av nv cv] w fun e w' => BuildPost w ks vs (min n nv) e w' := by
  have hmm := @run_makeMap Try.prog
  have H1 := Lib.hid hK
  have H2 := Lib.hid hV
  have H3 := Lib.hid hsk
  have H4 := Lib.hid hsv
  have HM := Lib.hid (MapIs.made w)
  obtain ⟨m, hm⟩ : ∃ m, m = min n nv := ⟨_, rfl⟩
  have hm1 : m ≤ n := by omega
  have hm2 : m ≤ nv := by omega
  have hp := pair_any n nv
  rw [← hm] at hp ⊢
  have HP := Lib.hid hp
  clear hK hV hsk hsv hm hp
  go_enter Try.func11, Try.ntmps11
  go_wp2_with (go_at_call 12; refine (HP.out _).mono ?_; rintro e w' ⟨rfl, rfl⟩)
  clear hmm HP
  go_loopw [7] (fun i wr => ∃ k : Nat, k ≤ m ∧ i = .int .i64 k ∧ MapIs wr w'.heap.size k (lastP ks vs k) ∧ Below w'.heap.size w' wr) (fun i _ => m - (intOf i).toNat)
  case atStart => exact ⟨0, Nat.zero_le _, rfl, HM.out, (Below.refl _ _).alloc (Nat.le_refl _) _⟩
  case round =>
    obtain ⟨k, hk, rfl, hM, hb⟩ := hrel
    by_cases hlt : k < m
    · obtain ⟨b1, o1, rfl, hbb1, hc1⟩ := H1.out (by omega)
      obtain ⟨b2, o2, rfl, hbb2, hc2⟩ := H2.out (by omega)
      have d1 : wr.cell? ⟨b1, o1 + k, none⟩ = some (.string (ks k)) := (hb.cell (by exact hbb1)).trans (hc1 k (by omega))
      have d2 : wr.cell? ⟨b2, o2 + k, none⟩ = some (.string (vs k)) := (hb.cell (by exact hbb2)).trans (hc2 k (by omega))
      obtain ⟨w1, hrun, hM1, hg1⟩ := hM.drew.store (by unfold maxLen; omega) (ks k) (vs k) (H3.out k (by omega)) (H4.out k (by omega))
      have HM1 := Lib.hid hM1
      have HG1 := Lib.hid hg1
      have hkn : k < n := by omega
      have hkv : k < nv := by omega
      clear hc1 hc2 HM hM hM1 hg1
      go_wp2
      go_region
      go_wp2
      go_roundw
      case rel => exact ⟨k + 1, by omega, by go_num, HM1.out, hb.drew.grown HG1.out hb.size (fun j hj => by cases hj; exact Nat.le_refl _)⟩
      case measure => simp [intOf]; omega
    · have : k = m := by omega
      subst this
      have HMM := Lib.hid hM
      clear hM
      go_wp2
      go_ret
      exact ⟨rfl, HMM.out, hb⟩

end Go.Proofs.Qxb6001143a
