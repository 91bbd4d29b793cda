/-
  The walk of internal/strconv.formatBits, at a base that is a power of two.
-/
import Derived.Test.Qxb6000387aDoorBits
import Derived.Test.Qxb6000387aDoorTz
namespace Go.Proofs.Qxb6000387aDoor
open Go.RowKit

theorem pow_dec1 : ∀ s : Fin 6, 1 ≤ s.val → (bits BinOp.and IntKind.i64 ((2 ^ s.val : Nat) : Int) (((2 ^ s.val : Nat) : Int) - 1) == 0) = true := by decide
theorem ctz_dec : ∀ s : Fin 6, Lib.ctz 64 (2 ^ s.val) = s.val := by decide

set_option maxHeartbeats 400000 in
theorem pow_true (s : Nat) (h1 : 1 ≤ s) (h5 : s ≤ 5) (β : Nat) (hβ : β = 2 ^ s) (h2 : 2 ≤ β) (h36 : β ≤ 36) (w : World) :
    Calls Tryd.prog 22 #[.int .i64 β] w fun e w' => e = .returned (.bool true) ∧ w' = w := by
  have H := Lib.hid hβ
  clear hβ
  go_enter Tryd.func22, Tryd.ntmps22
  go_wp2
  go_ret
  exact ⟨congrArg (fun b => Ending.returned (Value.bool b)) (by rw [H.out]; exact pow_dec1 ⟨s, by omega⟩ h1), rfl⟩

theorem tz_at (s : Nat) (h5 : s ≤ 5) (β : Nat) (hβ : β = 2 ^ s) (h2 : 2 ≤ β) (h36 : β ≤ 36) (w : World) (hT : TabAt 2 Lib.deBruijn64tab w) :
    Calls Tryd.prog 23 #[.int .u64 β] w fun e w' => e = .returned (.int .i64 s) ∧ w' = w := by
  have := Tryd.trailingZeros β (by omega) w (fun _ => hT)
  rw [hβ, ctz_dec ⟨s, by omega⟩] at this
  rw [hβ]; exact this

theorem tab_alloc {w : World} (hT : TabAt 2 Lib.deBruijn64tab w) (hs : 2 < w.heap.size) (o : Obj) : TabAt 2 Lib.deBruijn64tab (w.alloc o) := fun j hj => by
  rw [World.cell?_alloc_past _ _ _ hs]; exact hT j hj

theorem mask (s U : Nat) (β : Nat) (hβ : β = 2 ^ s) (h36 : β ≤ 36) (hU : U ≤ 18446744073709551615) : bits BinOp.and IntKind.u64 (U : Int) ((β : Int) - 1) = ((U % β : Nat) : Int) := by
  have h1 : 1 ≤ β := by rw [hβ]; exact Nat.pow_pos (by omega)
  have := bits_and_u64_nat U (β - 1) (by omega) (by omega)
  rw [hβ, Nat.and_two_pow_sub_one_eq_mod, ← hβ] at this
  rw [show (β : Int) - 1 = ((β - 1 : Nat) : Int) by omega]
  exact this

set_option maxHeartbeats 1000000 in
theorem bits_pow (g : Nat) (v β s : Nat) (hβ : β = 2 ^ s) (hs1 : 1 ≤ s) (hs5 : s ≤ 5) (h2 : 2 ≤ β) (h36 : β ≤ 36) (h10 : ((β : Int) == 10) = false) (hv : v < 18446744073709551616) (w : World) (hg : g < w.heap.size) (hT : TabAt 2 Lib.deBruijn64tab w) (hsz : 2 < w.heap.size)
    (hsome : ∀ x, x < 20 → (w.cell? ⟨g, x, none⟩).isSome = true) (hfree : ∀ x, x < 20 → w.frozen? ⟨g, x, none⟩ = false) :
    Calls Tryd.prog 18 #[.slice (some ⟨g, 0, none⟩) 0 20, .int .u64 v, .int .i64 β, .bool false, .bool true] w fun e w' =>
      ∃ b n cap, e = .returned (.tuple #[.slice (some ⟨b, 0, none⟩) n cap, .string ⟨#[]⟩]) ∧ Num w w' g β v n b := by
  have H1 := Lib.hid hsome
  have H2 := Lib.hid hfree
  have HB := Lib.hid hβ
  have HT := Lib.hid (tab_alloc hT hsz (.cells zeros65 44))
  clear hsome hfree hβ hT
  have e36 : (β : Int) ≤ 36 := by omega
  have hz := zero44
  have hA0 := Arr.start w β v
  go_enter Tryd.func18, Tryd.ntmps18
  go_wp2_with (first
    | (go_at_call 22; refine (pow_true s hs1 hs5 β HB.out h2 h36 _).mono ?_; rintro e w' ⟨rfl, rfl⟩)
    | (go_at_call 23; refine (tz_at s hs5 β HB.out h2 h36 _ HT.out).mono ?_; rintro e w' ⟨rfl, rfl⟩))
  clear hz
  go_loopw [1, 13] (fun u i wr => ∃ j p U : Nat, p + j = 64 ∧ i = .int .i64 ((p : Int) + 1) ∧ u = .int .u64 U ∧ Hid (U = v / β ^ j) ∧ (j = 0 ∨ β ^ j ≤ v) ∧ Arr w wr β v j) (fun _ i _ => (intOf i).toNat)
  case atStart => exact ⟨0, 64, v, rfl, rfl, rfl, (by simp : v = v / β ^ 0), .inl rfl, hA0⟩
  case round =>
    obtain ⟨j, p, U, hp, rfl, rfl, HU, hj, A⟩ := hrel
    have hUv : U ≤ 18446744073709551615 := by have := HU.out; have := Nat.div_le_self v (β ^ j); omega
    obtain ⟨u0, hu0⟩ := A.cell p (by omega)
    have hf0 := A.free p (by omega)
    by_cases hc : β ≤ U
    · obtain ⟨Q, HQ⟩ : ∃ Q, Hid (Q = v / β ^ (j + 1)) := ⟨_, rfl⟩
      obtain ⟨M, HM⟩ : ∃ M, Hid (M = U % β) := ⟨_, rfl⟩
      have hm : bits BinOp.and IntKind.u64 (U : Int) ((β : Int) - 1) = (M : Int) := by rw [HM.out]; exact mask s U β HB.out h36 hUv
      have hlt36 : M < 36 := by have := Nat.mod_lt U (show β > 0 by omega); rw [HM.out]; omega
      have HD : Hid (M = dig β v j) := by rw [HM.out, HU.out]; exact rfl
      have HQ2 : Hid ((U : Int) / 2 ^ s = (Q : Int)) := by
        show (U : Int) / 2 ^ s = (Q : Int)
        rw [HQ.out, HU.out, div_step]
        have e := HB.out
        generalize v / β ^ j = x
        rw [e]
        simp
      have hj63 := small_exp h2 hv (pow_step h2 (by rw [← HU.out]; exact hc))
      have hp1 : 1 ≤ p := by omega
      have A2 := Lib.hid (A.put hp (digitsS[M]'(by exact hlt36)).toNat ((digit_at _ _).trans (by rw [HD.out])))
      have hpw := pow_step h2 (show β ≤ v / β ^ j by rw [← HU.out]; exact hc)
      have HP := Lib.hid hpw
      clear hpw
      go_wp2
      go_roundw
      case rel => exact ⟨j + 1, p - 1, Q, by omega, by go_num, by rw [HQ2.out], HQ, .inr HP.out, A2.out⟩
      case measure => simp [intOf]
    · have hU36 : U < 36 := by omega
      have A2 := A.put hp (digitsS[U]'(by exact hU36)).toNat ((digit_at _ _).trans (by rw [dig_top (by rw [← HU.out]; omega), HU.out]))
      have HI := Lib.hid (isNd_of h2 hj (show v / β ^ j < β by rw [← HU.out]; omega))
      clear hj
      have hsl := slice65 w.heap.size p j hp
      obtain ⟨i0, hi, hz0, hz1, hz2⟩ := info_parts Tryd.info5
      have hj65 : j ≤ 64 := by omega
      have hcells := Lib.hid (A2.cells hp)
      have hsp := Lib.hid (spare_of A2.below hg H1.out H2.out)
      have HA2 := Lib.hid A2
      clear A2 A hA0 H1 H2
      go_wp2_with (at_builtin; refine wpList_append_arg _ rfl _ _ 22 rfl 5 i0 (.int .u8 0) 1 1 Tryd.underlying22 hi hz0 hz1 hz2 rfl (by decide) g 0 0 20 [] rfl rfl (by simp) ⟨w.heap.size, p, none⟩ (j + 1) (j + 1) (digCells β v (j + 1)) rfl ?d1 ?d2 ?d3 ?d4 ?d5 ?d6 ?d7 ?d8)
      case d1 => rw [digCells_length, Nat.mul_one]
      case d2 => exact hcells.out
      case d3 => exact digCells_one β v (j + 1)
      case d4 => intro hr x hx; rw [digCells_length] at hx; rw [show 0 + 0 * 1 + x = x by omega]; exact hsp.out x (by omega)
      case d5 => unfold maxLen; omega
      case d6 => omega
      case d7 =>
        intro hr
        have hN := Lib.hid (num_room HI.out HA2.out.below hg (fun x hx => (hsp.out x (by omega)).1))
        clear hcells hsp HA2
        go_wp2
        go_ret2
        exact ⟨g, j + 1, 20, by simp, hN.out⟩
      case d8 =>
        intro hr v' w' hown hgr
        obtain ⟨b, cap, hv', hN⟩ := num_grow (g := g) HI.out HA2.out.below (by simpa using hown) hgr
        subst hv'
        have HNN := Lib.hid hN
        clear hcells hsp HA2 hown hgr hN
        go_wp2
        go_ret2
        exact ⟨b, j + 1, cap, rfl, HNN.out⟩

end Go.Proofs.Qxb6000387aDoor
