/-
  Plain facts on numerals in a base. No program in it.
-/
import Derived.Lib.ItoaNum
import Derived.Lib.ItoaMem
import Derived.Lib.Builder
import Derived.Lib.FrozenHead
namespace Go.Proofs.Qxb6000387aDoor
open Go

/-- v is written with n digits in base β. -/
structure IsNd (β v n : Nat) : Prop where
  pos : 1 ≤ n
  lt : v < β ^ n
  ge : 2 ≤ n → β ^ (n - 1) ≤ v

theorem IsNd.unique {β v n m : Nat} (hβ : 2 ≤ β) (h : IsNd β v n) (k : IsNd β v m) : n = m := by
  have key : ∀ a b, IsNd β v a → IsNd β v b → ¬ a < b := by
    intro a b ha hb hab
    have h1 := hb.ge (by have := ha.pos; omega)
    have h2 := ha.lt
    have h3 : β ^ a ≤ β ^ (b - 1) := Nat.pow_le_pow_right (by omega) (by omega)
    omega
  have := key n m h k
  have := key m n k h
  omega

/-- The j-th digit from the right. -/
def dig (β v j : Nat) : Nat := v / β ^ j % β

theorem dig_lt {β : Nat} (hβ : 2 ≤ β) (v j : Nat) : dig β v j < β := Nat.mod_lt _ (by omega)

/-- The digit's sign. -/
def ch (d : Nat) : Nat := if d < 10 then 48 + d else 87 + d

theorem ch_range (d : Nat) (h : d < 36) : 48 ≤ ch d ∧ ch d ≤ 122 := by unfold ch; split <;> omega
theorem ch_lt {a b : Nat} (h : a < b) : ch a < ch b := by unfold ch; split <;> split <;> omega

theorem two_pow_le {β : Nat} (hβ : 2 ≤ β) (j : Nat) : 2 ^ j ≤ β ^ j := Nat.pow_le_pow_left hβ j

theorem small_exp {β v j : Nat} (hβ : 2 ≤ β) (hv : v < 18446744073709551616) (h : β ^ j ≤ v) : j ≤ 63 := by
  have h1 := two_pow_le hβ j
  by_cases hc : j ≤ 63
  · exact hc
  · have h2 : 2 ^ 64 ≤ 2 ^ j := Nat.pow_le_pow_right (by omega) (by omega)
    have h3 : (2 : Nat) ^ 64 = 18446744073709551616 := by decide
    omega

theorem IsNd.le64 {β v n : Nat} (hβ : 2 ≤ β) (hv : v < 18446744073709551616) (h : IsNd β v n) : n ≤ 64 := by
  by_cases h2 : 2 ≤ n
  · have := small_exp hβ hv (h.ge h2); omega
  · omega

theorem div_step (β v j : Nat) : v / β ^ (j + 1) = v / β ^ j / β := by rw [Nat.pow_succ, Nat.div_div_eq_div_mul]
theorem dig_eq (β v j : Nat) : dig β v j = v / β ^ j - v / β ^ (j + 1) * β := by
  rw [dig, div_step, Nat.mod_def, Nat.mul_comm]

theorem pow_step {β v j : Nat} (hβ : 2 ≤ β) (h : β ≤ v / β ^ j) : β ^ (j + 1) ≤ v := by
  have hp : 0 < β ^ j := Nat.pow_pos (by omega)
  have := (Nat.le_div_iff_mul_le hp).1 h
  rw [Nat.pow_succ, Nat.mul_comm]; exact this

theorem isNd_of {β v j : Nat} (hβ : 2 ≤ β) (h0 : j = 0 ∨ β ^ j ≤ v) (h : v / β ^ j < β) : IsNd β v (j + 1) := by
  have hp : 0 < β ^ j := Nat.pow_pos (by omega)
  refine ⟨by omega, ?_, fun h2 => ?_⟩
  · rw [Nat.pow_succ, Nat.mul_comm]; exact (Nat.div_lt_iff_lt_mul hp).1 h
  · rcases h0 with h0 | h0
    · omega
    · simpa using h0

/-- The top digit is the whole quotient. -/
theorem dig_top {β v j : Nat} (h : v / β ^ j < β) : dig β v j = v / β ^ j := Nat.mod_eq_of_lt h

theorem nDigits_ge (u : Nat) : 2 ≤ Lib.nDigits u → 10 ^ (Lib.nDigits u - 1) ≤ u := by
  induction u using Nat.strongRecOn with
  | ind u ih =>
    intro h
    by_cases hu : u < 10
    · rw [Lib.nDigits_small hu] at h; omega
    · rw [Lib.nDigits_big hu] at h ⊢
      by_cases h2 : 2 ≤ Lib.nDigits (u / 10)
      · have := ih (u / 10) (by omega) h2
        have e : Lib.nDigits (u / 10) + 1 - 1 = (Lib.nDigits (u / 10) - 1) + 1 := by omega
        rw [e, Nat.pow_succ]; omega
      · have : Lib.nDigits (u / 10) = 1 := by have := Lib.nDigits_pos (u / 10); omega
        rw [this]; omega

theorem isNd_10 (u : Nat) : IsNd 10 u (Lib.nDigits u) := ⟨Lib.nDigits_pos u, Lib.lt_pow_nDigits u, nDigits_ge u⟩

theorem decDigits_at (u j : Nat) (h : j < Lib.nDigits u) : (Lib.decDigits u)[j]? = some (UInt8.ofNat (ch (dig 10 u (Lib.nDigits u - 1 - j)))) := by
  rw [Lib.decDigits_eq]
  have : dig 10 u (Lib.nDigits u - 1 - j) < 10 := dig_lt (by omega) _ _
  rw [List.getElem?_map, List.getElem?_range h, Option.map_some, Lib.dg, ch, if_pos this, dig]

/-- The numeral as cells: the j-th from the left. -/
def digCells (β v n : Nat) : List Value := (List.range n).map fun j => Value.int .u8 (ch (dig β v (n - 1 - j)) : Nat)

theorem digCells_length (β v n : Nat) : (digCells β v n).length = n := by simp [digCells]
theorem digCells_at (β v n j : Nat) (h : j < n) : (digCells β v n)[j]? = some (.int .u8 (ch (dig β v (n - 1 - j)) : Nat)) := by
  simp [digCells, h]

theorem byteCells_dec (u : Nat) : Lib.byteCells (Lib.decDigits u) = digCells 10 u (Lib.nDigits u) := by
  apply List.ext_getElem?
  intro j
  by_cases h : j < Lib.nDigits u
  · rw [digCells_at _ _ _ _ h, Lib.byteCells, List.getElem?_map, decDigits_at u j h, Option.map_some]
    have h1 : dig 10 u (Lib.nDigits u - 1 - j) < 10 := dig_lt (by omega) _ _
    have h2 := ch_range _ (show dig 10 u (Lib.nDigits u - 1 - j) < 36 by omega)
    have : (UInt8.ofNat (ch (dig 10 u (Lib.nDigits u - 1 - j)))).toNat = ch (dig 10 u (Lib.nDigits u - 1 - j)) := by
      rw [UInt8.toNat_ofNat']; omega
    rw [this]
  · rw [List.getElem?_eq_none (by rw [Lib.byteCells_length, Lib.decDigits_length]; omega), List.getElem?_eq_none (by rw [digCells_length]; omega)]

end Go.Proofs.Qxb6000387aDoor
