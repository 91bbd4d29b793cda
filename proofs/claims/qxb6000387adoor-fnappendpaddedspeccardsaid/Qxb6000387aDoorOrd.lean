/-
  Plain facts on padded numerals: how two of them compare. No program in it.
-/
import Derived.Test.Qxb6000387aDoorDig
namespace Go.Proofs.Qxb6000387aDoor
open Go

/-- The j-th sign of v's numeral of L signs. -/
def sgn (β v L j : Nat) : Nat := ch (dig β v (L - 1 - j))

theorem dig_high {β v n q : Nat} (hβ : 2 ≤ β) (h : v < β ^ n) (hq : n ≤ q) : dig β v q = 0 := by
  have : β ^ n ≤ β ^ q := Nat.pow_le_pow_right (by omega) hq
  rw [dig, Nat.div_eq_of_lt (by omega)]; exact Nat.zero_mod _

/-- The length of a padded numeral. -/
def plen (width : Int) (n : Nat) : Nat := (width - n).toNat + n

theorem plen_ge (width : Int) (n : Nat) : n ≤ plen width n := by unfold plen; omega
theorem plen_max (width : Int) (n : Nat) : (plen width n : Int) = if (n : Int) < width then width else (n : Int) := by unfold plen; split <;> omega

theorem lt_plen {β v n : Nat} (hβ : 2 ≤ β) (h : IsNd β v n) (width : Int) : v < β ^ plen width n :=
  Nat.lt_of_lt_of_le h.lt (Nat.pow_le_pow_right (by omega) (plen_ge width n))

/-- Shorter texts are of smaller numbers. -/
theorem short_lt {β v1 v2 n1 n2 : Nat} (hβ : 2 ≤ β) (h1 : IsNd β v1 n1) (h2 : IsNd β v2 n2) (width : Int) (h : plen width n1 < plen width n2) : v1 < v2 := by
  have hn : n1 < n2 := by unfold plen at h; omega
  have a := h1.lt
  have b := h2.ge (by have := h1.pos; omega)
  have c : β ^ n1 ≤ β ^ (n2 - 1) := Nat.pow_le_pow_right (by omega) (by omega)
  omega

theorem div_split (β v p : Nat) : v / β ^ p = v / β ^ (p + 1) * β + dig β v p := by
  rw [div_step, dig, Nat.mul_comm]; exact (Nat.div_add_mod _ _).symm

theorem high_eq {β v1 v2 L : Nat} (_hβ : 2 ≤ β) (h1 : v1 < β ^ L) (h2 : v2 < β ^ L) : ∀ k, k ≤ L → (∀ q, L - k ≤ q → q < L → dig β v1 q = dig β v2 q) → v1 / β ^ (L - k) = v2 / β ^ (L - k) := by
  intro k
  induction k with
  | zero => intro _ _; rw [Nat.sub_zero, Nat.div_eq_of_lt h1, Nat.div_eq_of_lt h2]
  | succ k ih =>
    intro hk h
    have e := ih (by omega) (fun q hq1 hq2 => h q (by omega) hq2)
    have e2 : L - k = L - (k + 1) + 1 := by omega
    rw [e2] at e
    rw [div_split β v1, div_split β v2, e, h _ (Nat.le_refl _) (by omega)]

theorem first_diff {β v1 v2 L i : Nat} (hβ : 2 ≤ β) (h1 : v1 < β ^ L) (h2 : v2 < β ^ L) (hi : i < L) (heq : ∀ j, j < i → sgn β v1 L j = sgn β v2 L j) (hlt : sgn β v1 L i < sgn β v2 L i) : v1 < v2 := by
  have inj : ∀ a b, ch a = ch b → a = b := fun a b h => by
    rcases Nat.lt_trichotomy a b with x | x | x
    · have := ch_lt x; omega
    · exact x
    · have := ch_lt x; omega
  have hd : dig β v1 (L - 1 - i) < dig β v2 (L - 1 - i) := by
    unfold sgn at hlt
    rcases Nat.lt_trichotomy (dig β v1 (L - 1 - i)) (dig β v2 (L - 1 - i)) with x | x | x
    · exact x
    · rw [x] at hlt; omega
    · have := ch_lt x; omega
  have he := high_eq hβ h1 h2 i (by omega) (fun q hq1 hq2 => by
    have := heq (L - 1 - q) (by omega)
    unfold sgn at this
    rw [show L - 1 - (L - 1 - q) = q by omega] at this
    exact inj _ _ this)
  have e2 : L - i = L - 1 - i + 1 := by omega
  rw [e2] at he
  have a := div_split β v1 (L - 1 - i)
  have b := div_split β v2 (L - 1 - i)
  rw [he] at a
  have hq : v1 / β ^ (L - 1 - i) < v2 / β ^ (L - 1 - i) := by omega
  by_cases hc : v1 < v2
  · exact hc
  · have := Nat.div_le_div_right (c := β ^ (L - 1 - i)) (show v2 ≤ v1 by omega)
    omega

theorem all_same {β v1 v2 L : Nat} (hβ : 2 ≤ β) (h1 : v1 < β ^ L) (h2 : v2 < β ^ L) (heq : ∀ j, j < L → sgn β v1 L j = sgn β v2 L j) : v1 = v2 := by
  rcases Nat.lt_trichotomy v1 v2 with x | x | x
  · exfalso
    have inj : ∀ a b, ch a = ch b → a = b := fun a b h => by
      rcases Nat.lt_trichotomy a b with x | x | x
      · have := ch_lt x; omega
      · exact x
      · have := ch_lt x; omega
    have he := high_eq hβ h1 h2 L (Nat.le_refl _) (fun q _ hq2 => by
      have := heq (L - 1 - q) (by omega)
      unfold sgn at this
      rw [show L - 1 - (L - 1 - q) = q by omega] at this
      exact inj _ _ this)
    simp at he
    omega
  · exact x
  · exfalso
    have inj : ∀ a b, ch a = ch b → a = b := fun a b h => by
      rcases Nat.lt_trichotomy a b with x | x | x
      · have := ch_lt x; omega
      · exact x
      · have := ch_lt x; omega
    have he := high_eq hβ h1 h2 L (Nat.le_refl _) (fun q _ hq2 => by
      have := heq (L - 1 - q) (by omega)
      unfold sgn at this
      rw [show L - 1 - (L - 1 - q) = q by omega] at this
      exact inj _ _ this)
    simp at he
    omega

/-- How textCmp answers at two texts f (n signs), h (m signs). -/
def CmpIs (f h : Nat → Nat) (n m : Nat) (r : Int) : Prop :=
  (n < m ∧ r = -1) ∨ (m < n ∧ r = 1) ∨ (n = m ∧ ((∃ i, i < n ∧ (∀ j, j < i → f j = h j) ∧ ((f i < h i ∧ r = -1) ∨ (h i < f i ∧ r = 1))) ∨ ((∀ j, j < n → f j = h j) ∧ r = 0)))

/-- How numCmp answers. -/
def numC (a b : Nat) : Int := if a < b then -1 else if b < a then 1 else 0

theorem cmp_num {β v1 v2 n1 n2 : Nat} (hβ : 2 ≤ β) (h1 : IsNd β v1 n1) (h2 : IsNd β v2 n2) (width : Int) (r : Int)
    (h : CmpIs (sgn β v1 (plen width n1)) (sgn β v2 (plen width n2)) (plen width n1) (plen width n2) r) : r = numC v1 v2 := by
  unfold numC
  rcases h with ⟨hl, rfl⟩ | ⟨hl, rfl⟩ | ⟨hl, ⟨i, hi, he, hc⟩ | ⟨he, rfl⟩⟩
  · rw [if_pos (short_lt hβ h1 h2 width hl)]
  · have := short_lt hβ h2 h1 width hl
    rw [if_neg (by omega), if_pos this]
  · have a := lt_plen hβ h1 width
    have b := lt_plen hβ h2 width
    rw [← hl] at b he hc
    rcases hc with ⟨hc, rfl⟩ | ⟨hc, rfl⟩
    · rw [if_pos (first_diff hβ a b hi he hc)]
    · have := first_diff hβ b a hi (fun j hj => (he j hj).symm) hc
      rw [if_neg (by omega), if_pos this]
  · have a := lt_plen hβ h1 width
    have b := lt_plen hβ h2 width
    rw [← hl] at b he
    have := all_same hβ a b he
    subst this
    simp

end Go.Proofs.Qxb6000387aDoor
