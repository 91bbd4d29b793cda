/-
  The plain text of a path: what (*Path).String writes, as lists of bytes. No program in it.
-/
import Derived.Lib.ItoaNum
namespace Go.Proofs.Qxb6000049aDoor
open Go

/-- The text of one step: step number i, its name, its index. -/
def stepText (i : Nat) (nm : ByteArray) (ix : Int) : List UInt8 :=
  if 0 ≤ ix then 91 :: (Lib.itoa ix ++ [93]) else (if 0 < i then [46] else []) ++ nm.data.toList

/-- The text of the first k steps. -/
def pathText (nm : Nat → ByteArray) (ix : Nat → Int) : Nat → List UInt8
  | 0 => []
  | k + 1 => pathText nm ix k ++ stepText k (nm k) (ix k)

theorem pathText_succ (nm : Nat → ByteArray) (ix : Nat → Int) (k : Nat) : pathText nm ix (k + 1) = pathText nm ix k ++ stepText k (nm k) (ix k) := rfl

theorem pathText_mono (nm : Nat → ByteArray) (ix : Nat → Int) (k n : Nat) (h : k ≤ n) : (pathText nm ix k).length ≤ (pathText nm ix n).length := by
  induction n with
  | zero => have : k = 0 := by omega
            subst this; exact Nat.le_refl _
  | succ n ih =>
    by_cases e : k = n + 1
    · subst e; exact Nat.le_refl _
    · have := ih (by omega)
      rw [pathText_succ, List.length_append]; omega

theorem pathText_congr (nm nm' : Nat → ByteArray) (ix ix' : Nat → Int) (n : Nat) (h : ∀ i, i < n → nm i = nm' i ∧ ix i = ix' i) : pathText nm ix n = pathText nm' ix' n := by
  induction n with
  | zero => rfl
  | succ n ih =>
    rw [pathText_succ, pathText_succ, ih (fun i hi => h i (by omega)), (h n (by omega)).1, (h n (by omega)).2]

theorem stepText_elem (i : Nat) (nm : ByteArray) (ix : Int) (h : 0 ≤ ix) : stepText i nm ix = 91 :: (Lib.itoa ix ++ [93]) := by rw [stepText, if_pos h]
theorem stepText_head (nm : ByteArray) (ix : Int) (h : ix < 0) : stepText 0 nm ix = nm.data.toList := by rw [stepText, if_neg (by omega)]; simp
theorem stepText_later (i : Nat) (nm : ByteArray) (ix : Int) (h : ix < 0) (hi : 0 < i) : stepText i nm ix = 46 :: nm.data.toList := by rw [stepText, if_neg (by omega), if_pos hi]; rfl
theorem stepText_pos (i j : Nat) (nm : ByteArray) (ix : Int) (hi : 0 < i) (hj : 0 < j) : stepText i nm ix = stepText j nm ix := by
  unfold stepText; rw [if_pos hi, if_pos hj]

/-- What stands between the two halves at a cut. -/
def sepText (k m : Nat) (ix : Int) : List UInt8 := if 0 < k ∧ 0 < m ∧ ix < 0 then [46] else []

theorem pathText_cut (nm : Nat → ByteArray) (ix : Nat → Int) (k : Nat) : ∀ m, pathText nm ix (k + m) = pathText nm ix k ++ sepText k m (ix k) ++ pathText (fun i => nm (k + i)) (fun i => ix (k + i)) m := by
  intro m
  induction m with
  | zero => simp [pathText, sepText]
  | succ m ih =>
    rw [← Nat.add_assoc, pathText_succ, pathText_succ, ih]
    by_cases hk : 0 < k
    · by_cases hm : 0 < m
      · rw [stepText_pos (k + m) m _ _ (by omega) hm]
        simp only [sepText, hk, hm, true_and, Nat.zero_lt_succ, List.append_assoc]
      · have : m = 0 := by omega
        subst this
        simp only [Nat.add_zero, pathText, List.append_nil, List.nil_append]
        by_cases hx : ix k < 0
        · rw [stepText_later k _ _ hx hk, stepText_head _ _ hx]
          simp [sepText, hk, hx]
        · rw [stepText_elem k _ _ (by omega), stepText_elem 0 _ _ (by omega)]
          simp [sepText, hx]
    · have : k = 0 := by omega
      subst this
      simp [sepText, pathText]

/-- A bound on the text: the names, one point a step, or a numeral in brackets. -/
def namesSize (nm : Nat → ByteArray) : Nat → Nat
  | 0 => 0
  | k + 1 => namesSize nm k + (nm k).size

theorem nDigits_le (u : Nat) (h : u < 18446744073709551616) : Lib.nDigits u ≤ 20 := by
  by_cases h1 : 1 ≤ u
  · have := Lib.numDigits_eq u h1 h
    split at this <;> omega
  · rw [Lib.nDigits_small (by omega)]; omega

theorem itoa_length (n : Int) (h0 : 0 ≤ n) (h1 : n ≤ 9223372036854775807) : (Lib.itoa n).length ≤ 20 := by
  rw [Lib.itoa, if_neg (by omega), Lib.decDigits_length]
  exact nDigits_le _ (by omega)

theorem stepText_length (i : Nat) (nm : ByteArray) (ix : Int) (h1 : ix ≤ 9223372036854775807) : (stepText i nm ix).length ≤ 23 + nm.size := by
  have e : nm.data.toList.length = nm.size := by simp
  unfold stepText
  split
  · rename_i h
    have := itoa_length ix h h1
    simp; omega
  · split <;> simp only [List.length_append, List.length_cons, List.length_nil, e] <;> omega

theorem pathText_length (nm : Nat → ByteArray) (ix : Nat → Int) (n : Nat) (h1 : ∀ i, i < n → ix i ≤ 9223372036854775807) : (pathText nm ix n).length ≤ 23 * n + namesSize nm n := by
  induction n with
  | zero => simp [pathText]
  | succ n ih =>
    have := ih (fun i hi => h1 i (by omega))
    have := stepText_length n (nm n) (ix n) (h1 n (by omega))
    rw [pathText_succ, List.length_append, namesSize]; omega

end Go.Proofs.Qxb6000049aDoor
