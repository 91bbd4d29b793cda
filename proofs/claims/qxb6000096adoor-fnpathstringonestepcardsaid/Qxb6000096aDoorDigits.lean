/-
  Plain facts on decimal numerals. No program in it.
-/
import Derived.Lib.ItoaNum
import Derived.Test.Qxb6000096aDoorText
namespace Go.Proofs.Qxb6000096aDoor
open Go

theorem nDigits_ge (u : Nat) : 2 ≤ Lib.nDigits u → 10 ^ (Lib.nDigits u - 1) ≤ u := by
  induction u using Nat.strongRecOn with
  | ind u ih =>
    intro h
    by_cases hu : u < 10
    · rw [Lib.nDigits_small hu] at h; omega
    · rw [Lib.nDigits_big hu] at h ⊢
      by_cases h2 : 2 ≤ Lib.nDigits (u / 10)
      · have := ih (u / 10) (by omega) h2
        have e : Lib.nDigits (u / 10) + 1 - 1 = (Lib.nDigits (u / 10) - 1) + 1 := by omega
        rw [e, Nat.pow_succ]; omega
      · have : Lib.nDigits (u / 10) = 1 := by have := Lib.nDigits_pos (u / 10); omega
        rw [this]; omega

/-- What the text '[', numeral, ']' is. -/
structure IsElem (S : ByteArray) (u : Nat) : Prop where
  size : S.size = Lib.nDigits u + 2
  first : ∀ h : 0 < S.size, (S[0]'h).toNat = 91
  last : ∀ (i : Nat) (h : i < S.size), i + 1 = S.size → (S[i]'h).toNat = 93
  digit : ∀ (k : Nat) (h : k + 1 < S.size), k < Lib.nDigits u → (S[k + 1]'h).toNat = 48 + u / 10 ^ (Lib.nDigits u - 1 - k) % 10

theorem isElem_mk (u : Nat) : IsElem ⟨(91 :: (Lib.decDigits u ++ [93])).toArray⟩ u := by
  have hl := Lib.decDigits_length u
  refine ⟨?_, ?_, ?_, ?_⟩
  · show (91 :: (Lib.decDigits u ++ [93])).toArray.size = _
    simp [hl]
  · intro _; rfl
  · intro i h hi
    have hs : (91 :: (Lib.decDigits u ++ [93])).toArray.size = Lib.nDigits u + 2 := by simp [hl]
    have hi' : i = Lib.nDigits u + 1 := by
      have : i + 1 = (91 :: (Lib.decDigits u ++ [93])).toArray.size := hi
      omega
    subst hi'
    show ((91 :: (Lib.decDigits u ++ [93])).toArray[Lib.nDigits u + 1]'h).toNat = 93
    simp [← hl]
  · intro k h hk
    show ((91 :: (Lib.decDigits u ++ [93])).toArray[k + 1]'h).toNat = _
    have hk' : k < (Lib.decDigits u).length := by omega
    rw [List.getElem_toArray, List.getElem_cons_succ, List.getElem_append_left hk']
    have : (Lib.decDigits u)[k]'hk' = Lib.dg u (Lib.nDigits u - 1 - k) := by
      have e := Lib.decDigits_eq u
      have h2 : (Lib.decDigits u)[k]? = ((List.range (Lib.nDigits u)).map fun t => Lib.dg u (Lib.nDigits u - 1 - t))[k]? := by rw [← e]
      rw [List.getElem?_eq_getElem hk'] at h2
      simpa [hk] using h2
    rw [this, Lib.dg]
    have : u / 10 ^ (Lib.nDigits u - 1 - k) % 10 < 10 := Nat.mod_lt _ (by omega)
    rw [UInt8.toNat_ofNat']
    omega

/-- The numeral's value after k digits. -/
def pre (u k : Nat) : Nat := u / 10 ^ (Lib.nDigits u - k)

theorem pre_zero (u : Nat) : pre u 0 = 0 := Nat.div_eq_of_lt (by simpa using Lib.lt_pow_nDigits u)
theorem pre_all (u : Nat) : pre u (Lib.nDigits u) = u := by simp [pre]
theorem pre_le (u k : Nat) : pre u k ≤ u := Nat.div_le_self _ _
theorem pre_succ (u k : Nat) (h : k < Lib.nDigits u) : pre u (k + 1) = pre u k * 10 + u / 10 ^ (Lib.nDigits u - 1 - k) % 10 := by
  unfold pre
  have e : Lib.nDigits u - k = (Lib.nDigits u - 1 - k) + 1 := by omega
  have e2 : Lib.nDigits u - (k + 1) = Lib.nDigits u - 1 - k := by omega
  rw [e2, e, Nat.pow_succ, ← Nat.div_div_eq_div_mul]
  omega

theorem lead (u : Nat) (h : 2 ≤ Lib.nDigits u) : u / 10 ^ (Lib.nDigits u - 1) % 10 ≠ 0 := by
  have h1 := nDigits_ge u h
  have h2 := Lib.lt_pow_nDigits u
  have e : Lib.nDigits u = (Lib.nDigits u - 1) + 1 := by omega
  rw [e, Nat.pow_succ] at h2
  have hp : 0 < 10 ^ (Lib.nDigits u - 1) := Nat.pow_pos (by omega)
  have a1 : 1 ≤ u / 10 ^ (Lib.nDigits u - 1) := (Nat.le_div_iff_mul_le hp).2 (by omega)
  have a2 : u / 10 ^ (Lib.nDigits u - 1) < 10 := (Nat.div_lt_iff_lt_mul hp).2 (by omega)
  omega

theorem nDigits_le19 (u : Nat) (h : u ≤ 9223372036854775807) : Lib.nDigits u ≤ 19 := by
  by_cases h2 : 2 ≤ Lib.nDigits u
  · have h1 := nDigits_ge u h2
    by_cases hc : Lib.nDigits u ≤ 19
    · exact hc
    · have : 10 ^ 19 ≤ 10 ^ (Lib.nDigits u - 1) := Nat.pow_le_pow_right (by omega) (by omega)
      have : (10 : Nat) ^ 19 = 10000000000000000000 := by decide
      omega
  · omega

end Go.Proofs.Qxb6000096aDoor
