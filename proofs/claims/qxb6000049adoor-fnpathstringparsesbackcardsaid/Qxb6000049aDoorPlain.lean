/-
  Plain facts on decimal numerals, and on where the steps stand in the text. No program in it.
-/
import Derived.Lib.ItoaNum
import Derived.Test.Qxb6000049aDoorSmall
namespace Go.Proofs.Qxb6000049aDoor
open Go

theorem nDigits_ge (u : Nat) : 2 ≤ Lib.nDigits u → 10 ^ (Lib.nDigits u - 1) ≤ u := by
  induction u using Nat.strongRecOn with
  | ind u ih =>
    intro h
    by_cases hu : u < 10
    · rw [Lib.nDigits_small hu] at h; omega
    · rw [Lib.nDigits_big hu] at h ⊢
      by_cases h2 : 2 ≤ Lib.nDigits (u / 10)
      · have := ih (u / 10) (by omega) h2
        have e : Lib.nDigits (u / 10) + 1 - 1 = (Lib.nDigits (u / 10) - 1) + 1 := by omega
        rw [e, Nat.pow_succ]; omega
      · have : Lib.nDigits (u / 10) = 1 := by have := Lib.nDigits_pos (u / 10); omega
        rw [this]; omega

/-- What the text '[', numeral, ']' is. -/
structure IsElem (S : ByteArray) (u : Nat) : Prop where
  size : S.size = Lib.nDigits u + 2
  first : ∀ h : 0 < S.size, (S[0]'h).toNat = 91
  last : ∀ (i : Nat) (h : i < S.size), i + 1 = S.size → (S[i]'h).toNat = 93
  digit : ∀ (k : Nat) (h : k + 1 < S.size), k < Lib.nDigits u → (S[k + 1]'h).toNat = 48 + u / 10 ^ (Lib.nDigits u - 1 - k) % 10

theorem isElem_mk (u : Nat) : IsElem ⟨(91 :: (Lib.decDigits u ++ [93])).toArray⟩ u := by
  have hl := Lib.decDigits_length u
  refine ⟨?_, ?_, ?_, ?_⟩
  · show (91 :: (Lib.decDigits u ++ [93])).toArray.size = _
    simp [hl]
  · intro _; rfl
  · intro i h hi
    have hs : (91 :: (Lib.decDigits u ++ [93])).toArray.size = Lib.nDigits u + 2 := by simp [hl]
    have hi' : i = Lib.nDigits u + 1 := by
      have : i + 1 = (91 :: (Lib.decDigits u ++ [93])).toArray.size := hi
      omega
    subst hi'
    show ((91 :: (Lib.decDigits u ++ [93])).toArray[Lib.nDigits u + 1]'h).toNat = 93
    simp [← hl]
  · intro k h hk
    show ((91 :: (Lib.decDigits u ++ [93])).toArray[k + 1]'h).toNat = _
    have hk' : k < (Lib.decDigits u).length := by omega
    rw [List.getElem_toArray, List.getElem_cons_succ, List.getElem_append_left hk']
    have : (Lib.decDigits u)[k]'hk' = Lib.dg u (Lib.nDigits u - 1 - k) := by
      have e := Lib.decDigits_eq u
      have h2 : (Lib.decDigits u)[k]? = ((List.range (Lib.nDigits u)).map fun t => Lib.dg u (Lib.nDigits u - 1 - t))[k]? := by rw [← e]
      rw [List.getElem?_eq_getElem hk'] at h2
      simpa [hk] using h2
    rw [this, Lib.dg]
    have : u / 10 ^ (Lib.nDigits u - 1 - k) % 10 < 10 := Nat.mod_lt _ (by omega)
    rw [UInt8.toNat_ofNat']
    omega

/-- The numeral's value after k digits. -/
def pre (u k : Nat) : Nat := u / 10 ^ (Lib.nDigits u - k)

theorem pre_zero (u : Nat) : pre u 0 = 0 := Nat.div_eq_of_lt (by simpa using Lib.lt_pow_nDigits u)
theorem pre_all (u : Nat) : pre u (Lib.nDigits u) = u := by simp [pre]
theorem pre_le (u k : Nat) : pre u k ≤ u := Nat.div_le_self _ _
theorem pre_succ (u k : Nat) (h : k < Lib.nDigits u) : pre u (k + 1) = pre u k * 10 + u / 10 ^ (Lib.nDigits u - 1 - k) % 10 := by
  unfold pre
  have e : Lib.nDigits u - k = (Lib.nDigits u - 1 - k) + 1 := by omega
  have e2 : Lib.nDigits u - (k + 1) = Lib.nDigits u - 1 - k := by omega
  rw [e2, e, Nat.pow_succ, ← Nat.div_div_eq_div_mul]
  omega

theorem lead (u : Nat) (h : 2 ≤ Lib.nDigits u) : u / 10 ^ (Lib.nDigits u - 1) % 10 ≠ 0 := by
  have h1 := nDigits_ge u h
  have h2 := Lib.lt_pow_nDigits u
  have e : Lib.nDigits u = (Lib.nDigits u - 1) + 1 := by omega
  rw [e, Nat.pow_succ] at h2
  have hp : 0 < 10 ^ (Lib.nDigits u - 1) := Nat.pow_pos (by omega)
  have a1 : 1 ≤ u / 10 ^ (Lib.nDigits u - 1) := (Nat.le_div_iff_mul_le hp).2 (by omega)
  have a2 : u / 10 ^ (Lib.nDigits u - 1) < 10 := (Nat.div_lt_iff_lt_mul hp).2 (by omega)
  omega

theorem nDigits_le19 (u : Nat) (h : u ≤ 9223372036854775807) : Lib.nDigits u ≤ 19 := by
  by_cases h2 : 2 ≤ Lib.nDigits u
  · have h1 := nDigits_ge u h2
    by_cases hc : Lib.nDigits u ≤ 19
    · exact hc
    · have : 10 ^ 19 ≤ 10 ^ (Lib.nDigits u - 1) := Nat.pow_le_pow_right (by omega) (by omega)
      have : (10 : Nat) ^ 19 = 10000000000000000000 := by decide
      omega
  · omega


theorem byte_at (A T R : List UInt8) (j i : Nat) (hj : j < T.length) (hi : i = A.length + j) (h : i < (⟨(A ++ T ++ R).toArray⟩ : ByteArray).size) :
    (⟨(A ++ T ++ R).toArray⟩ : ByteArray)[i]'h = T[j] := by
  subst hi
  show (A ++ T ++ R).toArray[A.length + j]'h = T[j]
  rw [List.getElem_toArray]
  simp [hj]

theorem size_of (A T R : List UInt8) : (⟨(A ++ T ++ R).toArray⟩ : ByteArray).size = A.length + T.length + R.length := by
  show (A ++ T ++ R).toArray.size = _
  simp; omega

/-- '[', the numeral of u, ']' stands at i. -/
structure ElemAt (S : ByteArray) (i u : Nat) : Prop where
  size : i + Lib.nDigits u + 2 ≤ S.size
  first : ∀ h : i < S.size, (S[i]'h).toNat = 91
  last : ∀ (h : i + 1 + Lib.nDigits u < S.size), (S[i + 1 + Lib.nDigits u]'h).toNat = 93
  digit : ∀ (k : Nat) (h : i + 1 + k < S.size), k < Lib.nDigits u → (S[i + 1 + k]'h).toNat = 48 + u / 10 ^ (Lib.nDigits u - 1 - k) % 10

/-- The name s stands at i, and what follows it is a point, a bracket or nothing. -/
structure NameAt (S : ByteArray) (i : Nat) (s : ByteArray) : Prop where
  size : i + s.size ≤ S.size
  byte : ∀ (j : Nat) (h : i + j < S.size) (h' : j < s.size), (S[i + j]'h).toNat = (s[j]'h').toNat
  stop : ∀ h : i + s.size < S.size, (S[i + s.size]'h).toNat = 46 ∨ (S[i + s.size]'h).toNat = 91
  ext : S.extract i (i + s.size) = s

theorem elemAt_mk (A R : List UInt8) (u : Nat) : ElemAt ⟨(A ++ 91 :: (Lib.decDigits u ++ [93]) ++ R).toArray⟩ A.length u := by
  have hl := Lib.decDigits_length u
  have hE := isElem_mk u
  have hT : (91 :: (Lib.decDigits u ++ [93])).length = Lib.nDigits u + 2 := by simp [hl]
  refine ⟨?_, ?_, ?_, ?_⟩
  · rw [size_of, hT]; omega
  · intro h
    rw [byte_at A _ R 0 _ (by omega) (by omega) h]
    rfl
  · intro h
    rw [byte_at A _ R (Lib.nDigits u + 1) _ (by omega) (by omega) h]
    exact hE.last (Lib.nDigits u + 1) (by rw [hE.size]; omega) (by rw [hE.size])
  · intro k h hk
    rw [byte_at A _ R (k + 1) _ (by omega) (by omega) h]
    exact hE.digit k (by rw [hE.size]; omega) hk

theorem nameAt_mk (A R : List UInt8) (s : ByteArray) (hR : ∀ c R', R = c :: R' → c = 46 ∨ c = 91) : NameAt ⟨(A ++ s.data.toList ++ R).toArray⟩ A.length s := by
  have hT : s.data.toList.length = s.size := by simp
  refine ⟨?_, ?_, ?_, ?_⟩
  · rw [size_of, hT]; omega
  · intro j h h'
    rw [byte_at A _ R j _ (by omega) (by omega) h]
    simp; rfl
  · intro h
    have h2 := h
    rw [size_of, hT] at h2
    cases R with
    | nil => simp at h2
    | cons c R' =>
      have : (⟨(A ++ s.data.toList ++ c :: R').toArray⟩ : ByteArray)[A.length + s.size]'h = c := by
        show (A ++ s.data.toList ++ c :: R').toArray[A.length + s.size]'h = c
        rw [List.getElem_toArray, List.getElem_append_right (by simp)]
        simp
      rw [this]
      rcases hR c R' rfl with rfl | rfl
      · exact .inl rfl
      · exact .inr rfl
  · apply ByteArray.ext
    rw [ByteArray.data_extract]
    apply Array.toList_inj.1
    simp only [Array.toList_extract, List.extract_eq_take_drop]
    rw [Nat.add_sub_cancel_left, List.append_assoc, List.drop_left, ← hT, List.take_left]

theorem pathText_pre (nm : Nat → ByteArray) (ix : Nat → Int) (k : Nat) : ∀ n, k ≤ n → ∃ R, pathText nm ix n = pathText nm ix k ++ R := by
  intro n
  induction n with
  | zero => intro h; have : k = 0 := by omega
            subst this; exact ⟨[], rfl⟩
  | succ n ih =>
    intro h
    by_cases e : k = n + 1
    · subst e; exact ⟨[], by simp⟩
    · obtain ⟨R, hR⟩ := ih (by omega)
      exact ⟨R ++ stepText n (nm n) (ix n), by rw [pathText_succ, hR, List.append_assoc]⟩

theorem pathText_at (nm : Nat → ByteArray) (ix : Nat → Int) (k n : Nat) (h : k < n) : ∃ R, pathText nm ix n = pathText nm ix k ++ stepText k (nm k) (ix k) ++ R ∧ (∀ c R', R = c :: R' → c = 46 ∨ c = 91) := by
  obtain ⟨R, hR⟩ := pathText_pre nm ix (k + 1) n (by omega)
  rw [pathText_succ] at hR
  refine ⟨R, hR, ?_⟩
  intro c R' e
  by_cases hk : k + 1 < n
  · obtain ⟨R2, hR2⟩ := pathText_pre nm ix (k + 2) n (by omega)
    rw [pathText_succ, pathText_succ, hR, List.append_assoc, List.append_assoc, List.append_assoc, List.append_cancel_left_eq, List.append_cancel_left_eq] at hR2
    subst hR2
    by_cases hx : 0 ≤ ix (k + 1)
    · rw [stepText_elem _ _ _ hx] at e
      simp at e
      exact .inr e.1.symm
    · rw [stepText_later _ _ _ (by omega) (by omega)] at e
      simp at e
      exact .inl e.1.symm
  · have : n = k + 1 := by omega
    subst this
    rw [pathText_succ] at hR
    have := List.append_cancel_left_eq (pathText nm ix k ++ stepText k (nm k) (ix k)) [] R
    rw [List.append_nil] at this
    have := this.mp hR
    subst this
    simp at e

theorem step_pos (nm : Nat → ByteArray) (ix : Nat → Int) (n : Nat) (hp : ∀ k, k < n → ix k < 0 → Plain (nm k)) (k : Nat) (h : k < n) : 0 < (stepText k (nm k) (ix k)).length := by
  by_cases hx : 0 ≤ ix k
  · rw [stepText_elem _ _ _ hx]; simp
  · have := (hp k h (by omega)).1
    have hT : (nm k).data.toList.length = (nm k).size := by simp
    unfold stepText
    rw [if_neg hx, List.length_append, hT]; omega

theorem path_lt (nm : Nat → ByteArray) (ix : Nat → Int) (n : Nat) (hp : ∀ k, k < n → ix k < 0 → Plain (nm k)) (k : Nat) (h : k < n) : (pathText nm ix k).length < (pathText nm ix n).length := by
  have h1 := step_pos nm ix n hp k h
  have h2 := pathText_mono nm ix (k + 1) n (by omega)
  rw [pathText_succ, List.length_append] at h2
  omega

theorem at_elem (nm : Nat → ByteArray) (ix : Nat → Int) (k n : Nat) (h : k < n) (u : Nat) (hx : ix k = u) :
    ElemAt ⟨(pathText nm ix n).toArray⟩ (pathText nm ix k).length u ∧ (pathText nm ix (k + 1)).length = (pathText nm ix k).length + Lib.nDigits u + 2 := by
  obtain ⟨R, hR, _⟩ := pathText_at nm ix k n h
  have e : stepText k (nm k) (ix k) = 91 :: (Lib.decDigits u ++ [93]) := by
    rw [hx, stepText_elem _ _ _ (by omega), show Lib.itoa (u : Int) = Lib.decDigits u by rw [Lib.itoa, if_neg (by omega)]; rfl]
  rw [hR, e]
  refine ⟨elemAt_mk _ _ _, ?_⟩
  rw [pathText_succ, e]
  simp [Lib.decDigits_length]; omega

theorem at_head (nm : Nat → ByteArray) (ix : Nat → Int) (n : Nat) (h : 0 < n) (hx : ix 0 < 0) :
    NameAt ⟨(pathText nm ix n).toArray⟩ 0 (nm 0) ∧ (pathText nm ix 1).length = (nm 0).size := by
  obtain ⟨R, hR, hR2⟩ := pathText_at nm ix 0 n h
  have e : stepText 0 (nm 0) (ix 0) = (nm 0).data.toList := stepText_head _ _ hx
  rw [hR, e]
  refine ⟨nameAt_mk [] R _ hR2, ?_⟩
  rw [pathText_succ, e]
  simp [pathText]

theorem at_later (nm : Nat → ByteArray) (ix : Nat → Int) (k n : Nat) (h : k < n) (hk : 0 < k) (hx : ix k < 0) :
    NameAt ⟨(pathText nm ix n).toArray⟩ ((pathText nm ix k).length + 1) (nm k) ∧ (pathText nm ix (k + 1)).length = (pathText nm ix k).length + 1 + (nm k).size ∧
    ∀ h' : (pathText nm ix k).length < (⟨(pathText nm ix n).toArray⟩ : ByteArray).size, ((⟨(pathText nm ix n).toArray⟩ : ByteArray)[(pathText nm ix k).length]'h').toNat = 46 := by
  obtain ⟨R, hR, hR2⟩ := pathText_at nm ix k n h
  have e : stepText k (nm k) (ix k) = 46 :: (nm k).data.toList := stepText_later _ _ _ hx hk
  rw [hR, e]
  refine ⟨?_, ?_, ?_⟩
  · have := nameAt_mk (pathText nm ix k ++ [46]) R (nm k) hR2
    simpa using this
  · rw [pathText_succ, e]
    simp; omega
  · intro h'
    rw [byte_at (pathText nm ix k) _ R 0 _ (by simp) (by omega) h']
    rfl

end Go.Proofs.Qxb6000049aDoor
