/-
  The walk of FnPathStringOneStep.
-/
import Derived.Test.Qxb6000096aDoorZZ
import Derived.Test.Qxb6000096aDoorDigits
namespace Go.Proofs.Qxb6000096aDoor
open Go.RowKit

theorem zz_one (b b' : Nat) (s : ByteArray) (x : Int) (len : Nat) (w : World)
    (hc : w.cell? ⟨b, 0, none⟩ = some (.string s)) (hc' : w.cell? ⟨b', 0, none⟩ = some (.int .i64 x)) (hb : b < w.heap.size) (hb' : b' < w.heap.size)
    (hlen : len ≤ 1048576) (hs : s.size ≤ 1048576) (hlo : -9223372036854775808 ≤ x) (hhi : x ≤ 9223372036854775807) (htab : PowTab w) (hsz : 1 < w.heap.size) :
    Calls Tryd.prog 9 #[.slice (some ⟨b, 0, none⟩) 1 1, .slice (some ⟨b', 0, none⟩) 1 1, .int .i64 len] w fun e w' => e = .returned (.string ⟨(stepText 0 s x).toArray⟩) ∧ Below w.heap.size w w' := by
  have e1 : pathText (fun _ => s) (fun _ => x) 1 = stepText 0 s x := by simp [pathText]
  have f1 : ∀ k, k < 1 → w.cell? ⟨b, 0 + k, none⟩ = some (.string s) := fun k hk => by
    have : k = 0 := by omega
    subst this; exact hc
  have f2 : ∀ k, k < 1 → w.cell? ⟨b', 0 + k, none⟩ = some (.int .i64 x) := fun k hk => by
    have : k = 0 := by omega
    subst this; exact hc'
  have := zz_path (some ⟨b, 0, none⟩) (some ⟨b', 0, none⟩) 1 1 1 1 (fun _ => s) (fun _ => x) len w
    (fun _ => ⟨Nat.le_refl _, b, 0, b', 0, rfl, rfl, hb, hb', f1, f2⟩)
    hlen (by omega) (fun _ _ => hlo) (fun _ _ => hhi) (by rw [e1]; have := stepText_length 0 s x hhi; omega) htab hsz (by omega)
  rw [e1] at this
  exact this

/-- At the two new blocks that the law lays. -/
theorem zz_neg (s : ByteArray) (x : Int) (len : Nat) (w : World) (hlen : len ≤ 1048576) (hs : s.size ≤ 1048576) (hlo : -9223372036854775808 ≤ x) (hx : x < 0) (htab : PowTab w) (hsz : 1 < w.heap.size) :
    Calls Tryd.prog 9 #[.slice (some ⟨w.heap.size, 0, none⟩) 1 1, .slice (some ⟨w.heap.size + 1, 0, none⟩) 1 1, .int .i64 len] ((w.alloc (.cells #[.string s] 9)).alloc (.cells #[.int .i64 x] 3))
      fun e w' => e = .returned (.string s) ∧ Below w.heap.size w w' := by
  have hb : Below w.heap.size w ((w.alloc (.cells #[.string s] 9)).alloc (.cells #[.int .i64 x] 3)) := ((Below.refl _ w).alloc (Nat.le_refl _) _).alloc (by simp) _
  refine (zz_one w.heap.size (w.heap.size + 1) s x len _ (by rw [World.cell?_alloc_past _ _ _ (by simp), World.cell?_alloc_at _ _ _ _ rfl]; rfl) (by rw [World.cell?_alloc_at _ _ _ _ (by simp)]; rfl) (by simp; omega) (by simp) hlen hs hlo (by omega) (htab.below hb hsz) (by have := hb.size; omega)).mono ?_
  rintro e w' ⟨rfl, hb'⟩
  rw [stepText_head _ _ hx]
  exact ⟨rfl, hb.trans (hb'.mono hb.size)⟩

theorem zz_pos (s : ByteArray) (u : Nat) (len : Nat) (w : World) (hlen : len ≤ 1048576) (hs : s.size ≤ 1048576) (hhi : u ≤ 9223372036854775807) (htab : PowTab w) (hsz : 1 < w.heap.size) :
    Calls Tryd.prog 9 #[.slice (some ⟨w.heap.size, 0, none⟩) 1 1, .slice (some ⟨w.heap.size + 1, 0, none⟩) 1 1, .int .i64 len] ((w.alloc (.cells #[.string s] 9)).alloc (.cells #[.int .i64 u] 3))
      fun e w' => ∃ S, e = .returned (.string S) ∧ IsElem S u ∧ Below w.heap.size w w' := by
  have hb : Below w.heap.size w ((w.alloc (.cells #[.string s] 9)).alloc (.cells #[.int .i64 u] 3)) := ((Below.refl _ w).alloc (Nat.le_refl _) _).alloc (by simp) _
  refine (zz_one w.heap.size (w.heap.size + 1) s u len _ (by rw [World.cell?_alloc_past _ _ _ (by simp), World.cell?_alloc_at _ _ _ _ rfl]; rfl) (by rw [World.cell?_alloc_at _ _ _ _ (by simp)]; rfl) (by simp; omega) (by simp) hlen hs (by omega) (by omega) (htab.below hb hsz) (by have := hb.size; omega)).mono ?_
  rintro e w' ⟨rfl, hb'⟩
  refine ⟨_, rfl, ?_, hb.trans (hb'.mono hb.size)⟩
  rw [stepText_elem _ _ _ (by omega), show Lib.itoa (u : Int) = Lib.decDigits u by rw [Lib.itoa, if_neg (by omega)]; rfl]
  exact isElem_mk u

set_option maxHeartbeats 400000 in
theorem one_true (s : ByteArray) (x : Int) (len : Int) (w : World) (hs : s.size ≤ maxLen) (hlo : -9223372036854775808 ≤ x) (hhi : x ≤ 9223372036854775807) (htab : PowTab w) (hsz : 1 < w.heap.size) :
    Calls Tryd.prog 4 #[.string s, .int .i64 x, .int .i64 len] w fun e w' => e = .returned (.bool true) ∧ Below w.heap.size w w' := by
  unfold maxLen at hs
  by_cases h1 : s.size ≤ 1048576
  · by_cases h2 : 0 ≤ len ∧ len ≤ 1048576
    · obtain ⟨h2a, h2b⟩ := h2
      obtain ⟨n, rfl⟩ : ∃ n : Nat, len = n := ⟨len.toNat, by omega⟩
      by_cases h3 : x < 0
      · go_enter Tryd.func4, Tryd.ntmps4
        go_wp2_with (first | (go_at_call 9; refine (zz_neg s x n w (by omega) h1 hlo h3 htab hsz).mono ?_; rintro e w1 ⟨rfl, hb1⟩) | (go_at_call 10; go_in))
        go_ret
        exact ⟨by simp, hb1⟩
      · obtain ⟨u, rfl⟩ : ∃ u : Nat, x = u := ⟨x.toNat, by omega⟩
        have hnd := nDigits_le19 u (by omega)
        have hnp := Lib.nDigits_pos u
        go_enter Tryd.func4, Tryd.ntmps4
        go_wp2_with (first
          | (go_at_call 9; refine (zz_pos s u n w (by omega) h1 (by omega) htab hsz).mono ?_; rintro e w1 ⟨S, rfl, hE, hb1⟩; have hSz := hE.size; have hf0 : ((S[0]'(by omega)).toNat : Int) = 91 := congrArg Nat.cast (hE.first (by omega)); have hfl : ((S[Lib.nDigits u + 1]'(by omega)).toNat : Int) = 93 := congrArg Nat.cast (hE.last (Lib.nDigits u + 1) (by omega) (by omega)))
          | (go_at_call 10; go_in))
        · exfalso
          have a1 : (S[1].toNat : Int) = 48 := by assumption
          have a2 : ((Lib.nDigits u : Int) + 2 != 3) = true := by assumption
          have a3 := hE.digit 0 (by omega) (by omega)
          have a4 := lead u (by simp at a2; omega)
          simp at a3
          omega
        all_goals
          clear hf0 hfl h1 h2a h2b htab
          go_loop [9, 10] (fun v i => ∃ k : Nat, k ≤ Lib.nDigits u ∧ i = .int .i64 ((k : Int) + 1) ∧ v = .int .i64 (pre u k)) (fun _ i => Lib.nDigits u + 1 - (intOf i).toNat)
          case atStart => exact ⟨0, Nat.zero_le _, rfl, by rw [pre_zero]; rfl⟩
          case round =>
            obtain ⟨k, hk, rfl, rfl⟩ := hrel
            by_cases hlt : k < Lib.nDigits u
            · have q1 := hE.digit k (by omega) hlt
              have q2 := pre_succ u k hlt
              have q3 := pre_le u (k + 1)
              have q4 : u / 10 ^ (Lib.nDigits u - 1 - k) % 10 < 10 := Nat.mod_lt _ (by omega)
              generalize u / 10 ^ (Lib.nDigits u - 1 - k) % 10 = d at q1 q2 q4
              have q5 : ((S[k + 1]'(by omega)).toNat : Int) = 48 + (d : Int) := by rw [q1]; rfl
              have q6 : (pre u k : Int) * 10 + d ≤ 9223372036854775807 := by omega
              have Q2 : Hid (pre u (k + 1) = pre u k * 10 + d) := q2
              clear q1 q2 q3
              have R : Value.int .i64 ((pre u k : Int) * 10 + (48 + (d : Int) - 48)) = .int .i64 (pre u (k + 1)) := by rw [Q2.out]; go_num
              have HR : Hid _ := R
              clear R
              go_wp2
              first
                | exact ⟨⟨_, _, _, ⟨k + 1, by omega, rfl, rfl⟩, rfl, HR.out, by go_num⟩, by simp [intOf]; omega⟩
                | exact ⟨⟨k + 1, by omega, by go_num, HR.out⟩, by simp [intOf]; omega⟩
            · have hkn : k = Lib.nDigits u := by omega
              subst hkn
              rw [pre_all]
              go_wp2
              go_ret
              exact ⟨by simp, hb1⟩
    · go_enter Tryd.func4, Tryd.ntmps4
      go_wp2
      all_goals (go_ret; exact ⟨rfl, Below.refl _ _⟩)
  · go_enter Tryd.func4, Tryd.ntmps4
    go_wp2
    go_ret
    exact ⟨rfl, Below.refl _ _⟩

end Go.Proofs.Qxb6000096aDoor
