/-
  The walk of FnAppendPaddedSpec.
-/
import Derived.Test.Qxb6000387aDoorHelp
namespace Go.Proofs.Qxb6000387aDoor
open Go.RowKit

/-- The value of the first j signs. -/
def valP (β v L j : Nat) : Nat := v / β ^ (L - j)
theorem valP_zero {β v L : Nat} (h : v < β ^ L) : valP β v L 0 = 0 := Nat.div_eq_of_lt (by simpa using h)
theorem valP_all (β v L : Nat) : valP β v L L = v := by simp [valP]
theorem valP_le (β v L j : Nat) : valP β v L j ≤ v := Nat.div_le_self _ _
theorem valP_succ {β v L j : Nat} (h : j < L) : valP β v L (j + 1) = valP β v L j * β + dig β v (L - 1 - j) := by
  unfold valP
  rw [show L - (j + 1) = L - 1 - j by omega, div_split, show L - 1 - j + 1 = L - j by omega]

/-- The signs of what comes back. -/
def outB (f : Nat → Nat) (n β v L : Nat) (j : Nat) : Nat := if j < n then f j else sgn β v L (j - n)

set_option maxHeartbeats 400000 in
theorem spec_out (ao : Option Addr) (n c : Nat) (v : Value) (β width : Int) (w : World) (hn : n ≤ 1000000000000000) (h : ¬ n ≤ 65536 ∨ ¬ (2 ≤ β ∧ β ≤ 36) ∨ ¬ (-65536 ≤ width ∧ width ≤ 65536)) :
    Calls Tryd.prog 3 #[.slice ao n c, v, .int .i64 β, .int .i64 width] w fun e w' => e = .returned (.bool true) ∧ Below w.heap.size w w' := by
  by_cases hn2 : n ≤ 65536
  · rcases h with h | h | h
    · exact absurd hn2 h
    · go_enter Tryd.func3, Tryd.ntmps3
      go_wp2
      all_goals (go_ret; exact ⟨rfl, Below.refl _ _⟩)
    · by_cases hb : 2 ≤ β ∧ β ≤ 36
      · go_enter Tryd.func3, Tryd.ntmps3
        go_wp2
        all_goals (go_ret; exact ⟨rfl, Below.refl _ _⟩)
      · go_enter Tryd.func3, Tryd.ntmps3
        go_wp2
        all_goals (go_ret; exact ⟨rfl, Below.refl _ _⟩)
  · go_enter Tryd.func3, Tryd.ntmps3
    go_wp2
    all_goals (go_ret; exact ⟨rfl, Below.refl _ _⟩)

theorem row_cap {w : World} {B n : Nat} {g cap : Nat} {ys : List Value} (h : w.ownsRow B 5 1 (.slice (some ⟨g, 0, none⟩) n cap) n ys) : n ≤ cap := by
  rcases h.2 with ⟨h', _⟩ | ⟨g', cap', cur, h', _, _, hnc, _⟩
  · simp at h'
  · simp only [Value.slice.injEq, Option.some.injEq, Addr.mk.injEq, and_true, true_and] at h'
    omega

/-- What the law finds behind appendPadded. -/
structure Found (w w3 : World) (a2 : Option Addr) (n : Nat) (f : Nat → Nat) (β v L g cap : Nat) : Prop where
  out : BytesAt w3 g (n + L) (outB f n β v L)
  capacity : n + L ≤ cap
  keep : BytesIn w3 a2 n f
  below : Below w.heap.size w w3

theorem keep_of {w1 w2 w3 : World} {B n : Nat} {a1 a2 : Option Addr} {c1 c2 : Nat} {f : Nat → Nat} (ho1 : w1.ownsRow B 5 1 (.slice a1 n c1) n (bytesOf f n)) (ho2 : w2.ownsRow w1.heap.size 5 1 (.slice a2 n c2) n (bytesOf f n))
    (hg : w2.grownBy w3 (Value.slice a1 n c1).ownBlock) : BytesIn w3 a2 n f := by
  refine (bytes_own (ho2.kept hg ?_)).1
  cases h2 : (Value.slice a2 n c2).ownBlock with
  | none => exact .inl rfl
  | some x =>
    right
    intro e
    have q2 := (ho2.lt x h2).1
    have q1 := (ho1.lt x e.symm).2
    omega

theorem found_of {w w1 w2 w3 : World} {n : Nat} {a1 a2 : Option Addr} {c1 c2 : Nat} {f : Nat → Nat} {β v k : Nat} {width : Int} {r : Value} (h2 : 2 ≤ β) (ho1 : w1.ownsRow w.heap.size 5 1 (.slice a1 n c1) n (bytesOf f n)) (hb1 : Below w.heap.size w w1)
    (ho2 : w2.ownsRow w1.heap.size 5 1 (.slice a2 n c2) n (bytesOf f n)) (hb2 : Below w1.heap.size w1 w2) (hI : IsNd β v k) (ho3 : w3.ownsRow w.heap.size 5 1 r (n + ((width - k).toNat + k)) (bytesOf f n ++ padCells β v k width)) (hg : w2.grownBy w3 (Value.slice a1 n c1).ownBlock) :
    ∃ g cap, r = .slice (some ⟨g, 0, none⟩) (n + plen width k) cap ∧ Found w w3 a2 n f β v (plen width k) g cap := by
  have hp : 0 < plen width k := by have := plen_ge width k; have := hI.pos; omega
  have ho4 : w3.ownsRow w.heap.size 5 1 r (n + plen width k) (bytesOf f n ++ padCells β v k width) := ho3
  obtain ⟨g, cap, rfl, _, hlt, hc⟩ := row_at ho4 (by omega)
  refine ⟨g, cap, rfl, ⟨hlt, fun j hj => ?_⟩, row_cap ho4, keep_of ho1 ho2 hg, ?_⟩
  · unfold outB
    by_cases hjn : j < n
    · rw [if_pos hjn]
      exact hc j _ (by rw [List.getElem?_append_left (by rw [bytesOf_length]; exact hjn)]; exact bytesOf_at f n j hjn)
    · rw [if_neg hjn]
      exact hc j _ (by rw [List.getElem?_append_right (by rw [bytesOf_length]; omega), bytesOf_length]; exact padCells_at h2 hI width (j - n) (by omega))
  · have hB2 : Below w.heap.size w w2 := hb1.trans (hb2.mono hb1.size)
    exact hB2.grown hg hB2.size (fun k hk => (ho1.lt k hk).1)

theorem own_kept {w w1 w2 : World} {n : Nat} {a1 : Option Addr} {c1 : Nat} {ys : List Value} (ho1 : w1.ownsRow w.heap.size 5 1 (.slice a1 n c1) n ys) (hb2 : Below w1.heap.size w1 w2) : w2.ownsRow w.heap.size 5 1 (.slice a1 n c1) n ys := by
  refine ho1.kept (grown_below hb2 none) ?_
  cases (Value.slice a1 n c1).ownBlock with
  | none => exact .inl rfl
  | some x => exact .inr (by simp)

set_option maxHeartbeats 2000000 in
theorem spec_in (ao : Option Addr) (n c : Nat) (f : Nat → Nat) (v β : Nat) (width : Int) (w : World) (hA : BytesIn w ao n f) (hnil : ao = none → n = 0 ∧ c = 0) (hn : n ≤ 65536) (h2 : 2 ≤ β) (h36 : β ≤ 36)
    (hv : v < 18446744073709551616) (hw0 : -65536 ≤ width) (hw1 : width ≤ 65536) (hT : Tabs w) :
    Calls Tryd.prog 3 #[.slice ao n c, .int .u64 v, .int .i64 β, .int .i64 width] w fun e w' => e = .returned (.bool true) ∧ Below w.heap.size w w' := by
  have HC := Lib.hid (clone_any ao n c f w hA hnil (by omega))
  have HT := Lib.hid hT
  clear hA hnil hT
  go_enter Tryd.func3, Tryd.ntmps3
  go_wp2_with (first
    | (go_at_call 5; go_in)
    | (go_at_call 6; refine (HC.out).mono ?_))
  rintro e w1 ⟨a1, c1, rfl, ho1, hb1⟩
  have HC2 := Lib.hid (clone_any a1 n c1 f w1 (bytes_own ho1).1 (bytes_own ho1).2 (by omega))
  clear HC
  go_wp2_with (go_at_call 6; refine (HC2.out).mono ?_)
  rintro e w2 ⟨a2, c2, rfl, ho2, hb2⟩
  clear HC2
  go_wp2_with fail
  refine (zzpad_any w.heap.size n (.slice a1 n c1) (bytesOf f n) v β width w2 (own_kept ho1 hb2) (by have := hb1.size; have := hb2.size; omega) hn h2 h36 hv hw0 hw1 (HT.out.below (hb1.trans (hb2.mono hb1.size)))).mono ?_
  rintro e w3 ⟨r, k, rfl, hI, ho3, hg3⟩
  obtain ⟨g, cap, rfl, F⟩ := found_of h2 ho1 hb1 ho2 hb2 hI ho3 hg3
  clear ho1 hb1 ho2 hb2 ho3 hg3 HT
  have hk64 := hI.le64 h2 hv
  have hk1 := hI.pos
  obtain ⟨L, hL⟩ : ∃ L, L = plen width k := ⟨_, rfl⟩
  rw [← hL] at F ⊢
  have hmax := plen_max width k
  rw [← hL] at hmax
  have hvL := lt_plen h2 hI width
  rw [← hL] at hvL
  have hLk : k ≤ L := by rw [hL]; exact plen_ge width k
  have hLle : L ≤ 100000 := by rw [hL]; exact plen_le hw1 hk64
  have HI := Lib.hid hI
  have HM := Lib.hid hmax
  have HV := Lib.hid hvL
  clear hI hmax hvL hL
  have hcap := F.capacity
  go_wp2_with fail
  go_loopw [12] (fun i wr => ∃ j : Nat, j ≤ n ∧ i = .int .i64 j ∧ Below w3.heap.size w3 wr) (fun i _ => n - (intOf i).toNat)
  case atStart => exact ⟨0, Nat.zero_le _, rfl, Below.refl _ _⟩
  case round =>
    obtain ⟨j, hj, rfl, hbr⟩ := hrel
    by_cases hlt : j < n
    · obtain ⟨gk, ok, rfl, hgk, hck⟩ := F.keep (by omega)
      have d1 := (F.out.below hbr).2 j (by omega)
      rw [outB, if_pos hlt] at d1
      have d2 : wr.cell? ⟨gk, ok + j, none⟩ = some (.int .u8 (f j : Nat)) := (hbr.cell (by exact hgk)).trans (hck j hlt)
      clear hck
      go_wp2
      go_region
      go_wp2
      go_roundw
      case rel => exact ⟨j + 1, by omega, by go_num, hbr.drew⟩
      case measure => simp [intOf]; omega
    · have hcn : ¬ cap = n := by omega
      have hbw : Below w.heap.size w wr := F.below.trans (hbr.mono F.below.size)
      have HO := Lib.hid (F.out.below hbr).2
      clear F hbr
      by_cases hwide : (k : Int) < width
      all_goals
        have hne : ((L : Int) != (if (k : Int) < width then width else (k : Int))) = false := by simpa using HM.out
        first | rw [if_pos hwide] at hne | rw [if_neg hwide] at hne
        go_wp2_with (go_at_call 8; refine (ndigits_any v β h2 h36 hv k HI.out _).mono ?_; rintro e w' ⟨rfl, rfl⟩)
        clear hne
        go_loop [16, 17] (fun x i => ∃ j V : Nat, j ≤ L ∧ i = .int .i64 j ∧ x = .int .u64 V ∧ Hid (V = valP β v L j)) (fun _ i => L - (intOf i).toNat)
        case atStart => exact ⟨0, 0, Nat.zero_le _, rfl, rfl, (valP_zero HV.out).symm⟩
        case round =>
          obtain ⟨q, V, hq, rfl, rfl, HVV⟩ := hrel
          by_cases hlq : q < L
          · have d1 := HO.out (n + q) (by omega)
            rw [outB, if_neg (by omega), show n + q - n = q by omega, sgn] at d1
            have hd := dig_lt h2 v (L - 1 - q)
            have s1 := valP_succ (β := β) (v := v) hlq
            have s2 := valP_le β v L (q + 1)
            rw [← HVV.out] at s1
            generalize dig β v (L - 1 - q) = d at d1 hd s1
            have hd36 : d < 36 := by omega
            obtain ⟨M, HM2⟩ : ∃ M, Hid (M = V * β) := ⟨_, rfl⟩
            obtain ⟨T, HT2⟩ : ∃ T, Hid (T = (18446744073709551615 - d) / β) := ⟨_, rfl⟩
            have hmul : (V : Int) * (β : Int) = (M : Int) := by rw [HM2.out]; simp
            have hMd : M + d ≤ 18446744073709551615 := by rw [HM2.out]; omega
            have hdv : ((18446744073709551615 : Int) - (d : Int)) / (β : Int) = (T : Int) := by rw [HT2.out, show (18446744073709551615 : Int) - (d : Int) = ((18446744073709551615 - d : Nat) : Int) by omega]; exact (Int.natCast_ediv _ _).symm
            have hVT : V ≤ T := by rw [HT2.out, Nat.le_div_iff_mul_le (by omega), ← HM2.out]; omega
            have S1 : Hid (M + d = valP β v L (q + 1)) := by rw [HM2.out]; exact s1.symm
            clear s1 s2
            go_wp2_with (go_at_call 9; refine (digitVal_any d hd36 _).mono ?_; rintro e w' ⟨rfl, rfl⟩)
            go_round
            case rel => exact ⟨q + 1, M + d, by omega, by go_num, by go_num, S1⟩
            case measure => simp [intOf]; omega
          · have hqL : q = L := by omega
            have HE : Hid (V = v) := by rw [HVV.out, hqL]; exact valP_all β v L
            clear hqL
            go_wp2
            go_ret
            exact ⟨by rw [HE.out]; simp, hbw⟩

theorem spec_true (ao : Option Addr) (n c : Nat) (f : Nat → Nat) (v β width : Int) (w : World) (hA : BytesIn w ao n f) (hnil : ao = none → n = 0 ∧ c = 0) (hn : n ≤ 1000000000000000)
    (a1 : 0 ≤ v) (b1 : v ≤ 18446744073709551615) (hT : Tabs w) :
    Calls Tryd.prog 3 #[.slice ao n c, .int .u64 v, .int .i64 β, .int .i64 width] w fun e w' => e = .returned (.bool true) ∧ Below w.heap.size w w' := by
  by_cases h0 : n ≤ 65536
  · by_cases h1 : 2 ≤ β ∧ β ≤ 36
    · by_cases h2 : -65536 ≤ width ∧ width ≤ 65536
      · obtain ⟨x, rfl⟩ : ∃ x : Nat, v = x := ⟨v.toNat, by omega⟩
        obtain ⟨b, rfl⟩ : ∃ x : Nat, β = x := ⟨β.toNat, by omega⟩
        exact spec_in ao n c f x b width w hA hnil h0 (by omega) (by omega) (by omega) h2.1 h2.2 hT
      · exact spec_out ao n c _ β width w hn (.inr (.inr h2))
    · exact spec_out ao n c _ β width w hn (.inr (.inl h1))
  · exact spec_out ao n c _ β width w hn (.inl h0)

end Go.Proofs.Qxb6000387aDoor
