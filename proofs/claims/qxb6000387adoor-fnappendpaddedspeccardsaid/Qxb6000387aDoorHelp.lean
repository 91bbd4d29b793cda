/-
  The walks of ndigits, digitVal, cloneBytes and the guard on sizes.
-/
import Derived.Test.Qxb6000387aDoorCmp
import Derived.Laws.CopyOwn
namespace Go.Proofs.Qxb6000387aDoor
open Go.RowKit

set_option maxHeartbeats 1000000 in
theorem ndigits_any (u β : Nat) (h2 : 2 ≤ β) (h36 : β ≤ 36) (hu : u < 18446744073709551616) (n : Nat) (hI : IsNd β u n) (w : World) :
    Calls Tryd.prog 8 #[.int .u64 u, .int .i64 β] w fun e w' => e = .returned (.int .i64 n) ∧ w' = w := by
  have HI := Lib.hid hI
  clear hI
  go_enter Tryd.func8, Tryd.ntmps8
  go_wp2
  go_loop [0, 6] (fun v i => ∃ j U : Nat, i = .int .i64 ((j : Int) + 1) ∧ v = .int .u64 U ∧ Hid (U = u / β ^ j) ∧ (j = 0 ∨ β ^ j ≤ u)) (fun v _ => (intOf v).toNat)
  case atStart => exact ⟨0, u, rfl, rfl, (by simp : u = u / β ^ 0), .inl rfl⟩
  case round =>
    obtain ⟨j, U, rfl, rfl, HU, hj⟩ := hrel
    have hUv : U ≤ 18446744073709551615 := by have := HU.out; have := Nat.div_le_self u (β ^ j); omega
    have hj63 : j ≤ 63 := by
      rcases hj with h | h
      · omega
      · exact small_exp h2 hu h
    by_cases hc : β ≤ U
    · obtain ⟨Q, HQ⟩ : ∃ Q, Hid (Q = u / β ^ (j + 1)) := ⟨_, rfl⟩
      have hq : (U : Int) / (β : Int) = (Q : Int) := by rw [HQ.out, HU.out, div_step]; rfl
      have hQU : Q < U := by
        rw [HQ.out, HU.out, div_step]
        exact Nat.div_lt_self (by rw [← HU.out]; omega) (by omega)
      have HP := Lib.hid (pow_step h2 (show β ≤ u / β ^ j by rw [← HU.out]; exact hc))
      clear hj
      go_wp2
      go_round
      case rel => exact ⟨j + 1, Q, by go_num, rfl, HQ, .inr HP.out⟩
      case measure => simp [intOf]; omega
    · have HE := Lib.hid ((isNd_of h2 hj (show u / β ^ j < β by rw [← HU.out]; omega)).unique h2 HI.out)
      clear hj
      go_wp2
      go_ret
      exact ⟨by rw [← HE.out]; rfl, rfl⟩

set_option maxHeartbeats 400000 in
theorem digitVal_any (d : Nat) (hd : d < 36) (w : World) : Calls Tryd.prog 9 #[.int .u8 (ch d : Nat)] w fun e w' => e = .returned (.int .i64 d) ∧ w' = w := by
  obtain ⟨c, hc⟩ : ∃ c, c = ch d := ⟨_, rfl⟩
  rw [← hc]
  unfold ch at hc
  by_cases h10 : d < 10
  · rw [if_pos h10] at hc
    have H := Lib.hid hc
    have b1 : (48 : Int) ≤ (c : Int) := by omega
    have b2 : (c : Int) ≤ 57 := by omega
    clear hc
    go_enter Tryd.func9, Tryd.ntmps9
    go_wp2
    go_ret
    exact ⟨by have := H.out; exact congrArg (fun z => Ending.returned (Value.int .i64 z)) (by omega), rfl⟩
  · rw [if_neg h10] at hc
    have H := Lib.hid hc
    have b1 : (97 : Int) ≤ (c : Int) := by omega
    have b2 : (c : Int) ≤ 122 := by omega
    clear hc
    go_enter Tryd.func9, Tryd.ntmps9
    go_wp2
    go_ret
    exact ⟨by have := H.out; exact congrArg (fun z => Ending.returned (Value.int .i64 z)) (by omega), rfl⟩

/-- Bytes as cells. -/
def bytesOf (f : Nat → Nat) (n : Nat) : List Value := (List.range n).map fun j => Value.int .u8 (f j : Nat)
theorem bytesOf_length (f : Nat → Nat) (n : Nat) : (bytesOf f n).length = n := by simp [bytesOf]
theorem bytesOf_at (f : Nat → Nat) (n j : Nat) (h : j < n) : (bytesOf f n)[j]? = some (.int .u8 (f j : Nat)) := by simp [bytesOf, h]

/-- A slice of bytes, readable. -/
def BytesIn (w : World) (ao : Option Addr) (n : Nat) (f : Nat → Nat) : Prop :=
  0 < n → ∃ b o, ao = some ⟨b, o, none⟩ ∧ b < w.heap.size ∧ ∀ k, k < n → w.cell? ⟨b, o + k, none⟩ = some (.int .u8 (f k : Nat))

def ClonePost (w : World) (f : Nat → Nat) (n : Nat) (e : Ending) (w' : World) : Prop :=
  ∃ ao c, e = .returned (.slice ao n c) ∧ w'.ownsRow w.heap.size 5 1 (.slice ao n c) n (bytesOf f n) ∧ Below w.heap.size w w'

set_option maxHeartbeats 400000 in
theorem clone_nil (f : Nat → Nat) (w : World) : Calls Tryd.prog 6 #[.slice none 0 0] w fun e w' => ClonePost w f 0 e w' := by
  have q22 : ∀ (w : World) (a : Option Addr) (n c n' c' : Nat), (binOp .eql 22 (.slice a n c) (.slice none n' c')).run Tryd.prog w = .ok (.bool a.isNone) w := fun w a n c n' c' => Lib.run_eql_slice_nil w 22 5 a n c n' c' Tryd.underlying22
  go_enter Tryd.func6, Tryd.ntmps6
  go_wp2
  go_ret
  exact ⟨none, 0, rfl, World.ownsRow_nil _ _ _ _, Below.refl _ _⟩

theorem made_block {w : World} {B g n : Nat} {ys : List Value} (h : w.ownsRow B 5 1 (.slice (some ⟨g, 0, none⟩) n n) n ys) : ∃ cur : List Value, w.heap[g]? = some (.cells cur.toArray 5 (0, 0)) ∧ cur.length = n := by
  rcases h.2 with ⟨h', _⟩ | ⟨g', cap', cur, h', hb, hg, hnc, hcm, hcs, htake⟩
  · simp at h'
  · simp only [Value.slice.injEq, Option.some.injEq, Addr.mk.injEq, and_true, true_and] at h'
    obtain ⟨rfl, rfl⟩ := h'
    exact ⟨cur.toList, by simpa using hg, by simp; omega⟩

theorem clone_done {w w2 : World} {f : Nat → Nat} {n : Nat} {cur : List Value} (hl : cur.length = n) (hb2 : Below w.heap.size w w2) (h : w2.heap[w.heap.size]? = some (.cells (splice cur 0 (bytesOf f n)).toArray 5 (0, 0))) (hn : n ≤ maxLen) :
    ClonePost w f n (.returned (.slice (some ⟨w.heap.size, 0, none⟩) n n)) w2 := by
  have e : splice cur 0 (bytesOf f n) = bytesOf f n := by
    rw [splice, List.take_zero, List.nil_append, bytesOf_length, List.drop_eq_nil_of_le (by omega), List.append_nil]
  rw [e] at h
  refine ⟨some ⟨w.heap.size, 0, none⟩, n, rfl, ⟨by rw [bytesOf_length, Nat.mul_one], .inr ⟨w.heap.size, n, _, rfl, Nat.le_refl _, h, Nat.le_refl _, hn, by simp [bytesOf_length], ?_⟩⟩, hb2⟩
  rw [List.take_of_length_le (by simp [bytesOf_length])]

theorem bytesOf_one (f : Nat → Nat) (n : Nat) : ∀ v ∈ bytesOf f n, v.oneCell' = true := by
  intro u hu
  simp only [bytesOf, List.mem_map] at hu
  obtain ⟨x, _, rfl⟩ := hu
  rfl

theorem bytes_src {w w1 : World} {ao : Option Addr} {n : Nat} {f : Nat → Nat} (h : BytesIn w ao n f) (hb : Below w.heap.size w w1) (h0 : 0 < (bytesOf f n).length) : ∃ ad, ao = some ad ∧ ∀ j v, (bytesOf f n)[j]? = some v → w1.cell? (ad.add j) = some v := by
  rw [bytesOf_length] at h0
  obtain ⟨b, o, rfl, hbb, hc⟩ := h h0
  refine ⟨_, rfl, fun j v hj => ?_⟩
  have hl : j < n := by have := (List.getElem?_eq_some_iff.1 hj).1; rwa [bytesOf_length] at this
  rw [bytesOf_at _ _ _ hl] at hj
  cases hj
  rw [Addr.add_lit, hb.cell (by exact hbb)]
  exact hc j hl

set_option maxHeartbeats 1000000 in
theorem clone_some (a : Addr) (n c : Nat) (f : Nat → Nat) (w : World) (hA : BytesIn w (some a) n f) (hn : n ≤ 1048576) :
    Calls Tryd.prog 6 #[.slice (some a) n c] w fun e w' => ClonePost w f n e w' := by
  have q22 : ∀ (w : World) (a : Option Addr) (n c n' c' : Nat), (binOp .eql 22 (.slice a n c) (.slice none n' c')).run Tryd.prog w = .ok (.bool a.isNone) w := fun w a n c n' c' => Lib.run_eql_slice_nil w 22 5 a n c n' c' Tryd.underlying22
  obtain ⟨i0, hi, hz0, hz1, hz2⟩ := info_parts Tryd.info5
  have hnm : n ≤ maxLen := by unfold maxLen; omega
  have HA := Lib.hid hA
  clear hA
  go_enter Tryd.func6, Tryd.ntmps6
  have hinf : (Tryd.prog.info? 5).map (·.size) = some 1 := by kernel_rfl
  go_wp2_with (first
    | (at_make; refine wpList_make_full _ rfl _ _ 22 rfl w.heap.size 5 i0 _ 1 Tryd.underlying22 hi hz0 hz1 .i64 .i64 n n n rfl rfl rfl rfl (by rw [hz2]; omega) hnm (Nat.le_refl _) ?_; intro w1 hown1 hgrow1; obtain ⟨cur, hcur, hlen⟩ := made_block hown1; have hb1 := below_of_grown hgrow1; clear hown1 hgrow1)
    | (refine wpList_copy_splice rfl _ _ 22 22 rfl 5 Tryd.underlying22 hinf _ _ n n n c rfl rfl w.heap.size 0 cur 5 hcur (bytesOf f n) (by rw [bytesOf_length]; exact (Nat.min_self n).symm) (fun h0 => ⟨rfl, bytes_src HA.out hb1 h0⟩) (by rw [bytesOf_length]; omega) (bytesOf_one f n) w.heap.size w hb1 (Nat.le_refl _) ?_; intro w2 hblk hb2))
  go_ret
  exact clone_done hlen hb2 hblk.out hnm

theorem clone_any (ao : Option Addr) (n c : Nat) (f : Nat → Nat) (w : World) (hA : BytesIn w ao n f) (hnil : ao = none → n = 0 ∧ c = 0) (hn : n ≤ 1048576) :
    Calls Tryd.prog 6 #[.slice ao n c] w fun e w' => ClonePost w f n e w' := by
  cases ao with
  | none =>
    obtain ⟨rfl, rfl⟩ := hnil rfl
    exact clone_nil f w
  | some a => exact clone_some a n c f w hA hn

theorem bytes_own {w : World} {B n : Nat} {ao : Option Addr} {c : Nat} {f : Nat → Nat} (h : w.ownsRow B 5 1 (.slice ao n c) n (bytesOf f n)) : BytesIn w ao n f ∧ (ao = none → n = 0 ∧ c = 0) := by
  refine ⟨fun h0 => ?_, fun e => ?_⟩
  · obtain ⟨g, cap, e, _, hlt, hc⟩ := row_at h h0
    simp only [Value.slice.injEq] at e
    exact ⟨g, 0, e.1, hlt, fun k hk => by rw [Nat.zero_add]; exact hc k _ (bytesOf_at f n k hk)⟩
  · subst e
    rcases h.2 with ⟨h', _⟩ | ⟨g', cap', cur, h', _⟩
    · simp at h'; exact h'
    · simp at h'

end Go.Proofs.Qxb6000387aDoor
