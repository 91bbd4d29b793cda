/-
  The walks of textCmp, numCmp and of the law on order.
-/
import Derived.Test.Qxb6000387aDoorPadW
import Derived.Test.Qxb6000387aDoorOrd
import Derived.RegionTactic
import Derived.ChangeAlike
namespace Go.Proofs.Qxb6000387aDoor
open Go.RowKit

theorem padCells_at {β u n : Nat} (hβ : 2 ≤ β) (h : IsNd β u n) (width : Int) (j : Nat) (hj : j < plen width n) : (padCells β u n width)[j]? = some (.int .u8 (sgn β u (plen width n) j : Nat)) := by
  unfold padCells
  by_cases hz : j < (width - n).toNat
  · rw [List.getElem?_append_left (by simpa using hz), List.getElem?_replicate, if_pos hz]
    have : dig β u (plen width n - 1 - j) = 0 := dig_high hβ h.lt (by unfold plen; omega)
    rw [sgn, this]; rfl
  · rw [List.getElem?_append_right (by simpa using Nat.le_of_not_lt hz), List.length_replicate, digCells_at _ _ _ _ (by unfold plen at hj; omega), sgn]
    congr 5
    unfold plen; omega

/-- Bytes at the head of a block. -/
def BytesAt (w : World) (g n : Nat) (f : Nat → Nat) : Prop := g < w.heap.size ∧ ∀ j, j < n → w.cell? ⟨g, j, none⟩ = some (.int .u8 (f j : Nat))

theorem BytesAt.below {w w' : World} {g n : Nat} {f : Nat → Nat} (h : BytesAt w g n f) (hb : Below w.heap.size w w') : BytesAt w' g n f :=
  ⟨Nat.lt_of_lt_of_le h.1 hb.size, fun j hj => (hb.cell (by exact h.1)).trans (h.2 j hj)⟩

set_option maxHeartbeats 400000 in
theorem numCmp_any (a b : Nat) (w : World) : Calls Tryd.prog 11 #[.int .u64 a, .int .u64 b] w fun e w' => e = .returned (.int .i64 (numC a b)) ∧ w' = w := by
  unfold numC
  by_cases h1 : a < b
  · rw [if_pos h1]
    go_enter Tryd.func11, Tryd.ntmps11
    go_wp2
    go_ret
    exact ⟨rfl, rfl⟩
  · rw [if_neg h1]
    by_cases h2 : b < a
    · rw [if_pos h2]
      go_enter Tryd.func11, Tryd.ntmps11
      go_wp2
      go_ret
      exact ⟨rfl, rfl⟩
    · rw [if_neg h2]
      go_enter Tryd.func11, Tryd.ntmps11
      go_wp2
      go_ret
      exact ⟨rfl, rfl⟩

/-- What textCmp leaves. -/
def CmpPost (w : World) (f h : Nat → Nat) (n m : Nat) (e : Ending) (w' : World) : Prop := ∃ r : Int, e = .returned (.int .i64 r) ∧ CmpIs f h n m r ∧ Below w.heap.size w w'

set_option maxHeartbeats 1000000 in
theorem textCmp_any (ga gb n m ca cb : Nat) (f h : Nat → Nat) (w : World) (hA : BytesAt w ga n f) (hB : BytesAt w gb m h) (hn : n ≤ 1000000) (hm : m ≤ 1000000) (hf : ∀ j, f j ≤ 255) (hh : ∀ j, h j ≤ 255) :
    Calls Tryd.prog 10 #[.slice (some ⟨ga, 0, none⟩) n ca, .slice (some ⟨gb, 0, none⟩) m cb] w fun e w' => CmpPost w f h n m e w' := by
  have HA := Lib.hid hA
  have HB := Lib.hid hB
  clear hA hB
  by_cases hl : n = m
  · subst hl
    have HF := Lib.hid hf
    have HH := Lib.hid hh
    clear hf hh
    go_enter Tryd.func10, Tryd.ntmps10
    go_wp2
    go_loopw [5] (fun i wr => ∃ k : Nat, k ≤ n ∧ i = .int .i64 k ∧ Hid (∀ j, j < k → f j = h j) ∧ Below w.heap.size w wr) (fun i _ => n - (intOf i).toNat)
    case atStart => exact ⟨0, Nat.zero_le _, rfl, fun j hj => absurd hj (by omega), Below.refl _ _⟩
    case round =>
      obtain ⟨k, hk, rfl, HE, hb⟩ := hrel
      by_cases hlt : k < n
      · have d1 := (HA.out.below hb).2 k hlt
        have d2 := (HB.out.below hb).2 k hlt
        by_cases he : f k = h k
        · rw [← he] at d2
          have HE2 := Lib.hid he
          clear he
          go_wp2
          go_region
          go_wp2
          go_roundw
          case rel => exact ⟨k + 1, by omega, by go_num, (fun j hj => by
            by_cases e : j = k
            · subst e; exact HE2.out
            · exact HE.out j (by omega)), hb.drew⟩
          case measure => simp [intOf]; omega
        · have he2 : (((f k : Nat) : Int) != ((h k : Nat) : Int)) = true := by simp; omega
          by_cases hc : f k < h k
          · have hc2 : ((f k : Nat) : Int) < ((h k : Nat) : Int) := by omega
            clear he
            go_wp2
            go_region
            go_wp2
            go_region
            go_wp2
            go_ret
            exact ⟨-1, rfl, .inr (.inr ⟨rfl, .inl ⟨k, hlt, HE.out, .inl ⟨hc, rfl⟩⟩⟩), hb.drew.drew⟩
          · have hc2 : ¬ ((f k : Nat) : Int) < ((h k : Nat) : Int) := by omega
            have hc3 : h k < f k := by omega
            clear he
            go_wp2
            go_region
            go_wp2
            go_region
            go_wp2
            go_ret
            exact ⟨1, rfl, .inr (.inr ⟨rfl, .inl ⟨k, hlt, HE.out, .inr ⟨hc3, rfl⟩⟩⟩), hb.drew.drew⟩
      · go_wp2
        go_ret
        exact ⟨0, rfl, .inr (.inr ⟨rfl, .inr ⟨fun j hj => HE.out j (by omega), rfl⟩⟩), hb⟩
  · by_cases hl2 : n < m
    · go_enter Tryd.func10, Tryd.ntmps10
      go_wp2
      go_ret
      exact ⟨-1, rfl, .inl ⟨hl2, rfl⟩, Below.refl _ _⟩
    · go_enter Tryd.func10, Tryd.ntmps10
      go_wp2
      go_ret
      exact ⟨1, rfl, .inr (.inl ⟨by omega, rfl⟩), Below.refl _ _⟩

theorem below_of_grown {w w' : World} (h : w.grownBy w' none) : Below w.heap.size w w' := ⟨h.os, h.tape, h.output, h.size, fun k hk => h.block k hk (by simp)⟩

theorem gPow : Tryd.prog.globalNamed (Rows.fnAppendPaddedSpecRow.named.headD "") = some 0 := by kernel_rfl

theorem Tabs.below {w w' : World} (h : Tabs w) (hb : Below w.heap.size w w') : Tabs w' :=
  ⟨var?_below hb gPow (by have := h.sz; omega) h.pow, fun j hj => (hb.cell (by exact h.sz)).trans (h.db j hj), Nat.lt_of_lt_of_le h.sz hb.size⟩

/-- A row of at least one cell lies at an address. -/
theorem row_at {w : World} {B n : Nat} {v : Value} {ys : List Value} (h : w.ownsRow B 5 1 v n ys) (hn : 0 < n) : ∃ g cap, v = .slice (some ⟨g, 0, none⟩) n cap ∧ B ≤ g ∧ g < w.heap.size ∧ ∀ j u, ys[j]? = some u → w.cell? ⟨g, j, none⟩ = some u := by
  have hc := fun b (hb : v.ownBlock = some b) => h.cells (g := b) hb
  rcases h.2 with ⟨_, h0⟩ | ⟨g, cap, cur, rfl, hb, hg, _⟩
  · omega
  · exact ⟨g, cap, rfl, hb, (Array.getElem?_eq_some_iff.1 hg).1, fun j u hj => by have := hc g rfl j u hj; rwa [Addr.add_lit, Nat.zero_add] at this⟩

theorem sgn_le {β u L j : Nat} (h2 : 2 ≤ β) (h36 : β ≤ 36) : sgn β u L j ≤ 255 := by
  have := ch_range _ (show dig β u (L - 1 - j) < 36 by have := dig_lt h2 u (L - 1 - j); omega)
  unfold sgn; omega

/-- What ZZappendPadded(nil, ..) leaves, for the law. -/
def NilPost (w : World) (u β : Nat) (width : Int) (e : Ending) (w' : World) : Prop :=
  ∃ g n cap, e = .returned (.slice (some ⟨g, 0, none⟩) (plen width n) cap) ∧ IsNd β u n ∧ BytesAt w' g (plen width n) (sgn β u (plen width n)) ∧ Below w.heap.size w w'

theorem nil_any (u β : Nat) (width : Int) (w : World) (h2 : 2 ≤ β) (h36 : β ≤ 36) (hu : u < 18446744073709551616) (hw0 : -65536 ≤ width) (hw1 : width ≤ 65536) (hT : Tabs w) :
    Calls Tryd.prog 7 #[.slice none 0 0, .int .u64 u, .int .i64 β, .int .i64 width] w fun e w' => NilPost w u β width e w' := by
  refine (zzpad_any w.heap.size 0 (.slice none 0 0) [] u β width w (World.ownsRow_nil _ _ _ _) (Nat.le_refl _) (by omega) h2 h36 hu hw0 hw1 hT).mono ?_
  rintro e w' ⟨v, n, rfl, hI, hown, hg⟩
  have hown2 : w'.ownsRow w.heap.size 5 1 v (plen width n) (padCells β u n width) := by
    have := hown
    rw [List.nil_append, Nat.zero_add] at this
    exact this
  have hp : 0 < plen width n := by have := plen_ge width n; have := hI.pos; omega
  obtain ⟨g, cap, rfl, _, hlt, hc⟩ := row_at hown2 hp
  exact ⟨g, n, cap, rfl, hI, ⟨hlt, fun j hj => hc j _ (padCells_at h2 hI width j hj)⟩, below_of_grown hg⟩

theorem plen_le {width : Int} {n : Nat} (h : width ≤ 65536) (hn : n ≤ 64) : plen width n ≤ 100000 := by unfold plen; omega

set_option maxHeartbeats 1000000 in
theorem order_in (v1 v2 β : Nat) (width : Int) (w : World) (h2 : 2 ≤ β) (h36 : β ≤ 36) (hv1 : v1 < 18446744073709551616) (hv2 : v2 < 18446744073709551616) (hw0 : -65536 ≤ width) (hw1 : width ≤ 65536) (hT : Tabs w) :
    Calls Tryd.prog 4 #[.int .u64 v1, .int .u64 v2, .int .i64 β, .int .i64 width] w fun e w' => e = .returned (.bool true) ∧ Below w.heap.size w w' := by
  have HT := Lib.hid hT
  clear hT
  go_enter Tryd.func4, Tryd.ntmps4
  go_wp2_with fail
  refine (nil_any v1 β width w h2 h36 hv1 hw0 hw1 HT.out).mono ?_
  rintro e w1 ⟨g1, n1, c1, rfl, hI1, hB1, hb1⟩
  go_wp2_with fail
  refine (nil_any v2 β width w1 h2 h36 hv2 hw0 hw1 (HT.out.below hb1)).mono ?_
  rintro e w2 ⟨g2, n2, c2, rfl, hI2, hB2, hb2⟩
  have hC := textCmp_any g1 g2 (plen width n1) (plen width n2) c1 c2 _ _ w2 (hB1.below hb2) hB2 (by have := plen_le hw1 (hI1.le64 h2 hv1); omega) (by have := plen_le hw1 (hI2.le64 h2 hv2); omega) (fun _ => sgn_le h2 h36) (fun _ => sgn_le h2 h36)
  have hb12 : Below w.heap.size w w2 := hb1.trans (hb2.mono hb1.size)
  have HC := Lib.hid hC
  have HI1 := Lib.hid hI1
  have HI2 := Lib.hid hI2
  clear hC hI1 hI2 hB1 hB2 hb1 hb2 HT
  go_wp2_with (first
    | (go_at_call 10; refine (HC.out).mono ?_; rintro e w3 ⟨r, rfl, hr, hb3⟩; obtain rfl := cmp_num h2 HI1.out HI2.out width r hr)
    | (go_at_call 11; refine (numCmp_any v1 v2 _).mono ?_; rintro e w' ⟨rfl, rfl⟩))
  go_ret
  exact ⟨by simp, hb12.trans (hb3.mono hb12.size)⟩

set_option maxHeartbeats 400000 in
theorem order_out (v1 v2 : Value) (β width : Int) (w : World) (h : ¬ (2 ≤ β ∧ β ≤ 36) ∨ ¬ (-65536 ≤ width ∧ width ≤ 65536)) :
    Calls Tryd.prog 4 #[v1, v2, .int .i64 β, .int .i64 width] w fun e w' => e = .returned (.bool true) ∧ Below w.heap.size w w' := by
  rcases h with h | h
  · go_enter Tryd.func4, Tryd.ntmps4
    go_wp2
    all_goals (go_ret; exact ⟨rfl, Below.refl _ _⟩)
  · by_cases hb : 2 ≤ β ∧ β ≤ 36
    · go_enter Tryd.func4, Tryd.ntmps4
      go_wp2
      all_goals (go_ret; exact ⟨rfl, Below.refl _ _⟩)
    · go_enter Tryd.func4, Tryd.ntmps4
      go_wp2
      all_goals (go_ret; exact ⟨rfl, Below.refl _ _⟩)

theorem order_true (v1 v2 β width : Int) (w : World) (a1 : 0 ≤ v1) (b1 : v1 ≤ 18446744073709551615) (a2 : 0 ≤ v2) (b2 : v2 ≤ 18446744073709551615) (hT : Tabs w) :
    Calls Tryd.prog 4 #[.int .u64 v1, .int .u64 v2, .int .i64 β, .int .i64 width] w fun e w' => e = .returned (.bool true) ∧ Below w.heap.size w w' := by
  by_cases h1 : 2 ≤ β ∧ β ≤ 36
  · by_cases h2 : -65536 ≤ width ∧ width ≤ 65536
    · obtain ⟨x1, rfl⟩ : ∃ x : Nat, v1 = x := ⟨v1.toNat, by omega⟩
      obtain ⟨x2, rfl⟩ : ∃ x : Nat, v2 = x := ⟨v2.toNat, by omega⟩
      obtain ⟨b, rfl⟩ : ∃ x : Nat, β = x := ⟨β.toNat, by omega⟩
      exact order_in x1 x2 b width w (by omega) (by omega) (by omega) (by omega) h2.1 h2.2 hT
    · exact order_out _ _ β width w (.inr h2)
  · exact order_out _ _ β width w (.inl h1)

end Go.Proofs.Qxb6000387aDoor
