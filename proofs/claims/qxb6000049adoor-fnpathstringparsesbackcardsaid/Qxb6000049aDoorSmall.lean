/-
  The walks of the small helpers: the two guards on sizes, the two clones.
-/
import Derived.Test.Qxb6000049aDoorNew
import Derived.RegionTactic
import Derived.ChangeAlike
namespace Go.Proofs.Qxb6000049aDoor
open Go.RowKit

/-- It returned a bool of which p holds. -/
def RetB (e : Ending) (p : Bool → Prop) : Prop := ∃ r : Bool, e = .returned (.bool r) ∧ p r
theorem RetB.mk {p : Bool → Prop} (r : Bool) (h : p r) : RetB (.returned (.bool r)) p := ⟨r, rfl, h⟩

/-- A slice of strings, readable. -/
def StrsAt (w : World) (ao : Option Addr) (n : Nat) (nm : Nat → ByteArray) : Prop :=
  0 < n → ∃ b o, ao = some ⟨b, o, none⟩ ∧ b < w.heap.size ∧ ∀ k, k < n → w.cell? ⟨b, o + k, none⟩ = some (.string (nm k))

def IntsAt (w : World) (ao : Option Addr) (n : Nat) (ix : Nat → Int) : Prop :=
  0 < n → ∃ b o, ao = some ⟨b, o, none⟩ ∧ b < w.heap.size ∧ ∀ k, k < n → w.cell? ⟨b, o + k, none⟩ = some (.int .i64 (ix k))

theorem namesSize_mono (nm : Nat → ByteArray) (k n : Nat) (h : k ≤ n) : namesSize nm k ≤ namesSize nm n := by
  induction n with
  | zero => have : k = 0 := by omega
            subst this; exact Nat.le_refl _
  | succ n ih =>
    by_cases e : k = n + 1
    · subst e; exact Nat.le_refl _
    · have := ih (by omega)
      rw [namesSize]; omega

/-- It returned an int of which p holds. -/
def RetN (e : Ending) (p : Int → Prop) : Prop := ∃ r : Int, e = .returned (.int .i64 r) ∧ p r
theorem RetN.mk {p : Int → Prop} (r : Int) (h : p r) : RetN (.returned (.int .i64 r)) p := ⟨r, rfl, h⟩

set_option maxHeartbeats 400000 in
theorem guard_any (ao ai : Option Addr) (n c ni ci : Nat) (nm : Nat → ByteArray) (w : World) (hA : StrsAt w ao n nm) (hn : n ≤ 1000000000000000) (hni : ni ≤ 1000000000000000) (hs : ∀ k, k < n → (nm k).size ≤ 9223372036854775807) :
    Calls Tryd.prog 5 #[.slice ao n c, .slice ai ni ci] w fun e w' => RetB e (fun _ => True) ∧ w' = w := by
  by_cases h1 : n ≤ 1048576
  · go_enter Tryd.func5, Tryd.ntmps5
    go_wp2
    go_loop [5, 6] (fun t i => ∃ (k : Nat) (z : Int), k ≤ n ∧ i = .int .i64 k ∧ t = .int .i64 z ∧ 0 ≤ z ∧ z ≤ 1048576) (fun _ i => n - (intOf i).toNat)
    case atStart => exact ⟨0, _, Nat.zero_le _, rfl, rfl, by omega, by omega⟩
    case round =>
      obtain ⟨k, z, hk, rfl, rfl, hz0, hz1⟩ := hrel
      by_cases hlt : k < n
      · obtain ⟨b, o, rfl, hb, hc⟩ := hA (by omega)
        have hck := hc k hlt
        have hsk := hs k hlt
        clear hc hA
        go_wp2
        · go_ret; exact ⟨RetB.mk _ trivial, rfl⟩
        · go_ret; exact ⟨RetB.mk _ trivial, rfl⟩
        · go_round
          case rel => exact ⟨k + 1, _, by omega, by go_num, rfl, by omega, by omega⟩
          case measure => simp [intOf]; omega
      · go_wp2
        all_goals (go_ret; exact ⟨RetB.mk _ trivial, rfl⟩)
  · go_enter Tryd.func5, Tryd.ntmps5
    go_wp2
    go_ret
    exact ⟨RetB.mk _ trivial, rfl⟩

set_option maxHeartbeats 400000 in
theorem bytes_any (ao ai : Option Addr) (n c ni ci : Nat) (nm : Nat → ByteArray) (w : World) (hA : StrsAt w ao n nm) (hn : n ≤ 65536) (hni : ni ≤ 65536) (hs : ∀ k, k < n → (nm k).size ≤ 9223372036854775807) :
    Calls Tryd.prog 6 #[.slice ao n c, .slice ai ni ci] w fun e w' => RetN e (fun r => 0 ≤ r ∧ r ≤ 10000000 ∧ (r ≤ 1048576 → namesSize nm n ≤ 1048576)) ∧ w' = w := by
  go_enter Tryd.func6, Tryd.ntmps6
  go_wp2
  go_loop [5, 6] (fun t i => ∃ (k : Nat) (z : Int), k ≤ n ∧ i = .int .i64 k ∧ t = .int .i64 z ∧ 0 ≤ z ∧ z ≤ 2000000 ∧ (namesSize nm k : Int) ≤ z) (fun _ i => n - (intOf i).toNat)
  case atStart => exact ⟨0, _, Nat.zero_le _, rfl, rfl, by omega, by omega, by simp [namesSize]; omega⟩
  case round =>
    obtain ⟨k, z, hk, rfl, rfl, hz0, hz1, hz2⟩ := hrel
    by_cases hlt : k < n
    · obtain ⟨b, o, rfl, hb, hc⟩ := hA (by omega)
      have hck := hc k hlt
      have hsk := hs k hlt
      clear hc hA
      go_wp2
      · go_ret; exact ⟨RetN.mk _ ⟨by omega, by omega, fun h => absurd h (by omega)⟩, rfl⟩
      · go_ret; exact ⟨RetN.mk _ ⟨by omega, by omega, fun h => absurd h (by omega)⟩, rfl⟩
      · go_round
        case rel => exact ⟨k + 1, _, by omega, by go_num, rfl, by omega, by omega, by rw [namesSize]; omega⟩
        case measure => simp [intOf]; omega
    · have hkn : k = n := by omega
      subst hkn
      go_wp2
      go_ret
      exact ⟨RetN.mk _ ⟨by omega, by omega, fun h => by omega⟩, rfl⟩

/-- No point and no bracket in it, and not empty. -/
def Plain (s : ByteArray) : Prop := 0 < s.size ∧ ∀ (i : Nat) (h : i < s.size), (s[i]'h).toNat ≠ 46 ∧ (s[i]'h).toNat ≠ 91 ∧ (s[i]'h).toNat ≠ 93

def PlainTo (s : ByteArray) (k : Nat) : Prop := ∀ (j : Nat) (h : j < s.size), j < k → (s[j]'h).toNat ≠ 46 ∧ (s[j]'h).toNat ≠ 91 ∧ (s[j]'h).toNat ≠ 93

theorem PlainTo.succ {s : ByteArray} {k : Nat} (h : PlainTo s k) (hlt : k < s.size) (h1 : ¬ (s[k]'hlt).toNat = 46) (h2 : ¬ (s[k]'hlt).toNat = 91) (h3 : ¬ (s[k]'hlt).toNat = 93) : PlainTo s (k + 1) := by
  intro j hj hjk
  by_cases e : j = k
  · subst e; exact ⟨h1, h2, h3⟩
  · exact h j hj (by omega)

set_option maxHeartbeats 400000 in
theorem plain_any (s : ByteArray) (w : World) (hs : s.size ≤ 9223372036854775807) :
    Calls Tryd.prog 7 #[.string s] w fun e w' => RetB e (fun r => r = true → Plain s) ∧ w' = w := by
  by_cases h0 : s.size = 0
  · go_enter Tryd.func7, Tryd.ntmps7
    go_wp2
    go_ret
    exact ⟨RetB.mk false (by simp), rfl⟩
  · go_enter Tryd.func7, Tryd.ntmps7
    go_wp2
    go_loop [3] (fun i => ∃ (k : Nat), k ≤ s.size ∧ i = .int .i64 k ∧ PlainTo s k) (fun i => s.size - (intOf i).toNat)
    case atStart => exact ⟨0, Nat.zero_le _, rfl, fun j _ h => absurd h (by omega)⟩
    case round =>
      obtain ⟨k, hk, rfl, hj⟩ := hrel
      have HJ := Lib.hid hj
      clear hj
      by_cases hlt : k < s.size
      · by_cases h1 : (s[k]'hlt).toNat = 46
        · go_wp2
          go_ret
          exact ⟨RetB.mk false (by simp), rfl⟩
        · by_cases h2 : (s[k]'hlt).toNat = 91
          · go_wp2
            go_ret
            exact ⟨RetB.mk false (by simp), rfl⟩
          · by_cases h3 : (s[k]'hlt).toNat = 93
            · go_wp2
              go_ret
              exact ⟨RetB.mk false (by simp), rfl⟩
            · have q1 : (((s[k]'hlt).toNat : Int) == 46) = false := beq_false_of_ne (by omega)
              have q2 : (((s[k]'hlt).toNat : Int) == 91) = false := beq_false_of_ne (by omega)
              have q3 : (((s[k]'hlt).toNat : Int) == 93) = false := beq_false_of_ne (by omega)
              go_wp2
              go_round
              case rel => exact ⟨k + 1, by omega, by go_num, HJ.out.succ hlt h1 h2 h3⟩
              case measure => simp [intOf]; omega
      · have hkn : k = s.size := by omega
        go_wp2
        go_ret
        exact ⟨RetB.mk true (fun _ => ⟨by omega, fun i h => HJ.out i h (by omega)⟩), rfl⟩

theorem Tryd.info9 : (Tryd.prog.info? 9).map (fun i => (i.zero, i.size, i.bytes)) = some (some (.string ⟨#[]⟩), 1, 16) := by kernel_rfl
theorem Tryd.info3 : (Tryd.prog.info? 3).map (fun i => (i.zero, i.size, i.bytes)) = some (some (.int .i64 0), 1, 8) := by kernel_rfl

theorem rel_put {w wr : World} {E : TypeId} {n k : Nat} {xs : List Value} {f : Nat → Value} (hlt : k < n)
    (hown : wr.ownsRow w.heap.size E 1 (.slice (some ⟨w.heap.size, 0, none⟩) n n) n xs)
    (hxs : ∀ j, j < k → xs[j]? = some (f j)) (hb : Below w.heap.size w wr) :
    (wr.setCell ⟨w.heap.size, k, none⟩ (f k)).ownsRow w.heap.size E 1 (.slice (some ⟨w.heap.size, 0, none⟩) n n) n (xs.set k (f k)) ∧
    (∀ j, j < k + 1 → (xs.set k (f k))[j]? = some (f j)) ∧ Below w.heap.size w (wr.setCell ⟨w.heap.size, k, none⟩ (f k)) := by
  have hl : xs.length = n * 1 := hown.1
  refine ⟨(hown.stored k (f k)).1, fun j hj => ?_, hb.setCell (p := ⟨w.heap.size, k, none⟩) (Nat.le_refl _) _⟩
  by_cases e : j = k
  · subst e; rw [List.getElem?_set_self (by omega)]
  · rw [List.getElem?_set_ne (by omega)]; exact hxs j (by omega)

set_option maxHeartbeats 400000 in
theorem cloneStrings_nil (w : World) : Calls Tryd.prog 8 #[.slice none 0 0] w fun e w' => e = .returned (.slice none 0 0) ∧ w' = w := by
  have q22 : ∀ (w : World) (a : Option Addr) (n c n' c' : Nat), (binOp .eql 22 (.slice a n c) (.slice none n' c')).run Tryd.prog w = .ok (.bool a.isNone) w := fun w a n c n' c' => Lib.run_eql_slice_nil w 22 9 a n c n' c' Tryd.underlying22
  go_enter Tryd.func8, Tryd.ntmps8
  go_wp2
  go_ret
  exact ⟨rfl, rfl⟩

set_option maxHeartbeats 400000 in
theorem cloneStrings_some (a : Addr) (n c : Nat) (nm : Nat → ByteArray) (w : World) (hA : StrsAt w (some a) n nm) (hn : n ≤ 1048576) :
    Calls Tryd.prog 8 #[.slice (some a) n c] w fun e w' => e = .returned (.slice (some ⟨w.heap.size, 0, none⟩) n n) ∧ Below w.heap.size w w' ∧ w.heap.size < w'.heap.size ∧ (∀ k, k < n → w'.cell? ⟨w.heap.size, k, none⟩ = some (.string (nm k))) := by
  obtain ⟨i0, hi, hz0, hz1, hz2⟩ := info_parts Tryd.info9
  have hnm : n ≤ maxLen := by unfold maxLen; omega
  have q22 : ∀ (w : World) (a : Option Addr) (n c n' c' : Nat), (binOp .eql 22 (.slice a n c) (.slice none n' c')).run Tryd.prog w = .ok (.bool a.isNone) w := fun w a n c n' c' => Lib.run_eql_slice_nil w 22 9 a n c n' c' Tryd.underlying22
  go_enter Tryd.func8, Tryd.ntmps8
  go_wp2_with (at_make; refine wpList_make_full _ rfl _ _ 22 rfl w.heap.size 9 i0 _ 1 Tryd.underlying22 hi hz0 hz1 .i64 .i64 n n n rfl rfl rfl rfl (by rw [hz2]; omega) hnm (Nat.le_refl _) ?_; intro w1 hown1 hgrow1)
  have hb1 : Below w.heap.size w w1 := (Below.refl _ _).grown hgrow1 (Nat.le_refl _) (by simp)
  clear hgrow1
  go_loopw [4] (fun i wr => ∃ (k : Nat) (xs : List Value), k ≤ n ∧ i = .int .i64 k ∧ wr.ownsRow w.heap.size 9 1 (.slice (some ⟨w.heap.size, 0, none⟩) n n) n xs ∧
    (∀ j, j < k → xs[j]? = some (.string (nm j))) ∧ Below w.heap.size w wr) (fun i _ => n - (intOf i).toNat)
  case atStart => exact ⟨0, _, Nat.zero_le _, rfl, hown1, fun j hj => absurd hj (by omega), hb1⟩
  case round =>
    obtain ⟨k, xs, hk, rfl, hown, hxs, hb⟩ := hrel
    clear hb1 hown1
    by_cases hlt : k < n
    · obtain ⟨b, o, e1, hbb, hc⟩ := hA (by omega)
      obtain rfl := Option.some.inj e1
      have hxl : xs.length = n * 1 := hown.1
      have hd0 : wr.cell? ⟨b, o + k, none⟩ = some (.string (nm k)) := (hb.cell (by exact hbb)).trans (hc k hlt)
      have hf0 : wr.frozen? ⟨w.heap.size, k, none⟩ = false := hown.frozenAt _
      have he0 : wr.cell? ⟨w.heap.size, k, none⟩ = some (xs[k]'(by omega)) := by rw [hown.cellAt _ (by omega)]; simp
      obtain ⟨r1, r2, r3⟩ := rel_put (f := fun j => .string (nm j)) hlt hown hxs hb
      have R1 := Lib.hid r1
      have R2 := Lib.hid r2
      have R3 := Lib.hid r3
      clear hown hxs hc hA e1 r1 r2 r3
      go_wp2
      go_roundw
      case rel => exact ⟨k + 1, _, by omega, by go_num, R1.out, R2.out, R3.out⟩
      case measure => simp [intOf]; omega
    · have hkn : k = n := by omega
      subst hkn
      have hB : w.heap.size < wr.heap.size := ownsRow_lt hown
      have hcs : ∀ j, j < k → wr.cell? ⟨w.heap.size, j, none⟩ = some (.string (nm j)) := fun j hj => by rw [hown.cellAt _ (by omega), hxs j hj]
      have HC := Lib.hid hcs
      clear hcs hown hxs hA
      go_wp2
      go_ret
      exact ⟨rfl, hb, hB, HC.out⟩

set_option maxHeartbeats 400000 in
theorem cloneInts_nil (w : World) : Calls Tryd.prog 9 #[.slice none 0 0] w fun e w' => e = .returned (.slice none 0 0) ∧ w' = w := by
  have q23 : ∀ (w : World) (a : Option Addr) (n c n' c' : Nat), (binOp .eql 23 (.slice a n c) (.slice none n' c')).run Tryd.prog w = .ok (.bool a.isNone) w := fun w a n c n' c' => Lib.run_eql_slice_nil w 23 3 a n c n' c' Tryd.underlying23
  go_enter Tryd.func9, Tryd.ntmps9
  go_wp2
  go_ret
  exact ⟨rfl, rfl⟩

set_option maxHeartbeats 400000 in
theorem cloneInts_some (a : Addr) (n c : Nat) (ix : Nat → Int) (w : World) (hA : IntsAt w (some a) n ix) (hn : n ≤ 1048576) :
    Calls Tryd.prog 9 #[.slice (some a) n c] w fun e w' => e = .returned (.slice (some ⟨w.heap.size, 0, none⟩) n n) ∧ Below w.heap.size w w' ∧ w.heap.size < w'.heap.size ∧ (∀ k, k < n → w'.cell? ⟨w.heap.size, k, none⟩ = some (.int .i64 (ix k))) := by
  obtain ⟨i0, hi, hz0, hz1, hz2⟩ := info_parts Tryd.info3
  have hnm : n ≤ maxLen := by unfold maxLen; omega
  have q23 : ∀ (w : World) (a : Option Addr) (n c n' c' : Nat), (binOp .eql 23 (.slice a n c) (.slice none n' c')).run Tryd.prog w = .ok (.bool a.isNone) w := fun w a n c n' c' => Lib.run_eql_slice_nil w 23 3 a n c n' c' Tryd.underlying23
  go_enter Tryd.func9, Tryd.ntmps9
  go_wp2_with (at_make; refine wpList_make_full _ rfl _ _ 23 rfl w.heap.size 3 i0 _ 1 Tryd.underlying23 hi hz0 hz1 .i64 .i64 n n n rfl rfl rfl rfl (by rw [hz2]; omega) hnm (Nat.le_refl _) ?_; intro w1 hown1 hgrow1)
  have hb1 : Below w.heap.size w w1 := (Below.refl _ _).grown hgrow1 (Nat.le_refl _) (by simp)
  clear hgrow1
  go_loopw [4] (fun i wr => ∃ (k : Nat) (xs : List Value), k ≤ n ∧ i = .int .i64 k ∧ wr.ownsRow w.heap.size 3 1 (.slice (some ⟨w.heap.size, 0, none⟩) n n) n xs ∧
    (∀ j, j < k → xs[j]? = some (.int .i64 (ix j))) ∧ Below w.heap.size w wr) (fun i _ => n - (intOf i).toNat)
  case atStart => exact ⟨0, _, Nat.zero_le _, rfl, hown1, fun j hj => absurd hj (by omega), hb1⟩
  case round =>
    obtain ⟨k, xs, hk, rfl, hown, hxs, hb⟩ := hrel
    clear hb1 hown1
    by_cases hlt : k < n
    · obtain ⟨b, o, e1, hbb, hc⟩ := hA (by omega)
      obtain rfl := Option.some.inj e1
      have hxl : xs.length = n * 1 := hown.1
      have hd0 : wr.cell? ⟨b, o + k, none⟩ = some (.int .i64 (ix k)) := (hb.cell (by exact hbb)).trans (hc k hlt)
      have hf0 : wr.frozen? ⟨w.heap.size, k, none⟩ = false := hown.frozenAt _
      have he0 : wr.cell? ⟨w.heap.size, k, none⟩ = some (xs[k]'(by omega)) := by rw [hown.cellAt _ (by omega)]; simp
      obtain ⟨r1, r2, r3⟩ := rel_put (f := fun j => .int .i64 (ix j)) hlt hown hxs hb
      have R1 := Lib.hid r1
      have R2 := Lib.hid r2
      have R3 := Lib.hid r3
      clear hown hxs hc hA e1 r1 r2 r3
      go_wp2
      go_roundw
      case rel => exact ⟨k + 1, _, by omega, by go_num, R1.out, R2.out, R3.out⟩
      case measure => simp [intOf]; omega
    · have hkn : k = n := by omega
      subst hkn
      have hB : w.heap.size < wr.heap.size := ownsRow_lt hown
      have hcs : ∀ j, j < k → wr.cell? ⟨w.heap.size, j, none⟩ = some (.int .i64 (ix j)) := fun j hj => by rw [hown.cellAt _ (by omega), hxs j hj]
      have HC := Lib.hid hcs
      clear hcs hown hxs hA
      go_wp2
      go_ret
      exact ⟨rfl, hb, hB, HC.out⟩

end Go.Proofs.Qxb6000049aDoor
