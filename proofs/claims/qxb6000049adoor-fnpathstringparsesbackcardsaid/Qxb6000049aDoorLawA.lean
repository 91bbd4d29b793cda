/-
  What the law's walk leans on: the clones whatever comes in, the rows that zzParsePath gives back.
-/
import Derived.Test.Qxb6000049aDoorParse
import Derived.Deep.QuietTactic
import Derived.BigQuiet
namespace Go.Proofs.Qxb6000049aDoor
open Go.RowKit

theorem StrsAt.below {w w' : World} {ao : Option Addr} {n : Nat} {nm : Nat → ByteArray} (h : StrsAt w ao n nm) (hb : Below w.heap.size w w') : StrsAt w' ao n nm := fun hn => by
  obtain ⟨b, o, e, hbb, hc⟩ := h hn
  have := hb.size
  exact ⟨b, o, e, by omega, fun k hk => (hb.cell (by exact hbb)).trans (hc k hk)⟩

theorem IntsAt.below {w w' : World} {ao : Option Addr} {n : Nat} {ix : Nat → Int} (h : IntsAt w ao n ix) (hb : Below w.heap.size w w') : IntsAt w' ao n ix := fun hn => by
  obtain ⟨b, o, e, hbb, hc⟩ := h hn
  have := hb.size
  exact ⟨b, o, e, by omega, fun k hk => (hb.cell (by exact hbb)).trans (hc k hk)⟩

theorem cloneStrings_any (ao : Option Addr) (n c : Nat) (nm : Nat → ByteArray) (w : World) (hA : StrsAt w ao n nm) (hnil : ao = none → n = 0 ∧ c = 0) (hn : n ≤ 1048576) :
    Calls Tryd.prog 8 #[.slice ao n c] w fun e w' => ∃ ao', e = .returned (.slice ao' n n) ∧ StrsAt w' ao' n nm ∧ Below w.heap.size w w' := by
  cases ao with
  | none =>
    obtain ⟨rfl, rfl⟩ := hnil rfl
    refine (cloneStrings_nil w).mono ?_
    rintro e w' ⟨rfl, rfl⟩
    exact ⟨_, rfl, hA, Below.refl _ _⟩
  | some a =>
    refine (cloneStrings_some a n c nm w hA hn).mono ?_
    rintro e w' ⟨rfl, hb, hz, hc⟩
    exact ⟨_, rfl, fun _ => ⟨_, _, rfl, hz, fun k hk => by rw [Nat.zero_add]; exact hc k hk⟩, hb⟩

theorem cloneInts_any (ao : Option Addr) (n c : Nat) (ix : Nat → Int) (w : World) (hA : IntsAt w ao n ix) (hnil : ao = none → n = 0 ∧ c = 0) (hn : n ≤ 1048576) :
    Calls Tryd.prog 9 #[.slice ao n c] w fun e w' => ∃ ao', e = .returned (.slice ao' n n) ∧ IntsAt w' ao' n ix ∧ Below w.heap.size w w' := by
  cases ao with
  | none =>
    obtain ⟨rfl, rfl⟩ := hnil rfl
    refine (cloneInts_nil w).mono ?_
    rintro e w' ⟨rfl, rfl⟩
    exact ⟨_, rfl, hA, Below.refl _ _⟩
  | some a =>
    refine (cloneInts_some a n c ix w hA hn).mono ?_
    rintro e w' ⟨rfl, hb, hz, hc⟩
    exact ⟨_, rfl, fun _ => ⟨_, _, rfl, hz, fun k hk => by rw [Nat.zero_add]; exact hc k hk⟩, hb⟩

theorem strs_own {w : World} {B n : Nat} {v : Value} {nm : Nat → ByteArray} {ix : Nat → Int} (h : w.ownsRow B 9 1 v n (rowN nm ix n)) : ∃ a c, v = .slice a n c ∧ StrsAt w a n (outN nm ix) := by
  have h0 := h
  rcases h.2 with ⟨rfl, rfl⟩ | ⟨g, cap, cur, rfl, _⟩
  · exact ⟨_, _, rfl, fun h => absurd h (by omega)⟩
  · refine ⟨_, _, rfl, fun hn => ⟨g, 0, rfl, ownsRow_lt h0, fun k hk => ?_⟩⟩
    rw [Nat.zero_add, h0.cellAt k (by omega)]
    simp [rowN, hk]

theorem ints_own {w : World} {B n : Nat} {v : Value} {ix : Nat → Int} (h : w.ownsRow B 3 1 v n (rowI ix n)) : ∃ a c, v = .slice a n c ∧ IntsAt w a n (outI ix) := by
  have h0 := h
  rcases h.2 with ⟨rfl, rfl⟩ | ⟨g, cap, cur, rfl, _⟩
  · exact ⟨_, _, rfl, fun h => absurd h (by omega)⟩
  · refine ⟨_, _, rfl, fun hn => ⟨g, 0, rfl, ownsRow_lt h0, fun k hk => ?_⟩⟩
    rw [Nat.zero_add, h0.cellAt k (by omega)]
    simp [rowI, hk]

/-- What bounds the texts. -/
structure Bd (n : Nat) (nm : Nat → ByteArray) (ix : Nat → Int) : Prop where
  n16 : n ≤ 65536
  names : namesSize nm n ≤ 1048576
  lo : ∀ k, k < n → -9223372036854775808 ≤ ix k
  hi : ∀ k, k < n → ix k ≤ 9223372036854775807

theorem Bd.total {n : Nat} {nm : Nat → ByteArray} {ix : Nat → Int} (h : Bd n nm ix) : (pathText nm ix n).length ≤ 1000000000 := by
  have h1 := pathText_length nm ix n h.hi
  have h2 := h.n16
  have h3 := h.names
  omega

/-- All that the last loop reads. -/
structure Four (w : World) (n : Nat) (nm : Nat → ByteArray) (ix : Nat → Int) (a1 a2 a5 a6 : Option Addr) (wr : World) : Prop where
  s1 : StrsAt wr a1 n nm
  i1 : IntsAt wr a2 n ix
  s2 : StrsAt wr a5 n (outN nm ix)
  i2 : IntsAt wr a6 n (outI ix)
  below : Below w.heap.size w wr

theorem Four.drewN {w : World} {n : Nat} {nm : Nat → ByteArray} {ix : Nat → Int} {a1 a2 a5 a6 : Option Addr} {wr : World} (h : Four w n nm ix a1 a2 a5 a6 wr) (q : Nat) : Four w n nm ix a1 a2 a5 a6 (wr.drewN q) :=
  ⟨h.s1, h.i1, h.s2, h.i2, ⟨h.below.os, h.below.tape, h.below.output, h.below.size, h.below.block⟩⟩

def PlainAll (n : Nat) (nm : Nat → ByteArray) (ix : Nat → Int) : Prop := ∀ k, k < n → ix k < 0 → Plain (nm k)

theorem PlainAll.succ {k : Nat} {nm : Nat → ByteArray} {ix : Nat → Int} (h : PlainAll k nm ix) (h1 : ix k < 0 → Plain (nm k)) : PlainAll (k + 1) nm ix := by
  intro j hj hx
  by_cases e : j = k
  · subst e; exact h1 hx
  · exact h j (by omega) hx

/-- The path's text, out of two clones. -/
theorem text_of (a1 a2 : Option Addr) (n : Nat) (nm : Nat → ByteArray) (ix : Nat → Int) (w : World) (hS : StrsAt w a1 n nm) (hI : IntsAt w a2 n ix) (hn : n ≤ 1048576) :
    Calls Tryd.prog 10 #[.slice a1 n n, .slice a2 n n, .int .i64 0] w fun e w' => NewPost w n nm ix 0 e w' := by
  refine new_path a1 a2 n n n nm ix 0 w (fun h0 => ⟨Nat.le_refl _, ?_⟩) hn
  obtain ⟨b, o, e1, hb, hc⟩ := hS h0
  obtain ⟨b', o', e2, hb', hc'⟩ := hI h0
  exact ⟨b, o, b', o', e1, e2, hb, hb', hc, hc'⟩

/-- zzParsePath at the text, seen as rows that can be read. -/
theorem parse_rows (n : Nat) (nm : Nat → ByteArray) (ix : Nat → Int) (w : World) (B : Bd n nm ix) (hp : PlainAll n nm ix) :
    Calls Tryd.prog 12 #[.string ⟨(pathText nm ix n).toArray⟩] w fun e w' => ∃ a5 c5 a6 c6, e = .returned (.tuple #[.slice a5 n c5, .slice a6 n c6, .bool true]) ∧ StrsAt w' a5 n (outN nm ix) ∧ IntsAt w' a6 n (outI ix) ∧ Below w.heap.size w w' := by
  refine (parse_any n nm ix w B.n16 hp B.hi B.total).mono ?_
  rintro e w' ⟨v5, v6, rfl, T⟩
  obtain ⟨a5, c5, rfl, h5⟩ := strs_own T.own5
  obtain ⟨a6, c6, rfl, h6⟩ := ints_own T.own6
  exact ⟨a5, c5, a6, c6, rfl, h5, h6, T.below⟩

end Go.Proofs.Qxb6000049aDoor
