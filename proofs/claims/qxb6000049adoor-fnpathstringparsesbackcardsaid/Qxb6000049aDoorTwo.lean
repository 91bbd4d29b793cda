/-
  The two rows that zzParsePath grows, side by side.
-/
import Derived.Test.Qxb6000049aDoorPlain
import Derived.Deep.AppendLies
namespace Go.Proofs.Qxb6000049aDoor
open Go.RowKit

/-- The name that comes back of a step. -/
def outN (nm : Nat → ByteArray) (ix : Nat → Int) (j : Nat) : ByteArray := if 0 ≤ ix j then ⟨#[]⟩ else nm j
/-- The index that comes back of a step. -/
def outI (ix : Nat → Int) (j : Nat) : Int := if 0 ≤ ix j then ix j else -1

def rowN (nm : Nat → ByteArray) (ix : Nat → Int) (k : Nat) : List Value := (List.range k).map fun j => .string (outN nm ix j)
def rowI (ix : Nat → Int) (k : Nat) : List Value := (List.range k).map fun j => .int .i64 (outI ix j)

theorem rowN_succ (nm : Nat → ByteArray) (ix : Nat → Int) (k : Nat) : rowN nm ix (k + 1) = rowN nm ix k ++ [.string (outN nm ix k)] := by simp [rowN, List.range_succ]
theorem rowI_succ (ix : Nat → Int) (k : Nat) : rowI ix (k + 1) = rowI ix k ++ [.int .i64 (outI ix k)] := by simp [rowI, List.range_succ]

structure Two (w : World) (nm : Nat → ByteArray) (ix : Nat → Int) (a b : Nat) (v5 v6 : Value) (wr : World) : Prop where
  own5 : wr.ownsRow w.heap.size 9 1 v5 a (rowN nm ix a)
  own6 : wr.ownsRow w.heap.size 3 1 v6 b (rowI ix b)
  ne : ∀ g, v5.ownBlock = some g → v6.ownBlock ≠ some g
  below : Below w.heap.size w wr

theorem Two.start (w : World) (nm : Nat → ByteArray) (ix : Nat → Int) : Two w nm ix 0 0 (.slice none 0 0) (.slice none 0 0) w :=
  ⟨World.ownsRow_nil w _ 9 1, World.ownsRow_nil w _ 3 1, fun g h => by simp [Value.ownBlock] at h, Below.refl _ _⟩

theorem Two.alloc {w : World} {nm : Nat → ByteArray} {ix : Nat → Int} {a b : Nat} {v5 v6 : Value} {wr : World} (h : Two w nm ix a b v5 v6 wr) (o : Obj) : Two w nm ix a b v5 v6 (wr.alloc o) :=
  ⟨h.own5.alloc o, h.own6.alloc o, h.ne, h.below.alloc h.below.size o⟩

theorem news_one (wr : World) (u : Value) (t : TypeId) : ∀ (j : Nat) (x : Value), [u][j]? = some x → (wr.alloc (.cells #[u] t)).cell? ((⟨wr.heap.size, 0, none⟩ : Addr).add j) = some x := by
  intro j x hj
  match j, hj with
  | 0, hj => simp at hj; subst hj; simp [Addr.add]

theorem app_names {w wr : World} {nm : Nat → ByteArray} {ix : Nat → Int} {a b : Nat} {v5 v6 : Value} (P : Two w nm ix a b v5 v6 wr) (s : ByteArray) (hs : s = outN nm ix a) (ha : a ≤ 1000000)
    {ops : Array Oper} {rest : List Oper} {o : Oper} {act : Act} {Q : Exit → Act → World → Prop} (hgd : o.guard = none) (sl x : Operand)
    (ho : o.op = .call { callee := .builtin .append, args := #[sl, x], argTypes := #[22, 22] }) (h5 : act.eval sl = v5) (hx : act.eval x = .slice (some ⟨wr.heap.size, 0, none⟩) 1 1)
    (h : ∀ g cap w', Two w nm ix (a + 1) b (.slice (some ⟨g, 0, none⟩) (a + 1) cap) v6 w' → wpList Tryd.prog ops Q rest (act.put o.dst (.slice (some ⟨g, 0, none⟩) (a + 1) cap)) w') :
    wpList Tryd.prog ops Q (o :: rest) act (wr.alloc (.cells #[.string s] 9)) := by
  obtain ⟨i0, hi, hz0, hz1, hz2⟩ := info_parts Tryd.info9
  have P2 := P.alloc (.cells #[.string s] 9)
  refine wpList_append_lies _ hgd sl x 22 ho w.heap.size 9 i0 _ 1 16 Tryd.underlying22 hi hz0 hz1 hz2 rfl (by omega) v5 a _ h5 P2.own5 ⟨wr.heap.size, 0, none⟩ 1 1 [.string s] hx rfl (news_one wr _ 9) ?_ (by omega) (by unfold maxLen; omega) (by omega) P2.below.size _ rfl ?_
  · intro u hu; simp at hu; subst hu; rfl
  · intro g cap w' hown hg hat hlt
    refine h g cap w' ⟨?_, ?_, ?_, ?_⟩
    · rw [rowN_succ, ← hs]; exact hown
    · refine P2.own6.kept hg ?_
      cases h6 : v6.ownBlock with
      | none => exact .inl rfl
      | some y =>
        right
        intro e
        exact P.ne y e.symm h6
    · intro g' hg' h6
      simp only [Value.ownBlock, Option.some.injEq] at hg'
      subst hg'
      rcases hat with hat | hat
      · exact P.ne _ hat h6
      · have := (P2.own6.lt _ h6).2
        omega
    · exact P2.below.grown hg P2.below.size (fun k hk => (P2.own5.lt _ hk).1)

theorem app_ints {w wr : World} {nm : Nat → ByteArray} {ix : Nat → Int} {a b : Nat} {v5 v6 : Value} (P : Two w nm ix a b v5 v6 wr) (z : Int) (hs : z = outI ix b) (ha : b ≤ 1000000)
    {ops : Array Oper} {rest : List Oper} {o : Oper} {act : Act} {Q : Exit → Act → World → Prop} (hgd : o.guard = none) (sl x : Operand)
    (ho : o.op = .call { callee := .builtin .append, args := #[sl, x], argTypes := #[23, 23] }) (h5 : act.eval sl = v6) (hx : act.eval x = .slice (some ⟨wr.heap.size, 0, none⟩) 1 1)
    (h : ∀ g cap w', Two w nm ix a (b + 1) v5 (.slice (some ⟨g, 0, none⟩) (b + 1) cap) w' → wpList Tryd.prog ops Q rest (act.put o.dst (.slice (some ⟨g, 0, none⟩) (b + 1) cap)) w') :
    wpList Tryd.prog ops Q (o :: rest) act (wr.alloc (.cells #[.int .i64 z] 3)) := by
  obtain ⟨i0, hi, hz0, hz1, hz2⟩ := info_parts Tryd.info3
  have P2 := P.alloc (.cells #[.int .i64 z] 3)
  refine wpList_append_lies _ hgd sl x 23 ho w.heap.size 3 i0 _ 1 8 Tryd.underlying23 hi hz0 hz1 hz2 rfl (by omega) v6 b _ h5 P2.own6 ⟨wr.heap.size, 0, none⟩ 1 1 [.int .i64 z] hx rfl (news_one wr _ 3) ?_ (by omega) (by unfold maxLen; omega) (by omega) P2.below.size _ rfl ?_
  · intro u hu; simp at hu; subst hu; rfl
  · intro g cap w' hown hg hat hlt
    refine h g cap w' ⟨?_, ?_, ?_, ?_⟩
    · refine P2.own5.kept hg ?_
      cases h5 : v5.ownBlock with
      | none => exact .inl rfl
      | some y =>
        right
        intro e
        exact P.ne y h5 e.symm
    · rw [rowI_succ, ← hs]; exact hown
    · intro g' hg' h6
      simp only [Value.ownBlock, Option.some.injEq] at h6
      subst h6
      rcases hat with hat | hat
      · exact P.ne _ hg' hat
      · have := (P2.own5.lt _ hg').2
        omega
    · exact P2.below.grown hg P2.below.size (fun k hk => (P2.own6.lt _ hk).1)

/-- What zzParsePath leaves. -/
def ParsePost (w : World) (n : Nat) (nm : Nat → ByteArray) (ix : Nat → Int) (e : Ending) (w' : World) : Prop :=
  ∃ v5 v6, e = .returned (.tuple #[v5, v6, .bool true]) ∧ Two w nm ix n n v5 v6 w'

end Go.Proofs.Qxb6000049aDoor
