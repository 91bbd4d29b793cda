/-
  The walk of appendPadded.
-/
import Derived.Test.Qxb6000387aDoorApp
import Derived.ArgAppend
namespace Go.Proofs.Qxb6000387aDoor
open Go.RowKit

/-- append onto an owned row: and where the new row lies. -/
theorem run_append_loc (w : World) (base ty : Nat) (v : Value) (n : Nat) (xs : List Value) (hown : w.ownsRow base 5 1 v n xs) (a : Addr) (m c : Nat) (news : List Value) (hl : news.length = m) (hnews : ∀ j u, news[j]? = some u → w.cell? (a.add j) = some u)
    (h1 : ∀ u ∈ news, u.oneCell' = true) (hlim : n + m ≤ 140737488355328) (hbase : base ≤ w.heap.size) :
    ∃ v' w', (Builtin.append_ #[22, 22] ty #[v, .slice (some a) m c]).run Tryd.prog w = .ok v' w' ∧ w'.ownsRow base 5 1 v' (n + m) (xs ++ news) ∧ w.grownBy w' v.ownBlock ∧
      (v'.ownBlock = v.ownBlock ∨ ∀ k, v'.ownBlock = some k → w.heap.size ≤ k) := by
  obtain ⟨i0, hi, hz0, hz1, hz2⟩ := info_parts Tryd.info5
  have h63 : n + m ≤ maxLen := by unfold maxLen; omega
  obtain ⟨v', w', hr, r1, r2, _⟩ := run_append_own (P := Tryd.prog) w base 22 ty 5 i0 (.int .u8 0) 1 1 Tryd.underlying22 hi hz0 hz1 hz2 rfl (by decide) v n xs hown a m c news (by omega) hnews h1 h63 (by omega) hbase
  refine ⟨v', w', hr, r1, r2, ?_⟩
  rcases hown.2 with ⟨rfl, rfl⟩ | ⟨g, cap, cur, rfl, hbg, hgg, hnc, hcm, hcs, htk⟩
  · obtain ⟨v2, w2, hr2, q1, _, _⟩ := run_append_own (P := Tryd.prog) w w.heap.size 22 ty 5 i0 (.int .u8 0) 1 1 Tryd.underlying22 hi hz0 hz1 hz2 rfl (by decide) (.slice none 0 0) 0 [] (World.ownsRow_nil w _ 5 1) a m c news (by omega) hnews h1 h63 (by omega) (Nat.le_refl _)
    rw [hr] at hr2
    cases hr2
    exact .inr fun k hk => (q1.lt k hk).1
  · by_cases hroom : n + m ≤ cap
    · left
      have hr2 := run_append_room_cells (P := Tryd.prog) w 22 ty 5 i0 Tryd.underlying22 hi g 0 n cap a m c news (by rw [hz1]; omega) hnews h1 hroom
        (fun j hj => by rw [hz1, Lib.cell_of_heap hgg, Array.getElem?_eq_getElem (by omega)]; rfl) (fun j hj => Lib.frozen_of_heap hgg _)
      rw [hr] at hr2
      cases hr2
      rfl
    · right
      obtain ⟨v2, w2, hr2, q1, _⟩ := run_append_arg_grows (P := Tryd.prog) w 22 ty 5 i0 (.int .u8 0) 1 1 Tryd.underlying22 hi hz0 hz1 hz2 rfl (by decide) ⟨g, 0, none⟩ n cap xs hown.1 (hown.cells (g := g) rfl) a m c news (by omega) hnews (by omega) h63 (by omega)
      rw [hr] at hr2
      cases hr2
      exact fun k hk => (q1.lt k hk).1

theorem wpList_append_loc {w : World} {ops : Array Oper} {rest : List Oper} {o : Oper} {a : Act} {Q : Exit → Act → World → Prop} (hgd : o.guard = none) (sl x : Operand)
    (ho : o.op = .call { callee := .builtin .append, args := #[sl, x], argTypes := #[22, 22] }) (base : Nat) (v : Value) (n : Nat) (xs : List Value) (hs : a.eval sl = v) (hown : w.ownsRow base 5 1 v n xs)
    (ad : Addr) (m c : Nat) (news : List Value) (hx : a.eval x = .slice (some ad) m c) (hl : news.length = m) (hnews : ∀ j u, news[j]? = some u → w.cell? (ad.add j) = some u)
    (h1 : ∀ u ∈ news, u.oneCell' = true) (hlim : n + m ≤ 140737488355328) (hbase : base ≤ w.heap.size)
    (h : ∀ v' w', w'.ownsRow base 5 1 v' (n + m) (xs ++ news) → w.grownBy w' v.ownBlock → (v'.ownBlock = v.ownBlock ∨ ∀ k, v'.ownBlock = some k → w.heap.size ≤ k) → wpList Tryd.prog ops Q rest (a.put o.dst v') w') : wpList Tryd.prog ops Q (o :: rest) a w := by
  refine wpList_plain hgd fun K hK => ?_
  obtain ⟨v', w', hr, r1, r2, r3⟩ := run_append_loc w base o.type v n xs hown ad m c news hl hnews h1 hlim hbase
  unfold Oper.wp execOp
  simp only [ho, resolve, invoke, builtin, Sem.run_bind, Sem.run_pure, Result.andThen_ok, List.map_toArray, List.map_cons, List.map_nil, hs, hx, hr]
  exact hK _ _ (h v' w' r1 r2 r3)

/-- Behind k zeros. -/
structure Pad (w : World) (v0 : Value) (b1 : Nat) (D : List Value) (B n : Nat) (ys : List Value) (v : Value) (wr : World) : Prop where
  own : wr.ownsRow B 5 1 v n ys
  cells : ∀ x u, D[x]? = some u → wr.cell? ⟨b1, x, none⟩ = some u
  lt : b1 < wr.heap.size
  ne : v.ownBlock ≠ some b1
  grown : w.grownBy wr v0.ownBlock
  loc : ∀ k, v.ownBlock = some k → some k = v0.ownBlock ∨ w.heap.size ≤ k

theorem Pad.alloc {w : World} {v0 : Value} {b1 : Nat} {D : List Value} {B n : Nat} {ys : List Value} {v : Value} {wr : World} (h : Pad w v0 b1 D B n ys v wr) (o : Obj) : Pad w v0 b1 D B n ys v (wr.alloc o) :=
  ⟨h.own.alloc o, fun x u hx => by rw [World.cell?_alloc_past _ _ _ h.lt]; exact h.cells x u hx, by have := h.lt; simp; omega, h.ne, grown_trans h.grown (World.grownBy_alloc _ _ _), h.loc⟩

theorem Pad.step {w : World} {v0 : Value} {b1 : Nat} {D : List Value} {B n n' : Nat} {ys ys' : List Value} {v v' : Value} {wr w' : World} (h : Pad w v0 b1 D B n ys v wr)
    (hown : w'.ownsRow B 5 1 v' n' ys') (hg : wr.grownBy w' v.ownBlock) (hl : v'.ownBlock = v.ownBlock ∨ ∀ k, v'.ownBlock = some k → wr.heap.size ≤ k) : Pad w v0 b1 D B n' ys' v' w' := by
  refine ⟨hown, fun x u hx => hg.cell (h.cells x u hx) (fun e => h.ne e.symm), Nat.lt_of_lt_of_le h.lt hg.size, fun e => ?_, ?_, fun k hk => ?_⟩
  · rcases hl with hl | hl
    · exact h.ne (hl.symm.trans e)
    · have := hl _ e; have := h.lt; omega
  · refine ⟨hg.os.trans h.grown.os, hg.tape.trans h.grown.tape, hg.output.trans h.grown.output, Nat.le_trans h.grown.size hg.size, fun x hx hr => ?_⟩
    refine (hg.block x (Nat.lt_of_lt_of_le hx h.grown.size) (fun e => ?_)).trans (h.grown.block x hx hr)
    rcases h.loc x e.symm with h1 | h1
    · exact hr h1
    · omega
  · rcases hl with hl | hl
    · exact h.loc k (hl.symm.trans hk)
    · have := hl k hk; have := h.grown.size; right; omega

end Go.Proofs.Qxb6000387aDoor
