/-
  The walks of (*Path).String and ZZPathString.
-/
import Derived.Test.Qxb6000049aDoorRows
import Derived.Test.Qxb6000049aDoorShelf
import Derived.Test.Qxb6000049aDoorText
import Derived.WalkKit
import Derived.WalkSpells
import Derived.WalkLawsBesides
import Derived.WalkSmall
namespace Go.Proofs.Qxb6000049aDoor
open Go.RowKit

/-- strconv's table of powers of ten holds what its text lays. -/
def PowTab (w : World) : Prop := Lib.TabIs Tryd.prog w (Rows.fnPathStringParsesBackRow.named.headD "") .u64 Lib.pow10Tab

theorem gPow : Tryd.prog.globalNamed (Rows.fnPathStringParsesBackRow.named.headD "") = some 1 := by kernel_rfl

theorem PowTab.below {w w' : World} {B : Nat} (h : PowTab w) (hb : Below B w w') (hB : 1 < B) : PowTab w' :=
  var?_below hb gPow (by omega) h

theorem isBuilderF_below {T e : TypeId} {B b : Nat} {bs : List Value} {w w' : World} (h : Lib.IsBuilderF T e B b bs w) (hb : Below w.heap.size w w') : Lib.IsBuilderF T e B b bs w' := by
  have key : ∀ p, Lib.BuilderAtF T e B b p bs w → Lib.BuilderAtF T e B b p bs w' := by
    rintro p ⟨hB, v, hbk, hown, hne⟩
    refine ⟨hB, v, ?_, ⟨hown.1, ?_⟩, hne⟩
    · rw [hb.block b (Array.getElem?_eq_some_iff.1 hbk).1]; exact hbk
    · rcases hown.2 with hn | ⟨g, cap, cur, fz, hv, hbg, hg, rest⟩
      · exact .inl hn
      · exact .inr ⟨g, cap, cur, fz, hv, hbg, by rw [hb.block g (Array.getElem?_eq_some_iff.1 hg).1]; exact hg, rest⟩
  exact h.elim (fun x => .inl (key _ x)) (fun x => .inr (key _ x))

theorem below_grow (w : World) (k : Nat) (os : Array Obj) : Below w.heap.size w (Sort.grow (w.drewN k) os) := by
  refine (below_drewN (Below.refl _ w) k).trans ⟨rfl, rfl, rfl, by simp, fun i hi => Sort.heap_grow_old _ _ (by simpa using hi)⟩

theorem itoa_any (n : Int) (h0 : -9223372036854775808 ≤ n) (h1 : n ≤ 9223372036854775807) (w : World) (ht : PowTab w) :
    Calls Tryd.prog 16 #[.int .i64 n] w fun e w' => e = .returned (.string ⟨(Lib.itoa n).toArray⟩) ∧ Below w.heap.size w w' := by
  refine (Any.strconv_Itoa Tryd.laysM171 n h0 h1 w ht).mono ?_
  rintro e w' ⟨rfl, k, os, rfl⟩
  exact ⟨rfl, below_grow w k os⟩

theorem elem_size (l : List UInt8) : (({ data := #[91] } ++ { data := l.toArray } ++ { data := #[93] } : ByteArray)).size = l.length + 2 := by
  rw [ByteArray.size_append, ByteArray.size_append]
  show 1 + l.toArray.size + 1 = _
  rw [List.size_toArray]; omega
theorem elem_cells (l : List UInt8) : Lib.strCells ({ data := #[91] } ++ { data := l.toArray } ++ { data := #[93] } : ByteArray) = Lib.byteCells (91 :: (l ++ [93])) := by
  simp [Lib.strCells, Lib.byteCells]

set_option maxHeartbeats 400000 in
theorem path_string (pb sb n : Nat) (nm : Nat → ByteArray) (ix : Nat → Int) (len : Nat) (w : World)
    (hp0 : w.cell? ⟨pb, 0, none⟩ = some (.slice (some ⟨sb, 0, none⟩) n n)) (hp1 : w.cell? ⟨pb, 1, none⟩ = some (.int .i64 len)) (hlen : len ≤ 1048576)
    (hc0 : ∀ k, k < n → w.cell? ⟨sb, k * 2, none⟩ = some (.string (nm k))) (hc1 : ∀ k, k < n → w.cell? ⟨sb, k * 2 + 1, none⟩ = some (.int .i64 (ix k)))
    (hpb : pb < w.heap.size) (hsb : sb < w.heap.size) (hn : n ≤ 1048576) (hlo : ∀ k, k < n → -9223372036854775808 ≤ ix k) (hhi : ∀ k, k < n → ix k ≤ 9223372036854775807)
    (htot : (pathText nm ix n).length ≤ 1000000000) (htab : PowTab w) (hsz : 1 < w.heap.size) :
    Calls Tryd.prog 11 #[.pointer (some ⟨pb, 0, none⟩)] w fun e w' => e = .returned (.string ⟨(pathText nm ix n).toArray⟩) ∧ Below w.heap.size w w' := by
  have hfresh : (w.alloc (.cells #[.pointer none, .slice none 0 0] 43)).heap[w.heap.size]? = some (.cells #[.pointer none, .slice none 0 0] 43 (0, 0)) := heap_alloc_new w _
  go_enter Tryd.func11, Tryd.ntmps11
  go_wp2_with (go_at_call 14; refine (Tryd.Builder_Grow_fresh w.heap.size w.heap.size len _ (Nat.le_refl _) hfresh (by simp) (by omega)).mono ?_; rintro e w1 ⟨rfl, hB1, hb1⟩; have hq0 : w1.cell? ⟨pb, 0, none⟩ = some (.slice (some ⟨sb, 0, none⟩) n n) := (hb1.cell (by exact hpb)).trans ((World.cell?_alloc_past _ _ _ hpb).trans hp0))
  have hW : Below w.heap.size w w1 := ((Below.refl _ w).alloc (Nat.le_refl _) _).trans hb1
  have hI1 : Lib.IsBuilderF 43 5 w.heap.size w.heap.size (Lib.byteCells (pathText nm ix 0)) w1 := Lib.IsBuilderF.of (.inr hB1)
  clear hB1 hb1 hq0 hfresh hp0 hp1
  go_loopw [16] (fun i wr => ∃ k : Nat, k ≤ n ∧ i = .int .i64 k ∧ Lib.IsBuilderF 43 5 w.heap.size w.heap.size (Lib.byteCells (pathText nm ix k)) wr ∧ Below w.heap.size w wr) (fun i _ => n - (intOf i).toNat)
  case atStart => exact ⟨0, Nat.zero_le _, rfl, hI1, hW⟩
  case round =>
    obtain ⟨k, hk, rfl, hI, hb⟩ := hrel
    clear hI1 hW
    by_cases hlt : k < n
    · have hd0 : wr.cell? ⟨sb, k * 2, none⟩ = some (.string (nm k)) := (hb.cell (by exact hsb)).trans (hc0 k hlt)
      have hd1 : wr.cell? ⟨sb, k * 2 + 1, none⟩ = some (.int .i64 (ix k)) := (hb.cell (by exact hsb)).trans (hc1 k hlt)
      have hlok := hlo k hlt
      have hhik := hhi k hlt
      have hms := pathText_mono nm ix (k + 1) n hlt
      have hI2 : Lib.IsBuilderF 43 5 w.heap.size w.heap.size (Lib.byteCells (pathText nm ix k)) (wr.alloc (.cells #[.string (nm k), .int .i64 (ix k)] 37)) := hI.alloc _
      have hb2 : Below w.heap.size w (wr.alloc (.cells #[.string (nm k), .int .i64 (ix k)] 37)) := hb.alloc hb.size _
      have ht2 := htab.below hb2 hsz
      by_cases hx : 0 ≤ ix k
      · have hil := itoa_length _ hx hhik
        have hlen1 : (Lib.byteCells (pathText nm ix k)).length + (({ data := #[91] } ++ { data := (Lib.itoa (ix k)).toArray } ++ { data := #[93] } : ByteArray)).size ≤ 140737488355328 := by
          rw [elem_size, Lib.byteCells_length]; rw [pathText_succ, stepText_elem _ _ _ hx] at hms; simp at hms; omega
        have HE : Hid (Lib.byteCells (pathText nm ix k) ++ Lib.strCells ({ data := #[91] } ++ { data := (Lib.itoa (ix k)).toArray } ++ { data := #[93] } : ByteArray) = Lib.byteCells (pathText nm ix (k + 1))) := by
          rw [elem_cells, pathText_succ, stepText_elem _ _ _ hx, Lib.byteCells_append]; exact rfl
        go_wp2_with (first
          | (go_at_call 16; refine (itoa_any _ hlok hhik _ ht2).mono ?_; rintro e w3 ⟨rfl, hb3⟩; have hI3 := isBuilderF_below hI2 hb3; have hsz3 : w.heap.size ≤ w3.heap.size := Nat.le_trans hb2.size hb3.size)
          | (go_at_call 15; refine (Tryd.Builder_WriteString_k w.heap.size w.heap.size _ _ _ hI3 hlen1 hsz3).mono ?_; rintro e w4 ⟨rfl, hI4, hb4, hk4⟩))
        go_roundw
        case rel => exact ⟨k + 1, by omega, by go_num, by rw [← HE.out]; exact .inr hI4, (hb2.trans (hb3.mono hb2.size)).trans hb4⟩
        case measure => simp [intOf]; omega
      · have hxn : ix k < 0 := by omega
        by_cases hk0 : 0 < k
        · have hlen1 : (Lib.byteCells (pathText nm ix k)).length + 1 ≤ 140737488355328 := by
            rw [Lib.byteCells_length]; rw [pathText_succ, stepText_later _ _ _ hxn hk0] at hms; simp at hms; omega
          have hlen2 : (Lib.byteCells (pathText nm ix k) ++ [Value.int .u8 46]).length + (nm k).size ≤ 140737488355328 := by
            rw [List.length_append, Lib.byteCells_length]; rw [pathText_succ, stepText_later _ _ _ hxn hk0] at hms; simp at hms; simp; omega
          have HE : Hid ((Lib.byteCells (pathText nm ix k) ++ [Value.int .u8 46]) ++ Lib.strCells (nm k) = Lib.byteCells (pathText nm ix (k + 1))) := by
            show _ = _
            rw [pathText_succ, stepText_later _ _ _ hxn hk0, Lib.byteCells_append, Lib.strCells_eq, List.append_assoc]; exact rfl
          have hblk : (wr.alloc (.cells #[.string (nm k), .int .i64 (ix k)] 37)).heap[wr.heap.size]? = some (.cells #[.string (nm k), .int .i64 (ix k)] 37 (0, 0)) := heap_alloc_new wr _
          have hne : wr.heap.size ≠ w.heap.size := by
            have : w.heap.size < wr.heap.size := hI.elim (fun x => x.lt) (fun x => x.lt)
            omega
          go_wp2_with (first
            | (go_at_call 17; refine (Tryd.Builder_WriteByte_k w.heap.size w.heap.size _ 46 _ hI2 hlen1 hb2.size).mono ?_; rintro e w3 ⟨rfl, hI3, hb3, hk3⟩; have hcs : w3.cell? ⟨wr.heap.size, 0, none⟩ = some (.string (nm k)) := by (rw [Lib.cell_of_heap (hk3 _ _ hblk (by simpa using hne) (by intro c fz h; cases h))]; rfl))
            | (go_at_call 15; refine (Tryd.Builder_WriteString_k w.heap.size w.heap.size _ _ _ (.inr hI3) hlen2 (Nat.le_trans hb2.size hb3.size)).mono ?_; rintro e w4 ⟨rfl, hI4, hb4, hk4⟩))
          go_roundw
          case rel => exact ⟨k + 1, by omega, by go_num, by rw [← HE.out]; exact .inr hI4, (hb2.trans hb3).trans hb4⟩
          case measure => simp [intOf]; omega
        · have hkz : k = 0 := by omega
          subst hkz
          have hlen2 : (Lib.byteCells (pathText nm ix 0)).length + (nm 0).size ≤ 140737488355328 := by
            rw [Lib.byteCells_length]; rw [pathText_succ, stepText_head _ _ hxn] at hms; simp at hms; omega
          have HE : Hid (Lib.byteCells (pathText nm ix 0) ++ Lib.strCells (nm 0) = Lib.byteCells (pathText nm ix (0 + 1))) := by
            show _ = _
            rw [pathText_succ, stepText_head _ _ hxn, Lib.byteCells_append, Lib.strCells_eq]
          go_wp2_with (go_at_call 15; refine (Tryd.Builder_WriteString_k w.heap.size w.heap.size _ _ _ hI2 hlen2 hb2.size).mono ?_; rintro e w4 ⟨rfl, hI4, hb4, hk4⟩)
          go_roundw
          case rel => exact ⟨0 + 1, by omega, by go_num, by rw [← HE.out]; exact .inr hI4, hb2.trans hb4⟩
          case measure => simp [intOf]; omega
    · have : k = n := by omega
      subst this
      go_wp2_with (go_at_call 18; refine (Tryd.Builder_String_any_k w.heap.size w.heap.size _ _ hI hb.size).mono ?_; rintro e w4 ⟨rfl, hI4, hb4, hk4⟩)
      go_ret
      exact ⟨rfl, hb.trans hb4⟩

end Go.Proofs.Qxb6000049aDoor
