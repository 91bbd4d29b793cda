/-
  The walk of ZZNewPath.
-/
import Derived.Test.Qxb6000049aDoorPath
import Derived.RegionTactic
import Derived.ChangeAlike
namespace Go.Proofs.Qxb6000049aDoor
open Go.RowKit

theorem Tryd.info37 : (Tryd.prog.info? 37).map (fun i => (i.zero, i.size, i.bytes)) = some (some (.agg #[.string ⟨#[]⟩, .int .i64 0]), 2, 24) := by kernel_rfl

theorem ownsRow_lt {w : World} {B g : Nat} {e : TypeId} {s n c : Nat} {xs : List Value} (h : w.ownsRow B e s (.slice (some ⟨g, 0, none⟩) n c) n xs) : g < w.heap.size := by
  rcases h.2 with ⟨h', _⟩ | ⟨g', cap', cur, h', hb, hg, hnc, hcm, hcs, htake⟩
  · simp at h'
  · simp only [Value.slice.injEq, Option.some.injEq, Addr.mk.injEq, and_true, true_and] at h'
    obtain ⟨rfl, _⟩ := h'
    exact (Array.getElem?_eq_some_iff.1 hg).1

theorem rel_store {w wr : World} {n k : Nat} {xs : List Value} {nm : Nat → ByteArray} {ix : Nat → Int} (a : ByteArray) (z : Int) (hlt : k < n)
    (hown : wr.ownsRow w.heap.size 37 2 (.slice (some ⟨w.heap.size, 0, none⟩) n n) n xs)
    (hxs : ∀ j, j < k → xs[j * 2]? = some (.string (nm j)) ∧ xs[j * 2 + 1]? = some (.int .i64 (ix j))) (hb : Below w.heap.size w wr) (ha : a = nm k := by rfl) (hz : z = ix k := by rfl) :
    (((wr.setCell ⟨w.heap.size, k * 2, none⟩ (.string a)).setCell ⟨w.heap.size, k * 2 + 1, none⟩ (.int .i64 z)).drew).ownsRow w.heap.size 37 2 (.slice (some ⟨w.heap.size, 0, none⟩) n n) n ((xs.set (k * 2) (.string a)).set (k * 2 + 1) (.int .i64 z)) ∧
    (∀ j, j < k + 1 → ((xs.set (k * 2) (.string a)).set (k * 2 + 1) (.int .i64 z))[j * 2]? = some (.string (nm j)) ∧ ((xs.set (k * 2) (.string a)).set (k * 2 + 1) (.int .i64 z))[j * 2 + 1]? = some (.int .i64 (ix j))) ∧
    Below w.heap.size w ((wr.setCell ⟨w.heap.size, k * 2, none⟩ (.string a)).setCell ⟨w.heap.size, k * 2 + 1, none⟩ (.int .i64 z)).drew := by
  subst ha hz
  have hl : xs.length = n * 2 := hown.1
  have s1 := (hown.stored (k * 2) (.string (nm k))).1
  have s2 := (s1.stored (k * 2 + 1) (.int .i64 (ix k))).1
  refine ⟨s2.drew, fun j hj => ?_, ((hb.setCell (p := ⟨w.heap.size, k * 2, none⟩) (Nat.le_refl _) _).setCell (p := ⟨w.heap.size, k * 2 + 1, none⟩) (Nat.le_refl _) _).drew⟩
  by_cases e : j = k
  · subst e
    refine ⟨?_, ?_⟩
    · rw [List.getElem?_set_ne (by omega), List.getElem?_set_self (by omega)]
    · rw [List.getElem?_set_self (by simp; omega)]
  · have := hxs j (by omega)
    refine ⟨?_, ?_⟩
    · rw [List.getElem?_set_ne (by omega), List.getElem?_set_ne (by omega)]; exact this.1
    · rw [List.getElem?_set_ne (by omega), List.getElem?_set_ne (by omega)]; exact this.2

/-- What ZZNewPath leaves. -/
structure PathAt (w : World) (n : Nat) (nm : Nat → ByteArray) (ix : Nat → Int) (len pb sb : Nat) : Prop where
  p0 : w.cell? ⟨pb, 0, none⟩ = some (.slice (some ⟨sb, 0, none⟩) n n)
  p1 : w.cell? ⟨pb, 1, none⟩ = some (.int .i64 len)
  c0 : ∀ k, k < n → w.cell? ⟨sb, k * 2, none⟩ = some (.string (nm k))
  c1 : ∀ k, k < n → w.cell? ⟨sb, k * 2 + 1, none⟩ = some (.int .i64 (ix k))
  hpb : pb < w.heap.size
  hsb : sb < w.heap.size

def NewPost (w : World) (n : Nat) (nm : Nat → ByteArray) (ix : Nat → Int) (len : Nat) (e : Ending) (w' : World) : Prop :=
  ∃ pb sb, e = .returned (.pointer (some ⟨pb, 0, none⟩)) ∧ PathAt w' n nm ix len pb sb ∧ Below w.heap.size w w'

set_option maxHeartbeats 1000000 in
theorem new_path (an ai : Option Addr) (n cn ci : Nat) (nm : Nat → ByteArray) (ix : Nat → Int) (len : Nat) (w : World)
    (hA : 0 < n → n ≤ n ∧ ∃ b o b' o', an = some ⟨b, o, none⟩ ∧ ai = some ⟨b', o', none⟩ ∧ b < w.heap.size ∧ b' < w.heap.size ∧
      (∀ k, k < n → w.cell? ⟨b, o + k, none⟩ = some (.string (nm k))) ∧ (∀ k, k < n → w.cell? ⟨b', o' + k, none⟩ = some (.int .i64 (ix k))))
    (hn : n ≤ 1048576) :
    Calls Tryd.prog 10 #[.slice an n cn, .slice ai n ci, .int .i64 len] w fun e w' => NewPost w n nm ix len e w' := by
  obtain ⟨i0, hi, hz0, hz1, hz2⟩ := info_parts Tryd.info37
  have hnm : n ≤ maxLen := by unfold maxLen; omega
  go_enter Tryd.func10, Tryd.ntmps10
  go_wp2_with (at_make; refine wpList_make_full _ rfl _ _ 35 rfl w.heap.size 37 i0 _ 2 Tryd.underlying35 hi hz0 hz1 .i64 .i64 n n n rfl rfl rfl rfl (by rw [hz2]; omega) hnm (Nat.le_refl _) ?_; intro w1 hown1 hgrow1)
  have hb1 : Below w.heap.size w w1 := (Below.refl _ _).grown hgrow1 (Nat.le_refl _) (by simp)
  clear hgrow1
  have hxl1 := hown1.1
  go_loopw [9] (fun i wr => ∃ (k : Nat) (xs : List Value), k ≤ n ∧ i = .int .i64 k ∧ wr.ownsRow w.heap.size 37 2 (.slice (some ⟨w.heap.size, 0, none⟩) n n) n xs ∧
    (∀ j, j < k → xs[j * 2]? = some (.string (nm j)) ∧ xs[j * 2 + 1]? = some (.int .i64 (ix j))) ∧ Below w.heap.size w wr) (fun i _ => n - (intOf i).toNat)
  case atStart => exact ⟨0, _, Nat.zero_le _, rfl, hown1, fun j hj => absurd hj (by omega), hb1⟩
  case round =>
    obtain ⟨k, xs, hk, rfl, hown, hxs, hb⟩ := hrel
    clear hb1 hown1 hxl1
    by_cases hlt : k < n
    · obtain ⟨_, b, o, b', o', rfl, rfl, hbb, hbb', hc, hc'⟩ := hA (by omega)
      have hxl : xs.length = n * 2 := hown.1
      have hd0 : wr.cell? ⟨b, o + k, none⟩ = some (.string (nm k)) := (hb.cell (by exact hbb)).trans (hc k hlt)
      have hd1 : wr.cell? ⟨b', o' + k, none⟩ = some (.int .i64 (ix k)) := (hb.cell (by exact hbb')).trans (hc' k hlt)
      have hf0 : wr.frozen? ⟨w.heap.size, k * 2, none⟩ = false := hown.frozenAt _
      have hf1 : wr.frozen? ⟨w.heap.size, k * 2 + 1, none⟩ = false := hown.frozenAt _
      have he0 : wr.cell? ⟨w.heap.size, k * 2, none⟩ = some (xs[k * 2]'(by omega)) := by rw [hown.cellAt _ (by omega)]; simp
      have he1 : wr.cell? ⟨w.heap.size, k * 2 + 1, none⟩ = some (xs[k * 2 + 1]'(by omega)) := by rw [hown.cellAt _ (by omega)]; simp
      have HO : Hid (wr.ownsRow w.heap.size 37 2 (.slice (some ⟨w.heap.size, 0, none⟩) n n) n xs) := hown
      have HX : Hid (∀ j, j < k → xs[j * 2]? = some (.string (nm j)) ∧ xs[j * 2 + 1]? = some (.int .i64 (ix j))) := hxs
      clear hown hxs hc hc' hA
      go_wp2_with fail
      go_region
      go_wp2
      go_roundw
      case rel =>
        obtain ⟨r1, r2, r3⟩ := rel_store (nm k) (ix k) hlt HO.out HX.out hb
        exact ⟨k + 1, _, by omega, by go_num, r1, r2, r3⟩
      case measure => simp [intOf]; omega
    · have hkn : k = n := by omega
      have HK : Hid (k = n) := hkn
      have hB : w.heap.size < wr.heap.size := ownsRow_lt hown
      have hp0 : (wr.alloc (.cells #[.slice (some ⟨w.heap.size, 0, none⟩) n n, .int .i64 len] 39)).cell? ⟨wr.heap.size, 0, none⟩ = some (.slice (some ⟨w.heap.size, 0, none⟩) n n) := World.cell?_alloc_at _ _ _ _ rfl
      have hp1 : (wr.alloc (.cells #[.slice (some ⟨w.heap.size, 0, none⟩) n n, .int .i64 len] 39)).cell? ⟨wr.heap.size, 1, none⟩ = some (.int .i64 len) := World.cell?_alloc_at _ _ _ _ rfl
      have hc0 : ∀ j, j < n → (wr.alloc (.cells #[.slice (some ⟨w.heap.size, 0, none⟩) n n, .int .i64 len] 39)).cell? ⟨w.heap.size, j * 2, none⟩ = some (.string (nm j)) := fun j hj => by
        rw [World.cell?_alloc_past _ _ _ hB, hown.cellAt _ (by omega), (hxs j (by omega)).1]
      have hc1 : ∀ j, j < n → (wr.alloc (.cells #[.slice (some ⟨w.heap.size, 0, none⟩) n n, .int .i64 len] 39)).cell? ⟨w.heap.size, j * 2 + 1, none⟩ = some (.int .i64 (ix j)) := fun j hj => by
        rw [World.cell?_alloc_past _ _ _ hB, hown.cellAt _ (by omega), (hxs j (by omega)).2]
      have hb2 : Below w.heap.size w (wr.alloc (.cells #[.slice (some ⟨w.heap.size, 0, none⟩) n n, .int .i64 len] 39)) := hb.alloc hb.size _
      have HC : Hid (PathAt (wr.alloc (.cells #[.slice (some ⟨w.heap.size, 0, none⟩) n n, .int .i64 len] 39)) n nm ix len wr.heap.size w.heap.size) := ⟨hp0, hp1, hc0, hc1, by simp, by simp; omega⟩
      clear hp0 hp1 hc0 hc1 hxs hown hA hkn
      go_wp2
      go_ret
      exact ⟨_, _, rfl, HC.out, hb2⟩

theorem path_at {w : World} {n : Nat} {nm : Nat → ByteArray} {ix : Nat → Int} {len pb sb : Nat} (h : PathAt w n nm ix len pb sb) (hlen : len ≤ 1048576) (hn : n ≤ 1048576) (hlo : ∀ k, k < n → -9223372036854775808 ≤ ix k) (hhi : ∀ k, k < n → ix k ≤ 9223372036854775807)
    (htot : (pathText nm ix n).length ≤ 1000000000) (htab : PowTab w) (hsz : 1 < w.heap.size) :
    Calls Tryd.prog 11 #[.pointer (some ⟨pb, 0, none⟩)] w fun e w' => e = .returned (.string ⟨(pathText nm ix n).toArray⟩) ∧ Below w.heap.size w w' :=
  path_string pb sb n nm ix len w h.p0 h.p1 hlen h.c0 h.c1 h.hpb h.hsb hn hlo hhi htot htab hsz

end Go.Proofs.Qxb6000049aDoor
