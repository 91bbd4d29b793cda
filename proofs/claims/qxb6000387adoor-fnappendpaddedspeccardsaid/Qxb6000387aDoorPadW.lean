/-
  The walk of appendPadded.
-/
import Derived.Test.Qxb6000387aDoorPad
namespace Go.Proofs.Qxb6000387aDoor
open Go.RowKit

/-- The two tables that the library reads. -/
structure Tabs (w : World) : Prop where
  pow : PowTab w
  db : TabAt 2 Lib.deBruijn64tab w
  sz : 2 < w.heap.size

theorem Tabs.alloc {w : World} (h : Tabs w) (o : Obj) : Tabs (w.alloc o) := ⟨Lib.tabIs_alloc h.pow o, tab_alloc h.db h.sz o, by have := h.sz; simp; omega⟩

set_option maxHeartbeats 1000000 in
theorem app_any (g v β : Nat) (h2 : 2 ≤ β) (h36 : β ≤ 36) (hv : v < 18446744073709551616) (w : World) (hA : Arr20 w g) (hT : Tabs w) :
    Calls Tryd.prog 13 #[.slice (some ⟨g, 0, none⟩) 0 20, .int .u64 v, .int .i64 β] w fun e w' => ∃ b n cap, e = .returned (.slice (some ⟨b, 0, none⟩) n cap) ∧ Num w w' g β v n b := by
  have hB : Calls Tryd.prog 14 #[.slice (some ⟨g, 0, none⟩) 0 20, .int .u64 v, .int .i64 β] w fun e w' => ∃ b n cap, e = .returned (.slice (some ⟨b, 0, none⟩) n cap) ∧ Num w w' g β v n b := by
    by_cases h10 : β = 10
    · subst h10
      by_cases hs : v < 100
      · exact app_small g v hs w hA
      · exact app_big g v (by omega) hv w hA hT.pow
    · exact app_other g v β h2 h36 (by simpa using fun h => h10 (by omega)) hv w hA hT.db hT.sz
  have HB := Lib.hid hB
  clear hB hA hT
  go_enter Tryd.func13, Tryd.ntmps13
  go_wp2_with (go_at_call 14; refine (HB.out).mono ?_; rintro e w' ⟨b, n, cap, rfl, hN⟩)
  go_ret
  exact ⟨b, n, cap, rfl, hN⟩

def zeros20 : Array Value := Array.replicate 20 (.int .u8 0)
theorem zero32 (W : World) : Sem.run Tryd.prog (zeroValue 32) W = .ok (.agg zeros20) W := by kernel_rfl
theorem slice20 (N : Nat) (W : World) : (Instr.sliceAt 32 (.pointer (some ⟨N, 0, none⟩)) none (some (.int .i64 0)) none).run Tryd.prog W = .ok (.slice (some ⟨N, 0, none⟩) 0 20) W := by
  have hal : Tryd.prog.arrayLen 32 = 20 := by kernel_rfl
  rw [run_sliceAt_array_h W 32 ⟨N, 0, none⟩ (by simp [Program.arrayLen, Program.elem, Tryd.underlying32]) .i64 0 (by omega) (by rw [hal]; omega), hal]
  have hs : (Go.sizeOf (Tryd.prog.elem 32)).run Tryd.prog W = .ok 1 W := by kernel_rfl
  rw [hs]
  simp [Result.andThen, slicedAt, Addr.add_lit]

theorem pad_start {w w1 : World} {v0 : Value} {B m β u n b1 : Nat} {xs : List Value} (o : Obj) (hown : w.ownsRow B 5 1 v0 m xs) (hN : Num (w.alloc o) w1 w.heap.size β u n b1) : Pad w v0 b1 (digCells β u n) B m xs v0 w1 := by
  have hg : w.grownBy w1 none := by
    refine ⟨hN.grown.os, hN.grown.tape, hN.grown.output, by have := hN.grown.size; simp at this; omega, fun k hk _ => ?_⟩
    rw [hN.grown.block k (by simp; omega) (by simp; omega)]
    exact Lib.alloc_old w o k hk
  have hb1 : w.heap.size ≤ b1 := by have := hN.place; simp at this; omega
  refine ⟨hown.kept hg ?_, hN.cells, hN.lt, fun e => ?_, grown_none hg, fun k hk => .inl hk.symm⟩
  · cases h : v0.ownBlock with
    | none => exact .inl rfl
    | some x => exact .inr (by simp)
  · have := (hown.lt _ e).2; omega

/-- The digits behind the zeros. -/
def padCells (β u n : Nat) (width : Int) : List Value := List.replicate (width - n).toNat (.int .u8 48) ++ digCells β u n

theorem padCells_length (β u n : Nat) (width : Int) : (padCells β u n width).length = (width - n).toNat + n := by simp [padCells, digCells_length]

/-- What appendPadded leaves. -/
def PadPost (w : World) (v0 : Value) (B m : Nat) (xs : List Value) (u β : Nat) (width : Int) (e : Ending) (w' : World) : Prop :=
  ∃ v n, e = .returned v ∧ IsNd β u n ∧ w'.ownsRow B 5 1 v (m + ((width - n).toNat + n)) (xs ++ padCells β u n width) ∧ w.grownBy w' v0.ownBlock

theorem padPost_mk {w : World} {v0 : Value} {B m k n b1 : Nat} {xs : List Value} {u β : Nat} {width : Int} {v : Value} {w' : World} (hI : IsNd β u n) (hk : k = (width - n).toNat)
    (P : Pad w v0 b1 (digCells β u n) B (m + k + n) (xs ++ List.replicate k (.int .u8 48) ++ digCells β u n) v w') : PadPost w v0 B m xs u β width (.returned v) w' := by
  subst hk
  refine ⟨v, n, rfl, hI, ?_, P.grown⟩
  have := P.own
  rw [List.append_assoc] at this
  rw [← Nat.add_assoc]
  exact this

set_option maxHeartbeats 2000000 in
theorem pad_any (B m : Nat) (v0 : Value) (xs : List Value) (u β : Nat) (width : Int) (w : World) (hown : w.ownsRow B 5 1 v0 m xs) (hB : B ≤ w.heap.size) (hm : m ≤ 65536) (h2 : 2 ≤ β) (h36 : β ≤ 36) (hu : u < 18446744073709551616)
    (hw0 : -65536 ≤ width) (hw1 : width ≤ 65536) (hT : Tabs w) :
    Calls Tryd.prog 12 #[v0, .int .u64 u, .int .i64 β, .int .i64 width] w fun e w' => PadPost w v0 B m xs u β width e w' := by
  have hz := zero32
  have hsl := slice20 w.heap.size
  have HA : Hid (Arr20 (w.alloc (.cells zeros20 32)) w.heap.size) := ⟨zeros20, 32, heap_alloc_new w _, by simp [zeros20]⟩
  have HT := Lib.hid (hT.alloc (.cells zeros20 32))
  have HO := Lib.hid hown
  clear hown hT
  go_enter Tryd.func12, Tryd.ntmps12
  go_wp2_with (go_at_call 13; refine (app_any w.heap.size u β h2 h36 hu _ HA.out HT.out).mono ?_; rintro e w1 ⟨b1, n, cap, rfl, hN⟩; have hn64 := hN.nd.le64 h2 hu; have hn1 := hN.nd.pos)
  have P0 := pad_start _ HO.out hN
  have HI := Lib.hid hN.nd
  clear hN HA HT hz hsl HO
  have hdl := digCells_length β u n
  go_loopw [0, 19] (fun v i wr => ∃ k : Nat, k ≤ (width - n).toNat ∧ i = .int .i64 k ∧ Pad w v0 b1 (digCells β u n) B (m + k) (xs ++ List.replicate k (.int .u8 48)) v wr) (fun _ i _ => (width - n).toNat - (intOf i).toNat)
  case atStart => exact ⟨0, Nat.zero_le _, rfl, by simpa using P0⟩
  case round =>
    obtain ⟨k, hk, rfl, P⟩ := hrel
    clear P0
    by_cases hlt : (k : Int) < width - n
    · have P2 := P.alloc (.cells #[.int .u8 48] 5)
      have hBs : B ≤ (wr.alloc (.cells #[.int .u8 48] 5)).heap.size := by have := P2.grown.size; omega
      go_wp2_with (at_builtin; refine wpList_append_loc rfl _ _ rfl B _ (m + k) _ rfl P2.own ⟨wr.heap.size, 0, none⟩ 1 1 [.int .u8 48] rfl rfl ?c1 ?c2 ?c3 hBs ?_; rotate_right; intro v' w' hown' hgr' hloc'; have P3 := P2.step hown' hgr' hloc'; clear hown' hgr' hloc')
      case c1 =>
        intro j x hj
        match j, hj with
        | 0, hj => simp at hj; subst hj; simp [Addr.add]
      case c2 => intro x hx; simp at hx; subst hx; rfl
      case c3 => omega
      go_roundw
      case rel => exact ⟨k + 1, by omega, by go_num, by rw [List.replicate_succ', ← List.append_assoc]; exact P3⟩
      case measure => simp [intOf]; omega
    · go_wp2_with (at_builtin; refine wpList_append_loc rfl _ _ rfl B _ (m + k) _ rfl P.own ⟨b1, 0, none⟩ n cap (digCells β u n) rfl hdl ?e1 ?e2 ?e3 (by have := P.grown.size; omega) ?_; rotate_right; intro v' w' hown' hgr' hloc'; have P3 := P.step hown' hgr' hloc'; clear hown' hgr' hloc')
      case e1 =>
        intro j x hj
        have := P.cells j x hj
        first | exact this | (rw [Addr.add_lit, Nat.zero_add]; exact this)
      case e2 => exact digCells_one β u n
      case e3 => omega
      go_ret
      exact padPost_mk HI.out (by omega) P3

set_option maxHeartbeats 400000 in
theorem zzpad_any (B m : Nat) (v0 : Value) (xs : List Value) (u β : Nat) (width : Int) (w : World) (hown : w.ownsRow B 5 1 v0 m xs) (hB : B ≤ w.heap.size) (hm : m ≤ 65536) (h2 : 2 ≤ β) (h36 : β ≤ 36) (hu : u < 18446744073709551616)
    (hw0 : -65536 ≤ width) (hw1 : width ≤ 65536) (hT : Tabs w) :
    Calls Tryd.prog 7 #[v0, .int .u64 u, .int .i64 β, .int .i64 width] w fun e w' => PadPost w v0 B m xs u β width e w' := by
  have HC := Lib.hid (pad_any B m v0 xs u β width w hown hB hm h2 h36 hu hw0 hw1 hT)
  clear hown hT
  go_enter Tryd.func7, Tryd.ntmps7
  go_wp2_with (go_at_call 12; refine (HC.out).mono ?_; rintro e w' ⟨v, n, rfl, h1, h2, h3⟩)
  go_ret
  exact ⟨v, n, rfl, h1, h2, h3⟩

end Go.Proofs.Qxb6000387aDoor
