/-
  The walk of internal/strconv.formatBits, at base 2 to 36, not 10, appending onto an array's head.
-/
import Derived.Test.Qxb6000387aDoorRows
import Derived.Test.Qxb6000387aDoorShelf
import Derived.Test.Qxb6000387aDoorDig
import Derived.WalkKit
import Derived.WalkSpells
import Derived.WalkLawsBesides
import Derived.WalkSmall
namespace Go.Proofs.Qxb6000387aDoor
open Go.RowKit

theorem Tryd.info5 : (Tryd.prog.info? 5).map (fun i => (i.zero, i.size, i.bytes)) = some (some (.int .u8 0), 1, 1) := by kernel_rfl

def notPow (β : Nat) : Prop := β ≠ 2 ∧ β ≠ 4 ∧ β ≠ 8 ∧ β ≠ 16 ∧ β ≠ 32

theorem pow_dec : ∀ b : Fin 37, 2 ≤ b.val → notPow b.val → (bits BinOp.and IntKind.i64 (b.val : Int) ((b.val : Int) - 1) == 0) = false := by
  unfold notPow; decide

set_option maxHeartbeats 400000 in
theorem pow_false (β : Nat) (h2 : 2 ≤ β) (h36 : β ≤ 36) (hn : notPow β) (w : World) :
    Calls Tryd.prog 22 #[.int .i64 β] w fun e w' => e = .returned (.bool false) ∧ w' = w := by
  go_enter Tryd.func22, Tryd.ntmps22
  go_wp2
  go_ret
  exact ⟨congrArg (fun b => Ending.returned (Value.bool b)) (pow_dec ⟨β, by omega⟩ h2 hn), rfl⟩

/-- The array as it is laid. -/
def zeros65 : Array Value := Array.replicate 65 (.int .u8 0)
theorem zero44 (W : World) : Sem.run Tryd.prog (zeroValue 44) W = .ok (.agg zeros65) W := by kernel_rfl

/-- The array of 65 bytes in block N: free to be written; its last j cells hold the last j digits. -/
structure Arr (w wr : World) (β v j : Nat) : Prop where
  lt : w.heap.size < wr.heap.size
  below : Below w.heap.size w wr
  cell : ∀ x, x < 65 → ∃ u, wr.cell? ⟨w.heap.size, x, none⟩ = some u
  free : ∀ x, x < 65 → wr.frozen? ⟨w.heap.size, x, none⟩ = false
  digits : ∀ t, t < j → wr.cell? ⟨w.heap.size, 64 - t, none⟩ = some (Value.int .u8 (ch (dig β v t) : Nat))

theorem zeros65_at (x : Nat) (h : x < 65) : zeros65[x]? = some (.int .u8 0) := by simp [zeros65, h]

theorem Arr.start (w : World) (β v : Nat) : Arr w (w.alloc (.cells zeros65 44)) β v 0 :=
  ⟨by simp, (Below.refl _ w).alloc (Nat.le_refl _) _, fun x hx => ⟨_, by rw [World.cell?_alloc_at _ _ _ _ rfl]; exact zeros65_at x hx⟩,
   fun x _ => World.frozen?_alloc_new _ _ _ _, fun t ht => absurd ht (by omega)⟩

theorem Arr.put {w wr : World} {β v j p : Nat} (A : Arr w wr β v j) (hp : p + j = 64) (d : Nat) (hd : d = ch (dig β v j)) : Arr w (wr.setCell ⟨w.heap.size, p, none⟩ (.int .u8 (d : Nat))) β v (j + 1) := by
  obtain ⟨u0, hu0⟩ := A.cell p (by omega)
  refine ⟨by simpa using A.lt, A.below.setCell (p := ⟨w.heap.size, p, none⟩) (Nat.le_refl _) _, fun x hx => ?_, fun x hx => by rw [World.frozen?_setCell]; exact A.free x hx, fun t ht => ?_⟩
  · by_cases e : x = p
    · subst e; exact ⟨_, World.cell?_setCell_same _ _ _ hu0⟩
    · obtain ⟨u, hu⟩ := A.cell x hx
      exact ⟨u, by rw [World.cell?_setCell_other _ _ _ _ (fun h => e (congrArg Addr.off h).symm)]; exact hu⟩
  · by_cases e : t = j
    · subst e
      rw [show 64 - t = p by omega, World.cell?_setCell_same _ _ _ hu0, hd]
    · rw [World.cell?_setCell_other _ _ _ _ (fun h => by have h1 : p = 64 - t := congrArg Addr.off h; omega)]
      exact A.digits t (by omega)

/-- Go's constant 'digits'. -/
def digitsS : ByteArray := { data := #[48, 49, 50, 51, 52, 53, 54, 55, 56, 57, 97, 98, 99, 100, 101, 102, 103, 104, 105, 106, 107, 108, 109, 110, 111, 112, 113, 114, 115, 116, 117, 118, 119, 120, 121, 122] }
theorem digit_dec : ∀ x : Fin 36, (digitsS[x.val]'(by exact x.isLt)).toNat = ch x.val := by decide
theorem digit_at (x : Nat) (h : x < digitsS.size) : (digitsS[x]'h).toNat = ch x := digit_dec ⟨x, h⟩

theorem Arr.cells {w wr : World} {β v j p : Nat} (A : Arr w wr β v (j + 1)) (hp : p + j = 64) : ∀ x u, (digCells β v (j + 1))[x]? = some u → wr.cell? ((⟨w.heap.size, p, none⟩ : Addr).add x) = some u := by
  intro x u hx
  have hl : x < j + 1 := by have := (List.getElem?_eq_some_iff.1 hx).1; rwa [digCells_length] at this
  rw [digCells_at _ _ _ _ hl] at hx
  cases hx
  have := A.digits (j - x) (by omega)
  rw [Addr.add_lit, show p + x = 64 - (j - x) by omega, show j + 1 - 1 - x = j - x by omega]
  exact this

/-- What AppendUint leaves onto the empty head of an array of 20 in block g. -/
structure Num (w w' : World) (g β v n b : Nat) : Prop where
  nd : IsNd β v n
  cells : ∀ x u, (digCells β v n)[x]? = some u → w'.cell? ⟨b, x, none⟩ = some u
  grown : w.grownBy w' (some g)
  place : b = g ∨ w.heap.size ≤ b
  lt : b < w'.heap.size

theorem grown_below {w w' : World} (h : Below w.heap.size w w') (row : Option Nat) : w.grownBy w' row := ⟨h.os, h.tape, h.output, h.size, fun k hk _ => h.block k hk⟩

theorem grown_trans {a b c : World} {row : Option Nat} (h : a.grownBy b row) (k : b.grownBy c row) : a.grownBy c row :=
  ⟨k.os.trans h.os, k.tape.trans h.tape, k.output.trans h.output, Nat.le_trans h.size k.size, fun x hx hr => (k.block x (Nat.lt_of_lt_of_le hx h.size) hr).trans (h.block x hx hr)⟩

theorem grown_none {a b : World} {row : Option Nat} (h : a.grownBy b none) : a.grownBy b row := ⟨h.os, h.tape, h.output, h.size, fun x hx _ => h.block x hx (by simp)⟩

theorem grown_setCells (g : Nat) : ∀ (vs : List Value) (o : Nat) (w : World), w.grownBy (w.setCells g o vs) (some g)
  | [], _, w => grown_below (Below.refl _ w) _
  | v :: r, o, w => grown_trans (⟨rfl, rfl, rfl, by simp, fun k _ hr => Below.heap_setCell _ _ _ _ (fun e => hr (by rw [e]))⟩ : w.grownBy (w.setCell ⟨g, o, none⟩ v) (some g)) (grown_setCells g r (o + 1) _)

theorem num_room {w WX : World} {g β v n : Nat} (hn : IsNd β v n) (hb : Below w.heap.size w WX) (hg : g < w.heap.size) (hs : ∀ x, x < n → (WX.cell? ⟨g, x, none⟩).isSome = true) :
    Num w (WX.setCells g 0 (digCells β v n)) g β v n g := by
  refine ⟨hn, fun x u hx => ?_, grown_trans (grown_below hb _) (grown_setCells g _ _ _), .inl rfl, ?_⟩
  · have hl := (List.getElem?_eq_some_iff.1 hx).1
    have hx2 := (List.getElem?_eq_some_iff.1 hx).2
    have h3 := World.cell?_setCells_in g (digCells β v n) 0 WX (fun j hj => by rw [Nat.zero_add]; rw [digCells_length] at hj; exact hs j hj) x hl
    rw [Nat.zero_add] at h3
    rw [h3, ← hx2]
  · have := (grown_setCells g (digCells β v n) 0 WX).size
    have := hb.size
    omega

theorem num_grow {w WX W' : World} {g β v n : Nat} {r : Value} (hn : IsNd β v n) (hb : Below w.heap.size w WX) (hown : W'.ownsRow WX.heap.size 5 1 r n (digCells β v n)) (hgr : WX.grownBy W' none) :
    ∃ b cap, r = .slice (some ⟨b, 0, none⟩) n cap ∧ Num w W' g β v n b := by
  have hs := hb.size
  have hp := hn.pos
  have hc := fun b (hb : r.ownBlock = some b) => hown.cells (g := b) hb
  rcases hown.2 with ⟨_, h0⟩ | ⟨b, cap, cur, rfl, hbb, hgg, _⟩
  · omega
  · refine ⟨b, cap, rfl, hn, fun x u hx => ?_, grown_trans (grown_below hb _) (grown_none hgr), .inr (by omega), (Array.getElem?_eq_some_iff.1 hgg).1⟩
    have := hc b rfl x u hx
    rwa [Addr.add_lit, Nat.zero_add] at this

theorem spare_of {w wr : World} {g : Nat} (hb : Below w.heap.size w wr) (hg : g < w.heap.size) (h1 : ∀ x, x < 20 → (w.cell? ⟨g, x, none⟩).isSome = true) (h2 : ∀ x, x < 20 → w.frozen? ⟨g, x, none⟩ = false) :
    ∀ x, x < 20 → (wr.cell? ⟨g, x, none⟩).isSome = true ∧ wr.frozen? ⟨g, x, none⟩ = false := fun x hx =>
  ⟨by rw [hb.cell (by exact hg)]; exact h1 x hx, by rw [hb.frozen (by exact hg)]; exact h2 x hx⟩

theorem digCells_one (β v n : Nat) : ∀ u ∈ digCells β v n, u.oneCell' = true := by
  intro u hu
  simp only [digCells, List.mem_map] at hu
  obtain ⟨x, _, rfl⟩ := hu
  rfl

theorem slice65 (N p j : Nat) (hp : p + j = 64) (W : World) : (Instr.sliceAt 44 (.pointer (some ⟨N, 0, none⟩)) (some (.int .i64 (p : Int))) none none).run Tryd.prog W = .ok (.slice (some ⟨N, p, none⟩) (j + 1) (j + 1)) W := by
  have hal : Tryd.prog.arrayLen 44 = 65 := by kernel_rfl
  rw [run_sliceAt_array_l W 44 ⟨N, 0, none⟩ (by simp [Program.arrayLen, Program.elem, Tryd.underlying44]) .i64 (p : Int) (by omega) (by rw [hal]; omega), hal]
  have hs : (Go.sizeOf (Tryd.prog.elem 44)).run Tryd.prog W = .ok 1 W := by kernel_rfl
  rw [hs]
  simp only [Result.andThen, slicedAt, Int.toNat_natCast, Nat.mul_one]
  rw [if_neg (by omega), Addr.add_lit, Nat.zero_add, show 65 - p = j + 1 by omega]

theorem step_facts {β v j U Q M : Nat} (hU : U = v / β ^ j) (hQ : Q = v / β ^ (j + 1)) (hM : M = Q * β) : U - M = dig β v j ∧ M ≤ U ∧ Q ≤ U := by
  subst hU hM
  rw [div_step] at hQ
  subst hQ
  have h1 := Nat.div_mul_le_self (v / β ^ j) β
  have h2 := Nat.div_le_self (v / β ^ j) β
  refine ⟨?_, h1, h2⟩
  rw [dig_eq, div_step]

set_option maxHeartbeats 1000000 in
theorem bits_general (g : Nat) (v β : Nat) (h2 : 2 ≤ β) (h36 : β ≤ 36) (h10 : ((β : Int) == 10) = false) (hn : notPow β) (hv : v < 18446744073709551616) (w : World) (hg : g < w.heap.size)
    (hsome : ∀ x, x < 20 → (w.cell? ⟨g, x, none⟩).isSome = true) (hfree : ∀ x, x < 20 → w.frozen? ⟨g, x, none⟩ = false) :
    Calls Tryd.prog 18 #[.slice (some ⟨g, 0, none⟩) 0 20, .int .u64 v, .int .i64 β, .bool false, .bool true] w fun e w' =>
      ∃ b n cap, e = .returned (.tuple #[.slice (some ⟨b, 0, none⟩) n cap, .string ⟨#[]⟩]) ∧ Num w w' g β v n b := by
  have H1 := Lib.hid hsome
  have H2 := Lib.hid hfree
  have HN := Lib.hid hn
  clear hsome hfree hn
  have e36 : (β : Int) ≤ 36 := by omega
  have hz := zero44
  have hA0 := Arr.start w β v
  go_enter Tryd.func18, Tryd.ntmps18
  go_wp2_with (go_at_call 22; refine (pow_false β h2 h36 HN.out _).mono ?_; rintro e w' ⟨rfl, rfl⟩)
  clear hz
  go_loopw [1, 13] (fun u i wr => ∃ j p U : Nat, p + j = 64 ∧ i = .int .i64 ((p : Int) + 1) ∧ u = .int .u64 U ∧ Hid (U = v / β ^ j) ∧ (j = 0 ∨ β ^ j ≤ v) ∧ Arr w wr β v j) (fun _ i _ => (intOf i).toNat)
  case atStart => exact ⟨0, 64, v, rfl, rfl, rfl, (by simp : v = v / β ^ 0), .inl rfl, hA0⟩
  case round =>
    obtain ⟨j, p, U, hp, rfl, rfl, HU, hj, A⟩ := hrel
    have hUv : U ≤ 18446744073709551615 := by have := HU.out; have := Nat.div_le_self v (β ^ j); omega
    obtain ⟨u0, hu0⟩ := A.cell p (by omega)
    have hf0 := A.free p (by omega)
    by_cases hc : β ≤ U
    · obtain ⟨Q, HQ⟩ : ∃ Q, Hid (Q = v / β ^ (j + 1)) := ⟨_, rfl⟩
      obtain ⟨M, HM⟩ : ∃ M, Hid (M = Q * β) := ⟨_, rfl⟩
      have HD : Hid (U - M = dig β v j ∧ M ≤ U ∧ Q ≤ U) := step_facts HU.out HQ.out HM.out
      have hq : (U : Int) / (β : Int) = (Q : Int) := by rw [HQ.out, HU.out, div_step]; rfl
      have hm : (Q : Int) * (β : Int) = (M : Int) := by rw [HM.out]; simp
      have hMU := HD.out.2.1
      have hQU := HD.out.2.2
      have hlt36 : U - M < 36 := by have := dig_lt h2 v j; rw [HD.out.1]; omega
      have hj63 := small_exp h2 hv (pow_step h2 (by rw [← HU.out]; exact hc))
      have hp1 : 1 ≤ p := by omega
      have A2 := Lib.hid (A.put hp (digitsS[U - M]'(by exact hlt36)).toNat ((digit_at _ _).trans (by rw [HD.out.1])))
      have hpw := pow_step h2 (show β ≤ v / β ^ j by rw [← HU.out]; exact hc)
      have HP := Lib.hid hpw
      clear hpw
      go_wp2
      go_roundw
      case rel => exact ⟨j + 1, p - 1, Q, by omega, by go_num, rfl, HQ, .inr HP.out, A2.out⟩
      case measure => simp [intOf]
    · have hU36 : U < 36 := by omega
      have A2 := A.put hp (digitsS[U]'(by exact hU36)).toNat ((digit_at _ _).trans (by rw [dig_top (by rw [← HU.out]; omega), HU.out]))
      have HI := Lib.hid (isNd_of h2 hj (show v / β ^ j < β by rw [← HU.out]; omega))
      clear hj
      have hsl := slice65 w.heap.size p j hp
      obtain ⟨i0, hi, hz0, hz1, hz2⟩ := info_parts Tryd.info5
      have hj65 : j ≤ 64 := by omega
      have hcells := Lib.hid (A2.cells hp)
      have hsp := Lib.hid (spare_of A2.below hg H1.out H2.out)
      have HA2 := Lib.hid A2
      clear A2 A hA0 H1 H2
      go_wp2_with (at_builtin; refine wpList_append_arg _ rfl _ _ 22 rfl 5 i0 (.int .u8 0) 1 1 Tryd.underlying22 hi hz0 hz1 hz2 rfl (by decide) g 0 0 20 [] rfl rfl (by simp) ⟨w.heap.size, p, none⟩ (j + 1) (j + 1) (digCells β v (j + 1)) rfl ?d1 ?d2 ?d3 ?d4 ?d5 ?d6 ?d7 ?d8)
      case d1 => rw [digCells_length, Nat.mul_one]
      case d2 => exact hcells.out
      case d3 => exact digCells_one β v (j + 1)
      case d4 => intro hr x hx; rw [digCells_length] at hx; rw [show 0 + 0 * 1 + x = x by omega]; exact hsp.out x (by omega)
      case d5 => unfold maxLen; omega
      case d6 => omega
      case d7 =>
        intro hr
        have hN := Lib.hid (num_room HI.out HA2.out.below hg (fun x hx => (hsp.out x (by omega)).1))
        clear hcells hsp HA2
        go_wp2
        go_ret2
        exact ⟨g, j + 1, 20, by simp, hN.out⟩
      case d8 =>
        intro hr v' w' hown hgr
        obtain ⟨b, cap, hv', hN⟩ := num_grow (g := g) HI.out HA2.out.below (by simpa using hown) hgr
        subst hv'
        have HNN := Lib.hid hN
        clear hcells hsp HA2 hown hgr hN
        go_wp2
        go_ret2
        exact ⟨b, j + 1, cap, rfl, HNN.out⟩

end Go.Proofs.Qxb6000387aDoor
