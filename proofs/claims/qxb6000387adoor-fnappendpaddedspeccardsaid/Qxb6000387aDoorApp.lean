/-
  The walk of strconv.AppendUint at base 2 to 36, onto the empty head of an array of 20.
-/
import Derived.Test.Qxb6000387aDoorPow
import Derived.Lib.AppendIntMem
import Derived.Lib.AppendStr
import Derived.Lib.ItoaMem
namespace Go.Proofs.Qxb6000387aDoor
open Go.RowKit Go.Sort

/-- strconv's table of powers of ten holds what its text lays. -/
def PowTab (w : World) : Prop := Lib.TabIs Tryd.prog w (Rows.fnAppendPaddedSpecRow.named.headD "") .u64 Lib.pow10Tab

/-- The array of 20 in block g. -/
def Arr20 (w : World) (g : Nat) : Prop := ∃ cur e, w.heap[g]? = some (.cells cur e (0, 0)) ∧ cur.size = 20

theorem Arr20.lt {w : World} {g : Nat} (h : Arr20 w g) : g < w.heap.size := by
  obtain ⟨cur, e, hg, _⟩ := h
  exact (Array.getElem?_eq_some_iff.1 hg).1
theorem Arr20.cell {w : World} {g : Nat} (h : Arr20 w g) : ∀ x, x < 20 → (w.cell? ⟨g, x, none⟩).isSome = true := fun x hx => by
  obtain ⟨cur, e, hg, hc⟩ := h
  rw [Lib.cell_of_heap hg, Array.getElem?_eq_getElem (by omega)]; rfl
theorem Arr20.free {w : World} {g : Nat} (h : Arr20 w g) : ∀ x, x < 20 → w.frozen? ⟨g, x, none⟩ = false := fun x _ => by
  obtain ⟨cur, e, hg, hc⟩ := h
  exact Lib.frozen_of_heap hg x

theorem append_str (w : World) (ty g : Nat) (cur : Array Value) (e : TypeId) (hg : w.heap[g]? = some (.cells cur e (0, 0))) (hc : cur.size = 20) (s : ByteArray) (hs : s.size ≤ 20) :
    (Builtin.append_ #[22, 9] ty #[.slice (some ⟨g, 0, none⟩) 0 20, .string s]).run Tryd.prog w =
      .ok (.slice (some ⟨g, 0, none⟩) s.size 20) (w.setRow g (Lib.strCells s ++ cur.toList.drop s.size).toArray) := by
  obtain ⟨i0, hi, hz0, hz1, hz2⟩ := info_parts Tryd.info5
  have hf := Lib.run_firstCells_string (P := Tryd.prog) w 1 s
  have hst := run_storeCells_at (P := Tryd.prog) g 0 e (Lib.strCells s) 0 cur w hg (by rw [Lib.strCells_length]; omega) (Lib.strCells_oneCell s)
  simp only [Nat.add_zero, Nat.zero_add, Lib.strCells_length, List.take_zero, List.nil_append] at hst
  simp [Builtin.append_, run_underlying Tryd.underlying22, run_underlying Tryd.underlying9, sizeOf, typeInfo, hi, hz1, Builtin.lenOf, hf, Addr.add_lit, hst, hs]

theorem wpList_app_str {w : World} {ops : Array Oper} {rest : List Oper} {o : Oper} {a : Act} {Q : Exit → Act → World → Prop} (hgd : o.guard = none) (sl x : Operand)
    (ho : o.op = .call { callee := .builtin .append, args := #[sl, x], argTypes := #[22, 9] }) (g : Nat) (cur : Array Value) (e : TypeId) (hg : w.heap[g]? = some (.cells cur e (0, 0))) (hc : cur.size = 20)
    (hs : a.eval sl = .slice (some ⟨g, 0, none⟩) 0 20) (s : ByteArray) (hx : a.eval x = .string s) (hsz : s.size ≤ 20)
    (h : wpList Tryd.prog ops Q rest (a.put o.dst (.slice (some ⟨g, 0, none⟩) s.size 20)) (w.setRow g (Lib.strCells s ++ cur.toList.drop s.size).toArray)) : wpList Tryd.prog ops Q (o :: rest) a w := by
  refine wpList_plain hgd fun K hK => ?_
  have hr := append_str w o.type g cur e hg hc s hsz
  unfold Oper.wp execOp
  simp only [ho, resolve, invoke, builtin, Sem.run_bind, Sem.run_pure, Result.andThen_ok, List.map_toArray, List.map_cons, List.map_nil, hs, hx, hr]
  exact hK _ _ h

theorem num_setRow {w : World} {g β v n : Nat} {cur : Array Value} {e : TypeId} (hg : w.heap[g]? = some (.cells cur e (0, 0))) (hn : IsNd β v n) (r : List Value) :
    Num w (w.setRow g (digCells β v n ++ r).toArray) g β v n g := by
  have hlt := (Array.getElem?_eq_some_iff.1 hg).1
  refine ⟨hn, fun x u hx => ?_, ⟨rfl, rfl, rfl, by simp, fun k _ hk => setRow_other _ _ _ _ (fun h => hk (by rw [h]))⟩, .inl rfl, by simpa using hlt⟩
  rw [cell_setRow_same _ _ _ _ _ _ _ hg]
  have := (List.getElem?_eq_some_iff.1 hx).1
  rw [List.getElem?_toArray, List.getElem?_append_left this]
  exact hx

set_option maxHeartbeats 1000000 in
theorem app_small (g v : Nat) (hv : v < 100) (w : World) (hA : Arr20 w g) :
    Calls Tryd.prog 14 #[.slice (some ⟨g, 0, none⟩) 0 20, .int .u64 v, .int .i64 10] w fun e w' => ∃ b n cap, e = .returned (.slice (some ⟨b, 0, none⟩) n cap) ∧ Num w w' g 10 v n b := by
  obtain ⟨cur, e, hg, hc⟩ := hA
  have hsz : (⟨(Lib.decDigits v).toArray⟩ : ByteArray).size = Lib.nDigits v := by show (Lib.decDigits v).toArray.size = _; simp [Lib.decDigits_length]
  have hle : Lib.nDigits v ≤ 20 := (isNd_10 v).le64 (by omega) (by omega) |> fun _ => by
    by_cases h10 : v < 10
    · rw [Lib.nDigits_small h10]; omega
    · rw [Lib.nDigits_big h10, Lib.nDigits_small (show v / 10 < 10 by omega)]; omega
  have e1 : (Lib.strCells ⟨(Lib.decDigits v).toArray⟩ ++ cur.toList.drop (⟨(Lib.decDigits v).toArray⟩ : ByteArray).size).toArray = (digCells 10 v (Lib.nDigits v) ++ cur.toList.drop (Lib.nDigits v)).toArray := by
    rw [hsz, Lib.strCells_toArray, byteCells_dec]
  have hN := Lib.hid (num_setRow (β := 10) (v := v) hg (isNd_10 v) (cur.toList.drop (Lib.nDigits v)))
  have HG := Lib.hid hg
  have HS := Lib.hid hsz
  have HE := Lib.hid e1
  clear hg hsz e1
  go_enter Tryd.func14, Tryd.ntmps14
  go_wp2_with (first
    | (go_at_call 15; refine (Tryd.internal_strconv_small v hv _).mono ?_; rintro e w' ⟨rfl, rfl⟩)
    | (at_builtin; refine wpList_app_str rfl _ _ rfl g cur e HG.out hc rfl ⟨(Lib.decDigits v).toArray⟩ rfl (by rw [HS.out]; exact hle) ?_; rw [HE.out, HS.out]))
  go_ret
  exact ⟨g, _, 20, rfl, hN.out⟩

theorem numDigits_any (u : Nat) (h1 : 1 ≤ u) (h64 : u < 18446744073709551616) (w : World) (ht : PowTab w) :
    Calls Tryd.prog 16 #[.int .u64 u] w fun e w' => e = .returned (.int .i64 (Lib.nDigits u)) ∧ w' = w :=
  Any.internal_strconv_numDigits Tryd.laysM284 u h1 h64 w ht

theorem slice24 (N n : Nat) (hn : n ≤ 24) (W : World) : (Instr.sliceAt 35 (.pointer (some ⟨N, 0, none⟩)) none (some (.int .i64 (n : Int))) none).run Tryd.prog W = .ok (.slice (some ⟨N, 0, none⟩) n 24) W := by
  have hal : Tryd.prog.arrayLen 35 = 24 := by kernel_rfl
  rw [run_sliceAt_array_h W 35 ⟨N, 0, none⟩ (by simp [Program.arrayLen, Program.elem, Tryd.underlying35]) .i64 (n : Int) (by omega) (by rw [hal]; omega), hal]
  have hs : (Go.sizeOf (Tryd.prog.elem 35)).run Tryd.prog W = .ok 1 W := by kernel_rfl
  rw [hs]
  simp only [Result.andThen, slicedAt, Int.toNat_natCast]
  rw [if_neg (by omega), Nat.zero_mul, Addr.add_lit, Nat.zero_add, Nat.sub_zero, Nat.sub_zero]

set_option maxHeartbeats 2000000 in
theorem app_big (g v : Nat) (hv : 100 ≤ v) (hv64 : v < 18446744073709551616) (w : World) (hA : Arr20 w g) (htab : PowTab w) :
    Calls Tryd.prog 14 #[.slice (some ⟨g, 0, none⟩) 0 20, .int .u64 v, .int .i64 10] w fun e w' => ∃ b n cap, e = .returned (.slice (some ⟨b, 0, none⟩) n cap) ∧ Num w w' g 10 v n b := by
  obtain ⟨i0, hi, hz0, hz1, hz2⟩ := info_parts Tryd.info5
  have hg := hA.lt
  have H1 := Lib.hid hA.cell
  have H2 := Lib.hid hA.free
  have hnd20 : Lib.nDigits v ≤ 20 := by have := Lib.numDigits_eq v (by omega) hv64; split at this <;> omega
  have hsl := slice24 w.heap.size (Lib.nDigits v) (by omega)
  have hH0 := Lib.holds_zero0 w 35 (Lib.nDigits v) (by omega)
  have hfmt := Tryd.internal_strconv_formatBase10 w.heap.size 0 24 v (Array.replicate (Lib.nDigits v) 0) (w.alloc (.cells Lib.zeros24 35)) hH0 (by rw [Array.size_replicate]; exact Lib.lt_pow_nDigits v) hv64 (by rw [Array.size_replicate]; omega)
  rw [Array.size_replicate] at hfmt
  have HH0 := Lib.hid hH0
  have HF := Lib.hid hfmt
  have iu : (100 : Int) ≤ (v : Int) := by omega
  have HT : Hid (PowTab (w.alloc (.cells Lib.zeros24 35))) := Lib.tabIs_alloc htab _
  clear hH0 hfmt hA htab
  go_enter Tryd.func14, Tryd.ntmps14
  go_wp2_with (first
    | (go_at_call 16; refine (numDigits_any v (by omega) hv64 _ HT.out).mono ?_; rintro e w' ⟨rfl, rfl⟩))
  refine (HF.out).mono ?_
  rintro e w' ⟨rfl, k, v', dk, rfl, hF⟩
  have hcells : ∀ j u', (digCells 10 v (Lib.nDigits v))[j]? = some u' → ((putRow (fun (b : UInt8) => Value.int .u8 (b.toNat : Int)) (w.alloc (.cells Lib.zeros24 35)) w.heap.size 0 dk).drewN k).cell? ((⟨w.heap.size, 0, none⟩ : Addr).add j) = some u' := by
    intro j u' hj
    rw [← byteCells_dec] at hj
    have hjl : j < (Lib.decDigits v).length := by
      have h5 := (List.getElem?_eq_some_iff.1 hj).1
      rwa [Lib.byteCells_length] at h5
    have e5 : (Lib.byteCells (Lib.decDigits v))[j]? = some (Value.int .u8 ((Lib.decDigits v)[j].toNat : Int)) := by simp [Lib.byteCells, hjl]
    rw [e5] at hj
    cases hj
    rw [Lib.row_is_numeral hF j hjl, Lib.add_plain, World.cell?_drewN]
    exact cell?_putRow (fun (b : UInt8) => Value.int .u8 (b.toNat : Int)) _ w.heap.size 0 _ dk HH0.out (by rw [hF.size, Array.size_replicate]) j (by rw [hF.size]; rw [Lib.decDigits_length] at hjl; exact hjl)
  obtain ⟨os, eo⟩ := Lib.fin_at w (.cells Lib.zeros24 35) dk k 0
  have hnx2 : Below w.heap.size w ((putRow (fun (b : UInt8) => Value.int .u8 (b.toNat : Int)) (w.alloc (.cells Lib.zeros24 35)) w.heap.size 0 dk).drewN k) := by rw [eo]; exact Lib.below_grow w.heap.size w (Nat.le_refl _) k os
  generalize (putRow (fun (b : UInt8) => Value.int .u8 (b.toNat : Int)) (w.alloc (.cells Lib.zeros24 35)) w.heap.size 0 dk).drewN k = WX at hcells hnx2 ⊢
  have hsp := Lib.hid (spare_of hnx2 hg H1.out H2.out)
  have HC := Lib.hid hcells
  clear eo HH0 HF hcells H1 H2 HT hF
  go_wp2_with (at_builtin; refine wpList_append_arg _ rfl _ _ 22 rfl 5 i0 (.int .u8 0) 1 1 Tryd.underlying22 hi hz0 hz1 hz2 rfl (by decide) g 0 0 20 [] rfl rfl (by simp) ⟨w.heap.size, 0, none⟩ (Lib.nDigits v) 24 (digCells 10 v (Lib.nDigits v)) rfl ?d1 ?d2 ?d3 ?d4 ?d5 ?d6 ?d7 ?d8)
  case d1 => rw [digCells_length, Nat.mul_one]
  case d2 => exact HC.out
  case d3 => exact digCells_one 10 v _
  case d4 => intro hr x hx; rw [digCells_length] at hx; rw [show 0 + 0 * 1 + x = x by omega]; exact hsp.out x (by omega)
  case d5 => unfold maxLen; omega
  case d6 => omega
  case d8 => intro hr; exact absurd hr (by omega)
  have hN := Lib.hid (num_room (isNd_10 v) hnx2 hg (fun x hx => (hsp.out x (by omega)).1))
  clear HC hsp hnx2
  go_wp2
  go_ret
  exact ⟨g, Lib.nDigits v, 20, by simp, hN.out⟩

set_option maxHeartbeats 1000000 in
theorem app_other (g v β : Nat) (h2 : 2 ≤ β) (h36 : β ≤ 36) (h10 : ((β : Int) == 10) = false) (hv : v < 18446744073709551616) (w : World) (hA : Arr20 w g) (hT : TabAt 2 Lib.deBruijn64tab w) (hsz : 2 < w.heap.size) :
    Calls Tryd.prog 14 #[.slice (some ⟨g, 0, none⟩) 0 20, .int .u64 v, .int .i64 β] w fun e w' => ∃ b n cap, e = .returned (.slice (some ⟨b, 0, none⟩) n cap) ∧ Num w w' g β v n b := by
  have hB : Calls Tryd.prog 18 #[.slice (some ⟨g, 0, none⟩) 0 20, .int .u64 v, .int .i64 β, .bool false, .bool true] w fun e w' =>
      ∃ b n cap, e = .returned (.tuple #[.slice (some ⟨b, 0, none⟩) n cap, .string ⟨#[]⟩]) ∧ Num w w' g β v n b := by
    by_cases hp : notPow β
    · exact bits_general g v β h2 h36 h10 hp hv w hA.lt hA.cell hA.free
    · have : β = 2 ^ 1 ∨ β = 2 ^ 2 ∨ β = 2 ^ 3 ∨ β = 2 ^ 4 ∨ β = 2 ^ 5 := by unfold notPow at hp; omega
      rcases this with h | h | h | h | h
      · exact bits_pow g v β 1 h (by omega) (by omega) h2 h36 h10 hv w hA.lt hT hsz hA.cell hA.free
      · exact bits_pow g v β 2 h (by omega) (by omega) h2 h36 h10 hv w hA.lt hT hsz hA.cell hA.free
      · exact bits_pow g v β 3 h (by omega) (by omega) h2 h36 h10 hv w hA.lt hT hsz hA.cell hA.free
      · exact bits_pow g v β 4 h (by omega) (by omega) h2 h36 h10 hv w hA.lt hT hsz hA.cell hA.free
      · exact bits_pow g v β 5 h (by omega) (by omega) h2 h36 h10 hv w hA.lt hT hsz hA.cell hA.free
  have HB := Lib.hid hB
  clear hB hA hT
  go_enter Tryd.func14, Tryd.ntmps14
  go_wp2_with (go_at_call 18; refine (HB.out).mono ?_; rintro e w' ⟨b, n, cap, rfl, hN⟩)
  go_ret
  exact ⟨b, n, cap, rfl, hN⟩

end Go.Proofs.Qxb6000387aDoor
