/-
  A map of strings that the call makes, said key by key; and the walks of the small helpers.
-/
import Derived.Test.Qxb6001143aRows
import Derived.WalkKit
import Derived.WalkSpells
import Derived.WalkLawsBesides
import Derived.WalkSmall
import Derived.Maps.OwnSet
import Derived.Maps.StringElems
import Derived.Lib.Hide
import Derived.RegionTactic
import Derived.ChangeAlike
namespace Go.Proofs.Qxb6001143a
open Go.RowKit Go.Maps Go.WideMaps Go.WideElems

theorem law : Keyed Try.prog 9 := string_keyed Try.underlying9
theorem zero34 (w : World) : (zeroValue 34).run Try.prog w = .ok (.string ⟨#[]⟩) w := by kernel_rfl
theorem key_at (s : ByteArray) (hs : s.size ≤ maxLen) : keyOf Try.prog 9 (.string s) = some (.string s.data.toList) := keyOf_string_mk Try.underlying9 hs

/-- Block b is a map that answers as g. -/
def MapIs (w : World) (b n : Nat) (g : List UInt8 → Option (List UInt8)) : Prop :=
  ∃ D : DataW Unit, w.ownsMap Try.prog 9 (plainElem Try.prog 34) b n D ∧ ∀ key : List UInt8, has D (.string key) = (g key).isSome ∧ D.atKey (.string key) (.lit (.string [])) = .lit (.string ((g key).getD []))

theorem MapIs.made (w : World) : MapIs (w.alloc (.map #[] 0)) w.heap.size 0 (fun _ => none) :=
  ⟨.map [], World.ownsMap_made _ _ _ _, fun _ => ⟨rfl, rfl⟩⟩

theorem MapIs.drew {w : World} {b n : Nat} {g : List UInt8 → Option (List UInt8)} (h : MapIs w b n g) : MapIs w.drew b n g := h

theorem MapIs.lt {w : World} {b n : Nat} {g : List UInt8 → Option (List UInt8)} (h : MapIs w b n g) : b < w.heap.size := by
  obtain ⟨D, hD, _⟩ := h
  exact hD.lt

theorem zero_reads : plainElem (H := Unit) Try.prog 34 (.string ⟨#[]⟩) = some (.lit (.string []), []) := plainElem_string Try.underlying34 (by unfold maxLen; exact Nat.zero_le _)

theorem MapIs.look {w : World} {b n : Nat} {g : List UInt8 → Option (List UInt8)} (h : MapIs w b n g) (s : ByteArray) (hs : s.size ≤ maxLen) :
    ∃ v : ByteArray, (Instr.lookup 31 (.map (some b)) (.string s) true).run Try.prog w = .ok (.tuple #[.string v, .bool (g s.data.toList).isSome]) w ∧ v.data.toList = (g s.data.toList).getD [] := by
  obtain ⟨D, hD, hg⟩ := h
  obtain ⟨v, ps, hrun, hv⟩ := hD.look_ok law Try.underlying31 (zero34 w) zero_reads (key_at s hs)
  rw [(hg s.data.toList).1] at hrun
  obtain ⟨x, rfl, hx, _⟩ := plainElem_string_inv Try.underlying34 hv
  refine ⟨x, hrun, ?_⟩
  rw [(hg s.data.toList).2] at hx
  simp only [Prod.mk.injEq, DataW.lit.injEq, Lit.string.injEq] at hx
  exact hx.1.symm

theorem MapIs.store {w : World} {b n : Nat} {g : List UInt8 → Option (List UInt8)} (h : MapIs w b n g) (hn : n < maxLen) (s v : ByteArray) (hs : s.size ≤ maxLen) (hv : v.size ≤ maxLen) :
    ∃ w', (Instr.mapUpdate 31 (.map (some b)) (.string s) (.string v)).run Try.prog w = .ok () w' ∧ MapIs w' b (n + 1) (fun key => if key = s.data.toList then some v.data.toList else g key) ∧ w.grownBy w' (some b) := by
  obtain ⟨D, hD, hg⟩ := h
  obtain ⟨w', hrun, r1, r2⟩ := hD.update law Try.underlying31 hn (key_at s hs) (plainElem_string Try.underlying34 hv)
  have hm := hD.isMap
  refine ⟨w', hrun, ⟨_, r1, fun key => ?_⟩, r2⟩
  dsimp only
  by_cases e : key = s.data.toList
  · subst e
    rw [if_pos rfl, has_put_same hm (law.key (key_at s hs)), atKey_put_same hm (law.key (key_at s hs))]
    exact ⟨rfl, rfl⟩
  · have hne : (Lit.string key) ≠ Lit.string s.data.toList := fun h => e (by simpa using h)
    rw [if_neg e, has_put_other hne, atKey_put_other hne]
    exact hg key

/-- "close". -/
def closeS : ByteArray := { data := #[99, 108, 111, 115, 101] }

/-- What 'of' answers. -/
def ofIs (g : List UInt8 → Option (List UInt8)) (s : ByteArray) : List UInt8 := (g s.data.toList).getD closeS.data.toList

def OfPost (w : World) (g : List UInt8 → Option (List UInt8)) (s : ByteArray) (e : Ending) (w' : World) : Prop := ∃ r : ByteArray, e = .returned (.string r) ∧ r.data.toList = ofIs g s ∧ w' = w

set_option maxHeartbeats 400000 in
theorem of_any (b n : Nat) (g : List UInt8 → Option (List UInt8)) (s : ByteArray) (hs : s.size ≤ maxLen) (w : World) (h : MapIs w b n g) : Calls Try.prog 15 #[.map (some b), .string s] w fun e w' => OfPost w g s e w' := by
  obtain ⟨v, hrun, hv⟩ := h.look s hs
  have HV := Lib.hid hv
  clear h hv
  cases hg : (g s.data.toList) with
  | none =>
    rw [hg] at hrun
    have HG := Lib.hid hg
    clear hg
    simp only [Option.isSome_none] at hrun
    go_enter Try.func15, Try.ntmps15
    go_wp2
    go_ret
    exact ⟨closeS, rfl, by rw [ofIs, HG.out]; rfl, rfl⟩
  | some x =>
    rw [hg] at hrun
    have HG := Lib.hid hg
    clear hg
    simp only [Option.isSome_some] at hrun
    go_enter Try.func15, Try.ntmps15
    go_wp2
    go_ret
    exact ⟨v, rfl, by rw [ofIs, HG.out, HV.out, HG.out]; rfl, rfl⟩

set_option maxHeartbeats 400000 in
theorem zzof_any (b n : Nat) (g : List UInt8 → Option (List UInt8)) (s : ByteArray) (hs : s.size ≤ maxLen) (w : World) (h : MapIs w b n g) : Calls Try.prog 13 #[.map (some b), .string s] w fun e w' => OfPost w g s e w' := by
  have HC := Lib.hid (of_any b n g s hs w h)
  clear h
  go_enter Try.func13, Try.ntmps13
  go_wp2_with (go_at_call 15; refine (HC.out).mono ?_; rintro e w' ⟨r, rfl, hr, rfl⟩)
  go_ret
  exact ⟨r, rfl, hr, rfl⟩

end Go.Proofs.Qxb6001143a
