/-
  Opening a slice of strings that came in.
-/
import Derived.Test.Qxb6001143aBuild
import Derived.ProofKit
import Derived.SizedLaws
import Derived.OpenShut
namespace Go.Proofs.Qxb6001143a
open Go.ChangeShapes Go.WideShapes Go.ChangeAt Go.RowKit
open Go.WideMaps Go.WideElems

theorem Try.own : ownKnob Try.prog.godebug = none := by kernel_rfl
theorem Try.laidOut : laidOutB Try.prog = true := by kernel_rfl
theorem Try.cells9 : Try.prog.cellsOf 9 = 1 := by kernel_rfl
theorem Try.bytes9 : Try.prog.bytesOf 9 = 16 := by kernel_rfl

theorem block_lt {w : World} {a : Addr} {v : Value} (h : w.cell? a = some v) : a.block < w.heap.size := by
  unfold World.cell? at h
  by_cases hlt : a.block < w.heap.size
  · exact hlt
  · simp [Array.getElem?_eq_none (Nat.le_of_not_lt hlt)] at h

theorem strs_of {w : World} {a : Addr} {n : Nat} {ss : List ByteArray} (hn : n ≤ ss.length) (h : ∀ i, i < ss.length → w.cell? (a.add i) = some (.string (ss.getD i ByteArray.empty))) :
    StrsAt w (some a) n (fun i => ss.getD i ByteArray.empty) := fun h0 => by
  obtain ⟨b, off, spot⟩ := a
  have hspot : spot = none := by simpa [Addr.add] using World.cell?_spot (h 0 (by omega))
  subst hspot
  refine ⟨b, off, rfl, ?_, fun k hk => by rw [← Go.WideShapes.add_plain]; exact h k (by omega)⟩
  have := block_lt (h 0 (by omega))
  simpa [Addr.add] using this

/-- What the walks ask of a slice of strings that came in. -/
theorem strs_view {H : Type} {enc : TypeId × Value → H} {W : World} {base : Nat} {sp : Nat → Bool} {held : Bool} {fuel : Nat} {ao : Option Addr} {n c : Nat} {x : DataW H × List MemPlace}
    (h : DataW.trod enc Try.prog W base sp held fuel 27 [.slice ao n c] = some x) (hsp : ∀ b, sp b = true) :
    ∃ (nm : Nat → ByteArray) (ss : List ByteArray), StrsAt W ao n nm ∧ (∀ k, k < n → (nm k).size ≤ maxLen) ∧ n ≤ c ∧ ss.length = c ∧ (x.1 = .nil ∧ c = 0 ∨ x.1 = .slice (strs (ss.take n)) (strs (ss.drop n))) := by
  rcases open_strings Try.underlying27 Try.underlying9 Try.cells9 h with ⟨hcs, hx⟩ | ⟨a, len, cap, ss, hcs, _, hl, hm, hz, hx, hcell, hws⟩
  · simp only [List.cons.injEq, Value.slice.injEq, and_true] at hcs
    obtain ⟨rfl, rfl, rfl⟩ := hcs
    exact ⟨fun _ => ByteArray.empty, [], fun h => absurd h (by omega), fun k hk => absurd hk (by omega), Nat.le_refl _, rfl, .inl ⟨by rw [hx], rfl⟩⟩
  · simp only [List.cons.injEq, Value.slice.injEq, and_true] at hcs
    obtain ⟨rfl, rfl, rfl⟩ := hcs
    rw [hsp, if_pos rfl] at hz
    refine ⟨fun i => ss.getD i ByteArray.empty, ss, strs_of (by omega) hcell, fun k hk => ?_, hl, hz, .inr (by rw [hx])⟩
    have hk2 : k < ss.length := by omega
    have := hws _ (List.getElem_mem hk2)
    simp only [List.getD_eq_getElem?_getD, List.getElem?_eq_getElem hk2, Option.getD_some]
    exact this

end Go.Proofs.Qxb6001143a
