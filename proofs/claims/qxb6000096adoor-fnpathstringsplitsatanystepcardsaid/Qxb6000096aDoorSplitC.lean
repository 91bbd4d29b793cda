/-
  The walk of FnPathStringSplitsAtAnyStep, where it comes to the comparison.
-/
import Derived.Test.Qxb6000096aDoorSplitB
namespace Go.Proofs.Qxb6000096aDoor
open Go.RowKit

theorem Rd.drew {w : World} {b b' n : Nat} {nm : Nat → ByteArray} {ix : Nat → Int} (h : Rd w b b' n nm ix) : Rd w.drew b b' n nm ix := ⟨h.hb, h.hb', h.cn, h.ci, h.tab, h.sz⟩

theorem ret_true {S T : ByteArray} (h : S = T) : Ending.returned (Value.bool (S.toList == T.toList)) = .returned (.bool true) := by rw [h, beq_self_eq_true]

theorem bytes_ext {S T : ByteArray} (h : S.data.toList = T.data.toList) : S = T := by
  cases S; cases T; simp at h; simp [h]

theorem Texts.dot {n k : Nat} {x : Int} {S L R : ByteArray} (h : Texts n k x S L R) (h0 : 0 < k) (h1 : 0 < n - k) (hx : x < 0) : S = L ++ { data := #[46] } ++ R := by
  apply bytes_ext
  rw [h.eq, sepText, if_pos ⟨h0, h1, hx⟩]
  simp

theorem Texts.nodot {n k : Nat} {x : Int} {S L R : ByteArray} (h : Texts n k x S L R) (h0 : ¬ (0 < k ∧ 0 < n - k ∧ x < 0)) : S = L ++ { data := #[] } ++ R := by
  apply bytes_ext
  rw [h.eq, sepText, if_neg h0]
  simp

theorem IntsAt.below {w w' : World} {ao : Option Addr} {n : Nat} {ix : Nat → Int} (h : IntsAt w ao n ix) (hb : Below w.heap.size w w') : IntsAt w' ao n ix := fun hn => by
  obtain ⟨b, o, e, hbb, hc⟩ := h hn
  have := hb.size
  exact ⟨b, o, e, by omega, fun k hk => (hb.cell (by exact hbb)).trans (hc k hk)⟩

theorem Rd.of_clones {w w1 w2 : World} {n : Nat} {nm : Nat → ByteArray} {ix : Nat → Int} (hb1 : Below w.heap.size w w1) (hz1 : w.heap.size < w1.heap.size) (hc1 : ∀ k, k < n → w1.cell? ⟨w.heap.size, k, none⟩ = some (.string (nm k)))
    (hb2 : Below w1.heap.size w1 w2) (hz2 : w1.heap.size < w2.heap.size) (hc2 : ∀ k, k < n → w2.cell? ⟨w1.heap.size, k, none⟩ = some (.int .i64 (ix k))) (htab : PowTab w) (hsz : 1 < w.heap.size) :
    Rd w2 w.heap.size w1.heap.size n nm ix :=
  ⟨by omega, hz2, fun k hk => (hb2.cell (by exact hz1)).trans (hc1 k hk), hc2, (htab.below hb1 hsz).below hb2 (by omega), by omega⟩

set_option maxHeartbeats 1000000 in
/-- 0 < k < n. -/
theorem split_mid (b o b' o' n c ci : Nat) (nm : Nat → ByteArray) (ix : Nat → Int) (len k : Nat) (w : World)
    (hS : StrsAt w (some ⟨b, o, none⟩) n nm) (hI : IntsAt w (some ⟨b', o', none⟩) n ix) (B : Bd n nm ix) (hlen : len ≤ 1048576) (hk0 : 0 < k) (hk : k < n) (hs : ∀ k, k < n → (nm k).size ≤ 9223372036854775807)
    (htab : PowTab w) (hsz : 1 < w.heap.size) :
    Calls Tryd.prog 3 #[.slice (some ⟨b, o, none⟩) n c, .slice (some ⟨b', o', none⟩) n ci, .int .i64 len, .int .i64 k] w fun e w' => e = .returned (.bool true) ∧ Below w.heap.size w w' := by
  have hn := B.n16
  have HS := Lib.hid hS
  have HI := Lib.hid hI
  have HB := Lib.hid hs
  have HT := texts_mk B (Nat.le_of_lt hk)
  have hn0 : ¬ n = 0 := by omega
  have hnk : ¬ n = k := by omega
  have C7 := Lib.hid (cloneStrings_some ⟨b, o, none⟩ n c nm w hS (by omega))
  clear hS hI hs
  go_enter Tryd.func3, Tryd.ntmps3
  go_wp2_with (first
    | (go_at_call 5; refine (guard_any _ _ n c n ci nm _ _ _ HS.out (by omega) (by omega) HB.out).mono ?_; rintro e w' ⟨⟨r, rfl, _⟩, rfl⟩)
    | (go_at_call 6; refine (small_any _ _ n c n ci nm _ HS.out (by omega) (by omega) HB.out).mono ?_; rintro e w' ⟨⟨r', rfl, hr⟩, rfl⟩; clear hr)
    | (go_at_call 7; refine (C7.out).mono ?_; rintro e w1 ⟨rfl, hb1, hz1, hc1⟩; have HC1 := Lib.hid hc1; clear hc1)
    | (go_at_call 8; refine (cloneInts_some ⟨b', o', none⟩ n ci ix _ (HI.out.below hb1) (by omega)).mono ?_; rintro e w2 ⟨rfl, hb2, hz2, hc2⟩; have HC2 := Lib.hid hc2; clear hc2))
  · go_ret; exact ⟨rfl, Below.refl _ _⟩
  · go_ret; exact ⟨rfl, Below.refl _ _⟩
  have R2 := Rd.of_clones hb1 hz1 HC1.out hb2 hz2 HC2.out htab hsz
  have hB2 : Below w'.heap.size w' w2 := hb1.trans (hb2.mono (Nat.le_of_lt hz1))
  clear HC1 HC2 HS HI HB C7 htab
  refine (zz_whole len hlen R2 B).mono ?_
  rintro e w3 ⟨rfl, hb3⟩
  have R3 := R2.below hb3
  have hB3 : Below w'.heap.size w' w3 := hB2.trans (hb3.mono hB2.size)
  clear hb3 hB2 R2 hb1 hb2
  generalize (⟨(pathText nm ix n).toArray⟩ : ByteArray) = S at HT ⊢
  go_wp2_with fail
  go_region_with (go_at_call 9; refine (zz_left (b := w'.heap.size) (b' := w1.heap.size) k n n (Nat.le_of_lt hk) R3.drew B).mono ?_; rintro e w4 ⟨rfl, hb4⟩)
  all_goals
    have R4 := R3.drew.below hb4
    have hB4 : Below w'.heap.size w' w4 := hB3.drew.trans (hb4.mono hB3.size)
    generalize (⟨(pathText nm ix k).toArray⟩ : ByteArray) = L at HT ⊢
    clear hb4 R3 hB3
    go_wp2_with fail
    go_region_with (go_at_call 9; refine (zz_right (b := w'.heap.size) (b' := w1.heap.size) k (n - k) (n - k) (Nat.le_of_lt hk) R4.drew B).mono ?_; rintro e w5 ⟨rfl, hb5⟩)
    all_goals
      have hci := (R4.drew.below hb5).ci k hk
      have hB5 : Below w'.heap.size w' w5 := hB4.drew.trans (hb5.mono hB4.size)
      generalize (⟨(pathText (fun i => nm (k + i)) (fun i => ix (k + i)) (n - k)).toArray⟩ : ByteArray) = R at HT ⊢
      clear hb5 R4 hB4
      have hTs := HT.s
      have hTl := HT.l
      have hTr := HT.r
      go_wp2
      all_goals
        go_ret
        refine ⟨?_, hB5⟩
        first
          | exact ret_true (HT.dot hk0 (by omega) (by assumption))
          | exact ret_true (HT.nodot (by omega))

end Go.Proofs.Qxb6000096aDoor
