/-
  The walk of FnOfUpdateTouchesOnlyItsSecurity.
-/
import Derived.Test.Qxb6001143aAssocW
namespace Go.Proofs.Qxb6001143a
open Go.RowKit Go.Maps

/-- The map behind the update. -/
def upd (g : List UInt8 → Option (List UInt8)) (k v : ByteArray) : List UInt8 → Option (List UInt8) := fun key => if key = k.data.toList then some v.data.toList else g key

theorem of_upd_same (g : List UInt8 → Option (List UInt8)) (k v : ByteArray) : ofIs (upd g k v) k = v.data.toList := by
  show ((if k.data.toList = k.data.toList then some v.data.toList else g k.data.toList).getD _) = _
  rw [if_pos rfl]; rfl
theorem of_upd_other (g : List UInt8 → Option (List UInt8)) (k v p : ByteArray) (h : p ≠ k) : ofIs (upd g k v) p = ofIs g p := by
  show ((if p.data.toList = k.data.toList then some v.data.toList else g p.data.toList).getD _) = _
  rw [if_neg (fun e => h (bytes_ext e))]; rfl

set_option maxHeartbeats 1000000 in
theorem upd_true (ao av : Option Addr) (n c nv cv : Nat) (ks vs : Nat → ByteArray) (k v p : ByteArray) (w : World) (hK : StrsAt w ao n ks) (hV : StrsAt w av nv vs) (hn : n ≤ 1000000000000000) (hnv : nv ≤ 1000000000000000)
    (hsk : ∀ k, k < n → (ks k).size ≤ maxLen) (hsv : ∀ k, k < nv → (vs k).size ≤ maxLen) (hk : k.size ≤ maxLen) (hv : v.size ≤ maxLen) (hp : p.size ≤ maxLen) :
    Calls Try.prog 5 #[.slice ao n c, .slice av nv cv, .string k, .string v, .string p] w fun e w' => e = .returned (.bool true) ∧ Below w.heap.size w w' := by
  have e0 : maxLen = 9223372036854775807 := by unfold maxLen; rfl
  have G := Lib.hid (guard14 ao av n c nv cv ks vs k v p w hK hV hn hnv (by rw [← e0]; exact hsk) (by rw [← e0]; exact hsv) (by rw [← e0]; exact hk) (by rw [← e0]; exact hv) (by rw [← e0]; exact hp))
  have S1 := Lib.hid (strBytes_any ao n c ks w hK hn (by rw [← e0]; exact hsk))
  have S2 := Lib.hid (strBytes_any av nv cv vs w hV hnv (by rw [← e0]; exact hsv))
  by_cases h1 : n ≤ 65536 ∧ nv ≤ 65536 ∧ k.size ≤ 1048576 ∧ v.size ≤ 1048576 ∧ p.size ≤ 1048576
  · obtain ⟨h1, h2, h3, h4, h5⟩ := h1
    have BB := Lib.hid (build_any ao av n c nv cv ks vs w hK hV h1 h2 hsk hsv)
    have HKK := Lib.hid hk
    have HVV := Lib.hid hv
    have HPP := Lib.hid hp
    clear hK hV hsk hsv hk hv hp e0
    go_enter Try.func5, Try.ntmps5
    go_wp2_with fail
    refine (G.out).mono ?_
    rintro e w' ⟨⟨r, rfl⟩, hw⟩
    have hw2 := hw.symm
    subst hw2
    clear hw
    go_wp2_with fail
    · go_ret; exact ⟨rfl, Below.refl _ _⟩
    refine (S1.out).mono ?_
    rintro e w' ⟨⟨z1, rfl, hz1, hz1b⟩, hw⟩
    have hw2 := hw.symm
    subst hw2
    clear hw
    go_wp2_with fail
    refine (S2.out).mono ?_
    rintro e w' ⟨⟨z2, rfl, hz2, hz2b⟩, hw⟩
    have hw2 := hw.symm
    subst hw2
    clear hw
    go_wp2_with fail
    · go_ret; exact ⟨rfl, Below.refl _ _⟩
    refine (BB.out).mono ?_
    rintro e w1 ⟨rfl, hM, hb⟩
    generalize hgg : lastP ks vs (min n nv) = g at hM
    clear hgg G S1 S2 BB
    obtain ⟨w2, hrun, hM2, hg2⟩ := hM.store (by unfold maxLen; omega) k v HKK.out HVV.out
    have O1 := Lib.hid (zzof_any _ _ _ p HPP.out w1 hM)
    have O2 := Lib.hid (zzof_any _ _ (upd g k v) k HKK.out w2 hM2)
    have O3 := Lib.hid (zzof_any _ _ (upd g k v) p HPP.out w2 hM2)
    have HB : Hid (Below w.heap.size w w2) := hb.grown hg2 hb.size (fun j hj => by cases hj; exact Nat.le_refl _)
    clear hM hM2 hg2 hb
    go_wp2_with fail
    refine (O1.out).mono ?_
    rintro e w' ⟨x1, rfl, hx1, hw⟩
    have hw2 := hw.symm
    subst hw2
    clear hw
    go_wp2_with fail
    refine (O2.out).mono ?_
    rintro e w' ⟨x2, rfl, hx2, hw⟩
    have hw2 := hw.symm
    subst hw2
    clear hw
    have e2 : x2 = v := bytes_ext (hx2.trans (of_upd_same g k v))
    subst e2
    have HX1 := Lib.hid hx1
    clear hx1 hx2 O1 O2
    go_wp2_with fail
    refine (O3.out).mono ?_
    rintro e w' ⟨x3, rfl, hx3, hw⟩
    have hw2 := hw.symm
    subst hw2
    clear hw
    by_cases hpk : p = k
    · have hbq := beq_yes hpk
      have HE : Hid (x3 = x2) := by
        show x3 = x2
        rw [hpk] at hx3
        exact bytes_ext (hx3.trans (of_upd_same g k x2))
      clear hx3 hpk O3
      go_wp2
      go_ret
      exact ⟨ret_true HE.out, HB.out⟩
    · have hbq := beq_no hpk
      have HE : Hid (x3 = x1) := by
        show x3 = x1
        exact bytes_ext (hx3.trans ((of_upd_other g k x2 p hpk).trans HX1.out.symm))
      clear hx3 hpk O3
      go_wp2
      go_ret
      exact ⟨ret_true HE.out, HB.out⟩
  · clear hK hV hsk hsv hk hv hp e0
    go_enter Try.func5, Try.ntmps5
    go_wp2_with fail
    refine (G.out).mono ?_
    rintro e w' ⟨⟨r, rfl⟩, hw⟩
    have hw2 := hw.symm
    subst hw2
    clear hw
    go_wp2_with fail
    all_goals (go_ret; exact ⟨rfl, Below.refl _ _⟩)

end Go.Proofs.Qxb6001143a
