/-
  The walk of FnPathStringSplitsAtAnyStep.
-/
import Derived.Test.Qxb6000096aDoorSmall
import Derived.Deep.RegionWith
namespace Go.Proofs.Qxb6000096aDoor
open Go.RowKit

/-- The two clones as they lie: names in block b, indexes in block b'. -/
structure Rd (w : World) (b b' n : Nat) (nm : Nat → ByteArray) (ix : Nat → Int) : Prop where
  hb : b < w.heap.size
  hb' : b' < w.heap.size
  cn : ∀ k, k < n → w.cell? ⟨b, k, none⟩ = some (.string (nm k))
  ci : ∀ k, k < n → w.cell? ⟨b', k, none⟩ = some (.int .i64 (ix k))
  tab : PowTab w
  sz : 1 < w.heap.size

theorem Rd.below {w w' : World} {b b' n : Nat} {nm : Nat → ByteArray} {ix : Nat → Int} (h : Rd w b b' n nm ix) (hb : Below w.heap.size w w') : Rd w' b b' n nm ix := by
  have := hb.size
  exact ⟨by have := h.hb; omega, by have := h.hb'; omega, fun k hk => (hb.cell (by exact h.hb)).trans (h.cn k hk), fun k hk => (hb.cell (by exact h.hb')).trans (h.ci k hk), h.tab.below hb h.sz, by have := h.sz; omega⟩

/-- What bounds the texts. -/
structure Bd (n : Nat) (nm : Nat → ByteArray) (ix : Nat → Int) : Prop where
  n16 : n ≤ 65536
  names : namesSize nm n ≤ 1048576
  lo : ∀ k, k < n → -9223372036854775808 ≤ ix k
  hi : ∀ k, k < n → ix k ≤ 9223372036854775807

theorem Bd.total {n : Nat} {nm : Nat → ByteArray} {ix : Nat → Int} (h : Bd n nm ix) : (pathText nm ix n).length ≤ 3000000 := by
  have h1 := pathText_length nm ix n h.hi
  have h2 := h.n16
  have h3 := h.names
  omega

theorem namesSize_split (nm : Nat → ByteArray) (k : Nat) : ∀ m, namesSize nm (k + m) = namesSize nm k + namesSize (fun i => nm (k + i)) m := by
  intro m
  induction m with
  | zero => rfl
  | succ m ih => rw [← Nat.add_assoc, namesSize, namesSize, ih]; omega

theorem Bd.left {n k : Nat} {nm : Nat → ByteArray} {ix : Nat → Int} (h : Bd n nm ix) (hk : k ≤ n) : Bd k nm ix :=
  ⟨by have := h.n16; omega, by have := h.names; have := namesSize_mono nm k n hk; omega, fun i hi => h.lo i (by omega), fun i hi => h.hi i (by omega)⟩

theorem Bd.right {n k : Nat} {nm : Nat → ByteArray} {ix : Nat → Int} (h : Bd n nm ix) (hk : k ≤ n) : Bd (n - k) (fun i => nm (k + i)) (fun i => ix (k + i)) := by
  have e := namesSize_split nm k (n - k)
  rw [show k + (n - k) = n by omega] at e
  exact ⟨by have := h.n16; omega, by have := h.names; omega, fun i hi => h.lo _ (by omega), fun i hi => h.hi _ (by omega)⟩

/-- The three texts, and how they hang together. -/
structure Texts (n k : Nat) (x : Int) (S L R : ByteArray) : Prop where
  eq : S.data.toList = L.data.toList ++ sepText k (n - k) x ++ R.data.toList
  s : S.size ≤ 3000000
  l : L.size ≤ 3000000
  r : R.size ≤ 3000000

theorem texts_mk {n k : Nat} {nm : Nat → ByteArray} {ix : Nat → Int} (h : Bd n nm ix) (hk : k ≤ n) :
    Texts n k (ix k) ⟨(pathText nm ix n).toArray⟩ ⟨(pathText nm ix k).toArray⟩ ⟨(pathText (fun i => nm (k + i)) (fun i => ix (k + i)) (n - k)).toArray⟩ := by
  refine ⟨?_, ?_, ?_, ?_⟩
  · have := pathText_cut nm ix k (n - k)
    rw [show k + (n - k) = n by omega] at this
    exact this
  · show (pathText nm ix n).toArray.size ≤ _
    have := h.total; simpa using this
  · show (pathText nm ix k).toArray.size ≤ _
    have := (h.left hk).total; simpa using this
  · show (pathText (fun i => nm (k + i)) (fun i => ix (k + i)) (n - k)).toArray.size ≤ _
    have := (h.right hk).total; simpa using this

theorem zz_whole {w : World} {b b' n : Nat} {nm : Nat → ByteArray} {ix : Nat → Int} (len : Nat) (hlen : len ≤ 1048576) (R : Rd w b b' n nm ix) (B : Bd n nm ix) :
    Calls Tryd.prog 9 #[.slice (some ⟨b, 0, none⟩) n n, .slice (some ⟨b', 0, none⟩) n n, .int .i64 len] w fun e w' => e = .returned (.string ⟨(pathText nm ix n).toArray⟩) ∧ Below w.heap.size w w' :=
  zz_path (some ⟨b, 0, none⟩) (some ⟨b', 0, none⟩) n n n n nm ix len w
    (fun _ => ⟨Nat.le_refl _, b, 0, b', 0, rfl, rfl, R.hb, R.hb', fun k hk => by rw [Nat.zero_add]; exact R.cn k hk, fun k hk => by rw [Nat.zero_add]; exact R.ci k hk⟩)
    hlen (by have := B.n16; omega) B.lo B.hi (by have := B.total; omega) R.tab R.sz (by have := B.n16; omega)

theorem zz_left {w : World} {b b' n : Nat} {nm : Nat → ByteArray} {ix : Nat → Int} (k c c' : Nat) (hk : k ≤ n) (R : Rd w b b' n nm ix) (B : Bd n nm ix) :
    Calls Tryd.prog 9 #[.slice (some ⟨b, 0, none⟩) k c, .slice (some ⟨b', 0, none⟩) k c', .int .i64 0] w fun e w' => e = .returned (.string ⟨(pathText nm ix k).toArray⟩) ∧ Below w.heap.size w w' :=
  zz_path (some ⟨b, 0, none⟩) (some ⟨b', 0, none⟩) k c k c' nm ix 0 w
    (fun _ => ⟨Nat.le_refl _, b, 0, b', 0, rfl, rfl, R.hb, R.hb', fun j hj => by rw [Nat.zero_add]; exact R.cn j (by omega), fun j hj => by rw [Nat.zero_add]; exact R.ci j (by omega)⟩)
    (by omega) (by have := B.n16; omega) (B.left hk).lo (B.left hk).hi (by have := (B.left hk).total; omega) R.tab R.sz (by have := B.n16; omega)

theorem zz_right {w : World} {b b' n : Nat} {nm : Nat → ByteArray} {ix : Nat → Int} (k c c' : Nat) (hk : k ≤ n) (R : Rd w b b' n nm ix) (B : Bd n nm ix) :
    Calls Tryd.prog 9 #[.slice (some ⟨b, k, none⟩) (n - k) c, .slice (some ⟨b', k, none⟩) (n - k) c', .int .i64 0] w fun e w' => e = .returned (.string ⟨(pathText (fun i => nm (k + i)) (fun i => ix (k + i)) (n - k)).toArray⟩) ∧ Below w.heap.size w w' :=
  zz_path (some ⟨b, k, none⟩) (some ⟨b', k, none⟩) (n - k) c (n - k) c' (fun i => nm (k + i)) (fun i => ix (k + i)) 0 w
    (fun _ => ⟨Nat.le_refl _, b, k, b', k, rfl, rfl, R.hb, R.hb', fun j hj => R.cn _ (by omega), fun j hj => R.ci _ (by omega)⟩)
    (by omega) (by have := B.n16; omega) (B.right hk).lo (B.right hk).hi (by have := (B.right hk).total; omega) R.tab R.sz (by have := B.n16; omega)

/-- An empty path, whatever the slices' addresses. -/
theorem zz_none {w : World} (ao ai : Option Addr) (c c' len : Nat) (hlen : len ≤ 1048576) (htab : PowTab w) (hsz : 1 < w.heap.size) :
    Calls Tryd.prog 9 #[.slice ao 0 c, .slice ai 0 c', .int .i64 len] w fun e w' => e = .returned (.string ⟨#[]⟩) ∧ Below w.heap.size w w' :=
  zz_path ao ai 0 c 0 c' (fun _ => ⟨#[]⟩) (fun _ => 0) len w (fun h => absurd h (by omega)) hlen (by omega) (fun _ h => absurd h (by omega)) (fun _ h => absurd h (by omega)) (by simp [pathText]) htab hsz (by omega)

end Go.Proofs.Qxb6000096aDoor
