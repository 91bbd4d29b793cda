/-
  DERIVED. The shelf's contracts laid at this seat's dump (out of lay-shelf.mjs and lay-plain.mjs; two layings, 166 and 167, typed by hand).
-/
import Derived.Shelf.Strings.Builder1
import Derived.Shelf.Strings.Builder2
import Derived.Shelf.Strings.BuilderF
import Derived.Shelf.Strings.BuilderK
import Derived.Shelf.Strings.Builder2Cap
import Derived.Shelf.Strconv.Itoa0
import Derived.Shelf.Strconv.Itoa1
import Derived.Shelf.LaysM
import Derived.Shelf.Strconv.Itoa2
import Derived.Shelf.Strconv.Itoa3
import Derived.Shelf.Strings.BuilderCap
import Derived.Test.Qxb6000049aDoorProg
namespace Go.Proofs
open Go.Shelf
def Tryd.lays169_ren : Go.Shelf.Ren := ⟨fun | 169 => 18 | n => n, fun | 70 => 40 | 9 => 9 | 0 => 0 | 72 => 43 | 37 => 41 | 127 => 51 | 3 => 3 | 5 => 5 | n => n, fun | n => n⟩
theorem Tryd.lays169 : Go.Proofs.Lays.n169 Tryd.prog Tryd.lays169_ren := {
  mixed := by kernel_rfl
  f169 := Tryd.func18.trans (congrArg some (by kernel_rfl))
  t0 := Tryd.underlying0
  a0 := Tryd.isAgg0
  z0 := Tryd.sizeOf0
  v0 := Tryd.zeroValue0
  t3 := Tryd.underlying3
  a3 := Tryd.isAgg3
  z3 := Tryd.sizeOf3
  v3 := Tryd.zeroValue3
  t9 := Tryd.underlying9
  a9 := Tryd.isAgg9
  z9 := Tryd.sizeOf9
  v9 := Tryd.zeroValue9
  t37 := Tryd.underlying41
  a37 := Tryd.isAgg41
  z37 := Tryd.sizeOf41
  v37 := Tryd.zeroValue41
  t70 := Tryd.underlying40
  a70 := Tryd.isAgg40
  z70 := Tryd.sizeOf40
  v70 := Tryd.zeroValue40
  t72 := Tryd.underlying43
  a72 := Tryd.isAgg43
  z72 := Tryd.sizeOf43
  v72 := Tryd.zeroValue43
  t127 := Tryd.underlying51
  a127 := Tryd.isAgg51
  z127 := Tryd.sizeOf51
  v127 := Tryd.zeroValue51 }
theorem Tryd.Builder_Extra_169 : Builder.Extra Tryd.prog Tryd.lays169_ren := {
  sizeBuilder := by kernel_rfl
  liesBuilder := by kernel_rfl
  t5 := Tryd.underlying5
  a5 := Tryd.isAgg5
  z5 := Tryd.sizeOf5
  v5 := Tryd.zeroValue5
  infoByte := by kernel_rfl
  cellsByte := by kernel_rfl
  sizeByte := by kernel_rfl
  neB5 := by decide }
def Tryd.lays165_ren : Go.Shelf.Ren := ⟨fun | 165 => 14 | 240 => 19 | 241 => 20 | 276 => 22 | 277 => 23 | n => n, fun | 70 => 40 | 3 => 3 | 0 => 0 | 4 => 4 | 9 => 9 | 20 => 20 | 72 => 43 | 37 => 41 | 164 => 52 | 5 => 5 | n => n, fun | n => n⟩
theorem Tryd.lays165 : Go.Proofs.Lays.n165 Tryd.prog Tryd.lays165_ren := {
  mixed := by kernel_rfl
  f165 := Tryd.func14.trans (congrArg some (by kernel_rfl))
  f240 := Tryd.func19.trans (congrArg some (by kernel_rfl))
  f241 := Tryd.func20.trans (congrArg some (by kernel_rfl))
  f276 := Tryd.func22.trans (congrArg some (by kernel_rfl))
  f277 := Tryd.func23.trans (congrArg some (by kernel_rfl))
  t0 := Tryd.underlying0
  a0 := Tryd.isAgg0
  z0 := Tryd.sizeOf0
  v0 := Tryd.zeroValue0
  t3 := Tryd.underlying3
  a3 := Tryd.isAgg3
  z3 := Tryd.sizeOf3
  v3 := Tryd.zeroValue3
  t4 := Tryd.underlying4
  a4 := Tryd.isAgg4
  z4 := Tryd.sizeOf4
  v4 := Tryd.zeroValue4
  t9 := Tryd.underlying9
  a9 := Tryd.isAgg9
  z9 := Tryd.sizeOf9
  v9 := Tryd.zeroValue9
  t20 := Tryd.underlying20
  a20 := Tryd.isAgg20
  z20 := Tryd.sizeOf20
  v20 := Tryd.zeroValue20
  t37 := Tryd.underlying41
  a37 := Tryd.isAgg41
  z37 := Tryd.sizeOf41
  v37 := Tryd.zeroValue41
  t70 := Tryd.underlying40
  a70 := Tryd.isAgg40
  z70 := Tryd.sizeOf40
  v70 := Tryd.zeroValue40
  t72 := Tryd.underlying43
  a72 := Tryd.isAgg43
  z72 := Tryd.sizeOf43
  v72 := Tryd.zeroValue43
  t164 := Tryd.underlying52
  a164 := Tryd.isAgg52
  z164 := Tryd.sizeOf52
  v164 := Tryd.zeroValue52 }
theorem Tryd.Builder_Extra_165 : Builder.Extra Tryd.prog Tryd.lays165_ren := {
  sizeBuilder := by kernel_rfl
  liesBuilder := by kernel_rfl
  t5 := Tryd.underlying5
  a5 := Tryd.isAgg5
  z5 := Tryd.sizeOf5
  v5 := Tryd.zeroValue5
  infoByte := by kernel_rfl
  cellsByte := by kernel_rfl
  sizeByte := by kernel_rfl
  neB5 := by decide }
open Go.RowKit in
/-- (*strings.Builder).Grow AT A BUILDER THAT HAS NOT BEEN WRITTEN ('var b strings.Builder; b.Grow(n)'): "Grow grows b's capacity, if necessary, to guarantee space for another n bytes.": it holds no byte behind it as before it. (LAID: no walk: one application.) -/
theorem Tryd.Builder_Grow_fresh (B b n : Nat) (w : World) (hB : B ≤ b) (hbk : w.heap[b]? = some (.cells #[.pointer none, .slice none 0 0] 43 (0, 0))) (hBw : B ≤ w.heap.size) (hn : n ≤ 281474976710656) :
    Calls Tryd.prog 14 #[.pointer (some ⟨b, 0, none⟩), .int .i64 n] w fun e w' => e = .returned (.tuple #[]) ∧ (Lib.BuilderAt 43 5 B b (.pointer (some ⟨b, 0, none⟩)) [] w' ∧ Below B w w') := Any.Builder_Grow_fresh Tryd.lays165 Tryd.Builder_Extra_165 B b n w hB hbk hBw hn
open Go.RowKit in
/-- (*strings.Builder).String: "String returns the accumulated string.": WHATEVER THE BUILDER HOLDS; THE FORM '_k': OVER 'Lib.IsBuilderF' (a builder that 'String()' may have read), AND WITH THE FRAME THAT REACHES ABOVE THE BUILDER: 'Lib.OthersKept': every block that is not b and is no row of uint8's stands as it stood: the iterator of a range among them. (LAID: no walk: one application.) -/
theorem Tryd.Builder_String_any_k (B b : Nat) (l : List UInt8) (w : World) (h : Lib.IsBuilderF 43 5 B b (Lib.byteCells l) w) (hBw : B ≤ w.heap.size) :
    Calls Tryd.prog 18 #[.pointer (some ⟨b, 0, none⟩)] w fun e w' => e = .returned (.string ⟨l.toArray⟩) ∧ (Lib.IsBuilderF 43 5 B b (Lib.byteCells l) w' ∧ Below B w w' ∧ Lib.OthersKept 5 (some b) w w') := Any.Builder_String_any_k Tryd.lays169 Tryd.Builder_Extra_169 B b l w h hBw
def Tryd.laysM171_ren : Go.Shelf.Ren := ⟨fun | 171 => 16 | 243 => 21 | 246 => 24 | 283 => 25 | 284 => 26 | 285 => 27 | 286 => 28 | 129 => 30 | 317 => 29 | 318 => 31 | 319 => 32 | 320 => 33 | 337 => 34 | 338 => 35 | n => n, fun | 3 => 3 | 9 => 9 | 2 => 2 | 4 => 4 | 171 => 56 | 0 => 0 | 53 => 57 | 37 => 41 | 5 => 5 | 173 => 60 | 212 => 64 | 51 => 65 | 20 => 20 | 213 => 66 | 46 => 68 | 232 => 71 | 233 => 72 | n => n, fun | 17 => 1 | 18 => 2 | 19 => 3 | n => n⟩
theorem Tryd.laysM171 : Go.Proofs.LaysM.n171 Tryd.prog Tryd.laysM171_ren := {
  mixed := by kernel_rfl
  f129 := Tryd.func30.trans (congrArg some (by kernel_rfl))
  f171 := Tryd.func16.trans (congrArg some (by kernel_rfl))
  f243 := Tryd.func21.trans (congrArg some (by kernel_rfl))
  f246 := Tryd.func24.trans (congrArg some (by kernel_rfl))
  f283 := Tryd.func25.trans (congrArg some (by kernel_rfl))
  f284 := Tryd.func26.trans (congrArg some (by kernel_rfl))
  f285 := Tryd.func27.trans (congrArg some (by kernel_rfl))
  f286 := Tryd.func28.trans (congrArg some (by kernel_rfl))
  f317 := Tryd.func29.trans (congrArg some (by kernel_rfl))
  f318 := Tryd.func31.trans (congrArg some (by kernel_rfl))
  f319 := Tryd.func32.trans (congrArg some (by kernel_rfl))
  f320 := Tryd.func33.trans (congrArg some (by kernel_rfl))
  f337 := Tryd.func34.trans (congrArg some (by kernel_rfl))
  f338 := Tryd.func35.trans (congrArg some (by kernel_rfl))
  t0 := Tryd.underlying0
  a0 := Tryd.isAgg0
  z0 := Tryd.sizeOf0
  v0 := Tryd.zeroValue0
  t2 := Tryd.underlying2
  a2 := Tryd.isAgg2
  z2 := Tryd.sizeOf2
  v2 := Tryd.zeroValue2
  t3 := Tryd.underlying3
  a3 := Tryd.isAgg3
  z3 := Tryd.sizeOf3
  v3 := Tryd.zeroValue3
  t4 := Tryd.underlying4
  a4 := Tryd.isAgg4
  z4 := Tryd.sizeOf4
  v4 := Tryd.zeroValue4
  t5 := Tryd.underlying5
  a5 := Tryd.isAgg5
  z5 := Tryd.sizeOf5
  v5 := Tryd.zeroValue5
  t9 := Tryd.underlying9
  a9 := Tryd.isAgg9
  z9 := Tryd.sizeOf9
  v9 := Tryd.zeroValue9
  t20 := Tryd.underlying20
  a20 := Tryd.isAgg20
  z20 := Tryd.sizeOf20
  v20 := Tryd.zeroValue20
  t37 := Tryd.underlying41
  a37 := Tryd.isAgg41
  z37 := Tryd.sizeOf41
  v37 := Tryd.zeroValue41
  t46 := Tryd.underlying68
  a46 := Tryd.isAgg68
  z46 := Tryd.sizeOf68
  v46 := Tryd.zeroValue68
  t51 := Tryd.underlying65
  a51 := Tryd.isAgg65
  z51 := Tryd.sizeOf65
  v51 := Tryd.zeroValue65
  t53 := Tryd.underlying57
  a53 := Tryd.isAgg57
  z53 := Tryd.sizeOf57
  v53 := Tryd.zeroValue57
  t171 := Tryd.underlying56
  a171 := Tryd.isAgg56
  z171 := Tryd.sizeOf56
  v171 := Tryd.zeroValue56
  t173 := Tryd.underlying60
  a173 := Tryd.isAgg60
  z173 := Tryd.sizeOf60
  v173 := Tryd.zeroValue60
  t212 := Tryd.underlying64
  a212 := Tryd.isAgg64
  z212 := Tryd.sizeOf64
  v212 := Tryd.zeroValue64
  t213 := Tryd.underlying66
  a213 := Tryd.isAgg66
  z213 := Tryd.sizeOf66
  t232 := Tryd.underlying71
  a232 := Tryd.isAgg71
  z232 := Tryd.sizeOf71
  v232 := Tryd.zeroValue71
  t233 := Tryd.underlying72
  a233 := Tryd.isAgg72
  z233 := Tryd.sizeOf72
  v233 := Tryd.zeroValue72
  g17 := by kernel_rfl
  g18 := by kernel_rfl
  g19 := by kernel_rfl
  i0 := by kernel_rfl
  i2 := by kernel_rfl
  i3 := by kernel_rfl
  i4 := by kernel_rfl
  i5 := by kernel_rfl
  i9 := by kernel_rfl
  i20 := by kernel_rfl
  i37 := by kernel_rfl
  i46 := by kernel_rfl
  i51 := by kernel_rfl
  i53 := by kernel_rfl
  i171 := by kernel_rfl
  i173 := by kernel_rfl
  i212 := by kernel_rfl
  i232 := by kernel_rfl
  i233 := by kernel_rfl
  m17 := by kernel_rfl
  m18 := by kernel_rfl
  m19 := by kernel_rfl }
def Tryd.lays167_ren : Go.Shelf.Ren := ⟨fun | 167 => 17 | 240 => 19 | 276 => 22 | n => n, fun | 0 => 0 | 3 => 3 | 4 => 4 | 5 => 5 | 9 => 9 | 20 => 20 | 37 => 41 | 70 => 40 | 72 => 43 | 75 => 46 | 80 => 31 | 164 => 52 | n => n, fun | n => n⟩
theorem Tryd.lays167 : Go.Proofs.Lays.n167 Tryd.prog Tryd.lays167_ren := {
  mixed := by kernel_rfl
  f167 := Tryd.func17.trans (congrArg some (by kernel_rfl))
  f240 := Tryd.func19.trans (congrArg some (by kernel_rfl))
  f276 := Tryd.func22.trans (congrArg some (by kernel_rfl))
  t0 := Tryd.underlying0
  a0 := Tryd.isAgg0
  z0 := Tryd.sizeOf0
  v0 := Tryd.zeroValue0
  t4 := Tryd.underlying4
  a4 := Tryd.isAgg4
  z4 := Tryd.sizeOf4
  v4 := Tryd.zeroValue4
  t5 := Tryd.underlying5
  a5 := Tryd.isAgg5
  z5 := Tryd.sizeOf5
  v5 := Tryd.zeroValue5
  t9 := Tryd.underlying9
  a9 := Tryd.isAgg9
  z9 := Tryd.sizeOf9
  v9 := Tryd.zeroValue9
  t20 := Tryd.underlying20
  a20 := Tryd.isAgg20
  z20 := Tryd.sizeOf20
  v20 := Tryd.zeroValue20
  t37 := Tryd.underlying41
  a37 := Tryd.isAgg41
  z37 := Tryd.sizeOf41
  v37 := Tryd.zeroValue41
  t70 := Tryd.underlying40
  a70 := Tryd.isAgg40
  z70 := Tryd.sizeOf40
  v70 := Tryd.zeroValue40
  t72 := Tryd.underlying43
  a72 := Tryd.isAgg43
  z72 := Tryd.sizeOf43
  v72 := Tryd.zeroValue43
  t75 := Tryd.underlying46
  a75 := Tryd.isAgg46
  z75 := Tryd.sizeOf46
  v75 := Tryd.zeroValue46
  t164 := Tryd.underlying52
  a164 := Tryd.isAgg52
  z164 := Tryd.sizeOf52
  v164 := Tryd.zeroValue52 }
theorem Tryd.Builder_Extra_167 : Builder.Extra Tryd.prog Tryd.lays167_ren := {
  sizeBuilder := by kernel_rfl
  liesBuilder := by kernel_rfl
  t5 := Tryd.underlying5
  a5 := Tryd.isAgg5
  z5 := Tryd.sizeOf5
  v5 := Tryd.zeroValue5
  infoByte := by kernel_rfl
  cellsByte := by kernel_rfl
  sizeByte := by kernel_rfl
  neB5 := by decide }
def Tryd.lays166_ren : Go.Shelf.Ren := ⟨fun | 166 => 15 | 240 => 19 | 276 => 22 | n => n, fun | 0 => 0 | 3 => 3 | 4 => 4 | 5 => 5 | 9 => 9 | 20 => 20 | 37 => 41 | 70 => 40 | 72 => 43 | 75 => 46 | 80 => 31 | 164 => 52 | n => n, fun | n => n⟩
theorem Tryd.lays166 : Go.Proofs.Lays.n166 Tryd.prog Tryd.lays166_ren := {
  mixed := by kernel_rfl
  f166 := Tryd.func15.trans (congrArg some (by kernel_rfl))
  f240 := Tryd.func19.trans (congrArg some (by kernel_rfl))
  f276 := Tryd.func22.trans (congrArg some (by kernel_rfl))
  t0 := Tryd.underlying0
  a0 := Tryd.isAgg0
  z0 := Tryd.sizeOf0
  v0 := Tryd.zeroValue0
  t3 := Tryd.underlying3
  a3 := Tryd.isAgg3
  z3 := Tryd.sizeOf3
  v3 := Tryd.zeroValue3
  t4 := Tryd.underlying4
  a4 := Tryd.isAgg4
  z4 := Tryd.sizeOf4
  v4 := Tryd.zeroValue4
  t9 := Tryd.underlying9
  a9 := Tryd.isAgg9
  z9 := Tryd.sizeOf9
  v9 := Tryd.zeroValue9
  t20 := Tryd.underlying20
  a20 := Tryd.isAgg20
  z20 := Tryd.sizeOf20
  v20 := Tryd.zeroValue20
  t37 := Tryd.underlying41
  a37 := Tryd.isAgg41
  z37 := Tryd.sizeOf41
  v37 := Tryd.zeroValue41
  t70 := Tryd.underlying40
  a70 := Tryd.isAgg40
  z70 := Tryd.sizeOf40
  v70 := Tryd.zeroValue40
  t72 := Tryd.underlying43
  a72 := Tryd.isAgg43
  z72 := Tryd.sizeOf43
  v72 := Tryd.zeroValue43
  t75 := Tryd.underlying46
  a75 := Tryd.isAgg46
  z75 := Tryd.sizeOf46
  v75 := Tryd.zeroValue46
  t164 := Tryd.underlying52
  a164 := Tryd.isAgg52
  z164 := Tryd.sizeOf52
  v164 := Tryd.zeroValue52 }
theorem Tryd.Builder_Extra_166 : Builder.Extra Tryd.prog Tryd.lays166_ren := {
  sizeBuilder := by kernel_rfl
  liesBuilder := by kernel_rfl
  t5 := Tryd.underlying5
  a5 := Tryd.isAgg5
  z5 := Tryd.sizeOf5
  v5 := Tryd.zeroValue5
  infoByte := by kernel_rfl
  cellsByte := by kernel_rfl
  sizeByte := by kernel_rfl
  neB5 := by decide }
open Go.RowKit in
/-- WriteByte, laid by hand. -/
theorem Tryd.Builder_WriteByte_k (B b : Nat) (bs : List Value) (c : Int) (w : World) (h : Lib.IsBuilderF 43 5 B b bs w) (hlen : bs.length + 1 ≤ 140737488355328) (hBw : B ≤ w.heap.size) :
    Calls Tryd.prog 17 #[.pointer (some ⟨b, 0, none⟩), .int .u8 c] w fun e w' => e = .returned .nilIface ∧ (Lib.BuilderAtF 43 5 B b (.pointer (some ⟨b, 0, none⟩)) (bs ++ [.int .u8 c]) w' ∧ Below B w w' ∧ Lib.OthersKept 5 (some b) w w') := Any.Builder_WriteByte_k Tryd.lays167 Tryd.Builder_Extra_167 B b bs c w h hlen hBw
open Go.RowKit in
/-- WriteString, laid by hand. -/
theorem Tryd.Builder_WriteString_k (B b : Nat) (bs : List Value) (s : ByteArray) (w : World) (h : Lib.IsBuilderF 43 5 B b bs w) (hlen : bs.length + s.size ≤ 140737488355328) (hBw : B ≤ w.heap.size) :
    Calls Tryd.prog 15 #[.pointer (some ⟨b, 0, none⟩), .string s] w fun e w' => e = .returned (.tuple #[.int .i64 s.size, .nilIface]) ∧ (Lib.BuilderAtF 43 5 B b (.pointer (some ⟨b, 0, none⟩)) (bs ++ Lib.strCells s) w' ∧ Below B w w' ∧ Lib.OthersKept 5 (some b) w w') := Any.Builder_WriteString_k Tryd.lays166 Tryd.Builder_Extra_166 B b bs s w h hlen hBw
end Go.Proofs
