/-
  THE LIBRARY's CONTRACTS AT THIS PROGRAM, laid by the kit's own program (the shelf's one command and its plain mode) and cut down to the eleven that this proof uses. No walk of the library's text.
-/
import Derived.Shelf.Strings.OnBuilder
import Derived.Shelf.LaysM
import Derived.Shelf.Strconv.Itoa3
import Derived.Shelf.Slices.Equal
import Derived.Ground.Names2Prog
import Derived.Shelf.Slices.Clone
import Derived.Shelf.Slices.Empties2
import Derived.Ground.SlbCloneProg
import Derived.Shelf.Bytes.SlClone
import Derived.Shelf.Bytes.SlEqualAll
import Derived.Test.YbulkdpluDoorProg
import Derived.Test.YbulkdpluDoorRows
namespace Go.Proofs
open Go.Shelf
/-- The name of the table that strconv.Itoa reads, as the given row names it. -/
def YbulkdpluDoor.powName : String := YbulkdpluDoor.Rows.lawS5818BWholeRow.named.headD ""
def Ybad.lays156_ren : Go.Shelf.Ren := ⟨fun | 156 => 11 | 165 => 13 | 166 => 14 | 169 => 15 | 240 => 17 | 241 => 18 | 276 => 23 | 277 => 24 | n => n, fun | 31 => 22 | 9 => 9 | 3 => 3 | 4 => 4 | 0 => 0 | 20 => 20 | 72 => 41 | 76 => 45 | 70 => 39 | 37 => 24 | 75 => 44 | 127 => 49 | 164 => 56 | 5 => 5 | 80 => 47 | n => n, fun | n => n⟩
theorem Ybad.lays156 : Go.Proofs.Lays.n156 Ybad.prog Ybad.lays156_ren := {
  mixed := by kernel_rfl
  f156 := Ybad.func11.trans (congrArg some (by kernel_rfl))
  f165 := Ybad.func13.trans (congrArg some (by kernel_rfl))
  f166 := Ybad.func14.trans (congrArg some (by kernel_rfl))
  f169 := Ybad.func15.trans (congrArg some (by kernel_rfl))
  f240 := Ybad.func17.trans (congrArg some (by kernel_rfl))
  f241 := Ybad.func18.trans (congrArg some (by kernel_rfl))
  f276 := Ybad.func23.trans (congrArg some (by kernel_rfl))
  f277 := Ybad.func24.trans (congrArg some (by kernel_rfl))
  t0 := Ybad.underlying0
  a0 := Ybad.isAgg0
  z0 := Ybad.sizeOf0
  v0 := Ybad.zeroValue0
  t3 := Ybad.underlying3
  a3 := Ybad.isAgg3
  z3 := Ybad.sizeOf3
  v3 := Ybad.zeroValue3
  t4 := Ybad.underlying4
  a4 := Ybad.isAgg4
  z4 := Ybad.sizeOf4
  v4 := Ybad.zeroValue4
  t9 := Ybad.underlying9
  a9 := Ybad.isAgg9
  z9 := Ybad.sizeOf9
  v9 := Ybad.zeroValue9
  t20 := Ybad.underlying20
  a20 := Ybad.isAgg20
  z20 := Ybad.sizeOf20
  v20 := Ybad.zeroValue20
  t31 := Ybad.underlying22
  a31 := Ybad.isAgg22
  z31 := Ybad.sizeOf22
  v31 := Ybad.zeroValue22
  t37 := Ybad.underlying24
  a37 := Ybad.isAgg24
  z37 := Ybad.sizeOf24
  v37 := Ybad.zeroValue24
  t70 := Ybad.underlying39
  a70 := Ybad.isAgg39
  z70 := Ybad.sizeOf39
  v70 := Ybad.zeroValue39
  t72 := Ybad.underlying41
  a72 := Ybad.isAgg41
  z72 := Ybad.sizeOf41
  v72 := Ybad.zeroValue41
  t75 := Ybad.underlying44
  a75 := Ybad.isAgg44
  z75 := Ybad.sizeOf44
  v75 := Ybad.zeroValue44
  t76 := Ybad.underlying45
  a76 := Ybad.isAgg45
  z76 := Ybad.sizeOf45
  v76 := Ybad.zeroValue45
  t127 := Ybad.underlying49
  a127 := Ybad.isAgg49
  z127 := Ybad.sizeOf49
  v127 := Ybad.zeroValue49
  t164 := Ybad.underlying56
  a164 := Ybad.isAgg56
  z164 := Ybad.sizeOf56
  v164 := Ybad.zeroValue56 }
theorem Ybad.Builder_Extra_156 : Builder.Extra Ybad.prog Ybad.lays156_ren := {
  sizeBuilder := by kernel_rfl
  liesBuilder := by kernel_rfl
  t5 := Ybad.underlying5
  a5 := Ybad.isAgg5
  z5 := Ybad.sizeOf5
  v5 := Ybad.zeroValue5
  infoByte := by kernel_rfl
  cellsByte := by kernel_rfl
  sizeByte := by kernel_rfl
  neB5 := by decide }
open Go.RowKit in
theorem Ybad.strings_Join_none (a : Option Addr) (c : Nat) (sep : ByteArray) (w : World) :
    Calls Ybad.prog 11 #[.slice a 0 c, .string sep] w fun e w' => e = .returned (.string ⟨#[]⟩) ∧ w' = w := Any.strings_Join_none Ybad.lays156 Ybad.Builder_Extra_156 a c sep w
open Go.RowKit in
theorem Ybad.strings_Join (bk o c : Nat) (xs : List ByteArray) (sep : ByteArray) (w : World) (hcells : ∀ (j : Nat) x, xs[j]? = some x → w.cell? ⟨bk, o + j, none⟩ = some (.string x)) (hbk : bk < w.heap.size) (hN : xs.length ≤ 140737488355328) (hcap : xs.length ≤ c) (hlen : (Lib.join (xs.map (·.data.toList)) sep.data.toList).length ≤ 140737488355328) :
    Calls Ybad.prog 11 #[.slice (some ⟨bk, o, none⟩) xs.length c, .string sep] w fun e w' => e = .returned (.string ⟨(Lib.join (xs.map (·.data.toList)) sep.data.toList).toArray⟩) ∧ Below w.heap.size w w' := Any.strings_Join Ybad.lays156 Ybad.Builder_Extra_156 bk o c xs sep w hcells hbk hN hcap hlen
def Ybad.laysM171_ren : Go.Shelf.Ren := ⟨fun | 171 => 10 | 243 => 12 | 246 => 16 | 283 => 19 | 284 => 20 | 285 => 21 | 286 => 22 | 129 => 26 | 317 => 25 | 318 => 27 | 319 => 28 | 320 => 29 | 337 => 30 | 338 => 31 | n => n, fun | 3 => 3 | 9 => 9 | 2 => 2 | 4 => 4 | 171 => 50 | 0 => 0 | 53 => 51 | 37 => 24 | 5 => 5 | 173 => 54 | 212 => 61 | 51 => 23 | 20 => 20 | 213 => 62 | 46 => 31 | 232 => 66 | 233 => 67 | n => n, fun | 17 => 0 | 18 => 2 | 19 => 3 | n => n⟩
theorem Ybad.laysM171 : Go.Proofs.LaysM.n171 Ybad.prog Ybad.laysM171_ren := {
  mixed := by kernel_rfl
  f129 := Ybad.func26.trans (congrArg some (by kernel_rfl))
  f171 := Ybad.func10.trans (congrArg some (by kernel_rfl))
  f243 := Ybad.func12.trans (congrArg some (by kernel_rfl))
  f246 := Ybad.func16.trans (congrArg some (by kernel_rfl))
  f283 := Ybad.func19.trans (congrArg some (by kernel_rfl))
  f284 := Ybad.func20.trans (congrArg some (by kernel_rfl))
  f285 := Ybad.func21.trans (congrArg some (by kernel_rfl))
  f286 := Ybad.func22.trans (congrArg some (by kernel_rfl))
  f317 := Ybad.func25.trans (congrArg some (by kernel_rfl))
  f318 := Ybad.func27.trans (congrArg some (by kernel_rfl))
  f319 := Ybad.func28.trans (congrArg some (by kernel_rfl))
  f320 := Ybad.func29.trans (congrArg some (by kernel_rfl))
  f337 := Ybad.func30.trans (congrArg some (by kernel_rfl))
  f338 := Ybad.func31.trans (congrArg some (by kernel_rfl))
  t0 := Ybad.underlying0
  a0 := Ybad.isAgg0
  z0 := Ybad.sizeOf0
  v0 := Ybad.zeroValue0
  t2 := Ybad.underlying2
  a2 := Ybad.isAgg2
  z2 := Ybad.sizeOf2
  v2 := Ybad.zeroValue2
  t3 := Ybad.underlying3
  a3 := Ybad.isAgg3
  z3 := Ybad.sizeOf3
  v3 := Ybad.zeroValue3
  t4 := Ybad.underlying4
  a4 := Ybad.isAgg4
  z4 := Ybad.sizeOf4
  v4 := Ybad.zeroValue4
  t5 := Ybad.underlying5
  a5 := Ybad.isAgg5
  z5 := Ybad.sizeOf5
  v5 := Ybad.zeroValue5
  t9 := Ybad.underlying9
  a9 := Ybad.isAgg9
  z9 := Ybad.sizeOf9
  v9 := Ybad.zeroValue9
  t20 := Ybad.underlying20
  a20 := Ybad.isAgg20
  z20 := Ybad.sizeOf20
  v20 := Ybad.zeroValue20
  t37 := Ybad.underlying24
  a37 := Ybad.isAgg24
  z37 := Ybad.sizeOf24
  v37 := Ybad.zeroValue24
  t46 := Ybad.underlying31
  a46 := Ybad.isAgg31
  z46 := Ybad.sizeOf31
  v46 := Ybad.zeroValue31
  t51 := Ybad.underlying23
  a51 := Ybad.isAgg23
  z51 := Ybad.sizeOf23
  v51 := Ybad.zeroValue23
  t53 := Ybad.underlying51
  a53 := Ybad.isAgg51
  z53 := Ybad.sizeOf51
  v53 := Ybad.zeroValue51
  t171 := Ybad.underlying50
  a171 := Ybad.isAgg50
  z171 := Ybad.sizeOf50
  v171 := Ybad.zeroValue50
  t173 := Ybad.underlying54
  a173 := Ybad.isAgg54
  z173 := Ybad.sizeOf54
  v173 := Ybad.zeroValue54
  t212 := Ybad.underlying61
  a212 := Ybad.isAgg61
  z212 := Ybad.sizeOf61
  v212 := Ybad.zeroValue61
  t213 := Ybad.underlying62
  a213 := Ybad.isAgg62
  z213 := Ybad.sizeOf62
  t232 := Ybad.underlying66
  a232 := Ybad.isAgg66
  z232 := Ybad.sizeOf66
  v232 := Ybad.zeroValue66
  t233 := Ybad.underlying67
  a233 := Ybad.isAgg67
  z233 := Ybad.sizeOf67
  v233 := Ybad.zeroValue67
  g17 := by kernel_rfl
  g18 := by kernel_rfl
  g19 := by kernel_rfl
  i0 := by kernel_rfl
  i2 := by kernel_rfl
  i3 := by kernel_rfl
  i4 := by kernel_rfl
  i5 := by kernel_rfl
  i9 := by kernel_rfl
  i20 := by kernel_rfl
  i37 := by kernel_rfl
  i46 := by kernel_rfl
  i51 := by kernel_rfl
  i53 := by kernel_rfl
  i171 := by kernel_rfl
  i173 := by kernel_rfl
  i212 := by kernel_rfl
  i232 := by kernel_rfl
  i233 := by kernel_rfl
  m17 := by kernel_rfl
  m18 := by kernel_rfl
  m19 := by kernel_rfl }
open Go.RowKit Go.Sort Go.Lib in
theorem Ybad.strconv_Itoa (n : Int) (h0 : -9223372036854775808 ≤ n) (h1 : n ≤ 9223372036854775807) (w : World) (htab : Lib.TabIs Ybad.prog w YbulkdpluDoor.powName .u64 Lib.pow10Tab) :
    Calls Ybad.prog 10 #[.int .i64 n] w fun e w' => e = .returned (.string ⟨(Lib.itoa n).toArray⟩) ∧ ∃ k os, w' = grow (w.drewN k) os := Any.strconv_Itoa Ybad.laysM171 n h0 h1 w htab
def Ybad.lays193_ren : Go.Shelf.Ren := ⟨fun | 193 => 9 | n => n, fun | 31 => 22 | 9 => 9 | 4 => 4 | 3 => 3 | 0 => 0 | n => n, fun | n => n⟩
theorem Ybad.lays193 : Go.Proofs.Lays.n193 Ybad.prog Ybad.lays193_ren := {
  mixed := by kernel_rfl
  f193 := Ybad.func9.trans (congrArg some (by kernel_rfl))
  t0 := Ybad.underlying0
  a0 := Ybad.isAgg0
  z0 := Ybad.sizeOf0
  v0 := Ybad.zeroValue0
  t3 := Ybad.underlying3
  a3 := Ybad.isAgg3
  z3 := Ybad.sizeOf3
  v3 := Ybad.zeroValue3
  t4 := Ybad.underlying4
  a4 := Ybad.isAgg4
  z4 := Ybad.sizeOf4
  v4 := Ybad.zeroValue4
  t9 := Ybad.underlying9
  a9 := Ybad.isAgg9
  z9 := Ybad.sizeOf9
  v9 := Ybad.zeroValue9
  t31 := Ybad.underlying22
  a31 := Ybad.isAgg22
  z31 := Ybad.sizeOf22
  v31 := Ybad.zeroValue22 }
open Go.RowKit Go.Lib in
theorem Ybad.slices_Equal_string (b1 o1 n c b2 o2 m d : Nat) (xs ys : List ByteArray) (w : World) (hx : n ≤ xs.length) (hy : m ≤ ys.length) (hbig : n ≤ 9223372036854775807) (hbig2 : m ≤ 9223372036854775807) (hc1 : ∀ j, j < xs.length → w.cell? ⟨b1, o1 + j, none⟩ = some (.string (xs.getD j ByteArray.empty))) (hc2 : ∀ j, j < ys.length → w.cell? ⟨b2, o2 + j, none⟩ = some (.string (ys.getD j ByteArray.empty))) :
    Calls Ybad.prog 9 #[.slice (some ⟨b1, o1, none⟩) n c, .slice (some ⟨b2, o2, none⟩) m d] w fun e w' => e = .returned (.bool (decide (xs.take n = ys.take m))) ∧ ∃ q, w' = w.drewN q := Any.slices_Equal_string Ybad.lays193 b1 o1 n c b2 o2 m d xs ys w hx hy hbig hbig2 hc1 hc2
open Go.RowKit Go.Lib in
theorem Ybad.slices_Equal_string_empty (a1 a2 : Option Addr) (c m d : Nat) (w : World) (hbig2 : m ≤ 9223372036854775807) :
    Calls Ybad.prog 9 #[.slice a1 0 c, .slice a2 m d] w fun e w' => e = .returned (.bool (decide (m = 0))) ∧ w' = w := Any.slices_Equal_string_empty Ybad.lays193 a1 a2 c m d w hbig2
def Ybad.laysNm216_ren : Go.Shelf.Ren := ⟨fun | 16 => 5 | n => n, fun | 24 => 22 | 9 => 9 | 4 => 4 | n => n, fun | n => n⟩
theorem Ybad.laysNm216 : Go.Proofs.Lays2.n16 Ybad.prog Ybad.laysNm216_ren := {
  mixed := by kernel_rfl
  f16 := Ybad.func5.trans (congrArg some (by kernel_rfl))
  t4 := Ybad.underlying4
  a4 := Ybad.isAgg4
  z4 := Ybad.sizeOf4
  v4 := Ybad.zeroValue4
  t9 := Ybad.underlying9
  a9 := Ybad.isAgg9
  z9 := Ybad.sizeOf9
  v9 := Ybad.zeroValue9
  t24 := Ybad.underlying22
  a24 := Ybad.isAgg22
  z24 := Ybad.sizeOf22
  v24 := Ybad.zeroValue22
  i9 := by kernel_rfl }
open Go.RowKit Go.Lib in
theorem Ybad.slices_Clone_string (b off n c : Nat) (zs : List ByteArray) (w : World) (hz : n ≤ zs.length) (hbig : n * 16 ≤ 140737488355328) (hc : ∀ j, j < zs.length → w.cell? ⟨b, off + j, none⟩ = some (.string (zs.getD j ByteArray.empty))) :
    Calls Ybad.prog 5 #[.slice (some ⟨b, off, none⟩) n c] w fun e w' => ∃ v', e = .returned v' ∧ w'.ownsRow w.heap.size 9 1 v' n ((zs.take n).map (Value.string)) ∧ v' ≠ .slice none 0 0 ∧ Below w.heap.size w w' := Any.slices_Clone_string Ybad.laysNm216 b off n c zs w hz hbig hc
open Go.RowKit Go.Lib in
theorem Ybad.slices_Clone_string_nil (n c : Nat) (w : World) :
    Calls Ybad.prog 5 #[.slice none n c] w fun e w' => e = .returned (.slice none 0 0) ∧ w' = w := Any.slices_Clone_string_nil Ybad.laysNm216 n c w
open Go.RowKit Go.Lib in
theorem Ybad.slices_Clone_string_zero (a : Addr) (c : Nat) (w : World) :
    Calls Ybad.prog 5 #[.slice (some a) 0 c] w fun e w' => ∃ v', e = .returned v' ∧ w'.ownsRow w.heap.size 9 1 v' 0 [] ∧ v' ≠ .slice none 0 0 ∧ Below w.heap.size w w' := Any.slices_Clone_string_zero Ybad.laysNm216 a c w
def Ybad.laysSlK4_ren : Go.Shelf.Ren := ⟨fun | 4 => 4 | n => n, fun | 22 => 24 | 4 => 4 | 5 => 5 | n => n, fun | n => n⟩
theorem Ybad.laysSlK4 : Go.Proofs.SlLaysK.n4 Ybad.prog Ybad.laysSlK4_ren := {
  mixed := by kernel_rfl
  f4 := Ybad.func4.trans (congrArg some (by kernel_rfl))
  t4 := Ybad.underlying4
  a4 := Ybad.isAgg4
  z4 := Ybad.sizeOf4
  v4 := Ybad.zeroValue4
  t22 := Ybad.underlying24
  a22 := Ybad.isAgg24
  z22 := Ybad.sizeOf24
  v22 := Ybad.zeroValue24
  t5 := Ybad.underlying5
  i5 := by kernel_rfl }
open Go.RowKit Go.Lib in
theorem Ybad.bytes_Clone_at (a : Addr) (n c : Nat) (xs : List Int) (w : World) (hx : xs.length = n) (hbig : n ≤ 140737488355328) (hc : ∀ i, i < n → w.cell? (a.add i) = some (.int .u8 (xs.getD i 0))) :
    Calls Ybad.prog 4 #[.slice (some a) n c] w fun e w' => ∃ v', e = .returned v' ∧ w'.ownsRow w.heap.size 5 1 v' n (xs.map (Value.int .u8)) ∧ v' ≠ .slice none 0 0 ∧ Below w.heap.size w w' := Any.bytes_Clone_at Ybad.laysSlK4 a n c xs w hx hbig hc
open Go.RowKit Go.Lib in
theorem Ybad.bytes_Clone_nil (n c : Nat) (w : World) :
    Calls Ybad.prog 4 #[.slice none n c] w fun e w' => e = .returned (.slice none 0 0) ∧ w' = w := Any.bytes_Clone_nil Ybad.laysSlK4 n c w
def Ybad.laysnb115_ren : Go.Shelf.Ren := ⟨fun | 115 => 8 | n => n, fun | 37 => 24 | 4 => 4 | 9 => 9 | 5 => 5 | n => n, fun | n => n⟩
theorem Ybad.laysnb115 : Go.Proofs.Lays.nb115 Ybad.prog Ybad.laysnb115_ren := {
  mixed := by kernel_rfl
  f115 := Ybad.func8.trans (congrArg some (by kernel_rfl))
  t4 := Ybad.underlying4
  a4 := Ybad.isAgg4
  z4 := Ybad.sizeOf4
  v4 := Ybad.zeroValue4
  t9 := Ybad.underlying9
  a9 := Ybad.isAgg9
  z9 := Ybad.sizeOf9
  v9 := Ybad.zeroValue9
  t37 := Ybad.underlying24
  a37 := Ybad.isAgg24
  z37 := Ybad.sizeOf24
  v37 := Ybad.zeroValue24
  t5 := Ybad.underlying5
  a5 := Ybad.isAgg5
  z5 := Ybad.sizeOf5
  v5 := Ybad.zeroValue5 }
theorem Ybad.bytes_Equal_all (p1 p2 : Option Addr) (n c m d : Nat) (xs ys : List Int) (w : World) (hx : xs.length = n) (hy : ys.length = m) (h1 : Lib.BytesIn w p1 n xs) (h2 : Lib.BytesIn w p2 m ys) :
    Calls Ybad.prog 8 #[.slice p1 n c, .slice p2 m d] w fun e w' => e = .returned (.bool (Lib.bytesOf xs == Lib.bytesOf ys)) ∧ w' = w := Any.bytes_Equal_all Ybad.laysnb115 p1 p2 n c m d xs ys w hx hy h1 h2
end Go.Proofs
