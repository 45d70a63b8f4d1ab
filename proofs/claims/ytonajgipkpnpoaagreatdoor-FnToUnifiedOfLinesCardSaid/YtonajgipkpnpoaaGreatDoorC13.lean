/- Words. -/
import Derived.Shelf.Strings.Builder1
import Derived.Shelf.Strings.Builder2
import Derived.Shelf.Strings.OnBuilder
import Derived.Shelf.Small.Utf8
import Derived.Shelf.Small.Bits
import Derived.Shelf.Small.Strs
import Derived.Shelf.Strings.BuilderF
import Derived.Shelf.Strings.BuilderK
import Derived.Shelf.Strconv.Itoa0
import Derived.Shelf.Strconv.Itoa1
import Derived.Shelf.LaysM
import Derived.Shelf.Strconv.Itoa2
import Derived.Shelf.Strconv.Itoa3
import Derived.Shelf.Strings.Search1
import Derived.Shelf.Strings.LastIndex
import Derived.Ground.GgsProg
import Derived.Shelf.GgSortFunc.Insertion
import Derived.Shelf.GgSortFunc.Small
import Derived.Shelf.GgSortFunc.InsertionK
import Derived.Shelf.GgSortFunc.SmallK
import Derived.Shelf.GgSortFunc.Tiny
import Derived.Shelf.GgSortFunc.Compose
import Derived.Shelf.GgSortFunc.LotD
import Derived.Shelf.Strings.Prefix
import Derived.Shelf.SlSortFunc.Xorshift
import Derived.Shelf.SlSortFuncK.ComposeK
import Derived.Shelf.SlSortFuncK.SiftDownK
import Derived.Shelf.SlSortFuncK.HeapSortK
import Derived.Shelf.SlSortFuncK.PartialInsertionK
import Derived.Shelf.SlSortFuncK.LotDK
import Derived.Shelf.SlSortFuncK.PivotK
import Derived.Shelf.SlSortFuncK.PartitionK
import Derived.Shelf.SlSortFuncK.PdqK
import Derived.Shelf.SlSortFuncK.WholeK
import Derived.Test.YtonajgipkpnpoaaGreatDoorProg
namespace Go.Proofs
open Go.Shelf
def Tryz.lays169_ren : Go.Shelf.Ren := ⟨fun | 169 => 48 | n => n, fun | 70 => 95 | 9 => 9 | 0 => 0 | 72 => 97 | 37 => 78 | 127 => 111 | 3 => 3 | 5 => 5 | n => n, fun | n => n⟩
theorem Tryz.lays169 : Go.Proofs.Lays.n169 Tryz.prog Tryz.lays169_ren := {
  mixed := by kernel_rfl
  f169 := Tryz.func48.trans (congrArg some (by kernel_rfl))
  t0 := Tryz.underlying0
  a0 := Tryz.isAgg0
  z0 := Tryz.sizeOf0
  v0 := Tryz.zeroValue0
  t3 := Tryz.underlying3
  a3 := Tryz.isAgg3
  z3 := Tryz.sizeOf3
  v3 := Tryz.zeroValue3
  t9 := Tryz.underlying9
  a9 := Tryz.isAgg9
  z9 := Tryz.sizeOf9
  v9 := Tryz.zeroValue9
  t37 := Tryz.underlying78
  a37 := Tryz.isAgg78
  z37 := Tryz.sizeOf78
  v37 := Tryz.zeroValue78
  t70 := Tryz.underlying95
  a70 := Tryz.isAgg95
  z70 := Tryz.sizeOf95
  v70 := Tryz.zeroValue95
  t72 := Tryz.underlying97
  a72 := Tryz.isAgg97
  z72 := Tryz.sizeOf97
  v72 := Tryz.zeroValue97
  t127 := Tryz.underlying111
  a127 := Tryz.isAgg111
  z127 := Tryz.sizeOf111
  v127 := Tryz.zeroValue111 }
theorem Tryz.Builder_Extra_169 : Builder.Extra Tryz.prog Tryz.lays169_ren := {
  sizeBuilder := by kernel_rfl
  liesBuilder := by kernel_rfl
  t5 := Tryz.underlying5
  a5 := Tryz.isAgg5
  z5 := Tryz.sizeOf5
  v5 := Tryz.zeroValue5
  infoByte := by kernel_rfl
  cellsByte := by kernel_rfl
  sizeByte := by kernel_rfl
  neB5 := by decide }
def Tryz.lays156_ren : Go.Shelf.Ren := ⟨fun | 156 => 35 | 165 => 50 | 166 => 45 | 169 => 48 | 240 => 58 | 241 => 63 | 276 => 72 | 277 => 87 | n => n, fun | 31 => 29 | 9 => 9 | 3 => 3 | 4 => 4 | 0 => 0 | 20 => 20 | 72 => 97 | 76 => 98 | 70 => 95 | 37 => 78 | 75 => 50 | 127 => 111 | 164 => 130 | 5 => 5 | 80 => 65 | n => n, fun | n => n⟩
theorem Tryz.lays156 : Go.Proofs.Lays.n156 Tryz.prog Tryz.lays156_ren := {
  mixed := by kernel_rfl
  f156 := Tryz.func35.trans (congrArg some (by kernel_rfl))
  f165 := Tryz.func50.trans (congrArg some (by kernel_rfl))
  f166 := Tryz.func45.trans (congrArg some (by kernel_rfl))
  f169 := Tryz.func48.trans (congrArg some (by kernel_rfl))
  f240 := Tryz.func58.trans (congrArg some (by kernel_rfl))
  f241 := Tryz.func63.trans (congrArg some (by kernel_rfl))
  f276 := Tryz.func72.trans (congrArg some (by kernel_rfl))
  f277 := Tryz.func87.trans (congrArg some (by kernel_rfl))
  t0 := Tryz.underlying0
  a0 := Tryz.isAgg0
  z0 := Tryz.sizeOf0
  v0 := Tryz.zeroValue0
  t3 := Tryz.underlying3
  a3 := Tryz.isAgg3
  z3 := Tryz.sizeOf3
  v3 := Tryz.zeroValue3
  t4 := Tryz.underlying4
  a4 := Tryz.isAgg4
  z4 := Tryz.sizeOf4
  v4 := Tryz.zeroValue4
  t9 := Tryz.underlying9
  a9 := Tryz.isAgg9
  z9 := Tryz.sizeOf9
  v9 := Tryz.zeroValue9
  t20 := Tryz.underlying20
  a20 := Tryz.isAgg20
  z20 := Tryz.sizeOf20
  v20 := Tryz.zeroValue20
  t31 := Tryz.underlying29
  a31 := Tryz.isAgg29
  z31 := Tryz.sizeOf29
  v31 := Tryz.zeroValue29
  t37 := Tryz.underlying78
  a37 := Tryz.isAgg78
  z37 := Tryz.sizeOf78
  v37 := Tryz.zeroValue78
  t70 := Tryz.underlying95
  a70 := Tryz.isAgg95
  z70 := Tryz.sizeOf95
  v70 := Tryz.zeroValue95
  t72 := Tryz.underlying97
  a72 := Tryz.isAgg97
  z72 := Tryz.sizeOf97
  v72 := Tryz.zeroValue97
  t75 := Tryz.underlying50
  a75 := Tryz.isAgg50
  z75 := Tryz.sizeOf50
  v75 := Tryz.zeroValue50
  t76 := Tryz.underlying98
  a76 := Tryz.isAgg98
  z76 := Tryz.sizeOf98
  v76 := Tryz.zeroValue98
  t127 := Tryz.underlying111
  a127 := Tryz.isAgg111
  z127 := Tryz.sizeOf111
  v127 := Tryz.zeroValue111
  t164 := Tryz.underlying130
  a164 := Tryz.isAgg130
  z164 := Tryz.sizeOf130
  v164 := Tryz.zeroValue130 }
theorem Tryz.Builder_Extra_156 : Builder.Extra Tryz.prog Tryz.lays156_ren := {
  sizeBuilder := by kernel_rfl
  liesBuilder := by kernel_rfl
  t5 := Tryz.underlying5
  a5 := Tryz.isAgg5
  z5 := Tryz.sizeOf5
  v5 := Tryz.zeroValue5
  infoByte := by kernel_rfl
  cellsByte := by kernel_rfl
  sizeByte := by kernel_rfl
  neB5 := by decide }
open Go.RowKit in
theorem Tryz.strings_Join_none (a : Option Addr) (c : Nat) (sep : ByteArray) (w : World) :
    Calls Tryz.prog 35 #[.slice a 0 c, .string sep] w fun e w' => e = .returned (.string ⟨#[]⟩) ∧ w' = w := Any.strings_Join_none Tryz.lays156 Tryz.Builder_Extra_156 a c sep w
open Go.RowKit in
theorem Tryz.strings_Join (bk o c : Nat) (xs : List ByteArray) (sep : ByteArray) (w : World) (hcells : ∀ (j : Nat) x, xs[j]? = some x → w.cell? ⟨bk, o + j, none⟩ = some (.string x)) (hbk : bk < w.heap.size) (hN : xs.length ≤ 140737488355328) (hcap : xs.length ≤ c) (hlen : (Lib.join (xs.map (·.data.toList)) sep.data.toList).length ≤ 140737488355328) :
    Calls Tryz.prog 35 #[.slice (some ⟨bk, o, none⟩) xs.length c, .string sep] w fun e w' => e = .returned (.string ⟨(Lib.join (xs.map (·.data.toList)) sep.data.toList).toArray⟩) ∧ Below w.heap.size w w' := Any.strings_Join Tryz.lays156 Tryz.Builder_Extra_156 bk o c xs sep w hcells hbk hN hcap hlen
def Tryz.lays125_ren : Go.Shelf.Ren := ⟨fun | 125 => 121 | 128 => 136 | 129 => 111 | n => n, fun | 46 => 76 | 3 => 3 | 51 => 170 | 53 => 156 | 4 => 4 | 5 => 5 | 9 => 9 | n => n, fun | n => n⟩
theorem Tryz.lays125 : Go.Proofs.Lays.n125 Tryz.prog Tryz.lays125_ren := {
  mixed := by kernel_rfl
  f125 := Tryz.func121.trans (congrArg some (by kernel_rfl))
  f128 := Tryz.func136.trans (congrArg some (by kernel_rfl))
  f129 := Tryz.func111.trans (congrArg some (by kernel_rfl))
  t3 := Tryz.underlying3
  a3 := Tryz.isAgg3
  z3 := Tryz.sizeOf3
  v3 := Tryz.zeroValue3
  t4 := Tryz.underlying4
  a4 := Tryz.isAgg4
  z4 := Tryz.sizeOf4
  v4 := Tryz.zeroValue4
  t5 := Tryz.underlying5
  a5 := Tryz.isAgg5
  z5 := Tryz.sizeOf5
  v5 := Tryz.zeroValue5
  t9 := Tryz.underlying9
  a9 := Tryz.isAgg9
  z9 := Tryz.sizeOf9
  v9 := Tryz.zeroValue9
  t46 := Tryz.underlying76
  a46 := Tryz.isAgg76
  z46 := Tryz.sizeOf76
  v46 := Tryz.zeroValue76
  t51 := Tryz.underlying170
  a51 := Tryz.isAgg170
  z51 := Tryz.sizeOf170
  v51 := Tryz.zeroValue170
  t53 := Tryz.underlying156
  a53 := Tryz.isAgg156
  z53 := Tryz.sizeOf156
  v53 := Tryz.zeroValue156 }
theorem Tryz.bits_Len (x : Int) (w : World) (h0 : 0 ≤ x) (h1 : x ≤ 18446744073709551615) :
    Calls Tryz.prog 121 #[.int .u64 x] w fun e w' => e = .returned (.int .i64 (Lib.bitLen x.toNat)) ∧ w' = w := Any.bits_Len Tryz.lays125 x w h0 h1
def Tryz.lays137_ren : Go.Shelf.Ren := ⟨fun | 137 => 71 | 217 => 91 | 266 => 109 | n => n, fun | 9 => 9 | 5 => 5 | 3 => 3 | n => n, fun | n => n⟩
theorem Tryz.lays137 : Go.Proofs.Lays.n137 Tryz.prog Tryz.lays137_ren := {
  mixed := by kernel_rfl
  f137 := Tryz.func71.trans (congrArg some (by kernel_rfl))
  f217 := Tryz.func91.trans (congrArg some (by kernel_rfl))
  f266 := Tryz.func109.trans (congrArg some (by kernel_rfl))
  t3 := Tryz.underlying3
  a3 := Tryz.isAgg3
  z3 := Tryz.sizeOf3
  v3 := Tryz.zeroValue3
  t5 := Tryz.underlying5
  a5 := Tryz.isAgg5
  z5 := Tryz.sizeOf5
  v5 := Tryz.zeroValue5
  t9 := Tryz.underlying9
  a9 := Tryz.isAgg9
  z9 := Tryz.sizeOf9
  v9 := Tryz.zeroValue9 }
open Go.RowKit in
theorem Tryz.strings_IndexByte (s : ByteArray) (c : Int) (w : World) :
    Calls Tryz.prog 71 #[.string s, .int .u8 c] w fun e w' => e = .returned (.int .i64 (Lib.indexByte s.data.toList c.toNat.toUInt8)) ∧ w' = w := Any.strings_IndexByte Tryz.lays137 s c w
open Go.RowKit in
theorem Tryz.Builder_String_any_k (B b : Nat) (l : List UInt8) (w : World) (h : Lib.IsBuilderF 97 5 B b (Lib.byteCells l) w) (hBw : B ≤ w.heap.size) :
    Calls Tryz.prog 48 #[.pointer (some ⟨b, 0, none⟩)] w fun e w' => e = .returned (.string ⟨l.toArray⟩) ∧ (Lib.IsBuilderF 97 5 B b (Lib.byteCells l) w' ∧ Below B w w' ∧ Lib.OthersKept 5 (some b) w w') := Any.Builder_String_any_k Tryz.lays169 Tryz.Builder_Extra_169 B b l w h hBw
def Tryz.laysM246_ren : Go.Shelf.Ren := ⟨fun | 246 => 73 | 283 => 92 | 284 => 93 | 285 => 94 | 286 => 95 | 129 => 111 | 317 => 110 | 318 => 112 | 319 => 113 | 320 => 114 | 337 => 125 | 338 => 126 | n => n, fun | 2 => 2 | 3 => 3 | 9 => 9 | 4 => 4 | 171 => 155 | 0 => 0 | 53 => 156 | 37 => 78 | 5 => 5 | 173 => 159 | 212 => 174 | 51 => 170 | 20 => 20 | 213 => 175 | 46 => 76 | 232 => 204 | 233 => 205 | n => n, fun | 17 => 1 | 18 => 2 | 19 => 3 | n => n⟩
def Tryz.laysM243_ren : Go.Shelf.Ren := ⟨fun | 243 => 59 | 246 => 73 | 283 => 92 | 284 => 93 | 285 => 94 | 286 => 95 | 129 => 111 | 317 => 110 | 318 => 112 | 319 => 113 | 320 => 114 | 337 => 125 | 338 => 126 | n => n, fun | 3 => 3 | 9 => 9 | 2 => 2 | 4 => 4 | 171 => 155 | 0 => 0 | 53 => 156 | 37 => 78 | 5 => 5 | 173 => 159 | 212 => 174 | 51 => 170 | 20 => 20 | 213 => 175 | 46 => 76 | 232 => 204 | 233 => 205 | n => n, fun | 17 => 1 | 18 => 2 | 19 => 3 | n => n⟩
def Tryz.laysM171_ren : Go.Shelf.Ren := ⟨fun | 171 => 46 | 243 => 59 | 246 => 73 | 283 => 92 | 284 => 93 | 285 => 94 | 286 => 95 | 129 => 111 | 317 => 110 | 318 => 112 | 319 => 113 | 320 => 114 | 337 => 125 | 338 => 126 | n => n, fun | 3 => 3 | 9 => 9 | 2 => 2 | 4 => 4 | 171 => 155 | 0 => 0 | 53 => 156 | 37 => 78 | 5 => 5 | 173 => 159 | 212 => 174 | 51 => 170 | 20 => 20 | 213 => 175 | 46 => 76 | 232 => 204 | 233 => 205 | n => n, fun | 17 => 1 | 18 => 2 | 19 => 3 | n => n⟩
theorem Tryz.laysM171 : Go.Proofs.LaysM.n171 Tryz.prog Tryz.laysM171_ren := {
  mixed := by kernel_rfl
  f129 := Tryz.func111.trans (congrArg some (by kernel_rfl))
  f171 := Tryz.func46.trans (congrArg some (by kernel_rfl))
  f243 := Tryz.func59.trans (congrArg some (by kernel_rfl))
  f246 := Tryz.func73.trans (congrArg some (by kernel_rfl))
  f283 := Tryz.func92.trans (congrArg some (by kernel_rfl))
  f284 := Tryz.func93.trans (congrArg some (by kernel_rfl))
  f285 := Tryz.func94.trans (congrArg some (by kernel_rfl))
  f286 := Tryz.func95.trans (congrArg some (by kernel_rfl))
  f317 := Tryz.func110.trans (congrArg some (by kernel_rfl))
  f318 := Tryz.func112.trans (congrArg some (by kernel_rfl))
  f319 := Tryz.func113.trans (congrArg some (by kernel_rfl))
  f320 := Tryz.func114.trans (congrArg some (by kernel_rfl))
  f337 := Tryz.func125.trans (congrArg some (by kernel_rfl))
  f338 := Tryz.func126.trans (congrArg some (by kernel_rfl))
  t0 := Tryz.underlying0
  a0 := Tryz.isAgg0
  z0 := Tryz.sizeOf0
  v0 := Tryz.zeroValue0
  t2 := Tryz.underlying2
  a2 := Tryz.isAgg2
  z2 := Tryz.sizeOf2
  v2 := Tryz.zeroValue2
  t3 := Tryz.underlying3
  a3 := Tryz.isAgg3
  z3 := Tryz.sizeOf3
  v3 := Tryz.zeroValue3
  t4 := Tryz.underlying4
  a4 := Tryz.isAgg4
  z4 := Tryz.sizeOf4
  v4 := Tryz.zeroValue4
  t5 := Tryz.underlying5
  a5 := Tryz.isAgg5
  z5 := Tryz.sizeOf5
  v5 := Tryz.zeroValue5
  t9 := Tryz.underlying9
  a9 := Tryz.isAgg9
  z9 := Tryz.sizeOf9
  v9 := Tryz.zeroValue9
  t20 := Tryz.underlying20
  a20 := Tryz.isAgg20
  z20 := Tryz.sizeOf20
  v20 := Tryz.zeroValue20
  t37 := Tryz.underlying78
  a37 := Tryz.isAgg78
  z37 := Tryz.sizeOf78
  v37 := Tryz.zeroValue78
  t46 := Tryz.underlying76
  a46 := Tryz.isAgg76
  z46 := Tryz.sizeOf76
  v46 := Tryz.zeroValue76
  t51 := Tryz.underlying170
  a51 := Tryz.isAgg170
  z51 := Tryz.sizeOf170
  v51 := Tryz.zeroValue170
  t53 := Tryz.underlying156
  a53 := Tryz.isAgg156
  z53 := Tryz.sizeOf156
  v53 := Tryz.zeroValue156
  t171 := Tryz.underlying155
  a171 := Tryz.isAgg155
  z171 := Tryz.sizeOf155
  v171 := Tryz.zeroValue155
  t173 := Tryz.underlying159
  a173 := Tryz.isAgg159
  z173 := Tryz.sizeOf159
  v173 := Tryz.zeroValue159
  t212 := Tryz.underlying174
  a212 := Tryz.isAgg174
  z212 := Tryz.sizeOf174
  v212 := Tryz.zeroValue174
  t213 := Tryz.underlying175
  a213 := Tryz.isAgg175
  z213 := Tryz.sizeOf175
  t232 := Tryz.underlying204
  a232 := Tryz.isAgg204
  z232 := Tryz.sizeOf204
  v232 := Tryz.zeroValue204
  t233 := Tryz.underlying205
  a233 := Tryz.isAgg205
  z233 := Tryz.sizeOf205
  v233 := Tryz.zeroValue205
  g17 := by kernel_rfl
  g18 := by kernel_rfl
  g19 := by kernel_rfl
  i0 := by kernel_rfl
  i2 := by kernel_rfl
  i3 := by kernel_rfl
  i4 := by kernel_rfl
  i5 := by kernel_rfl
  i9 := by kernel_rfl
  i20 := by kernel_rfl
  i37 := by kernel_rfl
  i46 := by kernel_rfl
  i51 := by kernel_rfl
  i53 := by kernel_rfl
  i171 := by kernel_rfl
  i173 := by kernel_rfl
  i212 := by kernel_rfl
  i232 := by kernel_rfl
  i233 := by kernel_rfl
  m17 := by kernel_rfl
  m18 := by kernel_rfl
  m19 := by kernel_rfl }
open Go.RowKit Go.Sort Go.Lib in
theorem Tryz.strconv_Itoa (n : Int) (h0 : -9223372036854775808 ≤ n) (h1 : n ≤ 9223372036854775807) (w : World) (htab : Lib.TabIs Tryz.prog w "internal/strconv.uint64pow10" .u64 Lib.pow10Tab) :
    Calls Tryz.prog 46 #[.int .i64 n] w fun e w' => e = .returned (.string ⟨(Lib.itoa n).toArray⟩) ∧ ∃ k os, w' = grow (w.drewN k) os := Any.strconv_Itoa Tryz.laysM171 n h0 h1 w htab
def Tryz.lays148_ren : Go.Shelf.Ren := ⟨fun | 148 => 70 | 222 => 89 | 223 => 90 | 269 => 108 | n => n, fun | 9 => 9 | 3 => 3 | 4 => 4 | 5 => 5 | 146 => 171 | 51 => 170 | 46 => 76 | n => n, fun | n => n⟩
theorem Tryz.lays148 : Go.Proofs.Lays.n148 Tryz.prog Tryz.lays148_ren := {
  mixed := by kernel_rfl
  f148 := Tryz.func70.trans (congrArg some (by kernel_rfl))
  f222 := Tryz.func89.trans (congrArg some (by kernel_rfl))
  f223 := Tryz.func90.trans (congrArg some (by kernel_rfl))
  f269 := Tryz.func108.trans (congrArg some (by kernel_rfl))
  t3 := Tryz.underlying3
  a3 := Tryz.isAgg3
  z3 := Tryz.sizeOf3
  v3 := Tryz.zeroValue3
  t4 := Tryz.underlying4
  a4 := Tryz.isAgg4
  z4 := Tryz.sizeOf4
  v4 := Tryz.zeroValue4
  t5 := Tryz.underlying5
  a5 := Tryz.isAgg5
  z5 := Tryz.sizeOf5
  v5 := Tryz.zeroValue5
  t9 := Tryz.underlying9
  a9 := Tryz.isAgg9
  z9 := Tryz.sizeOf9
  v9 := Tryz.zeroValue9
  t46 := Tryz.underlying76
  a46 := Tryz.isAgg76
  z46 := Tryz.sizeOf76
  v46 := Tryz.zeroValue76
  t51 := Tryz.underlying170
  a51 := Tryz.isAgg170
  z51 := Tryz.sizeOf170
  v51 := Tryz.zeroValue170
  t146 := Tryz.underlying171
  a146 := Tryz.isAgg171
  z146 := Tryz.sizeOf171
  v146 := Tryz.zeroValue171 }
open Go.RowKit Go.Lib in
theorem Tryz.strings_LastIndex_one (s sub : ByteArray) (h1 : sub.size = 1) (hs : s.size < 4611686018427387904) (w : World) :
    Calls Tryz.prog 70 #[.string s, .string sub] w fun e w' => e = .returned (.int .i64 (Lib.lastIndexByte s ((sub[0]'(by omega)).toNat : Int))) ∧ w' = w := Any.strings_LastIndex_one Tryz.lays148 s sub h1 hs w
def Tryz.laysGg14_ren : Go.Shelf.Ren := ⟨fun | 14 => 122 | 26 => 137 | 27 => 138 | 28 => 139 | 29 => 140 | 30 => 141 | 31 => 142 | 32 => 143 | 33 => 144 | 34 => 146 | 35 => 147 | 36 => 148 | 37 => 149 | 38 => 150 | 13 => 121 | 39 => 152 | 24 => 136 | 25 => 111 | n => n, fun | 44 => 190 | 3 => 3 | 0 => 0 | 4 => 4 | 54 => 199 | 53 => 198 | 26 => 150 | 58 => 142 | 37 => 179 | 60 => 206 | 41 => 76 | 51 => 156 | 64 => 210 | 66 => 212 | 67 => 81 | 49 => 170 | 5 => 5 | 9 => 9 | n => n, fun | n => n⟩
theorem Tryz.laysGg14 : Go.Proofs.LaysGg.n14 Tryz.prog Tryz.laysGg14_ren := {
  mixed := by kernel_rfl
  f13 := Tryz.func121.trans (congrArg some (by kernel_rfl))
  f14 := Tryz.func122.trans (congrArg some (by kernel_rfl))
  f24 := Tryz.func136.trans (congrArg some (by kernel_rfl))
  f25 := Tryz.func111.trans (congrArg some (by kernel_rfl))
  f26 := Tryz.func137.trans (congrArg some (by kernel_rfl))
  f27 := Tryz.func138.trans (congrArg some (by kernel_rfl))
  f28 := Tryz.func139.trans (congrArg some (by kernel_rfl))
  f29 := Tryz.func140.trans (congrArg some (by kernel_rfl))
  f30 := Tryz.func141.trans (congrArg some (by kernel_rfl))
  f31 := Tryz.func142.trans (congrArg some (by kernel_rfl))
  f32 := Tryz.func143.trans (congrArg some (by kernel_rfl))
  f33 := Tryz.func144.trans (congrArg some (by kernel_rfl))
  f34 := Tryz.func146.trans (congrArg some (by kernel_rfl))
  f35 := Tryz.func147.trans (congrArg some (by kernel_rfl))
  f36 := Tryz.func148.trans (congrArg some (by kernel_rfl))
  f37 := Tryz.func149.trans (congrArg some (by kernel_rfl))
  f38 := Tryz.func150.trans (congrArg some (by kernel_rfl))
  f39 := Tryz.func152.trans (congrArg some (by kernel_rfl))
  t0 := Tryz.underlying0
  a0 := Tryz.isAgg0
  z0 := Tryz.sizeOf0
  v0 := Tryz.zeroValue0
  i0 := by kernel_rfl
  t3 := Tryz.underlying3
  a3 := Tryz.isAgg3
  z3 := Tryz.sizeOf3
  v3 := Tryz.zeroValue3
  i3 := by kernel_rfl
  t4 := Tryz.underlying4
  a4 := Tryz.isAgg4
  z4 := Tryz.sizeOf4
  v4 := Tryz.zeroValue4
  i4 := by kernel_rfl
  t5 := Tryz.underlying5
  a5 := Tryz.isAgg5
  z5 := Tryz.sizeOf5
  v5 := Tryz.zeroValue5
  i5 := by kernel_rfl
  t9 := Tryz.underlying9
  a9 := Tryz.isAgg9
  z9 := Tryz.sizeOf9
  v9 := Tryz.zeroValue9
  i9 := by kernel_rfl
  t26 := Tryz.underlying150
  a26 := Tryz.isAgg150
  z26 := Tryz.sizeOf150
  v26 := Tryz.zeroValue150
  i26 := by kernel_rfl
  t37 := Tryz.underlying179
  a37 := Tryz.isAgg179
  z37 := Tryz.sizeOf179
  v37 := Tryz.zeroValue179
  i37 := by kernel_rfl
  t41 := Tryz.underlying76
  a41 := Tryz.isAgg76
  z41 := Tryz.sizeOf76
  v41 := Tryz.zeroValue76
  i41 := by kernel_rfl
  t44 := Tryz.underlying190
  a44 := Tryz.isAgg190
  z44 := Tryz.sizeOf190
  v44 := Tryz.zeroValue190
  i44 := by kernel_rfl
  t49 := Tryz.underlying170
  a49 := Tryz.isAgg170
  z49 := Tryz.sizeOf170
  v49 := Tryz.zeroValue170
  i49 := by kernel_rfl
  t51 := Tryz.underlying156
  a51 := Tryz.isAgg156
  z51 := Tryz.sizeOf156
  v51 := Tryz.zeroValue156
  i51 := by kernel_rfl
  t53 := Tryz.underlying198
  a53 := Tryz.isAgg198
  z53 := Tryz.sizeOf198
  v53 := Tryz.zeroValue198
  i53 := by kernel_rfl
  t54 := Tryz.underlying199
  a54 := Tryz.isAgg199
  z54 := Tryz.sizeOf199
  v54 := Tryz.zeroValue199
  i54 := by kernel_rfl
  t58 := Tryz.underlying142
  a58 := Tryz.isAgg142
  z58 := Tryz.sizeOf142
  v58 := Tryz.zeroValue142
  i58 := by kernel_rfl
  t60 := Tryz.underlying206
  a60 := Tryz.isAgg206
  z60 := Tryz.sizeOf206
  v60 := Tryz.zeroValue206
  i60 := by kernel_rfl
  t64 := Tryz.underlying210
  a64 := Tryz.isAgg210
  z64 := Tryz.sizeOf210
  v64 := Tryz.zeroValue210
  i64 := by kernel_rfl
  t66 := Tryz.underlying212
  a66 := Tryz.isAgg212
  z66 := Tryz.sizeOf212
  v66 := Tryz.zeroValue212
  i66 := by kernel_rfl
  t67 := Tryz.underlying81
  a67 := Tryz.isAgg81
  z67 := Tryz.sizeOf81
  v67 := Tryz.zeroValue81
  i67 := by kernel_rfl }
def Tryz.lays207_ren : Go.Shelf.Ren := ⟨fun | 207 => 60 | n => n, fun | 9 => 9 | 4 => 4 | 3 => 3 | n => n, fun | n => n⟩
def Tryz.lays100_ren : Go.Shelf.Ren := ⟨fun | 100 => 47 | 207 => 60 | n => n, fun | 9 => 9 | 4 => 4 | 3 => 3 | n => n, fun | n => n⟩
theorem Tryz.lays100 : Go.Proofs.Lays.n100 Tryz.prog Tryz.lays100_ren := {
  mixed := by kernel_rfl
  f100 := Tryz.func47.trans (congrArg some (by kernel_rfl))
  f207 := Tryz.func60.trans (congrArg some (by kernel_rfl))
  t3 := Tryz.underlying3
  a3 := Tryz.isAgg3
  z3 := Tryz.sizeOf3
  v3 := Tryz.zeroValue3
  t4 := Tryz.underlying4
  a4 := Tryz.isAgg4
  z4 := Tryz.sizeOf4
  v4 := Tryz.zeroValue4
  t9 := Tryz.underlying9
  a9 := Tryz.isAgg9
  z9 := Tryz.sizeOf9
  v9 := Tryz.zeroValue9 }
open Go.RowKit Go.Lib in
theorem Tryz.strings_HasSuffix (s p : ByteArray) (w : World) (hs : s.size ≤ 9223372036854775807) :
    Calls Tryz.prog 47 #[.string s, .string p] w fun e w' => e = .returned (.bool (Lib.hasSuffix s.data.toList p.data.toList)) ∧ w' = w := Any.strings_HasSuffix Tryz.lays100 s p w hs
open Go.RowKit Go.Lib Go.Sort in
theorem Tryz.pdqsort_func_cells_all {α : Type} [Inhabited α] (enc : α → List Value) (k : Nat) (hk : ∀ x, (enc x).length = k) (lt : α → α → Bool) (hO : SWO lt) (g : Nat) (lb : Array Value) (sf : Nat) (sb : Array Value) (eg : ∀ args w, (callFunc g args).run Tryz.prog w = .ok (.enter g args) w) :
    ∀ (N blk off a b limit : Nat) (d : Array α) (w : World), b - a < N → LessReadsK Tryz.prog g lb enc k lt blk off d.size w → SwapSwapsK Tryz.prog sf sb enc k blk off d.size → HoldsK enc k w blk off d → blk < w.heap.size → a ≤ b → b ≤ d.size → d.size < 4611686018427387904 → limit < 4611686018427387904 → Below lt a b d →
    Calls Tryz.prog 122 #[.agg #[.func (.func g) #[] lb, .func (.func sf) #[] sb], .int .i64 a, .int .i64 b, .int .i64 limit] w fun e w' => e = .returned (.tuple #[]) ∧ AtK enc k w blk off (pdq lt d a b limit true true) w' := Any.pdqsort_func_cells_all Tryz.laysGg14 enc k hk lt hO g lb sf sb eg
end Go.Proofs
