/- strconv.Quote at this dump: what the kit's lay-shelf.mjs and lay-plain.mjs printed of it (the laying's numbers, the contract), the rest left out. -/
import Derived.Shelf.Strconv.Quote
import Derived.Shelf.Unicode.DecodeAny
import Derived.Test.YtfkagnpdapkaaaaDoorProg
namespace Go.Proofs
open Go.Shelf
def Tryd.lays177_ren : Go.Shelf.Ren := ⟨fun | 177 => 54 | 250 => 80 | 289 => 100 | 197 => 140 | 323 => 141 | 260 => 151 | 339 => 152 | 340 => 153 | 242 => 154 | 119 => 155 | 345 => 159 | 346 => 160 | 278 => 161 | n => n, fun | 9 => 9 | 5 => 5 | 4 => 4 | 3 => 3 | 37 => 22 | 21 => 21 | 105 => 146 | 46 => 115 | 119 => 158 | 0 => 0 | 139 => 161 | 138 => 160 | 49 => 162 | 234 => 163 | 131 => 47 | 51 => 165 | 236 => 166 | n => n, fun | 3 => 1 | 4 => 2 | 20 => 3 | 21 => 4 | 22 => 5 | 23 => 6 | 24 => 7 | n => n⟩
theorem Tryd.lays177 : Go.Proofs.Lays.n177 Tryd.prog Tryd.lays177_ren := {
  mixed := by kernel_rfl
  f119 := Tryd.func155.trans (congrArg some (by kernel_rfl))
  f177 := Tryd.func54.trans (congrArg some (by kernel_rfl))
  f197 := Tryd.func140.trans (congrArg some (by kernel_rfl))
  f242 := Tryd.func154.trans (congrArg some (by kernel_rfl))
  f250 := Tryd.func80.trans (congrArg some (by kernel_rfl))
  f260 := Tryd.func151.trans (congrArg some (by kernel_rfl))
  f278 := Tryd.func161.trans (congrArg some (by kernel_rfl))
  f289 := Tryd.func100.trans (congrArg some (by kernel_rfl))
  f323 := Tryd.func141.trans (congrArg some (by kernel_rfl))
  f339 := Tryd.func152.trans (congrArg some (by kernel_rfl))
  f340 := Tryd.func153.trans (congrArg some (by kernel_rfl))
  f345 := Tryd.func159.trans (congrArg some (by kernel_rfl))
  f346 := Tryd.func160.trans (congrArg some (by kernel_rfl))
  t0 := Tryd.underlying0
  a0 := Tryd.isAgg0
  z0 := Tryd.sizeOf0
  v0 := Tryd.zeroValue0
  t3 := Tryd.underlying3
  a3 := Tryd.isAgg3
  z3 := Tryd.sizeOf3
  v3 := Tryd.zeroValue3
  t4 := Tryd.underlying4
  a4 := Tryd.isAgg4
  z4 := Tryd.sizeOf4
  v4 := Tryd.zeroValue4
  t5 := Tryd.underlying5
  a5 := Tryd.isAgg5
  z5 := Tryd.sizeOf5
  v5 := Tryd.zeroValue5
  t9 := Tryd.underlying9
  a9 := Tryd.isAgg9
  z9 := Tryd.sizeOf9
  v9 := Tryd.zeroValue9
  t21 := Tryd.underlying21
  a21 := Tryd.isAgg21
  z21 := Tryd.sizeOf21
  v21 := Tryd.zeroValue21
  t37 := Tryd.underlying22
  a37 := Tryd.isAgg22
  z37 := Tryd.sizeOf22
  v37 := Tryd.zeroValue22
  t46 := Tryd.underlying115
  a46 := Tryd.isAgg115
  z46 := Tryd.sizeOf115
  v46 := Tryd.zeroValue115
  t49 := Tryd.underlying162
  a49 := Tryd.isAgg162
  z49 := Tryd.sizeOf162
  v49 := Tryd.zeroValue162
  t51 := Tryd.underlying165
  a51 := Tryd.isAgg165
  z51 := Tryd.sizeOf165
  v51 := Tryd.zeroValue165
  t105 := Tryd.underlying146
  a105 := Tryd.isAgg146
  z105 := Tryd.sizeOf146
  v105 := Tryd.zeroValue146
  t119 := Tryd.underlying158
  a119 := Tryd.isAgg158
  z119 := Tryd.sizeOf158
  t131 := Tryd.underlying47
  a131 := Tryd.isAgg47
  z131 := Tryd.sizeOf47
  v131 := Tryd.zeroValue47
  t138 := Tryd.underlying160
  a138 := Tryd.isAgg160
  z138 := Tryd.sizeOf160
  v138 := Tryd.zeroValue160
  t139 := Tryd.underlying161
  a139 := Tryd.isAgg161
  z139 := Tryd.sizeOf161
  v139 := Tryd.zeroValue161
  t234 := Tryd.underlying163
  a234 := Tryd.isAgg163
  z234 := Tryd.sizeOf163
  v234 := Tryd.zeroValue163
  t236 := Tryd.underlying166
  a236 := Tryd.isAgg166
  z236 := Tryd.sizeOf166
  v236 := Tryd.zeroValue166
  g3 := by kernel_rfl
  g4 := by kernel_rfl
  g20 := by kernel_rfl
  g21 := by kernel_rfl
  g22 := by kernel_rfl
  g23 := by kernel_rfl
  g24 := by kernel_rfl }
open Go.RowKit in
/-- **strconv.Quote AT EVERY STRING, VALID UTF-8 OR NOT** (of at most some 2^43 bytes: ten bytes may come of one): 'strOfNums (Lib.quoteZ T s)': Derived/Lib/QuoteLoop.lean: a row of Lean a statement of Go. Of what was there nothing has turned. (LAID: no walk: one application.) -/
theorem Tryd.strconv_Quote (T : Lib.PrintTabs) (s : ByteArray) (w : World) (hlen : 10 * s.size + 12 ≤ 140737488355328) (hT : Lib.PrintTabsAt 3 4 5 6 T w) (hU : Lib.Utf8Tabs 1 2 w) :
    Calls Tryd.prog 54 #[.string s] w fun e w' => e = .returned (.string (strOfNums (Lib.quoteZ T s))) ∧ Below w.heap.size w w' := Any.strconv_Quote Tryd.lays177 (by kernel_rfl) T s w hlen hT hU
end Go.Proofs
