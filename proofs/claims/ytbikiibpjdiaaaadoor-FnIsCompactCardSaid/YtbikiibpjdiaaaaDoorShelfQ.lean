/- strconv.Quote at this dump: what the kit's lay-shelf.mjs and lay-plain.mjs printed of it (the laying's numbers, the contract), the rest left out. -/
import Derived.Shelf.Strconv.Quote
import Derived.Shelf.Unicode.DecodeAny
import Derived.Test.YtbikiibpjdiaaaaDoorProg
namespace Go.Proofs
open Go.Shelf
def Tryd.lays177_ren : Go.Shelf.Ren := ⟨fun | 177 => 72 | 250 => 77 | 289 => 83 | 197 => 86 | 323 => 87 | 260 => 89 | 339 => 90 | 340 => 91 | 242 => 92 | 119 => 93 | 345 => 94 | 346 => 95 | 278 => 96 | n => n, fun | 9 => 9 | 5 => 5 | 4 => 4 | 3 => 3 | 37 => 22 | 21 => 21 | 105 => 100 | 46 => 85 | 119 => 105 | 0 => 0 | 139 => 108 | 138 => 107 | 49 => 109 | 234 => 110 | 131 => 63 | 51 => 112 | 236 => 113 | n => n, fun | 3 => 1 | 4 => 2 | 20 => 3 | 21 => 4 | 22 => 5 | 23 => 6 | 24 => 7 | n => n⟩
theorem Tryd.lays177 : Go.Proofs.Lays.n177 Tryd.prog Tryd.lays177_ren := {
  mixed := by kernel_rfl
  f119 := Tryd.func93.trans (congrArg some (by kernel_rfl))
  f177 := Tryd.func72.trans (congrArg some (by kernel_rfl))
  f197 := Tryd.func86.trans (congrArg some (by kernel_rfl))
  f242 := Tryd.func92.trans (congrArg some (by kernel_rfl))
  f250 := Tryd.func77.trans (congrArg some (by kernel_rfl))
  f260 := Tryd.func89.trans (congrArg some (by kernel_rfl))
  f278 := Tryd.func96.trans (congrArg some (by kernel_rfl))
  f289 := Tryd.func83.trans (congrArg some (by kernel_rfl))
  f323 := Tryd.func87.trans (congrArg some (by kernel_rfl))
  f339 := Tryd.func90.trans (congrArg some (by kernel_rfl))
  f340 := Tryd.func91.trans (congrArg some (by kernel_rfl))
  f345 := Tryd.func94.trans (congrArg some (by kernel_rfl))
  f346 := Tryd.func95.trans (congrArg some (by kernel_rfl))
  t0 := Tryd.underlying0
  a0 := Tryd.isAgg0
  z0 := Tryd.sizeOf0
  v0 := Tryd.zeroValue0
  t3 := Tryd.underlying3
  a3 := Tryd.isAgg3
  z3 := Tryd.sizeOf3
  v3 := Tryd.zeroValue3
  t4 := Tryd.underlying4
  a4 := Tryd.isAgg4
  z4 := Tryd.sizeOf4
  v4 := Tryd.zeroValue4
  t5 := Tryd.underlying5
  a5 := Tryd.isAgg5
  z5 := Tryd.sizeOf5
  v5 := Tryd.zeroValue5
  t9 := Tryd.underlying9
  a9 := Tryd.isAgg9
  z9 := Tryd.sizeOf9
  v9 := Tryd.zeroValue9
  t21 := Tryd.underlying21
  a21 := Tryd.isAgg21
  z21 := Tryd.sizeOf21
  v21 := Tryd.zeroValue21
  t37 := Tryd.underlying22
  a37 := Tryd.isAgg22
  z37 := Tryd.sizeOf22
  v37 := Tryd.zeroValue22
  t46 := Tryd.underlying85
  a46 := Tryd.isAgg85
  z46 := Tryd.sizeOf85
  v46 := Tryd.zeroValue85
  t49 := Tryd.underlying109
  a49 := Tryd.isAgg109
  z49 := Tryd.sizeOf109
  v49 := Tryd.zeroValue109
  t51 := Tryd.underlying112
  a51 := Tryd.isAgg112
  z51 := Tryd.sizeOf112
  v51 := Tryd.zeroValue112
  t105 := Tryd.underlying100
  a105 := Tryd.isAgg100
  z105 := Tryd.sizeOf100
  v105 := Tryd.zeroValue100
  t119 := Tryd.underlying105
  a119 := Tryd.isAgg105
  z119 := Tryd.sizeOf105
  t131 := Tryd.underlying63
  a131 := Tryd.isAgg63
  z131 := Tryd.sizeOf63
  v131 := Tryd.zeroValue63
  t138 := Tryd.underlying107
  a138 := Tryd.isAgg107
  z138 := Tryd.sizeOf107
  v138 := Tryd.zeroValue107
  t139 := Tryd.underlying108
  a139 := Tryd.isAgg108
  z139 := Tryd.sizeOf108
  v139 := Tryd.zeroValue108
  t234 := Tryd.underlying110
  a234 := Tryd.isAgg110
  z234 := Tryd.sizeOf110
  v234 := Tryd.zeroValue110
  t236 := Tryd.underlying113
  a236 := Tryd.isAgg113
  z236 := Tryd.sizeOf113
  v236 := Tryd.zeroValue113
  g3 := by kernel_rfl
  g4 := by kernel_rfl
  g20 := by kernel_rfl
  g21 := by kernel_rfl
  g22 := by kernel_rfl
  g23 := by kernel_rfl
  g24 := by kernel_rfl }
open Go.RowKit in
/-- **strconv.Quote AT EVERY STRING, VALID UTF-8 OR NOT** (of at most some 2^43 bytes: ten bytes may come of one): 'strOfNums (Lib.quoteZ T s)': Derived/Lib/QuoteLoop.lean: a row of Lean a statement of Go. Of what was there nothing has turned. (LAID: no walk: one application.) -/
theorem Tryd.strconv_Quote (T : Lib.PrintTabs) (s : ByteArray) (w : World) (hlen : 10 * s.size + 12 ≤ 140737488355328) (hT : Lib.PrintTabsAt 3 4 5 6 T w) (hU : Lib.Utf8Tabs 1 2 w) :
    Calls Tryd.prog 72 #[.string s] w fun e w' => e = .returned (.string (strOfNums (Lib.quoteZ T s))) ∧ Below w.heap.size w w' := Any.strconv_Quote Tryd.lays177 (by kernel_rfl) T s w hlen hT hU
end Go.Proofs
