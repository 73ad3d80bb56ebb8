/-
  DERIVED: THE SHELF's CONTRACTS AT THIS DUMP, IN PLAIN WORDS (tools/lay-plain.mjs out of 'Qxb6601947aDoorShelf.lean', which tools/lay-shelf.mjs wrote): THE SAME DECLARATIONS UNDER THE SAME NAMES: 'import', 'namespace', 'open', 'def', 'theorem' AND NOTHING ELSE: no command of the shelf's: FOR A HAND-IN. Each laying: the table of numbers ('.._ren') and one theorem, a field a fact of the dump's own or the kernel's comparison; each contract: ONE APPLICATION.
-/
import Derived.Shelf.Strconv.Quote
import Derived.Test.Qxb6601947aDoorProg
namespace Go.Proofs
open Go.Shelf
def Tryd.lays177_ren : Go.Shelf.Ren := ⟨fun | 177 => 20 | 250 => 24 | 289 => 28 | 197 => 22 | 323 => 29 | 260 => 25 | 339 => 30 | 340 => 31 | 242 => 32 | 119 => 33 | 345 => 34 | 346 => 35 | 278 => 36 | n => n, fun | 9 => 9 | 5 => 5 | 4 => 4 | 3 => 3 | 37 => 52 | 21 => 21 | 105 => 39 | 46 => 38 | 119 => 54 | 0 => 0 | 139 => 57 | 138 => 56 | 49 => 43 | 234 => 65 | 131 => 25 | 51 => 35 | 236 => 67 | n => n, fun | 3 => 3 | 4 => 4 | 20 => 5 | 21 => 6 | 22 => 7 | 23 => 8 | 24 => 9 | n => n⟩
theorem Tryd.lays177 : Go.Proofs.Lays.n177 Tryd.prog Tryd.lays177_ren := {
  mixed := by kernel_rfl
  f119 := Tryd.func33.trans (congrArg some (by kernel_rfl))
  f177 := Tryd.func20.trans (congrArg some (by kernel_rfl))
  f197 := Tryd.func22.trans (congrArg some (by kernel_rfl))
  f242 := Tryd.func32.trans (congrArg some (by kernel_rfl))
  f250 := Tryd.func24.trans (congrArg some (by kernel_rfl))
  f260 := Tryd.func25.trans (congrArg some (by kernel_rfl))
  f278 := Tryd.func36.trans (congrArg some (by kernel_rfl))
  f289 := Tryd.func28.trans (congrArg some (by kernel_rfl))
  f323 := Tryd.func29.trans (congrArg some (by kernel_rfl))
  f339 := Tryd.func30.trans (congrArg some (by kernel_rfl))
  f340 := Tryd.func31.trans (congrArg some (by kernel_rfl))
  f345 := Tryd.func34.trans (congrArg some (by kernel_rfl))
  f346 := Tryd.func35.trans (congrArg some (by kernel_rfl))
  t0 := Tryd.underlying0
  a0 := Tryd.isAgg0
  z0 := Tryd.sizeOf0
  v0 := Tryd.zeroValue0
  t3 := Tryd.underlying3
  a3 := Tryd.isAgg3
  z3 := Tryd.sizeOf3
  v3 := Tryd.zeroValue3
  t4 := Tryd.underlying4
  a4 := Tryd.isAgg4
  z4 := Tryd.sizeOf4
  v4 := Tryd.zeroValue4
  t5 := Tryd.underlying5
  a5 := Tryd.isAgg5
  z5 := Tryd.sizeOf5
  v5 := Tryd.zeroValue5
  t9 := Tryd.underlying9
  a9 := Tryd.isAgg9
  z9 := Tryd.sizeOf9
  v9 := Tryd.zeroValue9
  t21 := Tryd.underlying21
  a21 := Tryd.isAgg21
  z21 := Tryd.sizeOf21
  v21 := Tryd.zeroValue21
  t37 := Tryd.underlying52
  a37 := Tryd.isAgg52
  z37 := Tryd.sizeOf52
  v37 := Tryd.zeroValue52
  t46 := Tryd.underlying38
  a46 := Tryd.isAgg38
  z46 := Tryd.sizeOf38
  v46 := Tryd.zeroValue38
  t49 := Tryd.underlying43
  a49 := Tryd.isAgg43
  z49 := Tryd.sizeOf43
  v49 := Tryd.zeroValue43
  t51 := Tryd.underlying35
  a51 := Tryd.isAgg35
  z51 := Tryd.sizeOf35
  v51 := Tryd.zeroValue35
  t105 := Tryd.underlying39
  a105 := Tryd.isAgg39
  z105 := Tryd.sizeOf39
  v105 := Tryd.zeroValue39
  t119 := Tryd.underlying54
  a119 := Tryd.isAgg54
  z119 := Tryd.sizeOf54
  t131 := Tryd.underlying25
  a131 := Tryd.isAgg25
  z131 := Tryd.sizeOf25
  v131 := Tryd.zeroValue25
  t138 := Tryd.underlying56
  a138 := Tryd.isAgg56
  z138 := Tryd.sizeOf56
  v138 := Tryd.zeroValue56
  t139 := Tryd.underlying57
  a139 := Tryd.isAgg57
  z139 := Tryd.sizeOf57
  v139 := Tryd.zeroValue57
  t234 := Tryd.underlying65
  a234 := Tryd.isAgg65
  z234 := Tryd.sizeOf65
  v234 := Tryd.zeroValue65
  t236 := Tryd.underlying67
  a236 := Tryd.isAgg67
  z236 := Tryd.sizeOf67
  v236 := Tryd.zeroValue67
  g3 := by kernel_rfl
  g4 := by kernel_rfl
  g20 := by kernel_rfl
  g21 := by kernel_rfl
  g22 := by kernel_rfl
  g23 := by kernel_rfl
  g24 := by kernel_rfl }
open Go.RowKit in
/-- **strconv.Quote AT EVERY STRING, VALID UTF-8 OR NOT** (of at most some 2^43 bytes: ten bytes may come of one): 'strOfNums (Lib.quoteZ T s)': Derived/Lib/QuoteLoop.lean: a row of Lean a statement of Go. Of what was there nothing has turned. (LAID: no walk: one application.) -/
theorem Tryd.strconv_Quote (T : Lib.PrintTabs) (s : ByteArray) (w : World) (hlen : 10 * s.size + 12 ≤ 140737488355328) (hT : Lib.PrintTabsAt 5 6 7 8 T w) (hU : Lib.Utf8Tabs 3 4 w) :
    Calls Tryd.prog 20 #[.string s] w fun e w' => e = .returned (.string (strOfNums (Lib.quoteZ T s))) ∧ Below w.heap.size w w' := Any.strconv_Quote Tryd.lays177 (by kernel_rfl) T s w hlen hT hU
end Go.Proofs
