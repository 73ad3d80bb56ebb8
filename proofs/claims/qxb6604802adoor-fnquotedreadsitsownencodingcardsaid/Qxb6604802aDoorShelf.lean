/-
  DERIVED: THE SHELF's CONTRACTS AT THIS DUMP, IN PLAIN WORDS (tools/lay-plain.mjs out of 'Qxb6604802aDoorShelf.lean', which tools/lay-shelf.mjs wrote): THE SAME DECLARATIONS UNDER THE SAME NAMES: 'import', 'namespace', 'open', 'def', 'theorem' AND NOTHING ELSE: no command of the shelf's: FOR A HAND-IN. Each laying: the table of numbers ('.._ren') and one theorem, a field a fact of the dump's own or the kernel's comparison; each contract: ONE APPLICATION.
-/
import Derived.Ground.NamesProg
import Derived.Shelf.Strings.BuilderK
import Derived.Shelf.Strings.Prefix
import Derived.Shelf.Strings.SlTrimAscii
import Derived.Test.Qxb6604802aDoorProg
namespace Go.Proofs
open Go.Shelf
def Tryd.lays169_ren : Go.Shelf.Ren := ⟨fun | 169 => 16 | n => n, fun | 70 => 31 | 9 => 9 | 0 => 0 | 72 => 33 | 37 => 28 | 127 => 45 | 3 => 3 | 5 => 5 | n => n, fun | n => n⟩
theorem Tryd.lays169 : Go.Proofs.Lays.n169 Tryd.prog Tryd.lays169_ren := {
  mixed := by kernel_rfl
  f169 := Tryd.func16.trans (congrArg some (by kernel_rfl))
  t0 := Tryd.underlying0
  a0 := Tryd.isAgg0
  z0 := Tryd.sizeOf0
  v0 := Tryd.zeroValue0
  t3 := Tryd.underlying3
  a3 := Tryd.isAgg3
  z3 := Tryd.sizeOf3
  v3 := Tryd.zeroValue3
  t9 := Tryd.underlying9
  a9 := Tryd.isAgg9
  z9 := Tryd.sizeOf9
  v9 := Tryd.zeroValue9
  t37 := Tryd.underlying28
  a37 := Tryd.isAgg28
  z37 := Tryd.sizeOf28
  v37 := Tryd.zeroValue28
  t70 := Tryd.underlying31
  a70 := Tryd.isAgg31
  z70 := Tryd.sizeOf31
  v70 := Tryd.zeroValue31
  t72 := Tryd.underlying33
  a72 := Tryd.isAgg33
  z72 := Tryd.sizeOf33
  v72 := Tryd.zeroValue33
  t127 := Tryd.underlying45
  a127 := Tryd.isAgg45
  z127 := Tryd.sizeOf45
  v127 := Tryd.zeroValue45 }
theorem Tryd.Builder_Extra_169 : Builder.Extra Tryd.prog Tryd.lays169_ren := {
  sizeBuilder := by kernel_rfl
  liesBuilder := by kernel_rfl
  t5 := Tryd.underlying5
  a5 := Tryd.isAgg5
  z5 := Tryd.sizeOf5
  v5 := Tryd.zeroValue5
  infoByte := by kernel_rfl
  cellsByte := by kernel_rfl
  sizeByte := by kernel_rfl
  neB5 := by decide }
open Go.RowKit in
theorem Tryd.Builder_String_any_k (B b : Nat) (l : List UInt8) (w : World) (h : Lib.IsBuilderF 33 5 B b (Lib.byteCells l) w) (hBw : B ≤ w.heap.size) :
    Calls Tryd.prog 16 #[.pointer (some ⟨b, 0, none⟩)] w fun e w' => e = .returned (.string ⟨l.toArray⟩) ∧ (Lib.IsBuilderF 33 5 B b (Lib.byteCells l) w' ∧ Below B w w' ∧ Lib.OthersKept 5 (some b) w w') := Any.Builder_String_any_k Tryd.lays169 Tryd.Builder_Extra_169 B b l w h hBw
def Tryd.lays99_ren : Go.Shelf.Ren := ⟨fun | 99 => 14 | 206 => 21 | n => n, fun | 9 => 9 | 4 => 4 | 3 => 3 | n => n, fun | n => n⟩
theorem Tryd.lays99 : Go.Proofs.Lays.n99 Tryd.prog Tryd.lays99_ren := {
  mixed := by kernel_rfl
  f99 := Tryd.func14.trans (congrArg some (by kernel_rfl))
  f206 := Tryd.func21.trans (congrArg some (by kernel_rfl))
  t3 := Tryd.underlying3
  a3 := Tryd.isAgg3
  z3 := Tryd.sizeOf3
  v3 := Tryd.zeroValue3
  t4 := Tryd.underlying4
  a4 := Tryd.isAgg4
  z4 := Tryd.sizeOf4
  v4 := Tryd.zeroValue4
  t9 := Tryd.underlying9
  a9 := Tryd.isAgg9
  z9 := Tryd.sizeOf9
  v9 := Tryd.zeroValue9 }
open Go.RowKit Go.Lib in
theorem Tryd.strings_HasPrefix (s p : ByteArray) (w : World) :
    Calls Tryd.prog 14 #[.string s, .string p] w fun e w' => e = .returned (.bool (Lib.hasPrefix s.data.toList p.data.toList)) ∧ w' = w := Any.strings_HasPrefix Tryd.lays99 s p w
def Tryd.lays161_ren : Go.Shelf.Ren := ⟨fun | 161 => 13 | 231 => 17 | 227 => 18 | 233 => 19 | 235 => 20 | 228 => 23 | 197 => 24 | 151 => 25 | 260 => 27 | 152 => 28 | 137 => 29 | 119 => 30 | 224 => 31 | 225 => 32 | 217 => 33 | 266 => 34 | n => n, fun | 9 => 9 | 4 => 4 | 3 => 3 | 5 => 5 | 117 => 41 | 116 => 40 | 0 => 0 | 124 => 44 | 105 => 47 | 21 => 21 | 119 => 53 | 46 => 54 | 139 => 57 | 138 => 56 | n => n, fun | 3 => 0 | 4 => 1 | n => n⟩
theorem Tryd.lays161 : Go.Proofs.Lays.n161 Tryd.prog Tryd.lays161_ren := {
  mixed := by kernel_rfl
  f119 := Tryd.func30.trans (congrArg some (by kernel_rfl))
  f137 := Tryd.func29.trans (congrArg some (by kernel_rfl))
  f151 := Tryd.func25.trans (congrArg some (by kernel_rfl))
  f152 := Tryd.func28.trans (congrArg some (by kernel_rfl))
  f161 := Tryd.func13.trans (congrArg some (by kernel_rfl))
  f197 := Tryd.func24.trans (congrArg some (by kernel_rfl))
  f217 := Tryd.func33.trans (congrArg some (by kernel_rfl))
  f224 := Tryd.func31.trans (congrArg some (by kernel_rfl))
  f225 := Tryd.func32.trans (congrArg some (by kernel_rfl))
  f227 := Tryd.func18.trans (congrArg some (by kernel_rfl))
  f228 := Tryd.func23.trans (congrArg some (by kernel_rfl))
  f231 := Tryd.func17.trans (congrArg some (by kernel_rfl))
  f233 := Tryd.func19.trans (congrArg some (by kernel_rfl))
  f235 := Tryd.func20.trans (congrArg some (by kernel_rfl))
  f260 := Tryd.func27.trans (congrArg some (by kernel_rfl))
  f266 := Tryd.func34.trans (congrArg some (by kernel_rfl))
  t0 := Tryd.underlying0
  a0 := Tryd.isAgg0
  z0 := Tryd.sizeOf0
  v0 := Tryd.zeroValue0
  t3 := Tryd.underlying3
  a3 := Tryd.isAgg3
  z3 := Tryd.sizeOf3
  v3 := Tryd.zeroValue3
  t4 := Tryd.underlying4
  a4 := Tryd.isAgg4
  z4 := Tryd.sizeOf4
  v4 := Tryd.zeroValue4
  t5 := Tryd.underlying5
  a5 := Tryd.isAgg5
  z5 := Tryd.sizeOf5
  v5 := Tryd.zeroValue5
  t9 := Tryd.underlying9
  a9 := Tryd.isAgg9
  z9 := Tryd.sizeOf9
  v9 := Tryd.zeroValue9
  t21 := Tryd.underlying21
  a21 := Tryd.isAgg21
  z21 := Tryd.sizeOf21
  v21 := Tryd.zeroValue21
  t46 := Tryd.underlying54
  a46 := Tryd.isAgg54
  z46 := Tryd.sizeOf54
  v46 := Tryd.zeroValue54
  t105 := Tryd.underlying47
  a105 := Tryd.isAgg47
  z105 := Tryd.sizeOf47
  v105 := Tryd.zeroValue47
  t116 := Tryd.underlying40
  a116 := Tryd.isAgg40
  z116 := Tryd.sizeOf40
  t117 := Tryd.underlying41
  a117 := Tryd.isAgg41
  z117 := Tryd.sizeOf41
  v117 := Tryd.zeroValue41
  t119 := Tryd.underlying53
  a119 := Tryd.isAgg53
  z119 := Tryd.sizeOf53
  t124 := Tryd.underlying44
  a124 := Tryd.isAgg44
  z124 := Tryd.sizeOf44
  v124 := Tryd.zeroValue44
  t138 := Tryd.underlying56
  a138 := Tryd.isAgg56
  z138 := Tryd.sizeOf56
  v138 := Tryd.zeroValue56
  t139 := Tryd.underlying57
  a139 := Tryd.isAgg57
  z139 := Tryd.sizeOf57
  v139 := Tryd.zeroValue57
  g3 := by kernel_rfl
  g4 := by kernel_rfl }
open Go.RowKit Go.Lib in
theorem Tryd.strings_TrimLeft_blank (s : ByteArray) (w : World) :
    Calls Tryd.prog 13 #[.string s, .string ⟨#[32, 9]⟩] w fun e w' => e = .returned (.string ⟨(Lib.trimLeftS s.data.toList [32, 9]).toArray⟩) ∧ Below w.heap.size w w' := Any.strings_TrimLeft_laid Tryd.lays161 (by kernel_rfl) s ⟨#[32, 9]⟩ w (by decide) (ascii_of_all (by decide))
end Go.Proofs
