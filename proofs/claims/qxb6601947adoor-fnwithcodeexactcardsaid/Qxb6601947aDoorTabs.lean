/-
  From the row's listed variables to the tables that strconv.Quote's contract asks.
-/
import Derived.Test.Qxb6601947aDoorRows
import Derived.Test.Qxb6601947aDoorLawI
import Derived.PinnedBridge
import Derived.Lib.LaidU8
import Derived.Lib.LaidPrint
namespace Go.Proofs.Qxb6601947aDoor
open Go.RowKit Go.Proofs Go.Lib Go.Shelf

theorem u8Extra : U8Extra Tryd.prog Tryd.lays177_ren :=
  ⟨by kernel_rfl, by kernel_rfl, by kernel_rfl, by kernel_rfl, by kernel_rfl, by kernel_rfl, by kernel_rfl⟩
theorem printExtra : PrintExtra Tryd.prog Tryd.lays177_ren :=
  ⟨by kernel_rfl, by kernel_rfl, by kernel_rfl, by kernel_rfl, by kernel_rfl, by kernel_rfl, by kernel_rfl, by kernel_rfl, by kernel_rfl, by kernel_rfl⟩
theorem accept_eq : (Rows.laid_unicode_utf8_acceptRanges : DataW Unit) = acceptData := by kernel_rfl

theorem tabs_of_laid {w : World} {l : List (String × DataW Unit)} (hl : l = Rows.fnWithCodeExactRow.laid) (h : laidMet Tryd.prog l w) : Tabs goPrintTabs w := by
  subst hl
  have r0 : VarReads Tryd.prog w "unicode/utf8.acceptRanges" acceptData := accept_eq ▸ laidMet.reads h (List.mem_cons_self ..)
  have r2 : VarReads Tryd.prog w "strconv.isNotPrint16" (sliceData .u16 goPrintTabs.n16) := Pinned.isNotPrint16_eq ▸ laidMet.reads h (List.mem_cons_of_mem _ (List.mem_cons_of_mem _ (List.mem_cons_self ..)))
  have r3 : VarReads Tryd.prog w "strconv.isNotPrint32" (sliceData .u16 goPrintTabs.n32) := Pinned.isNotPrint32_eq ▸ laidMet.reads h (List.mem_cons_of_mem _ (List.mem_cons_of_mem _ (List.mem_cons_of_mem _ (List.mem_cons_self ..))))
  have r4 : VarReads Tryd.prog w "strconv.isPrint16" (sliceData .u16 goPrintTabs.p16) := Pinned.isPrint16_eq ▸ laidMet.reads h (List.mem_cons_of_mem _ (List.mem_cons_of_mem _ (List.mem_cons_of_mem _ (List.mem_cons_of_mem _ (List.mem_cons_self ..)))))
  have r5 : VarReads Tryd.prog w "strconv.isPrint32" (sliceData .u32 goPrintTabs.p32) := Pinned.isPrint32_eq ▸ laidMet.reads h (List.mem_cons_of_mem _ (List.mem_cons_of_mem _ (List.mem_cons_of_mem _ (List.mem_cons_of_mem _ (List.mem_cons_of_mem _ (List.mem_cons_self ..))))))
  have r6 : VarReads Tryd.prog w "unicode/utf8.first" firstData := Pinned.utf8First_eq ▸ laidMet.reads h (List.mem_cons_of_mem _ (List.mem_cons_of_mem _ (List.mem_cons_of_mem _ (List.mem_cons_of_mem _ (List.mem_cons_of_mem _ (List.mem_cons_of_mem _ (List.mem_cons_self ..)))))))
  exact ⟨printTabs_of_reads { Tryd.lays177 with } printExtra r4 r2 r5 r3, utf8Tabs_of_reads { Tryd.lays177 with } u8Extra r6 r0⟩
end Go.Proofs.Qxb6601947aDoor
