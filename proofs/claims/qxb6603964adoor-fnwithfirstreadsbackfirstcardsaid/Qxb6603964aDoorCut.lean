/-
  strings.Cut at ":" at this seat's dump, walked.
-/
import Derived.Test.Qxb6603964aDoorRange
namespace Go.Proofs.Qxb6603964aDoor
open Go.RowKit Go.Proofs Go.Lib

/-- What strings.Cut(x, ":") hands back. -/
def CutAns (x : ByteArray) (w : World) (e : Ending) (w' : World) : Prop :=
  ∃ (k v : ByteArray) (b : Bool), e = .returned (.tuple #[.string k, .string v, .bool b]) ∧ (58 : UInt8) ∉ k.data.toList ∧ (∀ c ∈ k.data.toList, c ∈ x.data.toList) ∧ (∀ c ∈ v.data.toList, c ∈ x.data.toList) ∧ k.size + v.size ≤ x.size ∧ ∃ n, w' = w.drewN n

theorem ext_mem {x : ByteArray} {a b : Nat} {c : UInt8} (h : c ∈ (x.extract a b).data.toList) : c ∈ x.data.toList := by
  rw [ByteArray.data_extract, Array.toList_extract, List.extract_eq_take_drop] at h
  exact List.mem_of_mem_drop (List.mem_of_mem_take h)
set_option maxHeartbeats 2000000 in
set_option maxRecDepth 100000 in
theorem cut31 (x : ByteArray) (w : World) (hs : x.size ≤ 1048576) : Calls Tryd.prog 31 #[.string x, .string ⟨#[58]⟩] w (CutAns x w) := by
  have hIx : Calls Tryd.prog 37 #[.string x, .string ⟨#[58]⟩] w fun e w' => e = .returned (.int .i64 (Lib.indexByte x.data.toList 58)) ∧ w = w' := (Tryd.stringslite_Index_one x 58 w).mono fun _ _ ⟨h1, h2⟩ => ⟨h1, h2.symm⟩
  obtain ⟨y, hy⟩ : ∃ y, Lib.indexByte x.data.toList 58 = y := ⟨_, rfl⟩
  rw [hy] at hIx
  by_cases hneg : y < 0
  · have hno : (58 : UInt8) ∉ x.data.toList := index_no (by rw [hy]; exact hneg)
    have hneg' : ¬ 0 ≤ y := by omega
    clear hy
    go_enter Tryd.func31, Tryd.ntmps31
    go_wp2_with fail
    refine hIx.mono ?_
    rintro e w1 ⟨rfl, rfl⟩
    go_wp2
    go_ret3
    exact ⟨x, ⟨#[]⟩, false, rfl, hno, fun c h => h, fun c h => absurd h (by simp), Nat.le_refl _, 0, rfl⟩
  · obtain ⟨i, hi1, hi2, hi3, _⟩ := index_yes (l := x.data.toList) (c := 58) (by rw [hy]; exact hneg)
    obtain rfl : y = (i : Int) := by rw [← hy, hi1]
    have hi4 : i < x.size := by rw [Lib.size_eq]; exact hi2
    have z1 : (i : Int) ≤ (x.size : Int) := by omega
    have z2 : (i : Int) + 1 ≤ (x.size : Int) := by omega
    have z0 : (0 : Int) ≤ (i : Int) := by omega
    have s1 : ∀ W : World, (Instr.slice 9 (.string x) none (some (.int .i64 (i : Int))) none).run Tryd.prog W = .ok (.string (x.extract 0 i)) W := fun W => by
      rw [run_slice_string_to_if W 9 x .i64 _ Tryd.underlying9, if_pos ⟨z0, z1⟩]; rfl
    have s2 : ∀ W : World, (Instr.slice 9 (.string x) (some (.int .i64 ((i : Int) + 1))) none none).run Tryd.prog W = .ok (.string (x.extract (i + 1) x.size)) W := fun W => by
      rw [run_slice_string_from_if W 9 x .i64 _ Tryd.underlying9, if_pos ⟨by omega, z2⟩]; rfl
    clear hy hi1 hneg
    go_enter Tryd.func31, Tryd.ntmps31
    go_wp2_with fail
    refine hIx.mono ?_
    rintro e w1 ⟨rfl, rfl⟩
    go_wp2
    go_region
    go_wp2
    go_ret3
    have t1 : (x.extract 0 i).data.toList = x.data.toList.take i := by
      rw [ByteArray.data_extract, Array.toList_extract, List.extract_eq_take_drop, List.drop_zero, Nat.sub_zero]
    exact ⟨x.extract 0 i, x.extract (i + 1) x.size, true, rfl, by rw [t1]; exact hi3, fun c h => ext_mem h, fun c h => ext_mem h, by rw [ByteArray.size_extract, ByteArray.size_extract]; omega, _, rfl⟩

set_option maxHeartbeats 1000000 in
theorem cut_any (x : ByteArray) (w : World) (hs : x.size ≤ 1048576) : Calls Tryd.prog 20 #[.string x, .string ⟨#[58]⟩] w (CutAns x w) := by
  have h := cut31 x w hs
  go_enter Tryd.func20, Tryd.ntmps20
  go_wp2_with fail
  refine h.mono ?_
  rintro e w1 ⟨k, v, b, rfl, h1, h2, h3, h4, h5⟩
  go_wp2
  go_ret3
  exact ⟨k, v, b, rfl, h1, h2, h3, h4, h5⟩
end Go.Proofs.Qxb6603964aDoor
