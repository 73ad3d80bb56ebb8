/-
  strings.splitSeq's iterator at this seat's dump, walked, at the separator ";": it keeps what is left in a cell of its own.
-/
import Derived.RangeFuncNested
import Derived.RangeFuncBound
import Derived.RangeFuncCalls
import Derived.RangeFuncLeaves
import Derived.Shelf.Abstract
import Derived.Shelf.RegionOpen
import Derived.WalkKit
import Derived.OwnWalkIn
import Derived.TacticsInMore
import Derived.LoopNIn
import Derived.LoopIn
import Derived.Test.Qxb6603964aDoorAdd
namespace Go.Proofs.Qxb6603964aDoor
open Go.RowKit Go.Proofs Go.Lib Go.Shelf
attribute [local go_sem] Oper.semAt_some

/-- The iterator's three cells: r is what is left. -/
structure Cells3 (Bsep Bs Bv : Nat) (r : ByteArray) (W : World) : Prop where
  sep : W.cell? ⟨Bsep, 0, none⟩ = some (.string ⟨#[59]⟩)
  left : W.cell? ⟨Bs, 0, none⟩ = some (.string r)
  open_ : W.frozen? ⟨Bs, 0, none⟩ = false
  save : W.cell? ⟨Bv, 0, none⟩ = some (.int .i64 0)
def leftSize (Bs : Nat) (W : World) : Nat := match W.cell? ⟨Bs, 0, none⟩ with
  | some (.string r) => r.size
  | _ => 0

set_option maxHeartbeats 4000000 in
set_option maxRecDepth 100000 in
theorem split_in (n : Nat) (hn : 1 ≤ n) (l Bsep Bs Bv : Nat) (J : ByteArray → World → Prop) (Je : World → Prop) (hC : ∀ r W, J r W → Cells3 Bsep Bs Bv r W)
    (hY : ∀ (r : ByteArray) (i : Nat) W, J r W → i < r.size → (59 : UInt8) ∉ r.data.toList.take i → r.size ≤ 1048576 → YieldAt Fence.wide (n - 1) Tryd.prog l #[.string (r.extract 0 i)] W fun e W' =>
      e = .returned (.bool true) ∧ Cells3 Bsep Bs Bv r W' ∧ J (r.extract (i + 1) r.size) (W'.setCell ⟨Bs, 0, none⟩ (.string (r.extract (i + 1) r.size))))
    (hE : ∀ r W, J r W → (59 : UInt8) ∉ r.data.toList → r.size ≤ 1048576 → YieldAt Fence.wide (n - 1) Tryd.prog l #[.string r] W fun e W' => e = .returned (.bool true) ∧ Je W')
    (s : ByteArray) (W : World) (h0 : J s W) (hs : s.size ≤ 1048576) :
    CallsIn Fence.wide n Tryd.prog 34 #[.func (.yield l) #[] #[], .pointer (some ⟨Bsep, 0, none⟩), .pointer (some ⟨Bs, 0, none⟩), .pointer (some ⟨Bv, 0, none⟩)] W fun e W' => (∃ v, e = .returned v) ∧ Je W' := by
  refine callsIn_of_wp Tryd.func34 rfl trivial ?_ rfl
  simp only [Tryd.ntmps34, List.size_toArray, List.length_cons, List.length_nil, Nat.reduceAdd, Nat.reduceSub, Array.replicate_succ, Array.replicate_zero, List.push_toArray, List.append_toArray, List.nil_append, List.cons_append]
  obtain ⟨c1, c2, c3, c4⟩ := hC s W h0
  gi_wp2
  gi_loopw [7] (fun _ wr => ∃ r : ByteArray, r.size ≤ 1048576 ∧ J r wr) (fun _ wr => leftSize Bs wr)
  case atStart => exact ⟨s, hs, h0⟩
  case round =>
    obtain ⟨r, hr, hJ⟩ := hrel
    clear c1 c2 c3 c4
    obtain ⟨c1, c2, c3, c4⟩ := hC r wr hJ
    have hIx : Calls Tryd.prog 36 #[.string r, .string ⟨#[59]⟩] wr fun e w' => e = .returned (.int .i64 (Lib.indexByte r.data.toList 59)) ∧ wr = w' := (Tryd.strings_Index_one r 59 wr).mono fun _ _ ⟨h1, h2⟩ => ⟨h1, h2.symm⟩
    obtain ⟨x, hx⟩ : ∃ x, Lib.indexByte r.data.toList 59 = x := ⟨_, rfl⟩
    rw [hx] at hIx
    by_cases hneg : x < 0
    · have hno : (59 : UInt8) ∉ r.data.toList := index_no (by rw [hx]; exact hneg)
      obtain ⟨fn, tmps, assign, body, hy, hR⟩ := hE r wr hJ hno hr
      clear hx
      gi_wp2_with (refine ⟨trivial, ?_⟩; gi_at_call 36; refine (callsIn_wide.2 hIx).mono ?_; rintro e w' ⟨rfl, rfl⟩)
      refine hR.mono ?_
      rintro e W3 ⟨rfl, hJ3⟩
      gi_wp2
      go_end0
      exact ⟨⟨_, rfl⟩, hJ3⟩
    · obtain ⟨i, hi1, hi2, hi3, _⟩ := index_yes (l := r.data.toList) (c := 59) (by rw [hx]; exact hneg)
      obtain rfl : x = (i : Int) := by rw [← hx, hi1]
      have hi4 : i < r.size := by rw [Lib.size_eq]; exact hi2
      obtain ⟨fn, tmps, assign, body, hy, hR⟩ := hY r i wr hJ hi4 hi3 hr
      have z1 : (i : Int) ≤ (r.size : Int) := by omega
      have z2 : (i : Int) + 1 ≤ (r.size : Int) := by omega
      clear hx hi1 hi2 hi3 hneg
      gi_wp2_with (refine ⟨trivial, ?_⟩; gi_at_call 36; refine (callsIn_wide.2 hIx).mono ?_; rintro e w' ⟨rfl, rfl⟩)
      refine hR.mono ?_
      rintro e W3 ⟨rfl, ⟨d1, d2, d3, d4⟩, hJ3⟩
      gi_wp2
      go_roundw
      case rel => exact ⟨r.extract (i + 1) r.size, by rw [ByteArray.size_extract]; omega, hJ3⟩
      case measure =>
        have e1 : leftSize Bs wr = r.size := by unfold leftSize; rw [c2]
        have e2 : leftSize Bs (W3.setCell ⟨Bs, 0, none⟩ (.string (r.extract (i + 1) r.size))) = (r.extract (i + 1) r.size).size := by
          unfold leftSize
          rw [World.cell?_setCell_same' _ _ _ (by rw [d2]; rfl)]
        rw [e1, e2, ByteArray.size_extract]
        omega
end Go.Proofs.Qxb6603964aDoor
