/-
  The kinds of bytes at this seat's dump, walked.
-/
import Derived.Test.Qxb6603964aDoorProg
import Derived.Test.Qxb6603964aDoorPlain
import Derived.WalkKit
import Derived.RowKit3
import Derived.OwnWalk
import Derived.Lib.Walk
import Derived.Lib.Strings
import Derived.Deep.LoopGhost
namespace Go.Proofs.Qxb6603964aDoor
open Go.RowKit Go.Proofs Go.Lib

/-- It answers b; the world is as it was. -/
def Ans (b : Bool) (w : World) (e : Ending) (w' : World) : Prop := e = .returned (.bool b) ∧ w = w'
set_option maxHeartbeats 1000000 in
theorem zlower_yes (c : UInt8) (w : World) (h : lower c) : Calls Tryd.prog 12 #[.int .u8 (c.toNat : Int)] w (Ans true w) := by
  obtain ⟨h1, h2⟩ := h
  have g1 : (97 : Int) ≤ (c.toNat : Int) := by omega
  have g2 : (c.toNat : Int) ≤ 122 := by omega
  go_enter Tryd.func12, Tryd.ntmps12
  go_wp2
  go_ret
  exact ⟨rfl, rfl⟩
set_option maxHeartbeats 1000000 in
theorem zlower_no (c : UInt8) (w : World) (h : ¬ lower c) : Calls Tryd.prog 12 #[.int .u8 (c.toNat : Int)] w (Ans false w) := by
  unfold lower at h
  by_cases h1 : 97 ≤ c.toNat
  · have g1 : (97 : Int) ≤ (c.toNat : Int) := by omega
    have g2 : ¬ (c.toNat : Int) ≤ 122 := by omega
    clear h
    go_enter Tryd.func12, Tryd.ntmps12
    go_wp2
    go_ret
    exact ⟨rfl, rfl⟩
  · have g1 : ¬ (97 : Int) ≤ (c.toNat : Int) := by omega
    clear h
    go_enter Tryd.func12, Tryd.ntmps12
    go_wp2
    go_ret
    exact ⟨rfl, rfl⟩
set_option maxHeartbeats 1000000 in
theorem lower_yes (c : UInt8) (w : World) (h : lower c) : Calls Tryd.prog 22 #[.int .u8 (c.toNat : Int)] w (Ans true w) := by
  obtain ⟨h1, h2⟩ := h
  have g1 : (97 : Int) ≤ (c.toNat : Int) := by omega
  have g2 : (c.toNat : Int) ≤ 122 := by omega
  go_enter Tryd.func22, Tryd.ntmps22
  go_wp2
  go_ret
  exact ⟨rfl, rfl⟩
set_option maxHeartbeats 1000000 in
theorem lower_no (c : UInt8) (w : World) (h : ¬ lower c) : Calls Tryd.prog 22 #[.int .u8 (c.toNat : Int)] w (Ans false w) := by
  unfold lower at h
  by_cases h1 : 97 ≤ c.toNat
  · have g1 : (97 : Int) ≤ (c.toNat : Int) := by omega
    have g2 : ¬ (c.toNat : Int) ≤ 122 := by omega
    clear h
    go_enter Tryd.func22, Tryd.ntmps22
    go_wp2
    go_ret
    exact ⟨rfl, rfl⟩
  · have g1 : ¬ (97 : Int) ≤ (c.toNat : Int) := by omega
    clear h
    go_enter Tryd.func22, Tryd.ntmps22
    go_wp2
    go_ret
    exact ⟨rfl, rfl⟩
set_option maxHeartbeats 1000000 in
theorem zdigit_yes (c : UInt8) (w : World) (h : digit c) : Calls Tryd.prog 13 #[.int .u8 (c.toNat : Int)] w (Ans true w) := by
  obtain ⟨h1, h2⟩ := h
  have g1 : (48 : Int) ≤ (c.toNat : Int) := by omega
  have g2 : (c.toNat : Int) ≤ 57 := by omega
  go_enter Tryd.func13, Tryd.ntmps13
  go_wp2
  go_ret
  exact ⟨rfl, rfl⟩
set_option maxHeartbeats 1000000 in
theorem zdigit_no (c : UInt8) (w : World) (h : ¬ digit c) : Calls Tryd.prog 13 #[.int .u8 (c.toNat : Int)] w (Ans false w) := by
  unfold digit at h
  by_cases h1 : 48 ≤ c.toNat
  · have g1 : (48 : Int) ≤ (c.toNat : Int) := by omega
    have g2 : ¬ (c.toNat : Int) ≤ 57 := by omega
    clear h
    go_enter Tryd.func13, Tryd.ntmps13
    go_wp2
    go_ret
    exact ⟨rfl, rfl⟩
  · have g1 : ¬ (48 : Int) ≤ (c.toNat : Int) := by omega
    clear h
    go_enter Tryd.func13, Tryd.ntmps13
    go_wp2
    go_ret
    exact ⟨rfl, rfl⟩
set_option maxHeartbeats 1000000 in
theorem digit_yes (c : UInt8) (w : World) (h : digit c) : Calls Tryd.prog 23 #[.int .u8 (c.toNat : Int)] w (Ans true w) := by
  obtain ⟨h1, h2⟩ := h
  have g1 : (48 : Int) ≤ (c.toNat : Int) := by omega
  have g2 : (c.toNat : Int) ≤ 57 := by omega
  go_enter Tryd.func23, Tryd.ntmps23
  go_wp2
  go_ret
  exact ⟨rfl, rfl⟩
set_option maxHeartbeats 1000000 in
theorem digit_no (c : UInt8) (w : World) (h : ¬ digit c) : Calls Tryd.prog 23 #[.int .u8 (c.toNat : Int)] w (Ans false w) := by
  unfold digit at h
  by_cases h1 : 48 ≤ c.toNat
  · have g1 : (48 : Int) ≤ (c.toNat : Int) := by omega
    have g2 : ¬ (c.toNat : Int) ≤ 57 := by omega
    clear h
    go_enter Tryd.func23, Tryd.ntmps23
    go_wp2
    go_ret
    exact ⟨rfl, rfl⟩
  · have g1 : ¬ (48 : Int) ≤ (c.toNat : Int) := by omega
    clear h
    go_enter Tryd.func23, Tryd.ntmps23
    go_wp2
    go_ret
    exact ⟨rfl, rfl⟩
end Go.Proofs.Qxb6603964aDoor
