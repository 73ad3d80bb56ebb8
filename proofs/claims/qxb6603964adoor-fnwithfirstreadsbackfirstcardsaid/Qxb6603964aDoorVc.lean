/-
  zzIsValueByte and isValueChar at this seat's dump, walked.
-/
import Derived.Test.Qxb6603964aDoorKinds
namespace Go.Proofs.Qxb6603964aDoor
open Go.RowKit Go.Proofs Go.Lib
set_option maxHeartbeats 2000000 in
theorem zvchar_yes (c : UInt8) (w : World) (h : vchar c) : Calls Tryd.prog 14 #[.int .u8 (c.toNat : Int)] w (Ans true w) := by
  unfold vchar at h
  by_cases hL : lower c
  · have hl := zlower_yes c w hL
    clear h hL
    generalize (c.toNat : Int) = x at *
    go_enter Tryd.func14, Tryd.ntmps14
    go_wp2_with (go_at_call 12; refine hl.mono ?_; rintro e w1 ⟨rfl, rfl⟩)
    go_ret
    exact ⟨rfl, rfl⟩
  have hl := zlower_no c w hL
  by_cases hU : 65 ≤ c.toNat ∧ c.toNat ≤ 90
  · skip
    have g1 : decide ((65 : Int) ≤ (c.toNat : Int)) = true := decide_eq_true (by omega)
    have g2 : decide ((c.toNat : Int) ≤ (90 : Int)) = true := decide_eq_true (by omega)
    clear h hU hL
    generalize (c.toNat : Int) = x at *
    go_enter Tryd.func14, Tryd.ntmps14
    go_wp2_with (go_at_call 12; refine hl.mono ?_; rintro e w1 ⟨rfl, rfl⟩)
    go_ret
    exact ⟨rfl, rfl⟩
  by_cases hD : digit c
  · have hd := zdigit_yes c w hD
    unfold digit at hD
    have g1 : decide ((65 : Int) ≤ (c.toNat : Int)) = false := decide_eq_false (by omega)
    clear h hU hD hL
    generalize (c.toNat : Int) = x at *
    go_enter Tryd.func14, Tryd.ntmps14
    go_wp2_with (first | (go_at_call 12; refine hl.mono ?_; rintro e w1 ⟨rfl, rfl⟩) | (go_at_call 13; refine hd.mono ?_; rintro e w1 ⟨rfl, rfl⟩))
    go_ret
    exact ⟨rfl, rfl⟩
  have hd := zdigit_no c w hD
  have h' : c.toNat = 46 ∨ c.toNat = 95 ∨ c.toNat = 45 := by
    rcases h with h | h | h | h
    · exact absurd h hL
    · exact absurd h hU
    · exact absurd h hD
    · exact h
  clear h hU hD hL
  rcases h' with h | h | h
  · skip
    have g1 : decide ((65 : Int) ≤ (c.toNat : Int)) = false := decide_eq_false (by omega)
    have e46 : ((c.toNat : Int) == 46) = true := beq_iff_eq.2 (by omega)
    clear h
    generalize (c.toNat : Int) = x at *
    go_enter Tryd.func14, Tryd.ntmps14
    go_wp2_with (first | (go_at_call 12; refine hl.mono ?_; rintro e w1 ⟨rfl, rfl⟩) | (go_at_call 13; refine hd.mono ?_; rintro e w1 ⟨rfl, rfl⟩))
    go_ret
    exact ⟨rfl, rfl⟩
  · skip
    have g1 : decide ((65 : Int) ≤ (c.toNat : Int)) = true := decide_eq_true (by omega)
    have g2 : decide ((c.toNat : Int) ≤ (90 : Int)) = false := decide_eq_false (by omega)
    have e46 : ((c.toNat : Int) == 46) = false := beq_eq_false_iff_ne.2 (by omega)
    have e95 : ((c.toNat : Int) == 95) = true := beq_iff_eq.2 (by omega)
    clear h
    generalize (c.toNat : Int) = x at *
    go_enter Tryd.func14, Tryd.ntmps14
    go_wp2_with (first | (go_at_call 12; refine hl.mono ?_; rintro e w1 ⟨rfl, rfl⟩) | (go_at_call 13; refine hd.mono ?_; rintro e w1 ⟨rfl, rfl⟩))
    go_ret
    exact ⟨rfl, rfl⟩
  · skip
    have g1 : decide ((65 : Int) ≤ (c.toNat : Int)) = false := decide_eq_false (by omega)
    have e46 : ((c.toNat : Int) == 46) = false := beq_eq_false_iff_ne.2 (by omega)
    have e95 : ((c.toNat : Int) == 95) = false := beq_eq_false_iff_ne.2 (by omega)
    have e45 : ((c.toNat : Int) == 45) = true := beq_iff_eq.2 (by omega)
    clear h
    generalize (c.toNat : Int) = x at *
    go_enter Tryd.func14, Tryd.ntmps14
    go_wp2_with (first | (go_at_call 12; refine hl.mono ?_; rintro e w1 ⟨rfl, rfl⟩) | (go_at_call 13; refine hd.mono ?_; rintro e w1 ⟨rfl, rfl⟩))
    go_ret
    exact ⟨rfl, rfl⟩
set_option maxHeartbeats 2000000 in
theorem zvchar_no (c : UInt8) (w : World) (h : ¬ vchar c) : Calls Tryd.prog 14 #[.int .u8 (c.toNat : Int)] w (Ans false w) := by
  unfold vchar at h
  have hl := zlower_no c w (fun e => h (Or.inl e))
  have hd := zdigit_no c w (fun e => h (Or.inr (Or.inr (Or.inl e))))
  have hU : ¬ (65 ≤ c.toNat ∧ c.toNat ≤ 90) := fun e => h (Or.inr (Or.inl e))
  have e46 : ((c.toNat : Int) == 46) = false := beq_eq_false_iff_ne.2 (fun e => h (Or.inr (Or.inr (Or.inr (Or.inl (by omega))))))
  have e95 : ((c.toNat : Int) == 95) = false := beq_eq_false_iff_ne.2 (fun e => h (Or.inr (Or.inr (Or.inr (Or.inr (Or.inl (by omega)))))))
  have e45 : ((c.toNat : Int) == 45) = false := beq_eq_false_iff_ne.2 (fun e => h (Or.inr (Or.inr (Or.inr (Or.inr (Or.inr (by omega)))))))
  clear h
  by_cases h1 : 65 ≤ c.toNat
  · skip
    have g1 : decide ((65 : Int) ≤ (c.toNat : Int)) = true := decide_eq_true (by omega)
    have g2 : decide ((c.toNat : Int) ≤ (90 : Int)) = false := decide_eq_false (by omega)
    clear hU h1
    generalize (c.toNat : Int) = x at *
    go_enter Tryd.func14, Tryd.ntmps14
    go_wp2_with (first | (go_at_call 12; refine hl.mono ?_; rintro e w1 ⟨rfl, rfl⟩) | (go_at_call 13; refine hd.mono ?_; rintro e w1 ⟨rfl, rfl⟩))
    go_ret
    exact ⟨rfl, rfl⟩
  · skip
    have g1 : decide ((65 : Int) ≤ (c.toNat : Int)) = false := decide_eq_false (by omega)
    clear hU h1
    generalize (c.toNat : Int) = x at *
    go_enter Tryd.func14, Tryd.ntmps14
    go_wp2_with (first | (go_at_call 12; refine hl.mono ?_; rintro e w1 ⟨rfl, rfl⟩) | (go_at_call 13; refine hd.mono ?_; rintro e w1 ⟨rfl, rfl⟩))
    go_ret
    exact ⟨rfl, rfl⟩
set_option maxHeartbeats 2000000 in
theorem vchar_yes (c : UInt8) (w : World) (h : vchar c) : Calls Tryd.prog 24 #[.int .u8 (c.toNat : Int)] w (Ans true w) := by
  unfold vchar at h
  by_cases hL : lower c
  · have hl := lower_yes c w hL
    clear h hL
    generalize (c.toNat : Int) = x at *
    go_enter Tryd.func24, Tryd.ntmps24
    go_wp2_with (go_at_call 22; refine hl.mono ?_; rintro e w1 ⟨rfl, rfl⟩)
    go_ret
    exact ⟨rfl, rfl⟩
  have hl := lower_no c w hL
  by_cases hU : 65 ≤ c.toNat ∧ c.toNat ≤ 90
  · skip
    have g1 : decide ((65 : Int) ≤ (c.toNat : Int)) = true := decide_eq_true (by omega)
    have g2 : decide ((c.toNat : Int) ≤ (90 : Int)) = true := decide_eq_true (by omega)
    clear h hU hL
    generalize (c.toNat : Int) = x at *
    go_enter Tryd.func24, Tryd.ntmps24
    go_wp2_with (go_at_call 22; refine hl.mono ?_; rintro e w1 ⟨rfl, rfl⟩)
    go_ret
    exact ⟨rfl, rfl⟩
  by_cases hD : digit c
  · have hd := digit_yes c w hD
    unfold digit at hD
    have g1 : decide ((65 : Int) ≤ (c.toNat : Int)) = false := decide_eq_false (by omega)
    clear h hU hD hL
    generalize (c.toNat : Int) = x at *
    go_enter Tryd.func24, Tryd.ntmps24
    go_wp2_with (first | (go_at_call 22; refine hl.mono ?_; rintro e w1 ⟨rfl, rfl⟩) | (go_at_call 23; refine hd.mono ?_; rintro e w1 ⟨rfl, rfl⟩))
    go_ret
    exact ⟨rfl, rfl⟩
  have hd := digit_no c w hD
  have h' : c.toNat = 46 ∨ c.toNat = 95 ∨ c.toNat = 45 := by
    rcases h with h | h | h | h
    · exact absurd h hL
    · exact absurd h hU
    · exact absurd h hD
    · exact h
  clear h hU hD hL
  rcases h' with h | h | h
  · skip
    have g1 : decide ((65 : Int) ≤ (c.toNat : Int)) = false := decide_eq_false (by omega)
    have e46 : ((c.toNat : Int) == 46) = true := beq_iff_eq.2 (by omega)
    clear h
    generalize (c.toNat : Int) = x at *
    go_enter Tryd.func24, Tryd.ntmps24
    go_wp2_with (first | (go_at_call 22; refine hl.mono ?_; rintro e w1 ⟨rfl, rfl⟩) | (go_at_call 23; refine hd.mono ?_; rintro e w1 ⟨rfl, rfl⟩))
    go_ret
    exact ⟨rfl, rfl⟩
  · skip
    have g1 : decide ((65 : Int) ≤ (c.toNat : Int)) = true := decide_eq_true (by omega)
    have g2 : decide ((c.toNat : Int) ≤ (90 : Int)) = false := decide_eq_false (by omega)
    have e46 : ((c.toNat : Int) == 46) = false := beq_eq_false_iff_ne.2 (by omega)
    have e95 : ((c.toNat : Int) == 95) = true := beq_iff_eq.2 (by omega)
    clear h
    generalize (c.toNat : Int) = x at *
    go_enter Tryd.func24, Tryd.ntmps24
    go_wp2_with (first | (go_at_call 22; refine hl.mono ?_; rintro e w1 ⟨rfl, rfl⟩) | (go_at_call 23; refine hd.mono ?_; rintro e w1 ⟨rfl, rfl⟩))
    go_ret
    exact ⟨rfl, rfl⟩
  · skip
    have g1 : decide ((65 : Int) ≤ (c.toNat : Int)) = false := decide_eq_false (by omega)
    have e46 : ((c.toNat : Int) == 46) = false := beq_eq_false_iff_ne.2 (by omega)
    have e95 : ((c.toNat : Int) == 95) = false := beq_eq_false_iff_ne.2 (by omega)
    have e45 : ((c.toNat : Int) == 45) = true := beq_iff_eq.2 (by omega)
    clear h
    generalize (c.toNat : Int) = x at *
    go_enter Tryd.func24, Tryd.ntmps24
    go_wp2_with (first | (go_at_call 22; refine hl.mono ?_; rintro e w1 ⟨rfl, rfl⟩) | (go_at_call 23; refine hd.mono ?_; rintro e w1 ⟨rfl, rfl⟩))
    go_ret
    exact ⟨rfl, rfl⟩
set_option maxHeartbeats 2000000 in
theorem vchar_no (c : UInt8) (w : World) (h : ¬ vchar c) : Calls Tryd.prog 24 #[.int .u8 (c.toNat : Int)] w (Ans false w) := by
  unfold vchar at h
  have hl := lower_no c w (fun e => h (Or.inl e))
  have hd := digit_no c w (fun e => h (Or.inr (Or.inr (Or.inl e))))
  have hU : ¬ (65 ≤ c.toNat ∧ c.toNat ≤ 90) := fun e => h (Or.inr (Or.inl e))
  have e46 : ((c.toNat : Int) == 46) = false := beq_eq_false_iff_ne.2 (fun e => h (Or.inr (Or.inr (Or.inr (Or.inl (by omega))))))
  have e95 : ((c.toNat : Int) == 95) = false := beq_eq_false_iff_ne.2 (fun e => h (Or.inr (Or.inr (Or.inr (Or.inr (Or.inl (by omega)))))))
  have e45 : ((c.toNat : Int) == 45) = false := beq_eq_false_iff_ne.2 (fun e => h (Or.inr (Or.inr (Or.inr (Or.inr (Or.inr (by omega)))))))
  clear h
  by_cases h1 : 65 ≤ c.toNat
  · skip
    have g1 : decide ((65 : Int) ≤ (c.toNat : Int)) = true := decide_eq_true (by omega)
    have g2 : decide ((c.toNat : Int) ≤ (90 : Int)) = false := decide_eq_false (by omega)
    clear hU h1
    generalize (c.toNat : Int) = x at *
    go_enter Tryd.func24, Tryd.ntmps24
    go_wp2_with (first | (go_at_call 22; refine hl.mono ?_; rintro e w1 ⟨rfl, rfl⟩) | (go_at_call 23; refine hd.mono ?_; rintro e w1 ⟨rfl, rfl⟩))
    go_ret
    exact ⟨rfl, rfl⟩
  · skip
    have g1 : decide ((65 : Int) ≤ (c.toNat : Int)) = false := decide_eq_false (by omega)
    clear hU h1
    generalize (c.toNat : Int) = x at *
    go_enter Tryd.func24, Tryd.ntmps24
    go_wp2_with (first | (go_at_call 22; refine hl.mono ?_; rintro e w1 ⟨rfl, rfl⟩) | (go_at_call 23; refine hd.mono ?_; rintro e w1 ⟨rfl, rfl⟩))
    go_ret
    exact ⟨rfl, rfl⟩
end Go.Proofs.Qxb6603964aDoor
