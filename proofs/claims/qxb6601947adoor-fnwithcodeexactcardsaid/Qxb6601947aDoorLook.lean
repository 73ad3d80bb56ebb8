/-
  The law's small readers at this seat's dump, walked: zzAt, zzByteAt, zzNamedEscape, zzCont.
-/
import Derived.Test.Qxb6601947aDoorLawI
import Derived.Deep.LoopGhost
namespace Go.Proofs.Qxb6601947aDoor
open Go.RowKit Go.Proofs Go.Lib

/-- What lies in s from p on. -/
def From (s : ByteArray) (p : Nat) (l : List Int) : Prop := p ≤ s.size ∧ ints (s.data.toList.drop p) = l
theorem From.cons {s : ByteArray} {p : Nat} {x : Int} {l : List Int} (h : From s p (x :: l)) : ∃ g : p < s.size, (s[p].toNat : Int) = x ∧ From s (p + 1) l := by
  obtain ⟨h1, h2⟩ := h
  have g : p < s.size := by
    rcases Nat.lt_or_ge p s.size with g | g
    · exact g
    · rw [List.drop_eq_nil_of_le (by rw [← Lib.size_eq]; omega)] at h2; cases h2
  have hd : s.data.toList.drop p = s[p] :: s.data.toList.drop (p + 1) := by
    rw [List.drop_eq_getElem_cons (by rw [← Lib.size_eq]; exact g)]; rfl
  rw [hd] at h2
  obtain ⟨e1, e2⟩ := List.cons.inj h2
  exact ⟨g, e1, by omega, e2⟩
theorem From.app {s : ByteArray} : ∀ {l m : List Int} {p : Nat}, From s p (l ++ m) → From s (p + l.length) m
  | [], _, _, h => h
  | x :: l, m, p, h => by
    obtain ⟨_, _, h2⟩ := From.cons h
    have := From.app h2
    rw [List.length_cons, show p + (l.length + 1) = p + 1 + l.length by omega]
    exact this

set_option maxHeartbeats 1000000 in
theorem byte_any (s : ByteArray) (p : Nat) (c x : Int) (l : List Int) (w : World) (h : From s p (x :: l)) :
    Calls Tryd.prog 15 #[.string s, .int .i64 (p : Int), .int .u8 c] w fun e w' => e = .returned (.bool (x == c)) ∧ w' = w := by
  obtain ⟨g, rfl, _⟩ := h.cons
  clear h
  have h0 : (0 : Int) ≤ (p : Int) := by omega
  have h1 : (p : Int) < (s.size : Int) := by omega
  go_enter Tryd.func15, Tryd.ntmps15
  go_wp2
  go_ret
  exact ⟨rfl, rfl⟩

theorem ext_eq {s t : ByteArray} {p : Nat} {l : List Int} (h : From s p (ints t.data.toList ++ l)) : p + t.size ≤ s.size ∧ ((s.extract p (p + t.size)).toList == t.toList) = true := by
  obtain ⟨h1, h2⟩ := h
  have h3 := congrArg (List.take t.size) h2
  have hl : (ints t.data.toList).length = t.size := by simp [ints]
  rw [List.take_left' hl] at h3
  have h4 : ints ((s.data.toList.drop p).take t.size) = ints t.data.toList := by
    rw [← h3]; unfold ints; rw [List.map_take]
  have h5 := ints_inj h4
  have h6 : p + t.size ≤ s.size := by
    have := congrArg List.length h5
    rw [List.length_take, List.length_drop, ← Lib.size_eq, ← Lib.size_eq] at this
    omega
  refine ⟨h6, ?_⟩
  rw [Lib.toList_data, Lib.toList_data, ByteArray.data_extract, Array.toList_extract]
  simp only [beq_iff_eq]
  rw [← h5]
  simp [List.take_drop]
set_option maxHeartbeats 1000000 in
theorem at_any (s t : ByteArray) (p : Nat) (l : List Int) (w : World) (hs : s.size ≤ 1073741824) (h : From s p (ints t.data.toList ++ l)) :
    Calls Tryd.prog 8 #[.string s, .int .i64 (p : Int), .string t] w fun e w' => e = .returned (.bool true) ∧ w' = w := by
  have h1 := h.1
  obtain ⟨h2, h3⟩ := ext_eq h
  clear h
  have a0 : ¬ (p : Int) < 0 := by omega
  have a1 : ¬ (p : Int) > (s.size : Int) := by omega
  have a2 : ¬ (s.size : Int) - (p : Int) < (t.size : Int) := by omega
  go_enter Tryd.func8, Tryd.ntmps8
  go_wp2
  all_goals
    go_ret
    exact ⟨rfl, rfl⟩

def named (c : Nat) : Nat := if c = 7 then 97 else if c = 8 then 98 else if c = 9 then 116 else if c = 10 then 110 else if c = 11 then 118 else if c = 12 then 102 else if c = 13 then 114 else 0
set_option maxHeartbeats 1000000 in
theorem named_any (c : Nat) (w : World) : Calls Tryd.prog 17 #[.int .u8 (c : Int)] w fun e w' => e = .returned (.int .u8 (named c : Int)) ∧ w' = w := by
  by_cases h : c = 7 ∨ c = 8 ∨ c = 9 ∨ c = 10 ∨ c = 11 ∨ c = 12 ∨ c = 13
  · rcases h with rfl | rfl | rfl | rfl | rfl | rfl | rfl
    all_goals
      go_enter Tryd.func17, Tryd.ntmps17
      go_wp2
      go_ret
      exact ⟨rfl, rfl⟩
  · have b1 : ((c : Int) == 7) = false := beq_eq_false_iff_ne.2 (by omega)
    have b2 : ((c : Int) == 8) = false := beq_eq_false_iff_ne.2 (by omega)
    have b3 : ((c : Int) == 9) = false := beq_eq_false_iff_ne.2 (by omega)
    have b4 : ((c : Int) == 10) = false := beq_eq_false_iff_ne.2 (by omega)
    have b5 : ((c : Int) == 11) = false := beq_eq_false_iff_ne.2 (by omega)
    have b6 : ((c : Int) == 12) = false := beq_eq_false_iff_ne.2 (by omega)
    have b7 : ((c : Int) == 13) = false := beq_eq_false_iff_ne.2 (by omega)
    have hn : named c = 0 := by
      unfold named
      rw [if_neg (by omega), if_neg (by omega), if_neg (by omega), if_neg (by omega), if_neg (by omega), if_neg (by omega), if_neg (by omega)]
    rw [hn]
    clear hn h
    go_enter Tryd.func17, Tryd.ntmps17
    go_wp2
    go_ret
    exact ⟨rfl, rfl⟩

theorem digit_lo (d : Nat) (h : d < 10) : Lib.hexDigit d = 48 + (d : Int) := by unfold Lib.hexDigit; rw [if_pos h]
theorem digit_hi (d : Nat) (h : ¬ d < 10) : Lib.hexDigit d = 87 + (d : Int) := by unfold Lib.hexDigit; rw [if_neg h]
theorem shr_nib (v n : Nat) : (v : Int) / 2 ^ (4 * n) % 16 = ((v / 16 ^ n % 16 : Nat) : Int) := by
  have e2 : (2 : Int) ^ (4 * n) = ((16 ^ n : Nat) : Int) := by
    rw [Int.pow_mul]; simp
  rw [e2]
  omega

set_option maxHeartbeats 4000000 in
set_option maxRecDepth 100000 in
theorem hex_any (s : ByteArray) (p v k : Nat) (l : List Int) (w : World) (hs : s.size ≤ 1073741824) (hk : k ≤ 8) (h : From s p (hexDigits v k ++ l)) :
    Calls Tryd.prog 18 #[.string s, .int .i64 (p : Int), .int .u32 (v : Int), .int .i64 (k : Int)] w fun e w' => e = .returned (.bool true) ∧ w' = w := by
  have hp := h.1
  go_enter Tryd.func18, Tryd.ntmps18
  go_wp2
  go_loopg [9, 10, 11] k (fun g s9 s10 s11 wx => w = wx ∧ ∃ j : Nat, j + g = k ∧ s9 = .int .i64 j ∧ From s (p + j) (hexDigits v g ++ l))
  case atStart => exact ⟨rfl, 0, by omega, rfl, h⟩
  case round =>
    obtain ⟨rfl, j, hj, rfl, hF⟩ := hrel
    clear h
    cases gk with
    | zero =>
      obtain rfl : j = k := by omega
      clear hF
      go_wp2
      go_ret
      exact ⟨rfl, rfl⟩
    | succ g =>
      obtain rfl : k = j + (g + 1) := by omega
      obtain ⟨d, hd⟩ : ∃ d, d = v / 16 ^ g % 16 := ⟨_, rfl⟩
      have hF' : From s (p + j) (Lib.hexDigit d :: (hexDigits v g ++ l)) := by rw [hd]; exact hF
      obtain ⟨g1, g2, g3⟩ := hF'.cons
      have hN := shr_nib v g
      rw [← hd] at hN
      have hd16 : d < 16 := by omega
      have hb := fun c => byte_any s (p + j) c _ _ w hF'
      clear hd hF
      by_cases h10 : d < 10
      · have hb' : Calls Tryd.prog 15 #[.string s, .int .i64 ((p : Int) + (j : Int)), .int .u8 ((d : Int) + 48)] w fun e w' => e = .returned (.bool true) ∧ w' = w := by
          have := hb ((d : Int) + 48)
          rw [digit_lo d h10, Int.add_comm 48, beq_self_eq_true, Int.natCast_add] at this
          exact this
        have h10' : (d : Int) < 10 := by omega
        clear hb g2 hF'
        go_wp2_with (go_at_call 15; refine hb'.mono ?_; rintro e w1 ⟨rfl, rfl⟩)
        go_roundg g
        case measure => omega
        case rel => exact ⟨rfl, j + 1, by omega, by simp, g3⟩
      · have hb' : Calls Tryd.prog 15 #[.string s, .int .i64 ((p : Int) + (j : Int)), .int .u8 ((d : Int) - 10 + 97)] w fun e w' => e = .returned (.bool true) ∧ w' = w := by
          have := hb ((d : Int) - 10 + 97)
          rw [digit_hi d h10, show (d : Int) - 10 + 97 = 87 + (d : Int) by omega, beq_self_eq_true, Int.natCast_add] at this
          rw [show (d : Int) - 10 + 97 = 87 + (d : Int) by omega]
          exact this
        have h10' : ¬ (d : Int) < 10 := by omega
        clear hb g2 hF'
        go_wp2_with (go_at_call 15; refine hb'.mono ?_; rintro e w1 ⟨rfl, rfl⟩)
        go_roundg g
        case measure => omega
        case rel => exact ⟨rfl, j + 1, by omega, by simp, g3⟩
end Go.Proofs.Qxb6601947aDoor
