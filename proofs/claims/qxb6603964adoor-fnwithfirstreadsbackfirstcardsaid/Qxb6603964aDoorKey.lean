/-
  zzKeyOK, zzValueBytesOK at this seat's dump, walked.
-/
import Derived.Test.Qxb6603964aDoorVc
import Derived.Test.Qxb6603964aDoorBase
namespace Go.Proofs.Qxb6603964aDoor
open Go.RowKit Go.Proofs Go.Lib

/-- It answers true only where p; the world is as it was. -/
def Tells (p : Prop) (w : World) (e : Ending) (w' : World) : Prop := (e = .returned (.bool true) ∧ p ∧ w = w') ∨ (e = .returned (.bool false) ∧ w = w')
theorem take_at (s : ByteArray) (k : Nat) (h : k < s.size) : s.data.toList.take (k + 1) = s.data.toList.take k ++ [s[k]] := by
  rw [List.take_succ_eq_append_getElem (by rw [← Lib.size_eq]; exact h)]; rfl

set_option maxHeartbeats 2000000 in
set_option maxRecDepth 100000 in
theorem keyOK_any (s : ByteArray) (w : World) (hs : s.size ≤ 1048576) : Calls Tryd.prog 5 #[.string s] w (Tells (KeyOK s.data.toList) w) := by
  by_cases h0 : s.size = 0
  · have e0 : ((s.size : Int) == 0) = true := beq_iff_eq.2 (by omega)
    go_enter Tryd.func5, Tryd.ntmps5
    go_wp2
    go_ret
    exact Or.inr ⟨rfl, rfl⟩
  have e0 : ((s.size : Int) == 0) = false := beq_eq_false_iff_ne.2 (by omega)
  have hp : 0 < s.size := by omega
  have hz : (0 : Int) < (s.size : Int) := by omega
  obtain ⟨c, hc⟩ : ∃ c, s[0] = c := ⟨_, rfl⟩
  by_cases hl : lower c
  · have hy := zlower_yes c w hl
    go_enter Tryd.func5, Tryd.ntmps5
    go_wp2_with (go_at_call 12; refine hy.mono ?_; rintro e w1 ⟨rfl, rfl⟩)
    go_loopg [3] (s.size - 1) (fun g s3 wx => w = wx ∧ ∃ j : Nat, j + g = s.size ∧ 0 < j ∧ s3 = .int .i64 (j : Int) ∧ ∀ c ∈ s.data.toList.take j, lower c ∨ digit c)
    case atStart =>
      refine ⟨rfl, 1, by omega, by omega, rfl, fun d hd => ?_⟩
      rw [take_at s 0 hp, List.take_zero, List.nil_append, List.mem_singleton, hc] at hd
      subst hd
      exact Or.inl hl
    case round =>
      obtain ⟨rfl, j, hj, hj0, rfl, hF⟩ := hrel
      clear hy
      cases gk with
      | zero =>
        obtain rfl : j = s.size := by omega
        go_wp2
        go_ret
        refine Or.inl ⟨rfl, ⟨⟨s[0], s.data.toList.drop 1, ?_, by rw [hc]; exact hl⟩, fun d hd => hF d ?_⟩, rfl⟩
        · have := List.drop_eq_getElem_cons (l := s.data.toList) (i := 0) (by rw [← Lib.size_eq]; exact hp)
          rw [List.drop_zero] at this
          exact this
        · rw [Lib.size_eq, List.take_length]; exact hd
      | succ g =>
        have hjs : j < s.size := by omega
        obtain ⟨d, hd⟩ : ∃ d, s[j] = d := ⟨_, rfl⟩
        have ht := take_at s j hjs
        rw [hd] at ht
        have hN : (lower d ∨ digit d) → ∀ c ∈ s.data.toList.take (j + 1), lower c ∨ digit c := fun h c hm => by
          rw [ht] at hm
          rcases List.mem_append.1 hm with hm | hm
          · exact hF c hm
          · rw [List.mem_singleton] at hm; subst hm; exact h
        clear hF ht
        by_cases h1 : lower d
        · have hy1 := zlower_yes d w h1
          have hN := hN (Or.inl h1)
          go_wp2_with (go_at_call 12; refine hy1.mono ?_; rintro e w1 ⟨rfl, rfl⟩)
          go_roundg g
          case measure => omega
          case rel => exact ⟨rfl, j + 1, by omega, by omega, by simp, hN⟩
        · have hy1 := zlower_no d w h1
          by_cases h2 : digit d
          · have hy2 := zdigit_yes d w h2
            have hN := hN (Or.inr h2)
            go_wp2_with (first | (go_at_call 12; refine hy1.mono ?_; rintro e w1 ⟨rfl, rfl⟩) | (go_at_call 13; refine hy2.mono ?_; rintro e w1 ⟨rfl, rfl⟩))
            go_roundg g
            case measure => omega
            case rel => exact ⟨rfl, j + 1, by omega, by omega, by simp, hN⟩
          · have hy2 := zdigit_no d w h2
            clear hN
            go_wp2_with (first | (go_at_call 12; refine hy1.mono ?_; rintro e w1 ⟨rfl, rfl⟩) | (go_at_call 13; refine hy2.mono ?_; rintro e w1 ⟨rfl, rfl⟩))
            go_ret
            exact Or.inr ⟨rfl, rfl⟩
  · have hy := zlower_no c w hl
    go_enter Tryd.func5, Tryd.ntmps5
    go_wp2_with (go_at_call 12; refine hy.mono ?_; rintro e w1 ⟨rfl, rfl⟩)
    go_ret
    exact Or.inr ⟨rfl, rfl⟩

set_option maxHeartbeats 2000000 in
set_option maxRecDepth 100000 in
theorem valOK_any (v : Value) (l : List UInt8) (w : World) (h : Sees w v l) (hl : l.length ≤ 1048576) : Calls Tryd.prog 6 #[v] w (Tells (ValOK l) w) := by
  obtain ⟨ao, cap, rfl, hc⟩ := h
  go_enter Tryd.func6, Tryd.ntmps6
  go_wp2
  go_loopg [3] l.length (fun g s3 wx => w = wx ∧ ∃ j : Nat, j + g = l.length ∧ s3 = .int .i64 (j : Int) ∧ ∀ c ∈ l.take j, vchar c)
  case atStart => exact ⟨rfl, 0, by omega, rfl, fun d hd => by simp at hd⟩
  case round =>
    obtain ⟨rfl, j, hj, rfl, hF⟩ := hrel
    cases gk with
    | zero =>
      obtain rfl : j = l.length := by omega
      go_wp2
      go_ret
      exact Or.inl ⟨rfl, fun d hd => hF d (by rw [List.take_length]; exact hd), rfl⟩
    | succ g =>
      have hjs : j < l.length := by omega
      obtain ⟨b, off, rfl, hcell⟩ := hc j hjs
      obtain ⟨d, hd⟩ : ∃ d, l[j] = d := ⟨_, rfl⟩
      have ht := List.take_succ_eq_append_getElem hjs
      rw [hd] at ht hcell
      have hN : vchar d → ∀ c ∈ l.take (j + 1), vchar c := fun h c hm => by
        rw [ht] at hm
        rcases List.mem_append.1 hm with hm | hm
        · exact hF c hm
        · rw [List.mem_singleton] at hm; subst hm; exact h
      clear hF ht hc
      by_cases h1 : vchar d
      · have hy1 := zvchar_yes d w h1
        have hN := hN h1
        go_wp2_with (go_at_call 14; refine hy1.mono ?_; rintro e w1 ⟨rfl, rfl⟩)
        go_roundg g
        case measure => omega
        case rel => exact ⟨rfl, j + 1, by omega, by simp, hN⟩
      · have hy1 := zvchar_no d w h1
        clear hN
        go_wp2_with (go_at_call 14; refine hy1.mono ?_; rintro e w1 ⟨rfl, rfl⟩)
        go_ret
        exact Or.inr ⟨rfl, rfl⟩
end Go.Proofs.Qxb6603964aDoor
