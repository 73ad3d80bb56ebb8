/-
  FnWithCodeExact at this seat's dump, walked: true, whatever the input.
-/
import Derived.Test.Qxb6601947aDoorMatch
namespace Go.Proofs.Qxb6601947aDoor
open Go.RowKit Go.Proofs Go.Lib

theorem Drawn.below {w w' : World} (h : Drawn w w') : Below w.heap.size w w' := by
  obtain ⟨n, rfl⟩ := h
  exact ⟨rfl, rfl, rfl, Nat.le_refl _, fun _ _ => rfl⟩
theorem out_size (T : PrintTabs) (m c d : ByteArray) (hm : m.size ≤ 262144) (hc : c.size ≤ 262144) (hd : d.size ≤ 262144) : (outS T m c d).size ≤ 1073741824 := by
  have q1 := quoteS_size T c
  have q2 := quoteS_size T d
  have l1 : lit1.size = 12 := rfl
  have l2 : lit2.size = 15 := rfl
  have h1 : (one1 T m c).size ≤ 268435456 := by
    unfold one1
    split
    · omega
    · simp only [ByteArray.size_append]; omega
  unfold outS
  split
  · omega
  · simp only [ByteArray.size_append]; omega
theorem out_from (T : PrintTabs) (m c d : ByteArray) : From (outS T m c d) 0 (ints m.data.toList ++ (partA T c ++ partB T d)) := ⟨Nat.zero_le _, by rw [List.drop_zero, out_ints]⟩
theorem From.end {s : ByteArray} {p : Nat} (h : From s p []) : p = s.size := by
  obtain ⟨h1, h2⟩ := h
  have := congrArg List.length h2
  simp [ints] at this
  omega
theorem at0 (s t : ByteArray) (l : List Int) (w : World) (hs : s.size ≤ 1073741824) (h : From s 0 (ints t.data.toList ++ l)) :
    Calls Tryd.prog 8 #[.string s, .int .i64 0, .string t] w (Ans (.bool true) w) := Ans.of (at_any s t 0 l w hs h)
theorem atp1 (s : ByteArray) (p : Nat) (l : List Int) (w : World) (hs : s.size ≤ 1073741824) (h : From s p (ints lit1.data.toList ++ l)) :
    Calls Tryd.prog 8 #[.string s, .int .i64 (p : Int), .string ⟨#[32, 119, 105, 116, 104, 32, 101, 114, 114, 111, 114, 32]⟩] w (Ans (.bool true) w) := Ans.of (at_any s lit1 p l w hs h)
theorem atp2 (s : ByteArray) (p : Nat) (l : List Int) (w : World) (hs : s.size ≤ 1073741824) (h : From s p (ints lit2.data.toList ++ l)) :
    Calls Tryd.prog 8 #[.string s, .int .i64 (p : Int), .string ⟨#[44, 32, 100, 101, 115, 99, 114, 105, 98, 101, 100, 32, 97, 115, 32]⟩] w (Ans (.bool true) w) := Ans.of (at_any s lit2 p l w hs h)
theorem match12 (T : PrintTabs) (out s : ByteArray) (p : Nat) (X : List Int) (w : World) (ho : out.size ≤ 1073741824) (hs : s.size ≤ 1073741824) (h : From out (p + 12) (quoteZ T s ++ X)) :
    Calls Tryd.prog 9 #[.string out, .int .i64 ((p : Int) + 12), .string s] w (Matched out X w) := match_any T out s (p + 12) X w ho hs h
theorem match15 (T : PrintTabs) (out s : ByteArray) (p : Nat) (X : List Int) (w : World) (ho : out.size ≤ 1073741824) (hs : s.size ≤ 1073741824) (h : From out (p + 15) (quoteZ T s ++ X)) :
    Calls Tryd.prog 9 #[.string out, .int .i64 ((p : Int) + 15), .string s] w (Matched out X w) := match_any T out s (p + 15) X w ho hs h

set_option maxHeartbeats 4000000 in
set_option maxRecDepth 100000 in
theorem lawX (T : PrintTabs) (m c d : ByteArray) (w : World) (hT : Tabs T w) (h1 : m.size ≤ maxLen) (h2 : c.size ≤ maxLen) (h3 : d.size ≤ maxLen) :
    Calls Tryd.prog 3 #[.string m, .string c, .string d] w fun e w' => e = .returned (.bool true) ∧ Below w.heap.size w w' := by
  unfold maxLen at h1 h2 h3
  by_cases hs : m.size + c.size + d.size ≤ 1048576
  · by_cases hl : m.size ≤ 262144 ∧ c.size ≤ 262144 ∧ d.size ≤ 262144
    · obtain ⟨g1, g2, g3⟩ := hl
      have ha := zzwith_any T m c d w hT (by omega) (by omega) (by omega)
      have ho := out_size T m c d g1 g2 g3
      have hF := out_from T m c d
      generalize outS T m c d = A at ha ho hF
      have hF1 : From A m.size (partA T c ++ partB T d) := by have := hF.str; rwa [Nat.zero_add] at this
      have hmA := hF1.1
      clear hT h1 h2 h3
      go_enter Tryd.func3, Tryd.ntmps3
      go_wp2_with (go_at_call 6; go_in)
      refine ha.mono ?_
      rintro e w1 ⟨rfl, hb1⟩
      go_wp2_with fail
      refine (at0 A m _ w1 ho hF).mono ?_
      rintro e w2 ⟨rfl, rfl⟩
      clear hF ha
      by_cases hc0 : c.size = 0 <;> by_cases hd0 : d.size = 0
      · have e1 := str_nil hc0
        have e2 := str_nil hd0
        rw [partA, if_pos hc0, partB, if_pos hd0] at hF1
        have hz : ((m.size : Int) == (A.size : Int)) = true := beq_iff_eq.2 (by have := From.end hF1; omega)
        clear hF1
        go_wp2
        go_ret
        exact ⟨rfl, hb1⟩
      · have e1 := str_nil hc0
        have e2 := str_ne hd0
        rw [partA, if_pos hc0, partB, if_neg hd0] at hF1
        have a2 := atp2 A m.size _ w1 ho hF1
        have hF2 : From A (m.size + 15) (quoteZ T d ++ []) := by have := hF1.str; rw [List.append_nil]; exact this
        have m2 := match15 T A d m.size [] w1 ho (by omega) hF2
        clear hF1 hF2
        go_wp2_with fail
        refine a2.mono ?_
        rintro e w2 ⟨rfl, rfl⟩
        go_wp2_with fail
        refine m2.mono ?_
        rintro e w2 ⟨⟨q, rfl, hq⟩, hD⟩
        have hz : ((q : Int) == (A.size : Int)) = true := beq_iff_eq.2 (by have := From.end hq; omega)
        go_wp2
        go_ret
        exact ⟨rfl, below_then hb1 hD.below⟩
      · have e1 := str_ne hc0
        have e2 := str_nil hd0
        rw [partA, if_neg hc0, partB, if_pos hd0, List.append_assoc] at hF1
        have a2 := atp1 A m.size _ w1 ho hF1
        have hF2 : From A (m.size + 12) (quoteZ T c ++ []) := hF1.str
        have m2 := match12 T A c m.size [] w1 ho (by omega) hF2
        clear hF1 hF2
        go_wp2_with fail
        refine a2.mono ?_
        rintro e w2 ⟨rfl, rfl⟩
        go_wp2_with fail
        refine m2.mono ?_
        rintro e w2 ⟨⟨q, rfl, hq⟩, hD⟩
        have hz : ((q : Int) == (A.size : Int)) = true := beq_iff_eq.2 (by have := From.end hq; omega)
        go_wp2
        go_ret
        exact ⟨rfl, below_then hb1 hD.below⟩
      · have e1 := str_ne hc0
        have e2 := str_ne hd0
        rw [partA, if_neg hc0, partB, if_neg hd0, List.append_assoc] at hF1
        have a2 := atp1 A m.size _ w1 ho hF1
        have hF2 : From A (m.size + 12) (quoteZ T c ++ (ints lit2.data.toList ++ quoteZ T d)) := hF1.str
        have m2 := match12 T A c m.size _ w1 ho (by omega) hF2
        clear hF1 hF2
        go_wp2_with fail
        refine a2.mono ?_
        rintro e w2 ⟨rfl, rfl⟩
        go_wp2_with fail
        refine m2.mono ?_
        rintro e w2 ⟨⟨q, rfl, hq⟩, hD⟩
        have a3 := atp2 A q _ w2 ho hq
        have hqA := hq.1
        have hF3 : From A (q + 15) (quoteZ T d ++ []) := by have := hq.str; rw [List.append_nil]; exact this
        have m3 := match15 T A d q [] w2 ho (by omega) hF3
        clear hq hF3 m2
        go_wp2_with fail
        refine a3.mono ?_
        rintro e w3 ⟨rfl, rfl⟩
        go_wp2_with fail
        refine m3.mono ?_
        rintro e w3 ⟨⟨q2, rfl, hq2⟩, hD2⟩
        have hz : ((q2 : Int) == (A.size : Int)) = true := beq_iff_eq.2 (by have := From.end hq2; omega)
        go_wp2
        go_ret
        exact ⟨rfl, below_then (below_then hb1 hD.below) hD2.below⟩
    · clear hT
      go_enter Tryd.func3, Tryd.ntmps3
      go_wp2_with (go_at_call 6; go_in)
      all_goals
        first
          | (exfalso; omega)
          | (go_ret
             exact ⟨rfl, Below.refl _ _⟩)
  · clear hT
    go_enter Tryd.func3, Tryd.ntmps3
    go_wp2_with (go_at_call 6; go_in)
    all_goals
      go_ret
      exact ⟨rfl, Below.refl _ _⟩
end Go.Proofs.Qxb6601947aDoor
