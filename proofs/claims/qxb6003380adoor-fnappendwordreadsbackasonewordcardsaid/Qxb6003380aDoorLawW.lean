/-
  FnAppendWordReadsBackAsOneWord at this seat's dump, walked out of the contracts: true, whatever the input.
-/
import Derived.Test.Qxb6003380aDoorReadBraced
namespace Go.Proofs.Qxb6003380aDoor
open Go.RowKit Go.Proofs Plain

theorem read_word (v : Value) (l : List UInt8) (first : Bool) (w : World) (h : Sees w v (wordL first l)) (hl : l.length ≤ 1048576) (hcap : ∀ a n c, v = .slice a n c → n ≤ c ∧ c ≤ maxLen) :
    Calls Tryd.prog 10 #[v, .bool first] w fun e w' => ∃ v', e = .returned (.tuple #[v', .bool true]) ∧ Sees w' v' l ∧ w.grownBy w' none := by
  rcases word_cases first l with ⟨T, c0, u0, h1, h2, h3, h4, h5, h6, h7⟩ | ⟨h1, h2, h3⟩
  · have hlen := word_len first l
    rw [← h1] at h hlen
    refine (read_bare v T first c0 u0 w h h3 (h1.trans h4) h5 h6 h7 (by omega)).mono ?_
    rintro e w' ⟨v', rfl, hown, hg⟩
    rw [h2] at hown
    exact ⟨v', rfl, own_sees hown, hg⟩
  · rw [h1] at h
    exact read_braced v l first w h h2 h3 (by omega) hcap

theorem word_pos (first : Bool) (l : List UInt8) : 0 < (wordL first l).length := by
  rcases word_cases first l with ⟨T, c0, u0, h1, h2, h3, h4, h5, h6, h7⟩ | ⟨h1, h2, h3⟩
  · rw [h4]; simp
  · rw [h1]; simp

set_option maxHeartbeats 8000000 in
set_option maxRecDepth 100000 in
theorem lawW_main (v0 : Value) (lb : List UInt8) (s : ByteArray) (first : Bool) (w : World) (h0 : Sees w v0 lb) (hsum : lb.length + s.size ≤ 1048576) :
    Calls Tryd.prog 3 #[v0, .string s, .bool first] w fun e w' => e = .returned (.bool true) ∧ Below w.heap.size w w' := by
  have hc1 := copy_any v0 lb w h0 (by omega)
  obtain ⟨ao0, cap0, rfl, _⟩ := h0
  obtain ⟨E, hE⟩ : ∃ E, E = wordL first s.data.toList := ⟨_, rfl⟩
  have hEl : E.length ≤ 2 * s.size + 2 := by
    have := word_len first s.data.toList
    rw [← hE, ← Lib.size_eq] at this
    exact this
  have hEp : 0 < E.length := by rw [hE]; exact word_pos _ _
  have zz : Hid (∀ (B : Nat) (v1 : Value) (pre : List UInt8) (W : World), W.ownsRow B 5 1 v1 pre.length (Lib.byteCells pre) → B ≤ W.heap.size → pre.length ≤ 1048576 →
      Calls Tryd.prog 8 #[v1, .string s, .bool first] W fun e w' => ∃ v', e = .returned v' ∧ Grew B W v1 w' v' (pre ++ E)) := fun B v1 pre W h hB hp => by
    rw [hE]; exact zzword_any B v1 pre s first W h hB hp (by omega)
  have zo : Hid (s.data.toList.head? ≠ some 35 → ∀ (B : Nat) (v1 : Value) (W : World), W.ownsRow B 5 1 v1 0 (Lib.byteCells []) → B ≤ W.heap.size →
      Calls Tryd.prog 8 #[v1, .string s, .bool !first] W fun e w' => ∃ v', e = .returned v' ∧ Grew B W v1 w' v' E) := fun hh B v1 W h hB => by
    rw [hE, ← word_other first _ hh]; exact zzword_any B v1 [] s (!first) W h hB (by simp) (by omega)
  have rw' : Hid (∀ (v : Value) (W : World), Sees W v E → (∀ a n c, v = .slice a n c → n ≤ c ∧ c ≤ maxLen) → Calls Tryd.prog 10 #[v, .bool first] W fun e w' => ∃ v', e = .returned (.tuple #[v', .bool true]) ∧ Sees w' v' s.data.toList ∧ W.grownBy w' none) := fun v W h hc => by
    rw [hE] at h
    exact read_word v _ first W h (by rw [← Lib.size_eq]; omega) hc
  clear hE
  go_enter Tryd.func3, Tryd.ntmps3
  go_wp2_with (go_at_call 6; go_in)
  refine hc1.mono ?_
  rintro e w1 ⟨v1, rfl, hown1, hg1⟩
  have hsee1 := own_sees hown1
  obtain ⟨ao1, cap1, rfl⟩ := own_form hown1
  have hc2 := copy_any _ lb w1 hsee1 (by omega)
  clear hc1 hsee1
  go_wp2_with fail
  refine hc2.mono ?_
  rintro e w2 ⟨v2, rfl, hown2, hg2⟩
  clear hc2
  have hap := own_apart hown1 hown2
  have hown1' := own_keep hown1 hg2
  have hs1 := hg1.size
  have hs2 := hg2.size
  have hG := zz.out w.heap.size _ lb w2 hown1' (by omega) (by omega)
  go_wp2_with fail
  refine hG.mono ?_
  rintro e w3 ⟨v3, rfl, G⟩
  clear hG
  have hown2' := hown2.kept G.grown hap
  have hsee2 := own_sees hown2'
  have hg13 : w.grownBy w3 none := grown_then (grown_then hg1 hg2 (by simp)) G.grown (fun j hj => Or.inl (hown1.lt j hj).1)
  obtain ⟨g, cap3, rfl, hcap, hcm, hcell⟩ := own_form_pos G.own (by rw [List.length_append]; omega)
  have hst1 : Sees w3 (.slice (some ⟨g, 0, none⟩) lb.length cap3) lb := sees_take hcell
  have hst2 : Sees w3 (.slice (some ⟨g, lb.length, none⟩) E.length (cap3 - lb.length)) E := sees_drop rfl hcell
  rw [List.length_append] at hcap
  unfold maxLen at hcm
  clear hown1 hown1' hown2 hown2' hap G hcell hg1 hg2
  have heq := equal_any _ _ lb lb w3 hst1 hsee2 (by omega) (by omega)
  rw [decide_eq_true rfl] at heq
  go_wp2_with fail
  refine heq.mono ?_
  rintro e w4 ⟨rfl, n4, rfl⟩
  clear heq
  have hst4 : Sees (w3.drewN n4) (.slice (some ⟨g, lb.length, none⟩) E.length (cap3 - lb.length)) E := hst2
  have hg14 : w.grownBy (w3.drewN n4) none := grown_drewN hg13 n4
  obtain ⟨w4, hw4⟩ : ∃ w4, w4 = w3.drewN n4 := ⟨_, rfl⟩
  rw [← hw4] at hst4 hg14 ⊢
  have hal := zz.out w4.heap.size (.slice none 0 0) [] w4 (World.ownsRow_nil _ _ _ _) (Nat.le_refl _) (by simp)
  have hsub : ((lb.length : Int) + (E.length : Int) - (lb.length : Int)) = (E.length : Int) := by omega
  have hc3 : lb.length < cap3 := by omega
  clear hst1 hst2 hsee2 hg13 hw4
  go_wp2_with fail
  refine hal.mono ?_
  rintro e w5 ⟨v5, rfl, G5⟩
  clear hal
  have hown5 : w5.ownsRow w4.heap.size 5 1 v5 E.length (Lib.byteCells E) := G5.own
  have hg5 : w4.grownBy w5 none := G5.grown
  clear G5
  have hsee5 := own_sees hown5
  obtain ⟨ao5, cap5, rfl⟩ := own_form hown5
  have hst5 := sees_grown hst4 hg5
  have heq5 := equal_any _ _ E E w5 hst5 hsee5 (by omega) (by omega)
  rw [decide_eq_true rfl] at heq5
  have hg15 := grown_then hg14 hg5 (by simp)
  clear hst4 hg14 hg5 hown5
  go_wp2_with fail
  refine heq5.mono ?_
  rintro e w6 ⟨rfl, n6, rfl⟩
  clear heq5
  have hst6 : Sees (w5.drewN n6) (.slice (some ⟨g, lb.length, none⟩) E.length (cap3 - lb.length)) E := hst5
  have hsee6 : Sees (w5.drewN n6) (.slice ao5 E.length cap5) E := hsee5
  have hg16 : w.grownBy (w5.drewN n6) none := grown_drewN hg15 n6
  obtain ⟨w6, hw6⟩ : ∃ w6, w6 = w5.drewN n6 := ⟨_, rfl⟩
  rw [← hw6] at hst6 hsee6 hg16 ⊢
  clear hw6 hg15 hst5 hsee5 hs1 hs2
  have hfin : Hid (∀ W : World, w.grownBy W none → Sees W (.slice (some ⟨g, lb.length, none⟩) E.length (cap3 - lb.length)) E →
      Calls Tryd.prog 10 #[.slice (some ⟨g, lb.length, none⟩) E.length (cap3 - lb.length), .bool first] W fun e w' => ∃ v', e = .returned (.tuple #[v', .bool true]) ∧ Sees w' v' s.data.toList ∧ W.grownBy w' none) := fun W hW hs => by
    refine rw'.out _ W hs (fun a n c e => ?_)
    cases e
    unfold maxLen
    omega
  clear rw'
  by_cases hemp : s.data.toList.head? = some 35
  · have hpos : 0 < s.size := by
      rw [Lib.size_eq]
      cases hx : s.data.toList with
      | nil => rw [hx] at hemp; cases hemp
      | cons a t => simp
    have hse : (s.toList == []) = false := str_ne hpos
    have h35 : s[0] = 35 := by
      rw [head_at s hpos] at hemp
      exact Option.some.inj hemp
    have f1 : ((s[0].toNat : Int) != 35) = false := by rw [h35]; rfl
    clear h35 hemp zo
    have hrb := hfin.out _ hg16 hst6
    go_wp2_with fail
    refine hrb.mono ?_
    rintro e w8 ⟨v8, rfl, hsee8, hg8⟩
    have hsm := same_any _ _ s w8 hsee8 (by rw [← Lib.size_eq]; omega)
    rw [decide_eq_true rfl] at hsm
    obtain ⟨ao8, cap8, rfl, _⟩ := hsee8
    clear hrb
    go_wp2_with fail
    refine hsm.mono ?_
    rintro e w9 ⟨rfl, n9, rfl⟩
    go_wp2
    go_ret
    exact ⟨rfl, below_of_grown (grown_drewN (grown_then hg16 hg8 (by simp)) n9)⟩
  · by_cases hpos : 0 < s.size
    · have hse : (s.toList == []) = false := str_ne hpos
      have f1 : ((s[0].toNat : Int) != 35) = true := by
        rw [head_at s hpos] at hemp
        have : s[0] ≠ 35 := fun e => hemp (by rw [e])
        simpa using n_ne (n := 35) (by decide) this
      have hot := zo.out hemp w6.heap.size (.slice none 0 0) w6 (World.ownsRow_nil _ _ _ _) (Nat.le_refl _)
      clear hemp zo
      go_wp2_with fail
      refine hot.mono ?_
      rintro e w7 ⟨v7, rfl, G7⟩
      have hg7 : w6.grownBy w7 none := G7.grown
      have hsee7 := own_sees G7.own
      clear G7 hot
      obtain ⟨ao7, cap7, rfl, _⟩ := id hsee7
      have hsee6' := sees_grown hsee6 hg7
      have hst7 := sees_grown hst6 hg7
      have hg17 := grown_then hg16 hg7 (by simp)
      have heq7 := equal_any _ _ E E w7 hsee7 hsee6' (by omega) (by omega)
      rw [decide_eq_true rfl] at heq7
      clear hg7 hg16 hst6 hsee6 hsee7 hsee6'
      go_wp2_with fail
      refine heq7.mono ?_
      rintro e w7' ⟨rfl, n7, rfl⟩
      clear heq7
      have hst7' : Sees (w7.drewN n7) (.slice (some ⟨g, lb.length, none⟩) E.length (cap3 - lb.length)) E := hst7
      have hrb := hfin.out _ (grown_drewN hg17 n7) hst7'
      go_wp2_with fail
      refine hrb.mono ?_
      rintro e w8 ⟨v8, rfl, hsee8, hg8⟩
      have hsm := same_any _ _ s w8 hsee8 (by rw [← Lib.size_eq]; omega)
      rw [decide_eq_true rfl] at hsm
      obtain ⟨ao8, cap8, rfl, _⟩ := hsee8
      clear hrb
      go_wp2_with fail
      refine hsm.mono ?_
      rintro e w9 ⟨rfl, n9, rfl⟩
      go_wp2
      go_ret
      exact ⟨rfl, below_of_grown (grown_drewN (grown_then (grown_drewN hg17 n7) hg8 (by simp)) n9)⟩
    · have hse : (s.toList == []) = true := by
        rw [Lib.toList_data, List.length_eq_zero_iff.1 (show s.data.toList.length = 0 by rw [← Lib.size_eq]; omega)]; rfl
      have hot := zo.out hemp w6.heap.size (.slice none 0 0) w6 (World.ownsRow_nil _ _ _ _) (Nat.le_refl _)
      clear hemp zo
      go_wp2_with fail
      refine hot.mono ?_
      rintro e w7 ⟨v7, rfl, G7⟩
      have hg7 : w6.grownBy w7 none := G7.grown
      have hsee7 := own_sees G7.own
      clear G7 hot
      obtain ⟨ao7, cap7, rfl, _⟩ := id hsee7
      have hsee6' := sees_grown hsee6 hg7
      have hst7 := sees_grown hst6 hg7
      have hg17 := grown_then hg16 hg7 (by simp)
      have heq7 := equal_any _ _ E E w7 hsee7 hsee6' (by omega) (by omega)
      rw [decide_eq_true rfl] at heq7
      clear hg7 hg16 hst6 hsee6 hsee7 hsee6'
      go_wp2_with fail
      refine heq7.mono ?_
      rintro e w7' ⟨rfl, n7, rfl⟩
      clear heq7
      have hst7' : Sees (w7.drewN n7) (.slice (some ⟨g, lb.length, none⟩) E.length (cap3 - lb.length)) E := hst7
      have hrb := hfin.out _ (grown_drewN hg17 n7) hst7'
      go_wp2_with fail
      refine hrb.mono ?_
      rintro e w8 ⟨v8, rfl, hsee8, hg8⟩
      have hsm := same_any _ _ s w8 hsee8 (by rw [← Lib.size_eq]; omega)
      rw [decide_eq_true rfl] at hsm
      obtain ⟨ao8, cap8, rfl, _⟩ := hsee8
      clear hrb
      go_wp2_with fail
      refine hsm.mono ?_
      rintro e w9 ⟨rfl, n9, rfl⟩
      go_wp2
      go_ret
      exact ⟨rfl, below_of_grown (grown_drewN (grown_then (grown_drewN hg17 n7) hg8 (by simp)) n9)⟩

set_option maxHeartbeats 4000000 in
set_option maxRecDepth 100000 in
theorem lawW (v0 : Value) (lb : List UInt8) (s : ByteArray) (first : Bool) (w : World) (h0 : Sees w v0 lb) (hlb : lb.length ≤ maxLen) (hs : s.size ≤ maxLen) :
    Calls Tryd.prog 3 #[v0, .string s, .bool first] w fun e w' => e = .returned (.bool true) ∧ Below w.heap.size w w' := by
  by_cases hsum : lb.length + s.size ≤ 1048576
  · exact lawW_main v0 lb s first w h0 hsum
  · obtain ⟨ao0, cap0, rfl, _⟩ := h0
    unfold maxLen at hlb hs
    go_enter Tryd.func3, Tryd.ntmps3
    go_wp2_with (go_at_call 6; go_in)
    all_goals
      go_ret
      exact ⟨rfl, Below.refl _ _⟩
end Go.Proofs.Qxb6003380aDoor
