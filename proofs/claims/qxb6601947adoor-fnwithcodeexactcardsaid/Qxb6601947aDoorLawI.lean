/-
  oauth.withCode, and FnWithCodeInjective at this seat's dump, walked: true, whatever the input.
-/
import Derived.Test.Qxb6601947aDoorShelf
import Derived.Test.Qxb6601947aDoorInj
import Derived.WalkKit
import Derived.RowKit3
import Derived.Lib.Walk
import Derived.Lib.Strings
import Derived.Laws.Concat
namespace Go.Proofs.Qxb6601947aDoor
open Go.RowKit Go.Proofs Go.Lib

theorem slice_below {g : Nat} {k : IntKind} {t : List Nat} {w w' : World} (h : TabSlice g k t w) (hb : Below w.heap.size w w') : TabSlice g k t w' := by
  have hg : w.grownBy w' none := ⟨hb.os, hb.tape, hb.output, hb.size, fun k hk _ => hb.block k hk⟩
  obtain ⟨R, o, c, h1, h2⟩ := h
  exact ⟨R, o, c, hg.cell h1 (by simp), fun j hj => hg.cell (h2 j hj) (by simp)⟩
/-- The tables that strconv.Quote reads lie as they should. -/
structure Tabs (T : PrintTabs) (w : World) : Prop where
  print : PrintTabsAt 5 6 7 8 T w
  utf8 : Utf8Tabs 3 4 w
theorem Tabs.below {T : PrintTabs} {w w' : World} (h : Tabs T w) (hb : Below w.heap.size w w') : Tabs T w' := by
  obtain ⟨⟨h1, h2, h3, h4, h5⟩, hu⟩ := h
  exact ⟨⟨slice_below h1 hb, slice_below h2 hb, slice_below h3 hb, slice_below h4 hb, h5⟩, Utf8Tabs_below hu hb⟩
theorem below_then {a b c : World} (h : Below a.heap.size a b) (k : Below b.heap.size b c) : Below a.heap.size a c :=
  ⟨k.os.trans h.os, k.tape.trans h.tape, k.output.trans h.output, Nat.le_trans h.size k.size, fun i hi => (k.block i (Nat.lt_of_lt_of_le hi h.size)).trans (h.block i hi)⟩

theorem quote_any (T : PrintTabs) (s : ByteArray) (w : World) (hT : Tabs T w) (hs : s.size ≤ 1048576) :
    Calls Tryd.prog 20 #[.string s] w fun e w' => e = .returned (.string (quoteS T s)) ∧ Below w.heap.size w w' :=
  Tryd.strconv_Quote T s w (by omega) hT.print hT.utf8
theorem quoteS_size (T : PrintTabs) (s : ByteArray) : (quoteS T s).size ≤ 10 * s.size + 2 := by
  unfold quoteS
  rw [strOfNums_size]
  exact quoteZ_length_le T s
theorem str_ne {s : ByteArray} (h : ¬ s.size = 0) : (s.toList == []) = false := by
  rw [Lib.toList_data]
  cases hx : s.data.toList with
  | nil => have h2 := Lib.size_eq s
           rw [hx, List.length_nil] at h2; omega
  | cons a t => rfl
theorem str_nil {s : ByteArray} (h : s.size = 0) : (s.toList == []) = true := by
  rw [Lib.toList_data, empty_of (by omega)]; rfl

set_option maxHeartbeats 2000000 in
set_option maxRecDepth 100000 in
theorem with_any (T : PrintTabs) (m c d : ByteArray) (w : World) (hT : Tabs T w) (hm : m.size ≤ 1048576) (hc : c.size ≤ 1048576) (hd : d.size ≤ 1048576) :
    Calls Tryd.prog 14 #[.string m, .string c, .string d] w fun e w' => e = .returned (.string (outS T m c d)) ∧ Below w.heap.size w w' := by
  have hqc := quote_any T c w hT hc
  have hs1 := quoteS_size T c
  have hs2 := quoteS_size T d
  by_cases h1 : c.size = 0 <;> by_cases h2 : d.size = 0
  · have e1 := str_nil h1
    have e2 := str_nil h2
    have hO : outS T m c d = m := by rw [outS, if_pos h2, one1, if_pos h1]
    rw [hO]
    clear hqc hO
    go_enter Tryd.func14, Tryd.ntmps14
    go_wp2
    go_ret
    exact ⟨rfl, Below.refl _ _⟩
  · have e1 := str_nil h1
    have e2 := str_ne h2
    have hO : outS T m c d = m ++ (lit2 ++ quoteS T d) := by rw [outS, if_neg h2, one1, if_pos h1]
    rw [hO]
    have hqd := quote_any T d w hT hd
    generalize quoteS T d = Q at *
    unfold lit2
    clear hqc hO hT
    go_enter Tryd.func14, Tryd.ntmps14
    go_wp2_with (go_at_call 20; refine hqd.mono ?_; rintro e w1 ⟨rfl, hb⟩)
    go_ret
    exact ⟨rfl, hb⟩
  · have e1 := str_ne h1
    have e2 := str_nil h2
    have hO : outS T m c d = m ++ (lit1 ++ quoteS T c) := by rw [outS, if_pos h2, one1, if_neg h1]
    rw [hO]
    generalize quoteS T c = Q at *
    unfold lit1
    clear hO hT
    go_enter Tryd.func14, Tryd.ntmps14
    go_wp2_with (go_at_call 20; refine hqc.mono ?_; rintro e w1 ⟨rfl, hb⟩)
    go_ret
    exact ⟨rfl, hb⟩
  · have e1 := str_ne h1
    have e2 := str_ne h2
    have hO : outS T m c d = (m ++ (lit1 ++ quoteS T c)) ++ (lit2 ++ quoteS T d) := by rw [outS, if_neg h2, one1, if_neg h1]
    rw [hO]
    have hqd := fun W (h : Below w.heap.size w W) => quote_any T d W (hT.below h) hd
    generalize quoteS T c = Q at *
    generalize quoteS T d = Q' at *
    unfold lit1 lit2
    clear hO hT
    go_enter Tryd.func14, Tryd.ntmps14
    go_wp2_with fail
    refine hqc.mono ?_
    rintro e w1 ⟨rfl, hb⟩
    go_wp2_with fail
    refine (hqd _ hb).mono ?_
    rintro e w2 ⟨rfl, hb2⟩
    go_wp2
    go_ret
    exact ⟨rfl, below_then hb hb2⟩

set_option maxHeartbeats 1000000 in
theorem zzwith_any (T : PrintTabs) (m c d : ByteArray) (w : World) (hT : Tabs T w) (hm : m.size ≤ 1048576) (hc : c.size ≤ 1048576) (hd : d.size ≤ 1048576) :
    Calls Tryd.prog 7 #[.string m, .string c, .string d] w fun e w' => e = .returned (.string (outS T m c d)) ∧ Below w.heap.size w w' := by
  have h := with_any T m c d w hT hm hc hd
  clear hT
  go_enter Tryd.func7, Tryd.ntmps7
  go_wp2_with (go_at_call 14; refine h.mono ?_; rintro e w1 ⟨rfl, hb⟩)
  go_ret
  exact ⟨rfl, hb⟩

theorem out_eq (T : PrintTabs) (m c d c' d' : ByteArray) : ((outS T m c d).toList == (outS T m c' d').toList) = ((c.toList == c'.toList) && (d.toList == d'.toList)) := by
  have hx : ∀ a b : ByteArray, (a.toList == b.toList) = decide (a = b) := fun a b => by
    rw [Lib.toList_data, Lib.toList_data]
    by_cases h : a = b
    · subst h; simp
    · rw [decide_eq_false h]
      exact beq_eq_false_iff_ne.2 (fun e => h (bytes_ext e))
  rw [hx, hx, hx]
  have hi := out_inj T m c d c' d'
  by_cases h1 : c = c'
  · by_cases h2 : d = d'
    · rw [decide_eq_true (hi.2 ⟨h1, h2⟩), decide_eq_true h1, decide_eq_true h2]; rfl
    · rw [decide_eq_false (fun e => h2 (hi.1 e).2), decide_eq_false h2, Bool.and_false]
  · rw [decide_eq_false (fun e => h1 (hi.1 e).1), decide_eq_false h1, Bool.false_and]

set_option maxHeartbeats 4000000 in
set_option maxRecDepth 100000 in
theorem lawI (T : PrintTabs) (m c d c' d' : ByteArray) (w : World) (hT : Tabs T w) (h1 : m.size ≤ maxLen) (h2 : c.size ≤ maxLen) (h3 : d.size ≤ maxLen) (h4 : c'.size ≤ maxLen) (h5 : d'.size ≤ maxLen) :
    Calls Tryd.prog 4 #[.string m, .string c, .string d, .string c', .string d'] w fun e w' => e = .returned (.bool true) ∧ Below w.heap.size w w' := by
  unfold maxLen at h1 h2 h3 h4 h5
  by_cases hs : m.size + c.size + d.size + c'.size + d'.size ≤ 1048576
  · by_cases hl : m.size ≤ 131072 ∧ c.size ≤ 131072 ∧ d.size ≤ 131072 ∧ c'.size ≤ 131072 ∧ d'.size ≤ 131072
    · obtain ⟨g1, g2, g3, g4, g5⟩ := hl
      have ha := zzwith_any T m c d w hT (by omega) (by omega) (by omega)
      have hb := fun W (h : Below w.heap.size w W) => zzwith_any T m c' d' W (hT.below h) (by omega) (by omega) (by omega)
      have heq := out_eq T m c d c' d'
      generalize outS T m c d = A at *
      generalize outS T m c' d' = B at *
      clear hT h1 h2 h3 h4 h5
      go_enter Tryd.func4, Tryd.ntmps4
      go_wp2_with (go_at_call 10; go_in)
      refine ha.mono ?_
      rintro e w1 ⟨rfl, hb1⟩
      go_wp2_with fail
      refine (hb _ hb1).mono ?_
      rintro e w2 ⟨rfl, hb2⟩
      cases hc : (c.toList == c'.toList) <;> cases hd : (d.toList == d'.toList)
      all_goals
        rw [hc, hd] at heq
        simp only [Bool.and_self, Bool.and_false, Bool.and_true] at heq
        go_wp2
        go_ret
        exact ⟨rfl, below_then hb1 hb2⟩
    · clear hT
      go_enter Tryd.func4, Tryd.ntmps4
      go_wp2_with (go_at_call 10; go_in)
      all_goals
        first
          | (exfalso; omega)
          | (go_ret
             exact ⟨rfl, Below.refl _ _⟩)
  · clear hT
    go_enter Tryd.func4, Tryd.ntmps4
    go_wp2_with (go_at_call 10; go_in)
    all_goals
      go_ret
      exact ⟨rfl, Below.refl _ _⟩
end Go.Proofs.Qxb6601947aDoor
