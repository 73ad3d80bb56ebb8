/-
  FnAppendEscapedReadsBackAsOneWord at this seat's dump, walked out of the contracts: true, whatever the input.
-/
import Derived.Test.Qxb6003380aDoorReadWord
namespace Go.Proofs.Qxb6003380aDoor
open Go.RowKit Go.Proofs Plain

set_option maxHeartbeats 1000000 in
theorem zzescaped_any (B : Nat) (v : Value) (pre : List UInt8) (s : ByteArray) (hash br : Bool) (w : World) (hown : w.ownsRow B 5 1 v pre.length (Lib.byteCells pre)) (hB : B ≤ w.heap.size)
    (hp : pre.length ≤ 1048576) (hs : s.size ≤ 1048576) :
    Calls Tryd.prog 13 #[v, .string s, .bool hash, .bool br] w fun e w' => ∃ v', e = .returned v' ∧ Grew B w v w' v' (pre ++ esc hash br s.data.toList) := by
  have h := escaped_any B v pre s hash br w hown hB hp hs
  clear hown
  go_enter Tryd.func13, Tryd.ntmps13
  go_wp2_with (go_at_call 23; refine h.mono ?_; rintro e w1 ⟨v1, rfl, hG⟩)
  go_ret
  exact ⟨_, rfl, hG⟩

theorem own_form {w : World} {B : Nat} {v : Value} {l : List UInt8} (h : w.ownsRow B 5 1 v l.length (Lib.byteCells l)) : ∃ ao cap, v = .slice ao l.length cap := by
  obtain ⟨_, ⟨rfl, h0⟩ | ⟨g, cap, cur, rfl, _⟩⟩ := h
  · exact ⟨none, 0, by rw [h0]⟩
  · exact ⟨_, cap, rfl⟩
theorem own_form_pos {w : World} {B : Nat} {v : Value} {l : List UInt8} (h : w.ownsRow B 5 1 v l.length (Lib.byteCells l)) (hl : 0 < l.length) :
    ∃ g cap, v = .slice (some ⟨g, 0, none⟩) l.length cap ∧ l.length ≤ cap ∧ cap ≤ maxLen ∧ ∀ j (h : j < l.length), w.cell? ⟨g, j, none⟩ = some (.int .u8 (l[j].toNat : Int)) := by
  have hs := h
  obtain ⟨_, ⟨rfl, h0⟩ | ⟨g, cap, cur, rfl, _, _, hc, hm, _⟩⟩ := h
  · omega
  · refine ⟨g, cap, rfl, hc, hm, fun j hj => ?_⟩
    rw [hs.cellAt j (by omega)]
    simp [Lib.byteCells, hj]

theorem str_ne {s : ByteArray} (h : 0 < s.size) : (s.toList == []) = false := by
  rw [Lib.toList_data]
  cases hx : s.data.toList with
  | nil => have h2 := Lib.size_eq s
           rw [hx, List.length_nil] at h2; omega
  | cons a t => rfl
def headB (br : Bool) (c : UInt8) : Bool := match escB br c with
  | [] => false
  | x :: _ => x != 123 && x != 34
theorem esc_head (hash br : Bool) (c : UInt8) (t : List UInt8) (hb : br = false → c ≠ 123) :
    ∃ c0 u0, esc hash br (c :: t) = c0 :: u0 ∧ c0 ≠ 123 ∧ c0 ≠ 34 ∧ (hash = true → c0 ≠ 35) := by
  cases hash
  · have hh : headB br c = true := by
      cases br
      · have := all_u8 (p := fun c => c == 123 || headB false c) (by decide +kernel) c
        simpa [hb rfl] using this
      · exact all_u8 (p := fun c => headB true c) (by decide +kernel) c
    rw [esc_false, List.flatMap_cons]
    unfold headB at hh
    split at hh
    · cases hh
    · rename_i x r hx
      rw [hx]
      simp at hh
      exact ⟨x, r ++ t.flatMap (escB br), rfl, hh.1, hh.2, fun h => by cases h⟩
  · exact ⟨92, _, esc_true br (c :: t), by decide, by decide, fun _ => by decide⟩
def shutB (t : List UInt8) : Bool := match t with
  | [c] => c != 92 && c != 123 && c != 125
  | [x, _] => x == 92
  | _ => false
theorem shut_of {t : List UInt8} {c : UInt8} (h : shutB t = true) : shut (t, c) := by
  unfold shutB at h
  split at h
  · simp at h; exact Or.inl ⟨_, rfl, h.1.1, h.1.2, h.2⟩
  · rename_i x d
    simp at h; exact Or.inr ⟨d, by simp [h]⟩
  · cases h
theorem shut_toks (hash : Bool) (l : List UInt8) (hh : hash = true → l.head? = some 35) : ∀ t ∈ toks hash true l, shut t := by
  have hall : ∀ c, shut (escB true c, c) := fun c => shut_of (all_u8 (p := fun c => shutB (escB true c)) (by decide +kernel) c)
  intro t ht
  cases hash
  · obtain ⟨c, _, rfl⟩ := List.mem_map.1 ht
    exact hall c
  · cases l with
    | nil => cases ht
    | cons c u =>
      rcases List.mem_cons.1 ht with rfl | ht
      · have : c = 35 := by simpa using hh rfl
        subst this
        exact Or.inr ⟨35, rfl⟩
      · obtain ⟨c, _, rfl⟩ := List.mem_map.1 ht
        exact hall c

/-- What is seen from n on. -/
theorem sees_drop {w : World} {g cap L : Nat} {l m : List UInt8} (hL : L = l.length) (hc : ∀ j (h : j < (l ++ m).length), w.cell? ⟨g, j, none⟩ = some (.int .u8 ((l ++ m)[j].toNat : Int))) :
    Sees w (.slice (some ⟨g, L, none⟩) m.length cap) m := by
  subst hL
  refine ⟨_, cap, rfl, fun j hj => ⟨g, l.length, rfl, ?_⟩⟩
  have := hc (l.length + j) (by simp; omega)
  rw [this, List.getElem_append_right (by omega)]
  simp
theorem sees_take {w : World} {g cap : Nat} {l m : List UInt8} (hc : ∀ j (h : j < (l ++ m).length), w.cell? ⟨g, j, none⟩ = some (.int .u8 ((l ++ m)[j].toNat : Int))) :
    Sees w (.slice (some ⟨g, 0, none⟩) l.length cap) l := by
  refine ⟨_, cap, rfl, fun j hj => ⟨g, 0, rfl, ?_⟩⟩
  rw [Nat.zero_add, hc j (by simp; omega), List.getElem_append_left hj]

theorem grown_drewN {w w' : World} {r : Option Nat} (h : w.grownBy w' r) (n : Nat) : w.grownBy (w'.drewN n) r := ⟨h.os, h.tape, h.output, h.size, h.block⟩
theorem own_keep {w w' : World} {B n : Nat} {v : Value} {xs : List Value} (h : w.ownsRow B 5 1 v n xs) (hg : w.grownBy w' none) : w'.ownsRow B 5 1 v n xs :=
  h.kept hg (by cases v.ownBlock <;> simp)
theorem own_apart {w1 w2 : World} {B n m : Nat} {v1 v2 : Value} {xs ys : List Value} (h1 : w1.ownsRow B 5 1 v1 n xs) (h2 : w2.ownsRow w1.heap.size 5 1 v2 m ys) : v2.ownBlock = none ∨ v2.ownBlock ≠ v1.ownBlock := by
  cases e2 : v2.ownBlock with
  | none => exact Or.inl rfl
  | some j =>
    refine Or.inr (fun e => ?_)
    have a := (h2.lt j e2).1
    have b := (h1.lt j e.symm).2
    omega

set_option maxHeartbeats 8000000 in
set_option maxRecDepth 100000 in
theorem lawE_main (v0 : Value) (lb : List UInt8) (s : ByteArray) (hash br : Bool) (w : World) (h0 : Sees w v0 lb) (hsum : lb.length + s.size ≤ 1048576) (hne : 0 < s.size)
    (hh : hash = true → s[0] = 35) (hb : br = false → s[0] ≠ 123) :
    Calls Tryd.prog 4 #[v0, .string s, .bool hash, .bool br] w fun e w' => e = .returned (.bool true) ∧ Below w.heap.size w w' := by
  have hc1 := copy_any v0 lb w h0 (by omega)
  obtain ⟨ao0, cap0, rfl, _⟩ := h0
  have hse : (s.toList == []) = false := str_ne hne
  have hcons : s.data.toList = s[0] :: s.data.toList.drop 1 := by
    have : s.data.toList.drop 0 = s.data.toList[0]'(by simpa using hne) :: s.data.toList.drop 1 := List.drop_eq_getElem_cons (by simpa using hne)
    rw [List.drop_zero] at this
    exact this
  have hhd : hash = true → s.data.toList.head? = some 35 := fun e => by rw [hcons, ← hh e]; rfl
  obtain ⟨E, hE⟩ : ∃ E, E = esc hash br s.data.toList := ⟨_, rfl⟩
  obtain ⟨T, hT⟩ : ∃ T, T = toks hash br s.data.toList := ⟨_, rfl⟩
  have hft : flat T = E := by rw [hT, hE]; exact flat_toks hash br _ (by rw [hcons]; simp)
  have hvt : vals T = s.data.toList := by rw [hT]; exact vals_toks hash br _
  have hgt : ∀ t ∈ T, good t := by rw [hT]; exact good_toks hash br _ hhd
  obtain ⟨c0, u0, hEc, hx1, hx2, hx3⟩ : ∃ c0 u0, E = c0 :: u0 ∧ c0 ≠ 123 ∧ c0 ≠ 34 ∧ (hash = true → c0 ≠ 35) := by
    rw [hE, hcons]; exact esc_head hash br _ _ hb
  have hEl : E.length ≤ 2 * s.size := by
    have := esc_twice hash br _ hhd
    rw [← hE] at this
    simpa using this
  have hEp : 0 < E.length := by rw [hEc]; simp
  have zz : Hid (∀ (v1 : Value) (W : World), W.ownsRow w.heap.size 5 1 v1 lb.length (Lib.byteCells lb) → w.heap.size ≤ W.heap.size →
      Calls Tryd.prog 13 #[v1, .string s, .bool hash, .bool br] W fun e w' => ∃ v', e = .returned v' ∧ Grew w.heap.size W v1 w' v' (lb ++ E)) := fun v1 W h hB => by
    rw [hE]; exact zzescaped_any w.heap.size v1 lb s hash br W h hB (by omega) (by omega)
  have rb : Hid (∀ (v : Value) (W : World), Sees W v E → Calls Tryd.prog 10 #[v, .bool hash] W fun e w' => ∃ v', e = .returned (.tuple #[v', .bool true]) ∧ w'.ownsRow W.heap.size 5 1 v' s.data.toList.length (Lib.byteCells s.data.toList) ∧ W.grownBy w' none) := fun v W h => by
    have := read_bare v T hash c0 u0 W (by rw [hft]; exact h) hgt (by rw [hft]; exact hEc) hx1 hx2 hx3 (by rw [hft]; omega)
    rw [hvt] at this
    exact this
  have bb : Hid (br = true → ∀ (v : Value) (W : World), Sees W v E → Calls Tryd.prog 14 #[v] W fun e w' => e = .returned (.bool false) ∧ w' = W) := fun e v W h =>
    bare_any v T W (by rw [hft]; exact h) (by rw [hft]; omega) (by subst e; rw [hT]; exact shut_toks hash _ hhd)
  have f1 : hash = true → ((s[0].toNat : Int) != 35) = false := fun e => by rw [hh e]; rfl
  have f2 : br = false → ((s[0].toNat : Int) == 123) = false := fun e => n_ne (n := 123) (by decide) (hb e)
  clear hft hvt hE hT hEc hx1 hx2 hx3 hcons hhd hh hb hgt
  cases hash <;> cases br
  all_goals
    try have f1' := f1 rfl
    try have f2' := f2 rfl
    clear f1 f2
    go_enter Tryd.func4, Tryd.ntmps4
    go_wp2_with (go_at_call 12; go_in)
    try clear f1' f2'
    refine hc1.mono ?_
    rintro e w1 ⟨v1, rfl, hown1, hg1⟩
    have hsee1 := own_sees hown1
    obtain ⟨ao1, cap1, rfl⟩ := own_form hown1
    have hc2 := copy_any _ lb w1 hsee1 (by omega)
    clear hc1 hsee1
    go_wp2_with fail
    refine hc2.mono ?_
    rintro e w2 ⟨v2, rfl, hown2, hg2⟩
    clear hc2
    have hap := own_apart hown1 hown2
    have hown1' := own_keep hown1 hg2
    have hs1 := hg1.size
    have hs2 := hg2.size
    have hG := zz.out _ w2 hown1' (by omega)
    go_wp2_with fail
    refine hG.mono ?_
    rintro e w3 ⟨v3, rfl, G⟩
    clear hG
    have hown2' := hown2.kept G.grown hap
    have hsee2 := own_sees hown2'
    have hg13 : w.grownBy w3 none := grown_then (grown_then hg1 hg2 (by simp)) G.grown (fun j hj => Or.inl (hown1.lt j hj).1)
    obtain ⟨g, cap3, rfl, hcap, hcm, hcell⟩ := own_form_pos G.own (by rw [List.length_append]; omega)
    have hst1 : Sees w3 (.slice (some ⟨g, 0, none⟩) lb.length cap3) lb := sees_take hcell
    have hst2 : Sees w3 (.slice (some ⟨g, lb.length, none⟩) E.length (cap3 - lb.length)) E := sees_drop rfl hcell
    rw [List.length_append] at hcap
    unfold maxLen at hcm
    clear hown1 hown1' hown2 hown2' hap G hcell hg1 hg2
    have heq := equal_any _ _ lb lb w3 hst1 hsee2 (by omega) (by omega)
    rw [decide_eq_true rfl] at heq
    go_wp2_with fail
    refine heq.mono ?_
    rintro e w4 ⟨rfl, n4, rfl⟩
    clear heq
    have hst4 : Sees (w3.drewN n4) (.slice (some ⟨g, lb.length, none⟩) E.length (cap3 - lb.length)) E := hst2
    have hrb := rb.out _ _ hst4
    first | have hbb := bb.out rfl _ _ hst4 | have hbb := bb.out trivial _ _ hst4 | skip
    have hsub : ((lb.length : Int) + (E.length : Int) - (lb.length : Int)) = (E.length : Int) := by omega
    have hc3 : lb.length < cap3 := by omega
    have hEl' : (E.length : Int) ≤ 2 * (s.size : Int) := by omega
    clear hst1 hst2 hsee2
    go_wp2_with (go_at_call 14; refine hbb.mono ?_; rintro e w5 ⟨rfl, rfl⟩)
    refine hrb.mono ?_
    rintro e w6 ⟨v6, rfl, hown6, hg6⟩
    have hsee6 := own_sees hown6
    obtain ⟨ao6, cap6, rfl⟩ := own_form hown6
    have hsm := same_any _ _ s w6 hsee6 (by simp; omega)
    rw [decide_eq_true rfl] at hsm
    clear hrb hsee6 hown6
    go_wp2_with fail
    refine hsm.mono ?_
    rintro e w7 ⟨rfl, n7, rfl⟩
    go_wp2
    go_ret
    exact ⟨rfl, below_of_grown (grown_drewN (grown_then (grown_drewN hg13 n4) hg6 (by simp)) n7)⟩

set_option maxHeartbeats 4000000 in
set_option maxRecDepth 100000 in
theorem lawE (v0 : Value) (lb : List UInt8) (s : ByteArray) (hash br : Bool) (w : World) (h0 : Sees w v0 lb) (hlb : lb.length ≤ maxLen) (hs : s.size ≤ maxLen) :
    Calls Tryd.prog 4 #[v0, .string s, .bool hash, .bool br] w fun e w' => e = .returned (.bool true) ∧ Below w.heap.size w w' := by
  by_cases hsum : lb.length + s.size ≤ 1048576
  · by_cases hne : 0 < s.size
    · by_cases hh : hash = true ∧ s[0] ≠ 35
      · obtain ⟨rfl, hh⟩ := hh
        obtain ⟨ao0, cap0, rfl, _⟩ := h0
        have hse : (s.toList == []) = false := str_ne hne
        have f1 : ((s[0].toNat : Int) != 35) = true := by simpa using n_ne (n := 35) (by decide) hh
        clear hh
        go_enter Tryd.func4, Tryd.ntmps4
        go_wp2_with (go_at_call 12; go_in)
        all_goals
          go_ret
          exact ⟨rfl, Below.refl _ _⟩
      · by_cases hb : br = false ∧ s[0] = 123
        · obtain ⟨rfl, hb⟩ := hb
          obtain ⟨ao0, cap0, rfl, _⟩ := h0
          have hse : (s.toList == []) = false := str_ne hne
          have f2 : ((s[0].toNat : Int) == 123) = true := by rw [hb]; rfl
          have f1 : hash = true → ((s[0].toNat : Int) != 35) = false := fun e => by
            have : s[0] = 35 := Classical.byContradiction fun c => hh ⟨e, c⟩
            rw [this]; rfl
          clear hh hb
          cases hash
          all_goals
            try have f1' := f1 rfl
            clear f1
            go_enter Tryd.func4, Tryd.ntmps4
            go_wp2_with (go_at_call 12; go_in)
            all_goals
              go_ret
              exact ⟨rfl, Below.refl _ _⟩
        · exact lawE_main v0 lb s hash br w h0 hsum hne (fun e => Classical.byContradiction fun c => hh ⟨e, c⟩) (fun e c => hb ⟨e, c⟩)
    · obtain ⟨ao0, cap0, rfl, _⟩ := h0
      have hse : (s.toList == []) = true := by
        rw [Lib.toList_data, List.length_eq_zero_iff.1 (show s.data.toList.length = 0 by rw [← Lib.size_eq]; omega)]; rfl
      go_enter Tryd.func4, Tryd.ntmps4
      go_wp2_with (go_at_call 12; go_in)
      all_goals
        go_ret
        exact ⟨rfl, Below.refl _ _⟩
  · obtain ⟨ao0, cap0, rfl, _⟩ := h0
    unfold maxLen at hlb hs
    go_enter Tryd.func4, Tryd.ntmps4
    go_wp2_with (go_at_call 12; go_in)
    all_goals
      go_ret
      exact ⟨rfl, Below.refl _ _⟩
end Go.Proofs.Qxb6003380aDoor
