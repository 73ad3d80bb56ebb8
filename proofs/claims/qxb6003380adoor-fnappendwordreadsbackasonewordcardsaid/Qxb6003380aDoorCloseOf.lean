/-
  (*source).closeOf at a fresh source whose text is a braced word that is whole, walked: it answers the last byte.
-/
import Derived.Test.Qxb6003380aDoorAppendWord
import Derived.Maps.OwnSet
import Derived.WalkSpells
import Derived.WalkSmall
namespace Go.Proofs.Qxb6003380aDoor
open Go.RowKit Go.Proofs Plain Go.Maps

theorem infoInt : (Tryd.prog.info? 3).map (fun i => (i.zero, i.size, i.bytes)) = some (some (.int .i64 0), 1, 8) := by kernel_rfl
theorem lawInt : Keyed Tryd.prog 3 := int_keyed Tryd.underlying3
theorem zeroInt (w : World) : (zeroValue 3).run Tryd.prog w = .ok (.int .i64 0) w := by kernel_rfl

theorem setCell_grown (W : World) (p : Addr) (u : Value) : W.grownBy (W.setCell p u) (some p.block) :=
  ⟨rfl, rfl, rfl, by simp [World.setCell], fun k _ hk => Below.heap_setCell _ _ _ _ (fun e => hk (by rw [e]))⟩
theorem row_form {w : World} {B : Nat} {v : Value} {O : List Int} (h : w.ownsRow B 3 1 v O.length (O.map (.int .i64))) (hl : 0 < O.length) :
    ∃ g cap, v = .slice (some ⟨g, 0, none⟩) O.length cap ∧ O.length ≤ cap ∧ cap ≤ maxLen ∧ ∀ j (h : j < O.length), w.cell? ⟨g, j, none⟩ = some (.int .i64 O[j]) := by
  have hs := h
  obtain ⟨_, ⟨rfl, h0⟩ | ⟨g, cap, cur, rfl, _, _, hc, hm, _⟩⟩ := h
  · omega
  · refine ⟨g, cap, rfl, hc, hm, fun j hj => ?_⟩
    rw [hs.cellAt j (by omega)]
    simp [hj]
theorem one64 (n : Int) : ∀ u ∈ [Value.int .i64 n], u.oneCell' = true := by
  intro u hu; simp at hu; subst hu; rfl
theorem own_push {w : World} {B n : Nat} {v : Value} {O : List Int} {x : Int} (hn : n = O.length + 1) (h : w.ownsRow B 3 1 v n (O.map (.int .i64) ++ [.int .i64 x])) :
    w.ownsRow B 3 1 v (O ++ [x]).length ((O ++ [x]).map (.int .i64)) := by
  rw [List.length_append, List.length_singleton, ← hn, List.map_append]
  exact h

/-- What the call's own memory holds beside the stack: the map of n closing braces at most; the source; nothing else has turned. -/
structure Inv (S : ByteArray) (sb : Nat) (w wr : World) (n : Nat) : Prop where
  map : ∃ D : DataW Unit, wr.ownsMap Tryd.prog 3 (plainElem (H := Unit) Tryd.prog 3) w.heap.size n D
  c0 : wr.cell? ⟨sb, 0, none⟩ = some (.string S)
  c4 : wr.cell? ⟨sb, 4, none⟩ = some (.map (some w.heap.size))
  grown : w.grownBy wr (some sb)
  size : w.heap.size + 1 ≤ wr.heap.size
theorem Inv.row {S : ByteArray} {sb n : Nat} {w wr w1 : World} {o : Obj} {r : Option Nat} (h : Inv S sb w wr n) (hsb : sb < w.heap.size) (hg : (wr.alloc o).grownBy w1 r) (hr : ∀ j, r = some j → w.heap.size + 1 ≤ j) : Inv S sb w w1 n := by
  have hga := World.grownBy_alloc wr o none
  have ne : ∀ j, j < w.heap.size + 1 → some j ≠ r := fun j hj e => by have := hr j e.symm; omega
  refine ⟨?_, hg.cell (hga.cell h.c0 (by simp)) (ne sb (by omega)), hg.cell (hga.cell h.c4 (by simp)) (ne sb (by omega)), grown_then (grown_then h.grown hga (by simp)) hg (fun j hj => Or.inl (by have := hr j hj; omega)), ?_⟩
  · obtain ⟨D, hD⟩ := h.map
    exact ⟨D, (hD.alloc o).kept hg (ne _ (by omega))⟩
  · have := h.size
    have := hga.size
    have := hg.size
    omega
theorem Inv.put {S : ByteArray} {sb n : Nat} {w wr w1 : World} {D : DataW Unit} (h : Inv S sb w wr n) (hsb : sb < w.heap.size) (hm : w1.ownsMap Tryd.prog 3 (plainElem (H := Unit) Tryd.prog 3) w.heap.size (n + 1) D) (hg : wr.grownBy w1 (some w.heap.size)) : Inv S sb w w1 (n + 1) := by
  have ne : some sb ≠ some w.heap.size := by simp; omega
  exact ⟨⟨D, hm⟩, hg.cell h.c0 ne, hg.cell h.c4 ne, grown_then h.grown hg (fun j hj => Or.inl (by simp at hj; omega)), Nat.le_trans h.size hg.size⟩

/-- Where the look for the closing brace stands. -/
def Phase (S : ByteArray) (k : Nat) (O : List Int) : Prop :=
  (k = 0 ∧ O = []) ∨ (1 ≤ k ∧ ∃ R T, S.data.toList.drop k = R ++ [125] ∧ bal R T.length = true ∧ O = (0 : Int) :: T ∧ ∀ o ∈ T, (0 : Int) < o)

theorem at_drop {S : ByteArray} {k : Nat} {c : UInt8} {R : List UInt8} (h : S.data.toList.drop k = c :: R) : ∃ g : k < S.size, S[k] = c ∧ S.data.toList.drop (k + 1) = R := by
  obtain ⟨h1, h2, h3⟩ := drop_head h
  have g : k < S.size := by simpa using h1
  refine ⟨g, ?_, h3⟩
  rw [drop_at S k g] at h
  exact (List.cons.inj h).1

set_option maxHeartbeats 8000000 in
set_option maxRecDepth 100000 in
theorem close_any (S : ByteArray) (l : List UInt8) (sb : Nat) (w : World) (hS : S.data.toList = 123 :: (l ++ [125])) (hb : bal l 0 = true) (hm : S.size ≤ 4194304)
    (h0 : w.cell? ⟨sb, 0, none⟩ = some (.string S)) (h4 : w.cell? ⟨sb, 4, none⟩ = some (.map none)) (hf : w.frozen? ⟨sb, 4, none⟩ = false) :
    Calls Tryd.prog 25 #[.pointer (some ⟨sb, 0, none⟩), .int .i64 0, .int .i64 S.size] w fun e w' => e = .returned (.int .i64 ((l.length : Int) + 1)) ∧ w.grownBy w' (some sb) := by
  obtain ⟨i0, hi, hz0, hz1, hz2⟩ := info_parts infoInt
  have hsb : sb < w.heap.size := World.block_lt_of_cell? w ⟨sb, 0, none⟩ h0
  have hlen : S.size = l.length + 2 := by
    have := Lib.size_eq S
    rw [hS] at this
    simp at this
    omega
  have HLEN : Hid (S.size = l.length + 2) := hlen
  clear hlen
  have hlook : (Instr.lookup 44 (.map none) (.int .i64 0) true).run Tryd.prog w = _ := Maps.look_nil (w := w) true lawInt Tryd.underlying44 (zeroInt _) (keyOf_int_mk Tryd.underlying3 (a := 0) (by decide))
  have hnil := fun W r => run_eql_map_nil (P := Tryd.prog) W 44 3 3 r Tryd.underlying44
  have hmm := @run_makeMap Tryd.prog
  have c4 : ∀ o, (w.alloc o).cell? ⟨sb, 4, none⟩ = some (.map none) := fun o => (World.grownBy_alloc w o none).cell h4 (by simp)
  have f4 : ∀ o, (w.alloc o).frozen? ⟨sb, 4, none⟩ = false := fun o => (World.frozen?_of_block (Below.heap_alloc w o sb hsb)).trans hf
  obtain ⟨W1, hW1⟩ : ∃ W1, W1 = (w.setCell ⟨sb, 4, none⟩ (.map (some w.heap.size))).alloc (.map #[] 0) := ⟨_, rfl⟩
  have hsz0 : (w.setCell ⟨sb, 4, none⟩ (.map (some w.heap.size))).heap.size = w.heap.size := by simp [World.setCell]
  have hg0 := setCell_grown w ⟨sb, 4, none⟩ (.map (some w.heap.size))
  have hg1 : w.grownBy W1 (some sb) := by
    rw [hW1]
    exact grown_then hg0 (World.grownBy_alloc _ _ none) (by simp)
  have hm1 : W1.ownsMap Tryd.prog 3 (plainElem (H := Unit) Tryd.prog 3) w.heap.size 0 (.map []) := by
    rw [hW1]
    have := World.ownsMap_made (w.setCell ⟨sb, 4, none⟩ (.map (some w.heap.size))) Tryd.prog 3 (plainElem (H := Unit) Tryd.prog 3)
    rw [hsz0] at this
    exact this
  have hs1 : w.heap.size + 1 ≤ W1.heap.size := by rw [hW1]; simp [World.setCell]
  have hc0 : W1.cell? ⟨sb, 0, none⟩ = some (.string S) := by
    rw [hW1]
    refine (World.grownBy_alloc _ _ none).cell ?_ (by simp)
    rw [World.cell?_setCell_other _ _ _ _ (by simp)]
    exact h0
  have hc4 : W1.cell? ⟨sb, 4, none⟩ = some (.map (some w.heap.size)) := by
    rw [hW1]
    exact (World.grownBy_alloc _ _ none).cell (World.cell?_setCell_same _ _ _ h4) (by simp)
  clear hg0 hsz0
  go_enter Tryd.func25, Tryd.ntmps25
  go_wp2
  clear hlook hnil hmm c4 f4 h0 h4 hf
  rw [← hW1]
  clear hW1
  have hI1 : Inv S sb w W1 0 := ⟨⟨_, hm1⟩, hc0, hc4, hg1, hs1⟩
  clear hm1 hc0 hc4 hg1 hs1
  go_loopw [9, 10] (fun u i wr => ∃ (k n : Nat) (O : List Int), i = .int .i64 k ∧ k ≤ S.size ∧ n ≤ k ∧ O.length ≤ k ∧ (∀ o ∈ O, (0 : Int) ≤ o ∧ o ≤ 4194304) ∧ Phase S k O ∧ wr.ownsRow (w.heap.size + 1) 3 1 u O.length (O.map (.int .i64)) ∧ Inv S sb w wr n)
    (fun _ i _ => S.size - (intOf i).toNat)
  case atStart => exact ⟨0, 0, [], rfl, Nat.zero_le _, Nat.le_refl _, Nat.le_refl _, by simp, Or.inl ⟨rfl, rfl⟩, World.ownsRow_nil _ _ _ _, hI1⟩
  case round =>
    clear hI1
    obtain ⟨k, n, O, rfl, hk, hnk, hOk, hO, hP, hown, hI⟩ := hrel
    have hc0 := hI.c0
    have hc4 := hI.c4
    have hsz := hI.size
    rcases hP with ⟨rfl, rfl⟩ | ⟨hk1, R, T, hd, hbal, rfl, hT⟩
    · have hpos : 0 < S.size := by have := HLEN.out; omega
      have hd0 : S.data.toList.drop 0 = S[0] :: S.data.toList.drop 1 := drop_at S 0 hpos
      rw [List.drop_zero, hS] at hd0
      have hv := num_of ((List.cons.inj hd0).1.symm) (by decide)
      have HT : Hid (S.data.toList.drop 1 = l ++ [125]) := by
        show _ = _
        rw [hS]; rfl
      clear hd0
      go_wp2_with (at_builtin; refine wpList_append_own _ rfl _ _ 53 rfl (w.heap.size + 1) 3 i0 (.int .i64 0) 1 8 Tryd.underlying53 hi hz0 hz1 hz2 rfl (by decide) _ _ _ rfl (hown.alloc _) ⟨wr.heap.size, 0, none⟩ 1 1 [.int .i64 0] rfl rfl (new1 _ _ _) (one64 _) (by unfold maxLen; omega) (by omega) (by simp; omega) ?_)
      intro v' w1 hown' hgrow _
      have hI1 := hI.row hsb hgrow (fun j hj => (hown.lt j hj).1)
      clear hgrow hI hc0 hc4
      go_wp2
      go_roundw
      case rel => exact ⟨1, n, [0], rfl, by omega, by omega, by simp, by simp, Or.inr ⟨Nat.le_refl _, l, [], HT.out, hb, rfl, by simp⟩, hown', hI1⟩
      case measure => simp [intOf]; omega
    · rcases R with _ | ⟨c, R⟩
      · have hT0 : T = [] := by
          have : (T.length == 0) = true := hbal
          exact List.length_eq_zero_iff.1 (by simpa using this)
        subst hT0
        obtain ⟨hlt, hv0, hkk⟩ := at_drop hd
        have hv := num_of hv0 (by decide)
        have hkl : (k : Int) = (l.length : Int) + 1 := by
          have h1 := congrArg List.length hkk
          have h2 := HLEN.out
          have h3 := Lib.size_eq S
          simp at h1
          omega
        have HKL : Hid ((k : Int) = (l.length : Int) + 1) := hkl
        clear hv0 hkk hkl hd hbal hS
        obtain ⟨g, cap, rfl, hcap, hcm, hcell⟩ := row_form hown (by simp)
        have hc := hcell 0 (by simp)
        have hcap' : 1 ≤ cap := hcap
        obtain ⟨D, hmap⟩ := hI.map
        unfold maxLen at hcm
        clear hcell hcap
        go_wp2_with (at_mapUpdate; refine wpList_mapUpdate_own _ rfl _ _ _ 44 rfl 3 3 lawInt Tryd.underlying44 _ w.heap.size n _ rfl hmap (by unfold maxLen; omega) _ _ _ rfl rfl (keyOf_int_mk Tryd.underlying3 (a := 0) (by decide)) _ [] (plainElem_int Tryd.underlying3 (WalkArith.wf_i64 (by omega))) ?_)
        intro w1 hm1 hgrow1
        have hI1 := hI.put hsb hm1 hgrow1
        clear hm1 hgrow1 hI hmap hc0 hc4 hc
        go_wp2
        go_ret
        exact ⟨ret_int HKL.out, hI1.grown⟩
      · obtain ⟨hlt, hv0, hkk⟩ := at_drop hd
        have HKK : Hid (S.data.toList.drop (k + 1) = R ++ [125]) := hkk
        clear hkk hd
        have hO' := hO
        by_cases h92 : c = 92
        · subst h92
          rcases R with _ | ⟨d, R⟩
          · cases hbal
          · rw [bal_bs] at hbal
            obtain ⟨hlt2, _, hkk2⟩ := at_drop HKK.out
            have HKK2 : Hid (S.data.toList.drop (k + 2) = R ++ [125]) := hkk2
            have hv := num_of hv0 (by decide)
            clear hv0 hkk2 HKK hS
            go_wp2
            go_roundw
            case rel => exact ⟨k + 2, n, 0 :: T, by go_num, by omega, by omega, by omega, hO, Or.inr ⟨by omega, R, T, HKK2.out, hbal, rfl, hT⟩, hown, hI⟩
            case measure => simp [intOf]; omega
        · by_cases h123 : c = 123
          · subst h123
            rw [bal_open] at hbal
            have hv := num_of hv0 (by decide)
            clear hv0 hS h92
            go_wp2_with (at_builtin; refine wpList_append_own _ rfl _ _ 53 rfl (w.heap.size + 1) 3 i0 (.int .i64 0) 1 8 Tryd.underlying53 hi hz0 hz1 hz2 rfl (by decide) _ _ _ rfl (hown.alloc _) ⟨wr.heap.size, 0, none⟩ 1 1 [.int .i64 (k : Int)] rfl rfl (new1 _ _ _) (one64 _) (by unfold maxLen; omega) (by omega) (by simp; omega) ?_)
            intro v' w1 hown' hgrow _
            have hI1 := hI.row hsb hgrow (fun j hj => (hown.lt j hj).1)
            clear hgrow hI hc0 hc4
            go_wp2
            go_roundw
            case rel =>
              refine ⟨k + 1, n, 0 :: (T ++ [(k : Int)]), by go_num, by omega, by omega, by simp at hOk ⊢; omega, ?_, Or.inr ⟨by omega, R, T ++ [(k : Int)], HKK.out, by simpa using hbal, rfl, ?_⟩, own_push (n := T.length + 1 + 1) (O := 0 :: T) (x := (k : Int)) rfl hown', hI1⟩
              · intro o ho
                rw [← List.cons_append] at ho
                rcases List.mem_append.1 ho with ho | ho
                · exact hO o ho
                · simp at ho; subst ho; omega
              · intro o ho
                rcases List.mem_append.1 ho with ho | ho
                · exact hT o ho
                · simp at ho; subst ho; omega
            case measure => simp [intOf]; omega
          · by_cases h125 : c = 125
            · subst h125
              rw [bal_shut] at hbal
              rcases List.eq_nil_or_concat T with rfl | ⟨P, x, rfl⟩
              · cases hbal
              · rw [List.concat_eq_append] at hbal hown hT hO hOk
                have hbal' : bal R P.length = true := by simpa using hbal
                have hx := hT x (by simp)
                have hx2 := (hO x (by simp)).2
                have hTP : Hid (∀ o ∈ P, (0 : Int) < o) := fun o ho => hT o (by simp [ho])
                have hOP : Hid (∀ o ∈ (0 : Int) :: P, (0 : Int) ≤ o ∧ o ≤ 4194304) := fun o ho => hO o (by
                  rw [← List.cons_append]; exact List.mem_append_left _ ho)
                have hPk : P.length + 2 ≤ k := by simpa using hOk
                have hv := num_of hv0 (by decide)
                obtain ⟨g, cap, rfl, hcap, hcm, hcell⟩ := row_form hown (by simp)
                have hc := hcell (P.length + 1) (by simp)
                have hcx : wr.cell? ⟨g, P.length + 1, none⟩ = some (.int .i64 x) := by
                  rw [hc]
                  simp
                have hpop : wr.ownsRow (w.heap.size + 1) 3 1 (.slice (some ⟨g, 0, none⟩) (P.length + 1) cap) (P.length + 1) (((0 : Int) :: P).map (.int .i64)) :=
                  ownsRow_pop (last := [.int .i64 x]) (by simp) (by simpa using hown)
                have hcap' : P.length + 2 ≤ cap := by simpa using hcap
                obtain ⟨D, hmap⟩ := hI.map
                unfold maxLen at hcm
                clear hcell hcap hc hv0 hbal hT hO hO' hOk hown hS h92 h123
                have hln : ((0 : Int) :: (P ++ [x])).length = P.length + 2 := by simp
                rw [hln]
                go_wp2_with (at_mapUpdate; refine wpList_mapUpdate_own _ rfl _ _ _ 44 rfl 3 3 lawInt Tryd.underlying44 _ w.heap.size n _ rfl hmap (by unfold maxLen; omega) _ _ _ rfl rfl (keyOf_int_mk Tryd.underlying3 (WalkArith.wf_i64 (by omega))) _ [] (plainElem_int Tryd.underlying3 (WalkArith.wf_i64 (by omega))) ?_)
                intro w1 hm1 hgrow1
                have hI1 := hI.put hsb hm1 hgrow1
                have hgb := (hpop.lt g rfl).1
                have hpop1 := hpop.kept hgrow1 (Or.inr (by simp [Value.ownBlock]; omega))
                have hx0 : (x == 0) = false := beq_eq_false_iff_ne.2 (by omega)
                clear hm1 hgrow1 hI hmap hc0 hc4 hcx hpop
                go_wp2
                go_roundw
                case rel => exact ⟨k + 1, n + 1, 0 :: P, by go_num, by omega, by omega, by simp; omega, hOP.out, Or.inr ⟨by omega, R, P, HKK.out, hbal', rfl, hTP.out⟩, hpop1, hI1⟩
                case measure => simp [intOf]; omega
            · rw [bal_other c R T.length h92 h123 h125] at hbal
              have e1 : ((S[k].toNat : Int) == 92) = false := by rw [hv0]; exact n_ne (n := 92) (by decide) h92
              have e2 : ((S[k].toNat : Int) == 123) = false := by rw [hv0]; exact n_ne (n := 123) (by decide) h123
              have e3 : ((S[k].toNat : Int) == 125) = false := by rw [hv0]; exact n_ne (n := 125) (by decide) h125
              clear hv0 h92 h123 h125 hS
              go_wp2
              go_roundw
              case rel => exact ⟨k + 1, n, 0 :: T, by go_num, by omega, by omega, by omega, hO, Or.inr ⟨by omega, R, T, HKK.out, hbal, rfl, hT⟩, hown, hI⟩
              case measure => simp [intOf]; omega

set_option maxHeartbeats 2000000 in
theorem joins_any (v : Value) (l : List UInt8) (w : World) (h : Sees w v l) (hl : l.length ≤ 4194304) (hj : jl l = false) :
    Calls Tryd.prog 21 #[v] w fun e w' => e = .returned (.bool false) ∧ w' = w := by
  obtain ⟨ao, cap, rfl, hc⟩ := h
  go_enter Tryd.func21, Tryd.ntmps21
  go_wp2
  go_loop [3] (fun i => ∃ k : Nat, i = .int .i64 k ∧ k ≤ l.length + 1 ∧ jl (l.drop k) = false) (fun i => l.length + 1 - (intOf i).toNat)
  case atStart => exact ⟨0, rfl, Nat.zero_le _, hj⟩
  case round =>
    obtain ⟨k, rfl, hk, hjk⟩ := hrel
    rcases hd : l.drop k with _ | ⟨c, R⟩
    · have hge : ¬ k < l.length := by
        intro g
        have : (l.drop k).length = 0 := by rw [hd]; rfl
        simp at this; omega
      clear hjk hd hc hj
      go_wp2
      go_ret
      exact ⟨rfl, rfl⟩
    · obtain ⟨g1, g2, g3⟩ := drop_head hd
      obtain ⟨b, off, rfl, hcell⟩ := cell_at hc g1 g2
      rw [hd] at hjk
      by_cases h92 : c = 92
      · subst h92
        rcases R with _ | ⟨d, R⟩
        · have hend : ¬ k + 1 < l.length := by
            intro g
            have : (l.drop (k + 1)).length = 0 := by rw [g3]; rfl
            simp at this; omega
          have hjn : Hid (jl (l.drop (k + 2)) = false) := by
            show _ = _
            rw [List.drop_eq_nil_of_le (by omega)]; rfl
          clear hjk hd hc hj g2 g3
          go_wp2
          go_round
          case rel => exact ⟨k + 2, by go_num, by omega, hjn.out⟩
          case measure => simp [intOf]; omega
        · obtain ⟨g4, g5, g6⟩ := drop_head g3
          obtain ⟨b', off', e, hcell2⟩ := cell_at hc g4 g5
          simp only [Option.some.injEq, Addr.mk.injEq, and_true] at e
          obtain ⟨rfl, rfl⟩ := e
          rw [jl_bs] at hjk
          have hd10 : d ≠ 10 := by
            rintro rfl
            simp at hjk
          rw [if_neg hd10] at hjk
          have hjn : Hid (jl (l.drop (k + 2)) = false) := by
            show _ = _
            rw [g6]; exact hjk
          have e1 : ((d.toNat : Int) == 10) = false := n_ne (n := 10) (by decide) hd10
          have e2 : ¬ (d.toNat : Int) = 10 := by simpa using e1
          clear hjk hd hc hj g2 g3 g5 g6 hd10
          go_wp2
          go_round
          case rel => exact ⟨k + 2, by go_num, by omega, hjn.out⟩
          case measure => simp [intOf]; omega
      · rw [jl_other c R h92] at hjk
        have hjn : Hid (jl (l.drop (k + 1)) = false) := by
          show _ = _
          rw [g3]; exact hjk
        have e1 : ((c.toNat : Int) == 92) = false := n_ne (n := 92) (by decide) h92
        clear hjk hd hc hj g2 g3 h92
        go_wp2
        go_round
        case rel => exact ⟨k + 1, by go_num, by omega, hjn.out⟩
        case measure => simp [intOf]; omega
end Go.Proofs.Qxb6003380aDoor
