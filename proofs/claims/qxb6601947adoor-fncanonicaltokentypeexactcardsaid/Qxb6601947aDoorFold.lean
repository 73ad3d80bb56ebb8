/-
  strings.EqualFold at this seat's dump, at a second word of ASCII letters that fold among themselves ('k' and 's' stay out), walked.
-/
import Derived.Test.Qxb6601947aDoorProg
import Derived.WalkKit
import Derived.RowKit3
import Derived.Lib.Walk
import Derived.Lib.Strings
import Derived.Laws.Strings3
import Derived.Laws.RangeAny
import Derived.Deep.LoopGhost
import Derived.Lib.Fold
import Derived.ScopeJumps
import Derived.WalkMore
import Derived.LoopN
namespace Go.Proofs.Qxb6601947aDoor
open Go.RowKit Go.Proofs Go.Lib

theorem below_of {w w' : World} (h : w.grownBy w' none) : Below w.heap.size w w' := ⟨h.os, h.tape, h.output, h.size, fun k hk => h.block k hk (by simp)⟩
/-- A scope out of which the run jumps forward, once, to the label l. -/
theorem scope_forward {P : Program} {a : Act} {w : World} {Q : Exit → Act → World → Prop} {c rest : Code} (l : Nat) (hf : findLabel c l = some rest)
    (first : c.wp P (Exit.jump l (fun a' w' => rest.wp P (Exit.noGoto Q) a' w') Q) a w) : (Code.scope c).wp P Q a w := by
  refine wp_scope_jumps l _ (fun _ _ => 0) hf first (fun a w h => ?_)
  refine wp_mono h (fun e a w hq => ?_)
  cases e <;> first | exact hq | exact hq.elim

set_option maxHeartbeats 1000000 in
set_option maxRecDepth 100000 in
theorem fold_letter (c f : Nat) (w : World) (hc : c < 128) (hcell : w.cell? ⟨0, c, none⟩ = some (.int .u16 (f : Int))) (hf : f < 128) :
    Calls Tryd.prog 23 #[.int .i32 (c : Int)] w fun e w' => e = .returned (.int .i32 (f : Int)) ∧ w' = w := by
  have h0 : ¬ (c : Int) < 0 := by omega
  have h1 : ¬ (c : Int) > 1114111 := by omega
  go_enter Tryd.func23, Tryd.ntmps23
  go_wp2
  go_ret
  exact ⟨rfl, rfl⟩
set_option maxHeartbeats 1000000 in
theorem first_ascii (u : ByteArray) (w : World) (h : 0 < u.size) (hd : (u[0].toNat : Int) < 128) :
    Calls Tryd.prog 22 #[.string u] w fun e w' => e = .returned (.tuple #[.int .i32 (u[0].toNat : Int), .int .i64 1]) ∧ w' = w := by
  have hne : (u.toList == []) = false := by
    rw [Lib.toList_data]
    cases hx : u.data.toList with
    | nil => have h2 := Lib.size_eq u
             rw [hx, List.length_nil] at h2; omega
    | cons a t => rfl
  go_enter Tryd.func22, Tryd.ntmps22
  go_wp2
  go_ret2
  exact ⟨rfl, rfl⟩

set_option maxHeartbeats 8000000 in
set_option maxRecDepth 1000000 in
theorem equalFold_any (s t : ByteArray) (w : World) (hs : s.size < 4294967281)
    (hat : ∀ (j : Nat) b, t.data.toList[j]? = some b → 97 ≤ b.toNat ∧ b.toNat ≤ 122 ∧ w.cell? ⟨0, b.toNat, none⟩ = some (.int .u16 ((b.toNat - 32 : Nat) : Int)) ∧ w.cell? ⟨0, b.toNat - 32, none⟩ = some (.int .u16 (b.toNat : Int))) :
    Calls Tryd.prog 19 #[.string s, .string t] w fun e w' => e = .returned (.bool (Lib.equalFold s.data.toList t.data.toList)) ∧ Below w.heap.size w w' := by
  have HT : Aside (∀ (j : Nat) b, t.data.toList[j]? = some b → 97 ≤ b.toNat ∧ b.toNat ≤ 122 ∧ w.cell? ⟨0, b.toNat, none⟩ = some (.int .u16 ((b.toNat - 32 : Nat) : Int)) ∧ w.cell? ⟨0, b.toNat - 32, none⟩ = some (.int .u16 (b.toNat : Int))) := hat
  clear hat
  obtain ⟨M, hM⟩ : ∃ M : Nat, min (s.size : Int) (t.size : Int) = (M : Int) := ⟨min s.size t.size, by omega⟩
  have hMs : M ≤ s.size := by omega
  have hMt : M ≤ t.size := by omega
  have hMe : M = s.size ∨ M = t.size := by omega
  go_enter Tryd.func19, Tryd.ntmps19
  go_wp2
  refine scope_forward 0 rfl ?_
  go_wp2
  go_loopg [5] M (fun g s5 wx => w = wx ∧ ∃ i : Nat, i + g = M ∧ s5 = .int .i64 i ∧ Lib.equalFold (s.data.toList.drop i) (t.data.toList.drop i) = Lib.equalFold s.data.toList t.data.toList)
  case atStart => exact ⟨rfl, 0, by omega, rfl, rfl⟩
  case round =>
    obtain ⟨rfl, i, hig, rfl, hinv⟩ := hrel
    have HI : Aside (Lib.equalFold (s.data.toList.drop i) (t.data.toList.drop i) = Lib.equalFold s.data.toList t.data.toList) := hinv
    clear hinv hM
    cases gk with
    | zero =>
      have hiM : ¬ ((i : Int) < (M : Int)) := by omega
      obtain rfl : i = M := by omega
      have hE : Lib.equalFold s.data.toList t.data.toList = decide (s.size = t.size) := by
        rw [← HI.out, Lib.equalFold_end _ _ (by
          rcases hMe with h | h
          · exact Or.inl (List.drop_eq_nil_of_le (by rw [← Lib.size_eq]; omega))
          · exact Or.inr (List.drop_eq_nil_of_le (by rw [← Lib.size_eq]; omega))), List.length_drop, List.length_drop, ← Lib.size_eq, ← Lib.size_eq]
        exact decide_eq_decide.2 (by omega)
      by_cases hst : s.size = t.size
      · have hb : ((s.size : Int) == (t.size : Int)) = true := beq_iff_eq.2 (by omega)
        go_wp2
        simp only [Exit.jump]
        go_ret
        exact ⟨by rw [hE]; simp [hst], Below.refl _ _⟩
      · have hb : ((s.size : Int) == (t.size : Int)) = false := beq_eq_false_iff_ne.2 (by omega)
        go_wp2
        simp only [Exit.jump]
        go_ret
        exact ⟨by rw [hE]; simp [hst], Below.refl _ _⟩
    | succ g =>
      have hiM : (i : Int) < (M : Int) := by omega
      have hisz : (i : Int) < (s.size : Int) := by omega
      have hitz : (i : Int) < (t.size : Int) := by omega
      obtain ⟨x, hx⟩ : ∃ x : UInt8, s[i]'(by omega) = x := ⟨_, rfl⟩
      obtain ⟨y, hy⟩ : ∃ y : UInt8, t[i]'(by omega) = y := ⟨_, rfl⟩
      have hxl : s.data.toList[i]? = some x := by rw [← hx]; exact Lib.data_getElem? s i (by omega)
      have hyl : t.data.toList[i]? = some y := by rw [← hy]; exact Lib.data_getElem? t i (by omega)
      obtain ⟨hy97, hy122, hc1, hc2⟩ := HT.out i y hyl
      have hx256 : x.toNat < 256 := x.toNat_lt
      have hor : bits .or .u8 (x.toNat : Int) (y.toNat : Int) = ((x.toNat ||| y.toNat : Nat) : Int) := u8_or_nat _ _ (by omega) (by omega)
      have Hx : Aside (s.data.toList[i]? = some x ∧ t.data.toList[i]? = some y) := ⟨hxl, hyl⟩
      clear hxl hyl
      by_cases hx128 : x.toNat < 128
      · have hor128 : ¬ ((128 : Int) ≤ ((x.toNat ||| y.toNat : Nat) : Int)) := by have := Nat.or_lt_two_pow (n := 7) (x := x.toNat) (y := y.toNat) (by omega) (by omega); omega
        clear hc1 hc2
        go_wp2
        all_goals (try simp only [beq_iff_eq, beq_eq_false_iff_ne, ne_eq] at *)
        all_goals first
          | (go_roundg g
             case measure => omega
             case rel => exact ⟨rfl, i + 1, by omega, by first | rfl | simp, by rw [← HI.out, Lib.drop_at Hx.out.1, Lib.drop_at Hx.out.2, Lib.equalFold_yes _ _ _ _ (decide_eq_true (by omega))]⟩)
          | (simp only [Exit.jump]
             go_ret
             refine ⟨?_, Below.refl _ _⟩
             rw [← HI.out, Lib.drop_at Hx.out.1, Lib.drop_at Hx.out.2, Lib.equalFold_no _ _ _ _ (decide_eq_false (by omega))]
             rfl)
      · have hor128 : (128 : Int) ≤ ((x.toNat ||| y.toNat : Nat) : Int) := by have := @Nat.left_le_or x.toNat y.toNat; omega
        have hE : Lib.equalFold s.data.toList t.data.toList = false := by
          rw [← HI.out, Lib.drop_at Hx.out.1, Lib.drop_at Hx.out.2, Lib.equalFold_no _ _ _ _ (decide_eq_false (by omega))]
        go_wp2
        go_step3
        refine And.intro (rfl : (0 : Nat) = 0) ?_
        have hes : (s.extract i s.size).size = s.size - i := by simp [ByteArray.size_extract]
        have het : (t.extract i t.size).size = t.size - i := by simp [ByteArray.size_extract]
        obtain ⟨S, hS⟩ : ∃ S, S = s.extract i s.size := ⟨_, rfl⟩
        obtain ⟨T, hT⟩ : ∃ T, T = t.extract i t.size := ⟨_, rfl⟩
        rw [← hS] at hes
        rw [← hT] at het
        have hS0 : 0 < S.size := by omega
        have hT0 : 0 < T.size := by omega
        have hSx : S[0] = x := by
          subst hS
          rw [← hx]
          simp [ByteArray.getElem_extract]
        have hTy : T[0] = y := by
          subst hT
          rw [← hy]
          simp [ByteArray.getElem_extract]
        have hdec := decode_high S 0 hS0 (by rw [hSx]; omega)
        have hdle := decode_le S 0
        have hnx := run_next_any (P := Tryd.prog) w S 0 0 hS0
        obtain ⟨r, hr⟩ : ∃ r, r = (Utf8.decode S 0).1 := ⟨_, rfl⟩
        obtain ⟨n, hn⟩ : ∃ n, n = (Utf8.decode S 0).2 := ⟨_, rfl⟩
        rw [← hr, ← hn] at hnx hdec
        rw [← hr] at hdle
        clear hr hn
        go_wp2
        rw [← hS]
        rw [← hT]
        have hg : w.grownBy (w.iter S n) none := World.grownBy_alloc _ _ none
        have hf1 := fold_letter y.toNat (y.toNat - 32) (w.iter S n) (by omega) (hg.cell hc1 (by simp)) (by omega)
        have hf2 := fold_letter (y.toNat - 32) y.toNat (w.iter S n) (by omega) (hg.cell hc2 (by simp)) (by omega)
        have hfa := first_ascii T (w.iter S n) hT0 (by rw [hTy]; omega)
        rw [hTy] at hfa
        have hrx : ((y.toNat : Int) == (r : Int)) = false := beq_eq_false_iff_ne.2 (by omega)
        have hry : (y.toNat : Int) < (r : Int) := by omega
        have hr128 : ¬ (r : Int) < 128 := by omega
        have hsub : ((y.toNat - 32 : Nat) : Int) = (y.toNat : Int) - 32 := by omega
        rw [hsub] at hf1 hf2
        have hne1 : ((y.toNat : Int) - 32 != (y.toNat : Int)) = true := by simp; omega
        rw [Nat.zero_add] at hnx
        have hlt1 : (y.toNat : Int) - 32 < (r : Int) := by omega
        have hT00 : ((T.size : Int) == 0) = false := beq_eq_false_iff_ne.2 (by omega)
        clear hS hT hSx hTy hes het hx hy hdec hor hor128 hx128 hx256 hc1 hc2 Hx HI HT hsub
        refine wp_loop_once ?_
        go_wp2_with (first | (go_at_call 22; refine hfa.mono ?_; rintro e w1 ⟨rfl, rfl⟩) | (go_at_call 23; refine hf1.mono ?_; rintro e w1 ⟨rfl, rfl⟩))
        refine wp_loop_rounds 2 ?_
        rw [rounds_succ]
        go_wp2_with (go_at_call 23; refine hf2.mono ?_; rintro e w1 ⟨rfl, rfl⟩)
        rw [rounds_succ]
        go_wp2
        simp only [Exit.noGoto]
        go_ret
        exact ⟨by rw [hE]; rfl, below_of hg⟩
end Go.Proofs.Qxb6601947aDoor
