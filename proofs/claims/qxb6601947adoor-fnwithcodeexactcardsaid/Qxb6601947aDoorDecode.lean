/-
  zzDecode at this seat's dump, walked: it decodes as the model does.
-/
import Derived.Test.Qxb6601947aDoorLook
import Derived.Laws.BitsLemmas
import Derived.OwnWalk
namespace Go.Proofs.Qxb6601947aDoor
open Go.RowKit Go.Proofs Go.Lib

set_option maxHeartbeats 1000000 in
theorem cont_yes (b : Int) (w : World) (h : 128 ≤ b ∧ b ≤ 191) : Calls Tryd.prog 21 #[.int .u8 b] w fun e w' => e = .returned (.bool true) ∧ w' = w := by
  obtain ⟨h1, h2⟩ := h
  go_enter Tryd.func21, Tryd.ntmps21
  go_wp2
  go_ret
  exact ⟨rfl, rfl⟩
set_option maxHeartbeats 1000000 in
theorem cont_no (b : Int) (w : World) (h : ¬ (128 ≤ b ∧ b ≤ 191)) : Calls Tryd.prog 21 #[.int .u8 b] w fun e w' => e = .returned (.bool false) ∧ w' = w := by
  by_cases h1 : 128 ≤ b
  · have h2 : ¬ b ≤ 191 := fun e => h ⟨h1, e⟩
    clear h
    go_enter Tryd.func21, Tryd.ntmps21
    go_wp2
    go_ret
    exact ⟨rfl, rfl⟩
  · clear h
    go_enter Tryd.func21, Tryd.ntmps21
    go_wp2
    go_ret
    exact ⟨rfl, rfl⟩

theorem dn_lead (n b0 b1 b2 b3 : Nat) (h : ¬ b0 < 128) (hB : b0 < 194 ∨ 244 < b0) (l0 : b0 < 256) : decodeN n b0 b1 b2 b3 = (65533, 1) := by
  unfold decodeN
  repeat' split
  all_goals first | rfl | (exfalso; omega)
theorem dn_two (n b0 b1 b2 b3 : Nat) (h : ¬ b0 < 194) (hB : b0 < 224) (l1 : b1 < 256) : decodeN n b0 b1 b2 b3 = if 1 < n ∧ 128 ≤ b1 ∧ b1 ≤ 191 then (b0 % 32 * 64 + b1 % 64, 2) else (65533, 1) := by
  unfold decodeN
  repeat' split
  all_goals first | rfl | (exfalso; omega)
set_option maxRecDepth 100000 in
set_option maxHeartbeats 2000000 in
theorem dn_three (n b0 b1 b2 b3 lo hi : Nat) (h : ¬ b0 < 224) (hB : b0 < 240) (l1 : b1 < 256) (l2 : b2 < 256) (hlo : (b0 = 224 ∧ lo = 160) ∨ (b0 ≠ 224 ∧ lo = 128)) (hhi : (b0 = 237 ∧ hi = 159) ∨ (b0 ≠ 237 ∧ hi = 191)) :
    decodeN n b0 b1 b2 b3 = if 2 < n ∧ lo ≤ b1 ∧ b1 ≤ hi ∧ 128 ≤ b2 ∧ b2 ≤ 191 then (b0 % 16 * 4096 + b1 % 64 * 64 + b2 % 64, 3) else (65533, 1) := by
  unfold decodeN
  repeat' split
  all_goals first | rfl | (exfalso; omega)
set_option maxRecDepth 100000 in
set_option maxHeartbeats 2000000 in
theorem dn_four (n b0 b1 b2 b3 lo hi : Nat) (h : ¬ b0 < 240) (hB : b0 ≤ 244) (l1 : b1 < 256) (l2 : b2 < 256) (l3 : b3 < 256) (hlo : (b0 = 240 ∧ lo = 144) ∨ (b0 ≠ 240 ∧ lo = 128)) (hhi : (b0 = 244 ∧ hi = 143) ∨ (b0 ≠ 244 ∧ hi = 191)) :
    decodeN n b0 b1 b2 b3 = if 3 < n ∧ lo ≤ b1 ∧ b1 ≤ hi ∧ (128 ≤ b2 ∧ b2 ≤ 191) ∧ 128 ≤ b3 ∧ b3 ≤ 191 then (b0 % 8 * 262144 + b1 % 64 * 4096 + b2 % 64 * 64 + b3 % 64, 4) else (65533, 1) := by
  unfold decodeN
  repeat' split
  all_goals first | rfl | (exfalso; omega)

/-- What zzDecode hands back. -/
def zdec (d : Nat × Nat) : Value := .tuple #[.int .i32 (d.1 : Int), .int .i64 (d.2 : Int), .bool (!decide (d.2 = 1 ∧ d.1 = 65533))]

theorem zok {r : Int} {n : Nat} {d : Nat × Nat} (h : (d.1 : Int) = r) (hg : d.2 = n ∧ (d.2 = 1 → d.1 ≠ 65533)) : Ending.returned (.tuple #[.int .i32 r, .int .i64 (n : Int), .bool true]) = .returned (zdec d) := by
  obtain ⟨rfl, hg⟩ := hg
  subst h
  unfold zdec
  rw [decide_eq_false (fun e => hg e.1 e.2)]
  rfl
set_option maxHeartbeats 8000000 in
set_option maxRecDepth 100000 in
theorem decode_any (s : ByteArray) (i : Nat) (w : World) (hi : i < s.size) (hs : s.size ≤ 1073741824) :
    Calls Tryd.prog 16 #[.string s, .int .i64 (i : Int)] w fun e w' => e = .returned (zdec (dec (s.data.toList.drop i))) ∧ ∃ n, w' = w.drewN n := by
  have hdl : s.data.toList.length = s.size := (Lib.size_eq s).symm
  obtain ⟨x1, hx1⟩ : ∃ x, x = s.data.toList.getD (i + 1) 0 := ⟨_, rfl⟩
  obtain ⟨x2, hx2⟩ : ∃ x, x = s.data.toList.getD (i + 2) 0 := ⟨_, rfl⟩
  obtain ⟨x3, hx3⟩ : ∃ x, x = s.data.toList.getD (i + 3) 0 := ⟨_, rfl⟩
  obtain ⟨x0, hx0⟩ : ∃ x, x = s.data.toList.getD i 0 := ⟨_, rfl⟩
  have hd : dec (s.data.toList.drop i) = decodeN (s.size - i) x0.toNat x1.toNat x2.toNat x3.toNat := by
    unfold dec
    rw [getD_dropU, getD_dropU, getD_dropU, getD_dropU, List.length_drop, hdl, hx0, hx1, hx2, hx3]
    rfl
  have at_ : ∀ k (h : k < s.size), s[k] = s.data.toList.getD k 0 := fun k h => by
    rw [List.getD_eq_getElem?_getD, List.getElem?_eq_getElem (by omega)]; rfl
  clear hdl
  have hs0 : s[i] = x0 := by rw [at_, hx0]
  have l0 := x0.toNat_lt; have l1 := x1.toNat_lt; have l2 := x2.toNat_lt; have l3 := x3.toNat_lt
  rw [hd]
  by_cases hA : x0.toNat < 128
  · have hD : decodeN (s.size - i) x0.toNat x1.toNat x2.toNat x3.toNat = (x0.toNat, 1) := by unfold decodeN; rw [if_pos hA]
    rw [hD]
    have hA' : (x0.toNat : Int) < 128 := by omega
    clear hD at_ hx0 hx1 hx2 hx3 hd
    go_enter Tryd.func16, Tryd.ntmps16
    go_wp2
    go_ret3
    exact ⟨zok (n := 1) rfl ⟨rfl, fun _ => by show x0.toNat ≠ _; omega⟩, 0, rfl⟩
  have hA' : ¬ (x0.toNat : Int) < 128 := by omega
  by_cases hB : x0.toNat < 194 ∨ 244 < x0.toNat
  · have hD : decodeN (s.size - i) x0.toNat x1.toNat x2.toNat x3.toNat = (65533, 1) := dn_lead _ _ _ _ _ hA hB l0
    rw [hD]
    clear hD at_ hx0 hx1 hx2 hx3 hd
    rcases hB with hB | hB
    · have hB' : (x0.toNat : Int) < 194 := by omega
      go_enter Tryd.func16, Tryd.ntmps16
      go_wp2
      all_goals
        go_ret3
        exact ⟨rfl, 0, rfl⟩
    · have hB' : ¬ (x0.toNat : Int) < 194 := by omega
      have hB2 : (x0.toNat : Int) > 244 := by omega
      go_enter Tryd.func16, Tryd.ntmps16
      go_wp2
      all_goals
        go_ret3
        exact ⟨rfl, 0, rfl⟩
  have hB1 : ¬ (x0.toNat : Int) < 194 := by omega
  have hB2 : ¬ (x0.toNat : Int) > 244 := by omega
  by_cases hC : x0.toNat < 224
  · have hC' : (x0.toNat : Int) < 224 := by omega
    by_cases hn : s.size - i < 2
    · have hD : decodeN (s.size - i) x0.toNat x1.toNat x2.toNat x3.toNat = (65533, 1) := by rw [dn_two _ _ _ _ _ (by omega) hC l1, if_neg (by omega)]
      rw [hD]
      clear hD at_ hx0 hx1 hx2 hx3 hd
      have hn' : (s.size : Int) - (i : Int) < 2 := by omega
      go_enter Tryd.func16, Tryd.ntmps16
      go_wp2
      go_ret3
      exact ⟨rfl, 0, rfl⟩
    · have hs1 : s[i + 1] = x1 := by rw [at_, hx1]
      have hn' : ¬ (s.size : Int) - (i : Int) < 2 := by omega
      by_cases hc : 128 ≤ x1.toNat ∧ x1.toNat ≤ 191
      · have hD : decodeN (s.size - i) x0.toNat x1.toNat x2.toNat x3.toNat = (x0.toNat % 32 * 64 + x1.toNat % 64, 2) := by rw [dn_two _ _ _ _ _ (by omega) hC l1, if_pos (by omega)]
        rw [hD]
        clear hD at_ hx0 hx1 hx2 hx3 hd
        have hco := cont_yes (x1.toNat : Int) w (by omega)
        have e1 := u8_and31 (x := (x0.toNat : Int)) (by omega) (by omega)
        have e2 := u8_and63 (x := (x1.toNat : Int)) (by omega) (by omega)
        have e3 := i32_or6 (x := (x0.toNat : Int) % 32 * 64) (y := (x1.toNat : Int) % 64) (by omega) (by omega) (by omega) (by omega) (by omega)
        go_enter Tryd.func16, Tryd.ntmps16
        go_wp2_with (go_at_call 21; refine hco.mono ?_; rintro e w1 ⟨rfl, rfl⟩)
        go_ret3
        exact ⟨zok (n := 2) (by simp) ⟨rfl, fun e => by simp at e⟩, 0, rfl⟩
      · have hD : decodeN (s.size - i) x0.toNat x1.toNat x2.toNat x3.toNat = (65533, 1) := by rw [dn_two _ _ _ _ _ (by omega) hC l1, if_neg (by omega)]
        rw [hD]
        clear hD at_ hx0 hx1 hx2 hx3 hd
        have hco := cont_no (x1.toNat : Int) w (by omega)
        go_enter Tryd.func16, Tryd.ntmps16
        go_wp2_with (go_at_call 21; refine hco.mono ?_; rintro e w1 ⟨rfl, rfl⟩)
        go_ret3
        exact ⟨rfl, 0, rfl⟩
  have hC' : ¬ (x0.toNat : Int) < 224 := by omega
  by_cases hE : x0.toNat < 240
  · have hE' : (x0.toNat : Int) < 240 := by omega
    by_cases h30 : x0.toNat = 224
    · have hb30 : ((x0.toNat : Int) == 224) = true := beq_iff_eq.2 (by omega)
      have hq : ((x0.toNat : Int) == 237) = false := beq_eq_false_iff_ne.2 (by omega)
      by_cases hn : s.size - i < 3
      · have hn' : (s.size : Int) - (i : Int) < 3 := by omega
        have hD : decodeN (s.size - i) x0.toNat x1.toNat x2.toNat x3.toNat = (65533, 1) := by rw [dn_three _ _ _ _ _ 160 191 (by omega) (by omega) l1 l2 (by omega) (by omega), if_neg (by omega)]
        rw [hD]
        clear hD at_ hx0 hx1 hx2 hx3 hd
        go_enter Tryd.func16, Tryd.ntmps16
        go_wp2
        go_ret3
        exact ⟨rfl, 0, rfl⟩
      have hn' : ¬ (s.size : Int) - (i : Int) < 3 := by omega
      have hs1 : s[i + 1] = x1 := by rw [at_, hx1]
      have hs2 : s[i + 2] = x2 := by rw [at_, hx2]
      by_cases hl : x1.toNat < 160
      · have hl' : (x1.toNat : Int) < 160 := by omega
        have hD : decodeN (s.size - i) x0.toNat x1.toNat x2.toNat x3.toNat = (65533, 1) := by rw [dn_three _ _ _ _ _ 160 191 (by omega) (by omega) l1 l2 (by omega) (by omega), if_neg (by omega)]
        rw [hD]
        clear hD at_ hx0 hx1 hx2 hx3 hd
        go_enter Tryd.func16, Tryd.ntmps16
        go_wp2
        go_ret3
        exact ⟨rfl, 0, rfl⟩
      have hl' : ¬ (x1.toNat : Int) < 160 := by omega
      by_cases hh : 191 < x1.toNat
      · have hh' : (x1.toNat : Int) > 191 := by omega
        have hD : decodeN (s.size - i) x0.toNat x1.toNat x2.toNat x3.toNat = (65533, 1) := by rw [dn_three _ _ _ _ _ 160 191 (by omega) (by omega) l1 l2 (by omega) (by omega), if_neg (by omega)]
        rw [hD]
        clear hD at_ hx0 hx1 hx2 hx3 hd
        go_enter Tryd.func16, Tryd.ntmps16
        go_wp2
        go_ret3
        exact ⟨rfl, 0, rfl⟩
      have hh' : ¬ (x1.toNat : Int) > 191 := by omega
      by_cases hc2 : ¬ (128 ≤ x2.toNat ∧ x2.toNat ≤ 191)
      · have hD : decodeN (s.size - i) x0.toNat x1.toNat x2.toNat x3.toNat = (65533, 1) := by rw [dn_three _ _ _ _ _ 160 191 (by omega) (by omega) l1 l2 (by omega) (by omega), if_neg (by omega)]
        rw [hD]
        clear hD at_ hx0 hx1 hx2 hx3 hd
        have hco := cont_no (x2.toNat : Int) w (by omega)
        go_enter Tryd.func16, Tryd.ntmps16
        go_wp2_with (first | (go_at_call 21; refine hco.mono ?_; rintro e w1 ⟨rfl, rfl⟩))
        go_ret3
        exact ⟨rfl, 0, rfl⟩
      have hD : decodeN (s.size - i) x0.toNat x1.toNat x2.toNat x3.toNat = (x0.toNat % 16 * 4096 + x1.toNat % 64 * 64 + x2.toNat % 64, 3) := by rw [dn_three _ _ _ _ _ 160 191 (by omega) (by omega) l1 l2 (by omega) (by omega), if_pos (by omega)]
      rw [hD]
      clear hD at_ hx0 hx1 hx2 hx3 hd
      have hco := cont_yes (x2.toNat : Int) w (by omega)
      have hz1 : (i : Int) + 1 < (s.size : Int) := by omega
      have hz2 : (i : Int) + 2 < (s.size : Int) := by omega
      have e1 := u8_and15 (x := (x0.toNat : Int)) (by omega) (by omega)
      have e2 := u8_and63 (x := (x1.toNat : Int)) (by omega) (by omega)
      have e3 := u8_and63 (x := (x2.toNat : Int)) (by omega) (by omega)
      have e4 := i32_or12 (x := (x0.toNat : Int) % 16 * 4096) (y := (x1.toNat : Int) % 64 * 64) (by omega) (by omega) (by omega) (by omega) (by omega)
      have e5 := i32_or6 (x := (x0.toNat : Int) % 16 * 4096 + (x1.toNat : Int) % 64 * 64) (y := (x2.toNat : Int) % 64) (by omega) (by omega) (by omega) (by omega) (by omega)
      go_enter Tryd.func16, Tryd.ntmps16
      go_wp2_with (first | (go_at_call 21; refine hco.mono ?_; rintro e w1 ⟨rfl, rfl⟩))
      go_region
      go_wp2
      go_ret3
      exact ⟨zok (n := 3) (by dsimp only; omega) ⟨rfl, fun e => by simp at e⟩, _, rfl⟩
    by_cases h31 : x0.toNat = 237
    · have hb31 : ((x0.toNat : Int) == 237) = true := beq_iff_eq.2 (by omega)
      have hq : ((x0.toNat : Int) == 224) = false := beq_eq_false_iff_ne.2 (by omega)
      by_cases hn : s.size - i < 3
      · have hn' : (s.size : Int) - (i : Int) < 3 := by omega
        have hD : decodeN (s.size - i) x0.toNat x1.toNat x2.toNat x3.toNat = (65533, 1) := by rw [dn_three _ _ _ _ _ 128 159 (by omega) (by omega) l1 l2 (by omega) (by omega), if_neg (by omega)]
        rw [hD]
        clear hD at_ hx0 hx1 hx2 hx3 hd
        go_enter Tryd.func16, Tryd.ntmps16
        go_wp2
        go_ret3
        exact ⟨rfl, 0, rfl⟩
      have hn' : ¬ (s.size : Int) - (i : Int) < 3 := by omega
      have hs1 : s[i + 1] = x1 := by rw [at_, hx1]
      have hs2 : s[i + 2] = x2 := by rw [at_, hx2]
      by_cases hl : x1.toNat < 128
      · have hl' : (x1.toNat : Int) < 128 := by omega
        have hD : decodeN (s.size - i) x0.toNat x1.toNat x2.toNat x3.toNat = (65533, 1) := by rw [dn_three _ _ _ _ _ 128 159 (by omega) (by omega) l1 l2 (by omega) (by omega), if_neg (by omega)]
        rw [hD]
        clear hD at_ hx0 hx1 hx2 hx3 hd
        go_enter Tryd.func16, Tryd.ntmps16
        go_wp2
        go_ret3
        exact ⟨rfl, 0, rfl⟩
      have hl' : ¬ (x1.toNat : Int) < 128 := by omega
      by_cases hh : 159 < x1.toNat
      · have hh' : (x1.toNat : Int) > 159 := by omega
        have hD : decodeN (s.size - i) x0.toNat x1.toNat x2.toNat x3.toNat = (65533, 1) := by rw [dn_three _ _ _ _ _ 128 159 (by omega) (by omega) l1 l2 (by omega) (by omega), if_neg (by omega)]
        rw [hD]
        clear hD at_ hx0 hx1 hx2 hx3 hd
        go_enter Tryd.func16, Tryd.ntmps16
        go_wp2
        go_ret3
        exact ⟨rfl, 0, rfl⟩
      have hh' : ¬ (x1.toNat : Int) > 159 := by omega
      by_cases hc2 : ¬ (128 ≤ x2.toNat ∧ x2.toNat ≤ 191)
      · have hD : decodeN (s.size - i) x0.toNat x1.toNat x2.toNat x3.toNat = (65533, 1) := by rw [dn_three _ _ _ _ _ 128 159 (by omega) (by omega) l1 l2 (by omega) (by omega), if_neg (by omega)]
        rw [hD]
        clear hD at_ hx0 hx1 hx2 hx3 hd
        have hco := cont_no (x2.toNat : Int) w (by omega)
        go_enter Tryd.func16, Tryd.ntmps16
        go_wp2_with (first | (go_at_call 21; refine hco.mono ?_; rintro e w1 ⟨rfl, rfl⟩))
        go_ret3
        exact ⟨rfl, 0, rfl⟩
      have hD : decodeN (s.size - i) x0.toNat x1.toNat x2.toNat x3.toNat = (x0.toNat % 16 * 4096 + x1.toNat % 64 * 64 + x2.toNat % 64, 3) := by rw [dn_three _ _ _ _ _ 128 159 (by omega) (by omega) l1 l2 (by omega) (by omega), if_pos (by omega)]
      rw [hD]
      clear hD at_ hx0 hx1 hx2 hx3 hd
      have hco := cont_yes (x2.toNat : Int) w (by omega)
      have hz1 : (i : Int) + 1 < (s.size : Int) := by omega
      have hz2 : (i : Int) + 2 < (s.size : Int) := by omega
      have e1 := u8_and15 (x := (x0.toNat : Int)) (by omega) (by omega)
      have e2 := u8_and63 (x := (x1.toNat : Int)) (by omega) (by omega)
      have e3 := u8_and63 (x := (x2.toNat : Int)) (by omega) (by omega)
      have e4 := i32_or12 (x := (x0.toNat : Int) % 16 * 4096) (y := (x1.toNat : Int) % 64 * 64) (by omega) (by omega) (by omega) (by omega) (by omega)
      have e5 := i32_or6 (x := (x0.toNat : Int) % 16 * 4096 + (x1.toNat : Int) % 64 * 64) (y := (x2.toNat : Int) % 64) (by omega) (by omega) (by omega) (by omega) (by omega)
      go_enter Tryd.func16, Tryd.ntmps16
      go_wp2_with (first | (go_at_call 21; refine hco.mono ?_; rintro e w1 ⟨rfl, rfl⟩))
      go_region
      go_wp2
      go_ret3
      exact ⟨zok (n := 3) (by dsimp only; omega) ⟨rfl, fun e => by simp at e⟩, _, rfl⟩
    have hq : ((x0.toNat : Int) == 224) = false := beq_eq_false_iff_ne.2 (by omega)
    have hq2 : ((x0.toNat : Int) == 237) = false := beq_eq_false_iff_ne.2 (by omega)
    by_cases hn : s.size - i < 3
    · have hn' : (s.size : Int) - (i : Int) < 3 := by omega
      have hD : decodeN (s.size - i) x0.toNat x1.toNat x2.toNat x3.toNat = (65533, 1) := by rw [dn_three _ _ _ _ _ 128 191 (by omega) (by omega) l1 l2 (by omega) (by omega), if_neg (by omega)]
      rw [hD]
      clear hD at_ hx0 hx1 hx2 hx3 hd
      go_enter Tryd.func16, Tryd.ntmps16
      go_wp2
      go_ret3
      exact ⟨rfl, 0, rfl⟩
    have hn' : ¬ (s.size : Int) - (i : Int) < 3 := by omega
    have hs1 : s[i + 1] = x1 := by rw [at_, hx1]
    have hs2 : s[i + 2] = x2 := by rw [at_, hx2]
    by_cases hl : x1.toNat < 128
    · have hl' : (x1.toNat : Int) < 128 := by omega
      have hD : decodeN (s.size - i) x0.toNat x1.toNat x2.toNat x3.toNat = (65533, 1) := by rw [dn_three _ _ _ _ _ 128 191 (by omega) (by omega) l1 l2 (by omega) (by omega), if_neg (by omega)]
      rw [hD]
      clear hD at_ hx0 hx1 hx2 hx3 hd
      go_enter Tryd.func16, Tryd.ntmps16
      go_wp2
      go_ret3
      exact ⟨rfl, 0, rfl⟩
    have hl' : ¬ (x1.toNat : Int) < 128 := by omega
    by_cases hh : 191 < x1.toNat
    · have hh' : (x1.toNat : Int) > 191 := by omega
      have hD : decodeN (s.size - i) x0.toNat x1.toNat x2.toNat x3.toNat = (65533, 1) := by rw [dn_three _ _ _ _ _ 128 191 (by omega) (by omega) l1 l2 (by omega) (by omega), if_neg (by omega)]
      rw [hD]
      clear hD at_ hx0 hx1 hx2 hx3 hd
      go_enter Tryd.func16, Tryd.ntmps16
      go_wp2
      go_ret3
      exact ⟨rfl, 0, rfl⟩
    have hh' : ¬ (x1.toNat : Int) > 191 := by omega
    by_cases hc2 : ¬ (128 ≤ x2.toNat ∧ x2.toNat ≤ 191)
    · have hD : decodeN (s.size - i) x0.toNat x1.toNat x2.toNat x3.toNat = (65533, 1) := by rw [dn_three _ _ _ _ _ 128 191 (by omega) (by omega) l1 l2 (by omega) (by omega), if_neg (by omega)]
      rw [hD]
      clear hD at_ hx0 hx1 hx2 hx3 hd
      have hco := cont_no (x2.toNat : Int) w (by omega)
      go_enter Tryd.func16, Tryd.ntmps16
      go_wp2_with (first | (go_at_call 21; refine hco.mono ?_; rintro e w1 ⟨rfl, rfl⟩))
      go_ret3
      exact ⟨rfl, 0, rfl⟩
    have hD : decodeN (s.size - i) x0.toNat x1.toNat x2.toNat x3.toNat = (x0.toNat % 16 * 4096 + x1.toNat % 64 * 64 + x2.toNat % 64, 3) := by rw [dn_three _ _ _ _ _ 128 191 (by omega) (by omega) l1 l2 (by omega) (by omega), if_pos (by omega)]
    rw [hD]
    clear hD at_ hx0 hx1 hx2 hx3 hd
    have hco := cont_yes (x2.toNat : Int) w (by omega)
    have hz1 : (i : Int) + 1 < (s.size : Int) := by omega
    have hz2 : (i : Int) + 2 < (s.size : Int) := by omega
    have e1 := u8_and15 (x := (x0.toNat : Int)) (by omega) (by omega)
    have e2 := u8_and63 (x := (x1.toNat : Int)) (by omega) (by omega)
    have e3 := u8_and63 (x := (x2.toNat : Int)) (by omega) (by omega)
    have e4 := i32_or12 (x := (x0.toNat : Int) % 16 * 4096) (y := (x1.toNat : Int) % 64 * 64) (by omega) (by omega) (by omega) (by omega) (by omega)
    have e5 := i32_or6 (x := (x0.toNat : Int) % 16 * 4096 + (x1.toNat : Int) % 64 * 64) (y := (x2.toNat : Int) % 64) (by omega) (by omega) (by omega) (by omega) (by omega)
    go_enter Tryd.func16, Tryd.ntmps16
    go_wp2_with (first | (go_at_call 21; refine hco.mono ?_; rintro e w1 ⟨rfl, rfl⟩))
    go_region
    go_wp2
    go_ret3
    exact ⟨zok (n := 3) (by dsimp only; omega) ⟨rfl, fun e => by simp at e⟩, _, rfl⟩
  have hE' : ¬ (x0.toNat : Int) < 240 := by omega
  by_cases h40 : x0.toNat = 240
  · have hb40 : ((x0.toNat : Int) == 240) = true := beq_iff_eq.2 (by omega)
    have hq : ((x0.toNat : Int) == 244) = false := beq_eq_false_iff_ne.2 (by omega)
    by_cases hn : s.size - i < 4
    · have hn' : (s.size : Int) - (i : Int) < 4 := by omega
      have hD : decodeN (s.size - i) x0.toNat x1.toNat x2.toNat x3.toNat = (65533, 1) := by rw [dn_four _ _ _ _ _ 144 191 (by omega) (by omega) l1 l2 l3 (by omega) (by omega), if_neg (by omega)]
      rw [hD]
      clear hD at_ hx0 hx1 hx2 hx3 hd
      go_enter Tryd.func16, Tryd.ntmps16
      go_wp2
      go_ret3
      exact ⟨rfl, 0, rfl⟩
    have hn' : ¬ (s.size : Int) - (i : Int) < 4 := by omega
    have hs1 : s[i + 1] = x1 := by rw [at_, hx1]
    have hs2 : s[i + 2] = x2 := by rw [at_, hx2]
    have hs3 : s[i + 3] = x3 := by rw [at_, hx3]
    by_cases hl : x1.toNat < 144
    · have hl' : (x1.toNat : Int) < 144 := by omega
      have hD : decodeN (s.size - i) x0.toNat x1.toNat x2.toNat x3.toNat = (65533, 1) := by rw [dn_four _ _ _ _ _ 144 191 (by omega) (by omega) l1 l2 l3 (by omega) (by omega), if_neg (by omega)]
      rw [hD]
      clear hD at_ hx0 hx1 hx2 hx3 hd
      go_enter Tryd.func16, Tryd.ntmps16
      go_wp2
      go_ret3
      exact ⟨rfl, 0, rfl⟩
    have hl' : ¬ (x1.toNat : Int) < 144 := by omega
    by_cases hh : 191 < x1.toNat
    · have hh' : (x1.toNat : Int) > 191 := by omega
      have hD : decodeN (s.size - i) x0.toNat x1.toNat x2.toNat x3.toNat = (65533, 1) := by rw [dn_four _ _ _ _ _ 144 191 (by omega) (by omega) l1 l2 l3 (by omega) (by omega), if_neg (by omega)]
      rw [hD]
      clear hD at_ hx0 hx1 hx2 hx3 hd
      go_enter Tryd.func16, Tryd.ntmps16
      go_wp2
      go_ret3
      exact ⟨rfl, 0, rfl⟩
    have hh' : ¬ (x1.toNat : Int) > 191 := by omega
    by_cases hc2 : ¬ (128 ≤ x2.toNat ∧ x2.toNat ≤ 191)
    · have hD : decodeN (s.size - i) x0.toNat x1.toNat x2.toNat x3.toNat = (65533, 1) := by rw [dn_four _ _ _ _ _ 144 191 (by omega) (by omega) l1 l2 l3 (by omega) (by omega), if_neg (by omega)]
      rw [hD]
      clear hD at_ hx0 hx1 hx2 hx3 hd
      have hco := cont_no (x2.toNat : Int) w (by omega)
      go_enter Tryd.func16, Tryd.ntmps16
      go_wp2_with (first | (go_at_call 21; refine hco.mono ?_; rintro e w1 ⟨rfl, rfl⟩))
      go_ret3
      exact ⟨rfl, 0, rfl⟩
    by_cases hc3 : ¬ (128 ≤ x3.toNat ∧ x3.toNat ≤ 191)
    · have hD : decodeN (s.size - i) x0.toNat x1.toNat x2.toNat x3.toNat = (65533, 1) := by rw [dn_four _ _ _ _ _ 144 191 (by omega) (by omega) l1 l2 l3 (by omega) (by omega), if_neg (by omega)]
      rw [hD]
      clear hD at_ hx0 hx1 hx2 hx3 hd
      have hco := cont_yes (x2.toNat : Int) w (by omega)
      have hco3 := cont_no (x3.toNat : Int) w (by omega)
      go_enter Tryd.func16, Tryd.ntmps16
      go_wp2_with (first | (go_at_call 21; refine hco.mono ?_; rintro e w1 ⟨rfl, rfl⟩) | (go_at_call 21; refine hco3.mono ?_; rintro e w1 ⟨rfl, rfl⟩))
      go_ret3
      exact ⟨rfl, 0, rfl⟩
    have hD : decodeN (s.size - i) x0.toNat x1.toNat x2.toNat x3.toNat = (x0.toNat % 8 * 262144 + x1.toNat % 64 * 4096 + x2.toNat % 64 * 64 + x3.toNat % 64, 4) := by rw [dn_four _ _ _ _ _ 144 191 (by omega) (by omega) l1 l2 l3 (by omega) (by omega), if_pos (by omega)]
    rw [hD]
    clear hD at_ hx0 hx1 hx2 hx3 hd
    have hco := cont_yes (x2.toNat : Int) w (by omega)
    have hco3 := cont_yes (x3.toNat : Int) w (by omega)
    have hz1 : (i : Int) + 1 < (s.size : Int) := by omega
    have hz2 : (i : Int) + 2 < (s.size : Int) := by omega
    have hz3 : (i : Int) + 3 < (s.size : Int) := by omega
    have e1 := u8_and7 (x := (x0.toNat : Int)) (by omega) (by omega)
    have e2 := u8_and63 (x := (x1.toNat : Int)) (by omega) (by omega)
    have e3 := u8_and63 (x := (x2.toNat : Int)) (by omega) (by omega)
    have e6 := u8_and63 (x := (x3.toNat : Int)) (by omega) (by omega)
    have e4 := i32_or18 (x := (x0.toNat : Int) % 8 * 262144) (y := (x1.toNat : Int) % 64 * 4096) (by omega) (by omega) (by omega) (by omega) (by omega)
    have e5 := i32_or12 (x := (x0.toNat : Int) % 8 * 262144 + (x1.toNat : Int) % 64 * 4096) (y := (x2.toNat : Int) % 64 * 64) (by omega) (by omega) (by omega) (by omega) (by omega)
    have e7 := i32_or6 (x := (x0.toNat : Int) % 8 * 262144 + (x1.toNat : Int) % 64 * 4096 + (x2.toNat : Int) % 64 * 64) (y := (x3.toNat : Int) % 64) (by omega) (by omega) (by omega) (by omega) (by omega)
    go_enter Tryd.func16, Tryd.ntmps16
    go_wp2_with (first | (go_at_call 21; refine hco.mono ?_; rintro e w1 ⟨rfl, rfl⟩) | (go_at_call 21; refine hco3.mono ?_; rintro e w1 ⟨rfl, rfl⟩))
    go_region
    go_wp2
    go_ret3
    exact ⟨zok (n := 4) (by dsimp only; omega) ⟨rfl, fun e => by simp at e⟩, _, rfl⟩
  by_cases h41 : x0.toNat = 244
  · have hb41 : ((x0.toNat : Int) == 244) = true := beq_iff_eq.2 (by omega)
    have hq : ((x0.toNat : Int) == 240) = false := beq_eq_false_iff_ne.2 (by omega)
    by_cases hn : s.size - i < 4
    · have hn' : (s.size : Int) - (i : Int) < 4 := by omega
      have hD : decodeN (s.size - i) x0.toNat x1.toNat x2.toNat x3.toNat = (65533, 1) := by rw [dn_four _ _ _ _ _ 128 143 (by omega) (by omega) l1 l2 l3 (by omega) (by omega), if_neg (by omega)]
      rw [hD]
      clear hD at_ hx0 hx1 hx2 hx3 hd
      go_enter Tryd.func16, Tryd.ntmps16
      go_wp2
      go_ret3
      exact ⟨rfl, 0, rfl⟩
    have hn' : ¬ (s.size : Int) - (i : Int) < 4 := by omega
    have hs1 : s[i + 1] = x1 := by rw [at_, hx1]
    have hs2 : s[i + 2] = x2 := by rw [at_, hx2]
    have hs3 : s[i + 3] = x3 := by rw [at_, hx3]
    by_cases hl : x1.toNat < 128
    · have hl' : (x1.toNat : Int) < 128 := by omega
      have hD : decodeN (s.size - i) x0.toNat x1.toNat x2.toNat x3.toNat = (65533, 1) := by rw [dn_four _ _ _ _ _ 128 143 (by omega) (by omega) l1 l2 l3 (by omega) (by omega), if_neg (by omega)]
      rw [hD]
      clear hD at_ hx0 hx1 hx2 hx3 hd
      go_enter Tryd.func16, Tryd.ntmps16
      go_wp2
      go_ret3
      exact ⟨rfl, 0, rfl⟩
    have hl' : ¬ (x1.toNat : Int) < 128 := by omega
    by_cases hh : 143 < x1.toNat
    · have hh' : (x1.toNat : Int) > 143 := by omega
      have hD : decodeN (s.size - i) x0.toNat x1.toNat x2.toNat x3.toNat = (65533, 1) := by rw [dn_four _ _ _ _ _ 128 143 (by omega) (by omega) l1 l2 l3 (by omega) (by omega), if_neg (by omega)]
      rw [hD]
      clear hD at_ hx0 hx1 hx2 hx3 hd
      go_enter Tryd.func16, Tryd.ntmps16
      go_wp2
      go_ret3
      exact ⟨rfl, 0, rfl⟩
    have hh' : ¬ (x1.toNat : Int) > 143 := by omega
    by_cases hc2 : ¬ (128 ≤ x2.toNat ∧ x2.toNat ≤ 191)
    · have hD : decodeN (s.size - i) x0.toNat x1.toNat x2.toNat x3.toNat = (65533, 1) := by rw [dn_four _ _ _ _ _ 128 143 (by omega) (by omega) l1 l2 l3 (by omega) (by omega), if_neg (by omega)]
      rw [hD]
      clear hD at_ hx0 hx1 hx2 hx3 hd
      have hco := cont_no (x2.toNat : Int) w (by omega)
      go_enter Tryd.func16, Tryd.ntmps16
      go_wp2_with (first | (go_at_call 21; refine hco.mono ?_; rintro e w1 ⟨rfl, rfl⟩))
      go_ret3
      exact ⟨rfl, 0, rfl⟩
    by_cases hc3 : ¬ (128 ≤ x3.toNat ∧ x3.toNat ≤ 191)
    · have hD : decodeN (s.size - i) x0.toNat x1.toNat x2.toNat x3.toNat = (65533, 1) := by rw [dn_four _ _ _ _ _ 128 143 (by omega) (by omega) l1 l2 l3 (by omega) (by omega), if_neg (by omega)]
      rw [hD]
      clear hD at_ hx0 hx1 hx2 hx3 hd
      have hco := cont_yes (x2.toNat : Int) w (by omega)
      have hco3 := cont_no (x3.toNat : Int) w (by omega)
      go_enter Tryd.func16, Tryd.ntmps16
      go_wp2_with (first | (go_at_call 21; refine hco.mono ?_; rintro e w1 ⟨rfl, rfl⟩) | (go_at_call 21; refine hco3.mono ?_; rintro e w1 ⟨rfl, rfl⟩))
      go_ret3
      exact ⟨rfl, 0, rfl⟩
    have hD : decodeN (s.size - i) x0.toNat x1.toNat x2.toNat x3.toNat = (x0.toNat % 8 * 262144 + x1.toNat % 64 * 4096 + x2.toNat % 64 * 64 + x3.toNat % 64, 4) := by rw [dn_four _ _ _ _ _ 128 143 (by omega) (by omega) l1 l2 l3 (by omega) (by omega), if_pos (by omega)]
    rw [hD]
    clear hD at_ hx0 hx1 hx2 hx3 hd
    have hco := cont_yes (x2.toNat : Int) w (by omega)
    have hco3 := cont_yes (x3.toNat : Int) w (by omega)
    have hz1 : (i : Int) + 1 < (s.size : Int) := by omega
    have hz2 : (i : Int) + 2 < (s.size : Int) := by omega
    have hz3 : (i : Int) + 3 < (s.size : Int) := by omega
    have e1 := u8_and7 (x := (x0.toNat : Int)) (by omega) (by omega)
    have e2 := u8_and63 (x := (x1.toNat : Int)) (by omega) (by omega)
    have e3 := u8_and63 (x := (x2.toNat : Int)) (by omega) (by omega)
    have e6 := u8_and63 (x := (x3.toNat : Int)) (by omega) (by omega)
    have e4 := i32_or18 (x := (x0.toNat : Int) % 8 * 262144) (y := (x1.toNat : Int) % 64 * 4096) (by omega) (by omega) (by omega) (by omega) (by omega)
    have e5 := i32_or12 (x := (x0.toNat : Int) % 8 * 262144 + (x1.toNat : Int) % 64 * 4096) (y := (x2.toNat : Int) % 64 * 64) (by omega) (by omega) (by omega) (by omega) (by omega)
    have e7 := i32_or6 (x := (x0.toNat : Int) % 8 * 262144 + (x1.toNat : Int) % 64 * 4096 + (x2.toNat : Int) % 64 * 64) (y := (x3.toNat : Int) % 64) (by omega) (by omega) (by omega) (by omega) (by omega)
    go_enter Tryd.func16, Tryd.ntmps16
    go_wp2_with (first | (go_at_call 21; refine hco.mono ?_; rintro e w1 ⟨rfl, rfl⟩) | (go_at_call 21; refine hco3.mono ?_; rintro e w1 ⟨rfl, rfl⟩))
    go_region
    go_wp2
    go_ret3
    exact ⟨zok (n := 4) (by dsimp only; omega) ⟨rfl, fun e => by simp at e⟩, _, rfl⟩
  have hq : ((x0.toNat : Int) == 240) = false := beq_eq_false_iff_ne.2 (by omega)
  have hq2 : ((x0.toNat : Int) == 244) = false := beq_eq_false_iff_ne.2 (by omega)
  by_cases hn : s.size - i < 4
  · have hn' : (s.size : Int) - (i : Int) < 4 := by omega
    have hD : decodeN (s.size - i) x0.toNat x1.toNat x2.toNat x3.toNat = (65533, 1) := by rw [dn_four _ _ _ _ _ 128 191 (by omega) (by omega) l1 l2 l3 (by omega) (by omega), if_neg (by omega)]
    rw [hD]
    clear hD at_ hx0 hx1 hx2 hx3 hd
    go_enter Tryd.func16, Tryd.ntmps16
    go_wp2
    go_ret3
    exact ⟨rfl, 0, rfl⟩
  have hn' : ¬ (s.size : Int) - (i : Int) < 4 := by omega
  have hs1 : s[i + 1] = x1 := by rw [at_, hx1]
  have hs2 : s[i + 2] = x2 := by rw [at_, hx2]
  have hs3 : s[i + 3] = x3 := by rw [at_, hx3]
  by_cases hl : x1.toNat < 128
  · have hl' : (x1.toNat : Int) < 128 := by omega
    have hD : decodeN (s.size - i) x0.toNat x1.toNat x2.toNat x3.toNat = (65533, 1) := by rw [dn_four _ _ _ _ _ 128 191 (by omega) (by omega) l1 l2 l3 (by omega) (by omega), if_neg (by omega)]
    rw [hD]
    clear hD at_ hx0 hx1 hx2 hx3 hd
    go_enter Tryd.func16, Tryd.ntmps16
    go_wp2
    go_ret3
    exact ⟨rfl, 0, rfl⟩
  have hl' : ¬ (x1.toNat : Int) < 128 := by omega
  by_cases hh : 191 < x1.toNat
  · have hh' : (x1.toNat : Int) > 191 := by omega
    have hD : decodeN (s.size - i) x0.toNat x1.toNat x2.toNat x3.toNat = (65533, 1) := by rw [dn_four _ _ _ _ _ 128 191 (by omega) (by omega) l1 l2 l3 (by omega) (by omega), if_neg (by omega)]
    rw [hD]
    clear hD at_ hx0 hx1 hx2 hx3 hd
    go_enter Tryd.func16, Tryd.ntmps16
    go_wp2
    go_ret3
    exact ⟨rfl, 0, rfl⟩
  have hh' : ¬ (x1.toNat : Int) > 191 := by omega
  by_cases hc2 : ¬ (128 ≤ x2.toNat ∧ x2.toNat ≤ 191)
  · have hD : decodeN (s.size - i) x0.toNat x1.toNat x2.toNat x3.toNat = (65533, 1) := by rw [dn_four _ _ _ _ _ 128 191 (by omega) (by omega) l1 l2 l3 (by omega) (by omega), if_neg (by omega)]
    rw [hD]
    clear hD at_ hx0 hx1 hx2 hx3 hd
    have hco := cont_no (x2.toNat : Int) w (by omega)
    go_enter Tryd.func16, Tryd.ntmps16
    go_wp2_with (first | (go_at_call 21; refine hco.mono ?_; rintro e w1 ⟨rfl, rfl⟩))
    go_ret3
    exact ⟨rfl, 0, rfl⟩
  by_cases hc3 : ¬ (128 ≤ x3.toNat ∧ x3.toNat ≤ 191)
  · have hD : decodeN (s.size - i) x0.toNat x1.toNat x2.toNat x3.toNat = (65533, 1) := by rw [dn_four _ _ _ _ _ 128 191 (by omega) (by omega) l1 l2 l3 (by omega) (by omega), if_neg (by omega)]
    rw [hD]
    clear hD at_ hx0 hx1 hx2 hx3 hd
    have hco := cont_yes (x2.toNat : Int) w (by omega)
    have hco3 := cont_no (x3.toNat : Int) w (by omega)
    go_enter Tryd.func16, Tryd.ntmps16
    go_wp2_with (first | (go_at_call 21; refine hco.mono ?_; rintro e w1 ⟨rfl, rfl⟩) | (go_at_call 21; refine hco3.mono ?_; rintro e w1 ⟨rfl, rfl⟩))
    go_ret3
    exact ⟨rfl, 0, rfl⟩
  have hD : decodeN (s.size - i) x0.toNat x1.toNat x2.toNat x3.toNat = (x0.toNat % 8 * 262144 + x1.toNat % 64 * 4096 + x2.toNat % 64 * 64 + x3.toNat % 64, 4) := by rw [dn_four _ _ _ _ _ 128 191 (by omega) (by omega) l1 l2 l3 (by omega) (by omega), if_pos (by omega)]
  rw [hD]
  clear hD at_ hx0 hx1 hx2 hx3 hd
  have hco := cont_yes (x2.toNat : Int) w (by omega)
  have hco3 := cont_yes (x3.toNat : Int) w (by omega)
  have hz1 : (i : Int) + 1 < (s.size : Int) := by omega
  have hz2 : (i : Int) + 2 < (s.size : Int) := by omega
  have hz3 : (i : Int) + 3 < (s.size : Int) := by omega
  have e1 := u8_and7 (x := (x0.toNat : Int)) (by omega) (by omega)
  have e2 := u8_and63 (x := (x1.toNat : Int)) (by omega) (by omega)
  have e3 := u8_and63 (x := (x2.toNat : Int)) (by omega) (by omega)
  have e6 := u8_and63 (x := (x3.toNat : Int)) (by omega) (by omega)
  have e4 := i32_or18 (x := (x0.toNat : Int) % 8 * 262144) (y := (x1.toNat : Int) % 64 * 4096) (by omega) (by omega) (by omega) (by omega) (by omega)
  have e5 := i32_or12 (x := (x0.toNat : Int) % 8 * 262144 + (x1.toNat : Int) % 64 * 4096) (y := (x2.toNat : Int) % 64 * 64) (by omega) (by omega) (by omega) (by omega) (by omega)
  have e7 := i32_or6 (x := (x0.toNat : Int) % 8 * 262144 + (x1.toNat : Int) % 64 * 4096 + (x2.toNat : Int) % 64 * 64) (y := (x3.toNat : Int) % 64) (by omega) (by omega) (by omega) (by omega) (by omega)
  go_enter Tryd.func16, Tryd.ntmps16
  go_wp2_with (first | (go_at_call 21; refine hco.mono ?_; rintro e w1 ⟨rfl, rfl⟩) | (go_at_call 21; refine hco3.mono ?_; rintro e w1 ⟨rfl, rfl⟩))
  go_region
  go_wp2
  go_ret3
  exact ⟨zok (n := 4) (by dsimp only; omega) ⟨rfl, fun e => by simp at e⟩, _, rfl⟩
end Go.Proofs.Qxb6601947aDoor
