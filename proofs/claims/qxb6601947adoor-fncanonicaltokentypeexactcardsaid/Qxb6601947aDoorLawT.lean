/-
  FnCanonicalTokenTypeExact at this seat's dump, walked: true, whatever the input.
-/
import Derived.Test.Qxb6601947aDoorFold
namespace Go.Proofs.Qxb6601947aDoor
open Go.RowKit Go.Proofs Go.Lib

/-- What unicode.asciiFold holds at the letters of 'bearer'. -/
def Folds (w : World) : Prop := ∀ c : Nat, c = 98 ∨ c = 101 ∨ c = 97 ∨ c = 114 → w.cell? ⟨0, c, none⟩ = some (.int .u16 ((c - 32 : Nat) : Int)) ∧ w.cell? ⟨0, c - 32, none⟩ = some (.int .u16 (c : Int))

def bearer : ByteArray := ⟨#[98, 101, 97, 114, 101, 114]⟩

theorem bearer_fits (w : World) (h : Folds w) : ∀ (j : Nat) b, bearer.data.toList[j]? = some b → 97 ≤ b.toNat ∧ b.toNat ≤ 122 ∧ w.cell? ⟨0, b.toNat, none⟩ = some (.int .u16 ((b.toNat - 32 : Nat) : Int)) ∧ w.cell? ⟨0, b.toNat - 32, none⟩ = some (.int .u16 (b.toNat : Int)) := by
  intro j b hj
  have hm : b ∈ ([98, 101, 97, 114, 101, 114] : List UInt8) := List.mem_of_getElem? hj
  simp at hm
  have hb : b.toNat = 98 ∨ b.toNat = 101 ∨ b.toNat = 97 ∨ b.toNat = 114 := by
    rcases hm with rfl | rfl | rfl | rfl | rfl | rfl <;> decide
  exact ⟨by omega, by omega, h _ hb⟩

set_option maxHeartbeats 1000000 in
theorem canon_any (t : ByteArray) (w : World) (ht : t.size ≤ 1048576) (h : Folds w) :
    Calls Tryd.prog 12 #[.string t] w fun e w' => e = .returned (.string (if Lib.equalFold t.data.toList bearer.data.toList then ⟨#[66, 101, 97, 114, 101, 114]⟩ else t)) ∧ Below w.heap.size w w' := by
  have hef := equalFold_any t bearer w (by omega) (bearer_fits w h)
  clear h
  cases hb : Lib.equalFold t.data.toList bearer.data.toList with
  | true =>
    rw [hb] at hef
    clear hb
    unfold bearer at hef
    go_enter Tryd.func12, Tryd.ntmps12
    go_wp2_with (go_at_call 19; refine hef.mono ?_; rintro e w1 ⟨rfl, hbel⟩)
    go_ret
    exact ⟨rfl, hbel⟩
  | false =>
    rw [hb] at hef
    clear hb
    unfold bearer at hef
    go_enter Tryd.func12, Tryd.ntmps12
    go_wp2_with (go_at_call 19; refine hef.mono ?_; rintro e w1 ⟨rfl, hbel⟩)
    go_ret
    exact ⟨rfl, hbel⟩

theorem low_letter {j : Nat} {b : UInt8} (hj : bearer.data.toList[j]? = some b) : 97 ≤ b.toNat ∧ b.toNat ≤ 122 := by
  have hm : b ∈ ([98, 101, 97, 114, 101, 114] : List UInt8) := List.mem_of_getElem? hj
  simp at hm
  rcases hm with rfl | rfl | rfl | rfl | rfl | rfl <;> decide
theorem step_yes {t u : List UInt8} {i : Nat} {x y : UInt8} {E : Bool} (h1 : t[i]? = some x) (h2 : u[i]? = some y) (hf : foldEq x y = true) (hI : Lib.equalFold (t.drop i) (u.drop i) = E) :
    Lib.equalFold (t.drop (i + 1)) (u.drop (i + 1)) = E := by
  rw [← hI, Lib.drop_at h1, Lib.drop_at h2, Lib.equalFold_yes _ _ _ _ hf]
theorem step_no {t u : List UInt8} {i : Nat} {x y : UInt8} {E : Bool} (h1 : t[i]? = some x) (h2 : u[i]? = some y) (hf : foldEq x y = false) (hI : Lib.equalFold (t.drop i) (u.drop i) = E) : E = false := by
  rw [← hI, Lib.drop_at h1, Lib.drop_at h2, Lib.equalFold_no _ _ _ _ hf]
theorem fold_len : ∀ t u : List UInt8, t.length ≠ u.length → Lib.equalFold t u = false
  | [], [], h => absurd rfl h
  | [], _ :: _, _ => rfl
  | _ :: _, [], _ => rfl
  | x :: t, y :: u, h => by
    rw [Lib.equalFold, fold_len t u (fun e => h (by simp [e])), Bool.and_false]

set_option maxHeartbeats 4000000 in
set_option maxRecDepth 100000 in
theorem spells_any (t : ByteArray) (w : World) :
    Calls Tryd.prog 13 #[.string t] w fun e w' => e = .returned (.bool (Lib.equalFold t.data.toList bearer.data.toList)) ∧ w' = w := by
  by_cases h6 : t.size = 6
  · have hb6 : ((t.size : Int) != 6) = false := by simp [h6]
    go_enter Tryd.func13, Tryd.ntmps13
    go_wp2
    go_loopg [4, 5] 6 (fun g s4 s5 wx => w = wx ∧ ∃ i : Nat, i + g = 6 ∧ s4 = .int .i64 i ∧ Lib.equalFold (t.data.toList.drop i) (bearer.data.toList.drop i) = Lib.equalFold t.data.toList bearer.data.toList)
    case atStart => exact ⟨rfl, 0, by omega, rfl, rfl⟩
    case round =>
      obtain ⟨rfl, i, hig, rfl, hinv⟩ := hrel
      have HI : Aside (Lib.equalFold (t.data.toList.drop i) (bearer.data.toList.drop i) = Lib.equalFold t.data.toList bearer.data.toList) := hinv
      clear hinv
      cases gk with
      | zero =>
        obtain rfl : i = 6 := by omega
        have hE : Lib.equalFold t.data.toList bearer.data.toList = true := by
          rw [← HI.out, Lib.equalFold_end _ _ (Or.inl (List.drop_eq_nil_of_le (by rw [← Lib.size_eq]; omega))), List.length_drop, List.length_drop, ← Lib.size_eq, ← Lib.size_eq, h6]
          rfl
        go_wp2
        go_ret
        exact ⟨by first | rfl | (rw [hE]; rfl), rfl⟩
      | succ g =>
        have hitz : i < t.size := by omega
        obtain ⟨x, hx⟩ : ∃ x : UInt8, t[i]'(by omega) = x := ⟨_, rfl⟩
        have hxl : t.data.toList[i]? = some x := by rw [← hx]; exact Lib.data_getElem? t i (by omega)
        have hx256 : x.toNat < 256 := x.toNat_lt
        have Hx : Aside (t.data.toList[i]? = some x) := hxl
        clear hxl
        obtain ⟨y, hy⟩ : ∃ y : UInt8, (⟨#[98, 101, 97, 114, 101, 114]⟩ : ByteArray)[i]'(by show i < 6; omega) = y := ⟨_, rfl⟩
        have hyl : bearer.data.toList[i]? = some y := by rw [← hy]; exact Lib.data_getElem? bearer i (by show i < 6; omega)
        have hyb := low_letter hyl
        have Hy : Aside (bearer.data.toList[i]? = some y) := hyl
        clear hyl
        have hi6 : (i : Int) < 6 := by omega
        go_wp2
        all_goals (try simp only [bne_eq_false_iff_eq, bne_iff_ne, ne_eq] at *)
        all_goals first
          | (go_roundg g
             case measure => omega
             case rel => exact ⟨rfl, i + 1, by omega, by simp, step_yes Hx.out Hy.out (decide_eq_true (by omega)) HI.out⟩)
          | (have hE := step_no Hx.out Hy.out (decide_eq_false (by omega)) HI.out
             go_ret
             exact ⟨by first | rfl | (rw [hE]; rfl), rfl⟩)
  · have hb6 : ((t.size : Int) != 6) = true := by simp; omega
    have hE : Lib.equalFold t.data.toList bearer.data.toList = false := by
      exact fold_len _ _ (by rw [← Lib.size_eq]; exact h6)
    go_enter Tryd.func13, Tryd.ntmps13
    go_wp2
    go_ret
    exact ⟨by first | rfl | (rw [hE]; rfl), rfl⟩

theorem low_bearer : Lib.equalFold (⟨#[66, 101, 97, 114, 101, 114]⟩ : ByteArray).data.toList bearer.data.toList = true := by decide +kernel

set_option maxHeartbeats 4000000 in
set_option maxRecDepth 100000 in
theorem lawT (t : ByteArray) (w : World) (h : Folds w) (ht : t.size ≤ maxLen) :
    Calls Tryd.prog 5 #[.string t] w fun e w' => e = .returned (.bool true) ∧ Below w.heap.size w w' := by
  unfold maxLen at ht
  by_cases hl : t.size ≤ 1048576
  · have hc := canon_any t w hl h
    have hsp := fun W => spells_any t W
    clear h
    cases hb : Lib.equalFold t.data.toList bearer.data.toList with
    | true =>
      rw [hb] at hc
      simp only [hb] at hsp
      clear hb
      go_enter Tryd.func5, Tryd.ntmps5
      go_wp2_with (first | (go_at_call 11; go_in) | (go_at_call 12; refine hc.mono ?_; rintro e w1 ⟨rfl, hbel⟩) | (go_at_call 13; refine (hsp _).mono ?_; rintro e w2 ⟨rfl, rfl⟩))
      go_ret
      exact ⟨rfl, hbel⟩
    | false =>
      rw [hb] at hc
      simp only [hb] at hsp
      clear hb
      go_enter Tryd.func5, Tryd.ntmps5
      go_wp2_with (first | (go_at_call 11; go_in) | (go_at_call 12; refine hc.mono ?_; rintro e w1 ⟨rfl, hbel⟩) | (go_at_call 13; refine (hsp _).mono ?_; rintro e w2 ⟨rfl, rfl⟩))
      go_ret
      exact ⟨rfl, hbel⟩
  · go_enter Tryd.func5, Tryd.ntmps5
    go_wp2_with (go_at_call 11; go_in)
    all_goals
      go_ret
      exact ⟨rfl, Below.refl _ _⟩
end Go.Proofs.Qxb6601947aDoor
