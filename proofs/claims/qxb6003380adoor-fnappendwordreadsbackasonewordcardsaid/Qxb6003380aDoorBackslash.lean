/-
  utf8.DecodeRuneInString at an ASCII byte, tdl.backslash at the sequences that appendEscaped writes, walked.
-/
import Derived.Test.Qxb6003380aDoorEscaped
import Derived.Test.Qxb6003380aDoorShelf
namespace Go.Proofs.Qxb6003380aDoor
open Go.RowKit Go.Proofs Plain

set_option maxHeartbeats 1000000 in
theorem decode_ascii (u : ByteArray) (w : World) (h : 0 < u.size) (hd : (u[0].toNat : Int) < 128) :
    Calls Tryd.prog 28 #[.string u] w fun e w' => e = .returned (.tuple #[.int .i32 (u[0].toNat : Int), .int .i64 1]) ∧ w' = w := by
  have hne : (u.toList == []) = false := by
    rw [Lib.toList_data]
    cases hx : u.data.toList with
    | nil => have h2 := Lib.size_eq u
             rw [hx, List.length_nil] at h2; omega
    | cons a t => rfl
  go_enter Tryd.func28, Tryd.ntmps28
  go_wp2
  go_ret2
  exact ⟨rfl, rfl⟩

theorem self_facts {d : UInt8} (h : self d = true) : Lib.indexByte [97, 98, 102, 110, 114, 116, 118] d = -1 ∧ (d.toNat : Int) < 128 ∧ d ≠ 120 ∧ d ≠ 117 ∧ d ≠ 85 ∧ d ≠ 48 ∧ d ≠ 49 ∧ d ≠ 50 ∧ d ≠ 51 ∧ d ≠ 52 ∧ d ≠ 53 ∧ d ≠ 54 ∧ d ≠ 55 ∧ d ≠ 10 := by
  have := all_u8 (p := fun d => !self d || decide (Lib.indexByte [97, 98, 102, 110, 114, 116, 118] d = -1 ∧ (d.toNat : Int) < 128 ∧ d ≠ 120 ∧ d ≠ 117 ∧ d ≠ 85 ∧ d ≠ 48 ∧ d ≠ 49 ∧ d ≠ 50 ∧ d ≠ 51 ∧ d ≠ 52 ∧ d ≠ 53 ∧ d ≠ 54 ∧ d ≠ 55 ∧ d ≠ 10)) (by decide +kernel) d
  rw [h] at this
  simpa using this
theorem ext_at (t : ByteArray) (i : Nat) (h : i < t.size) (g : 0 < (t.extract i t.size).size) : (t.extract i t.size)[0] = t[i] := by
  simp [ByteArray.getElem_extract]
theorem byte_back (d : UInt8) : ((d.toNat : Int).toNat).toUInt8 = d := by simp

set_option maxHeartbeats 1000000 in
set_option maxRecDepth 100000 in
theorem back_self (t : ByteArray) (w : World) (h : 1 < t.size) (hm : t.size ≤ 4194304) (hd : self t[1] = true) :
    Calls Tryd.prog 24 #[.string t] w fun e w' => e = .returned (.tuple #[.int .i32 (t[1].toNat : Int), .int .i64 2, .string ⟨#[]⟩]) ∧ w' = w := by
  obtain ⟨h1, h2, a1, a2, a3, a4, a5, a6, a7, a8, a9, a10, a11, _⟩ := self_facts hd
  have b1 := n_ne (n := 120) (by decide) a1
  have b2 := n_ne (n := 117) (by decide) a2
  have b3 := n_ne (n := 85) (by decide) a3
  have b4 := n_ne (n := 48) (by decide) a4
  have b5 := n_ne (n := 49) (by decide) a5
  have b6 := n_ne (n := 50) (by decide) a6
  have b7 := n_ne (n := 51) (by decide) a7
  have b8 := n_ne (n := 52) (by decide) a8
  have b9 := n_ne (n := 53) (by decide) a9
  have b10 := n_ne (n := 54) (by decide) a10
  have b11 := n_ne (n := 55) (by decide) a11
  have hix : ∀ W, Calls Tryd.prog 26 #[.string ⟨#[97, 98, 102, 110, 114, 116, 118]⟩, .int .u8 (t[1].toNat : Int)] W fun e w' => e = .returned (.int .i64 (-1)) ∧ w' = W := by
    intro W
    have := Tryd.strings_IndexByte ⟨#[97, 98, 102, 110, 114, 116, 118]⟩ (t[1].toNat : Int) W
    rw [byte_back, show (ByteArray.mk #[97, 98, 102, 110, 114, 116, 118]).data.toList = [97, 98, 102, 110, 114, 116, 118] from rfl, h1] at this
    exact this
  have g : 0 < (t.extract 1 t.size).size := by simp; omega
  have hdec : ∀ W, Calls Tryd.prog 28 #[.string (t.extract 1 t.size)] W fun e w' => e = .returned (.tuple #[.int .i32 (t[1].toNat : Int), .int .i64 1]) ∧ w' = W := by
    intro W
    have e := ext_at t 1 h g
    have := decode_ascii (t.extract 1 t.size) W g (by rw [e]; exact h2)
    rw [e] at this
    exact this
  clear a1 a2 a3 a4 a5 a6 a7 a8 a9 a10 a11 h1 hd g
  go_enter Tryd.func24, Tryd.ntmps24
  go_wp2_with (first
    | (go_at_call 26; refine (hix _).mono ?_; rintro e w1 ⟨rfl, rfl⟩)
    | (go_at_call 28; refine (hdec _).mono ?_; rintro e w1 ⟨rfl, rfl⟩))
  go_ret3
  exact ⟨rfl, rfl⟩

theorem bs_cases {d c : UInt8} (h : bs d = some c) : (self d = true ∧ c = d) ∨ (d = 102 ∧ c = 12) ∨ (d = 110 ∧ c = 10) ∨ (d = 114 ∧ c = 13) ∨ (d = 116 ∧ c = 9) ∨ (d = 118 ∧ c = 11) := by
  unfold bs at h
  by_cases h1 : self d = true
  · rw [if_pos h1] at h; exact Or.inl ⟨h1, (Option.some.inj h).symm⟩
  rw [if_neg h1] at h
  by_cases h2 : (d == 102) = true
  · rw [if_pos h2] at h; exact Or.inr (Or.inl ⟨by simpa using h2, (Option.some.inj h).symm⟩)
  rw [if_neg h2] at h
  by_cases h3 : (d == 110) = true
  · rw [if_pos h3] at h; exact Or.inr (Or.inr (Or.inl ⟨by simpa using h3, (Option.some.inj h).symm⟩))
  rw [if_neg h3] at h
  by_cases h4 : (d == 114) = true
  · rw [if_pos h4] at h; exact Or.inr (Or.inr (Or.inr (Or.inl ⟨by simpa using h4, (Option.some.inj h).symm⟩)))
  rw [if_neg h4] at h
  by_cases h5 : (d == 116) = true
  · rw [if_pos h5] at h; exact Or.inr (Or.inr (Or.inr (Or.inr (Or.inl ⟨by simpa using h5, (Option.some.inj h).symm⟩))))
  rw [if_neg h5] at h
  by_cases h6 : (d == 118) = true
  · rw [if_pos h6] at h; exact Or.inr (Or.inr (Or.inr (Or.inr (Or.inr ⟨by simpa using h6, (Option.some.inj h).symm⟩))))
  rw [if_neg h6] at h
  cases h
theorem bs_nl {d c : UInt8} (h : bs d = some c) : d ≠ 10 ∧ (c.toNat : Int) < 128 := by
  rcases bs_cases h with ⟨h1, rfl⟩ | ⟨rfl, rfl⟩ | ⟨rfl, rfl⟩ | ⟨rfl, rfl⟩ | ⟨rfl, rfl⟩ | ⟨rfl, rfl⟩
  · have := self_facts h1
    exact ⟨this.2.2.2.2.2.2.2.2.2.2.2.2.2, this.2.1⟩
  all_goals decide

set_option maxHeartbeats 2000000 in
set_option maxRecDepth 100000 in
theorem back_any (t : ByteArray) (c : UInt8) (w : World) (h : 1 < t.size) (hm : t.size ≤ 4194304) (hd : bs t[1] = some c) :
    Calls Tryd.prog 24 #[.string t] w fun e w' => e = .returned (.tuple #[.int .i32 (c.toNat : Int), .int .i64 2, .string ⟨#[]⟩]) ∧ w' = w := by
  rcases bs_cases hd with ⟨h1, rfl⟩ | ⟨e, rfl⟩ | ⟨e, rfl⟩ | ⟨e, rfl⟩ | ⟨e, rfl⟩ | ⟨e, rfl⟩
  · exact back_self t w h hm h1
  · have hv := num_of e (by decide)
    have hix : ∀ W, Calls Tryd.prog 26 #[.string ⟨#[97, 98, 102, 110, 114, 116, 118]⟩, .int .u8 102] W fun e w' => e = .returned (.int .i64 2) ∧ w' = W := fun W => Tryd.strings_IndexByte ⟨#[97, 98, 102, 110, 114, 116, 118]⟩ 102 W
    clear e hd
    go_enter Tryd.func24, Tryd.ntmps24
    go_wp2_with (go_at_call 26; refine (hix _).mono ?_; rintro e w1 ⟨rfl, rfl⟩)
    go_ret3
    exact ⟨by kernel_rfl, rfl⟩
  · have hv := num_of e (by decide)
    have hix : ∀ W, Calls Tryd.prog 26 #[.string ⟨#[97, 98, 102, 110, 114, 116, 118]⟩, .int .u8 110] W fun e w' => e = .returned (.int .i64 3) ∧ w' = W := fun W => Tryd.strings_IndexByte ⟨#[97, 98, 102, 110, 114, 116, 118]⟩ 110 W
    clear e hd
    go_enter Tryd.func24, Tryd.ntmps24
    go_wp2_with (go_at_call 26; refine (hix _).mono ?_; rintro e w1 ⟨rfl, rfl⟩)
    go_ret3
    exact ⟨by kernel_rfl, rfl⟩
  · have hv := num_of e (by decide)
    have hix : ∀ W, Calls Tryd.prog 26 #[.string ⟨#[97, 98, 102, 110, 114, 116, 118]⟩, .int .u8 114] W fun e w' => e = .returned (.int .i64 4) ∧ w' = W := fun W => Tryd.strings_IndexByte ⟨#[97, 98, 102, 110, 114, 116, 118]⟩ 114 W
    clear e hd
    go_enter Tryd.func24, Tryd.ntmps24
    go_wp2_with (go_at_call 26; refine (hix _).mono ?_; rintro e w1 ⟨rfl, rfl⟩)
    go_ret3
    exact ⟨by kernel_rfl, rfl⟩
  · have hv := num_of e (by decide)
    have hix : ∀ W, Calls Tryd.prog 26 #[.string ⟨#[97, 98, 102, 110, 114, 116, 118]⟩, .int .u8 116] W fun e w' => e = .returned (.int .i64 5) ∧ w' = W := fun W => Tryd.strings_IndexByte ⟨#[97, 98, 102, 110, 114, 116, 118]⟩ 116 W
    clear e hd
    go_enter Tryd.func24, Tryd.ntmps24
    go_wp2_with (go_at_call 26; refine (hix _).mono ?_; rintro e w1 ⟨rfl, rfl⟩)
    go_ret3
    exact ⟨by kernel_rfl, rfl⟩
  · have hv := num_of e (by decide)
    have hix : ∀ W, Calls Tryd.prog 26 #[.string ⟨#[97, 98, 102, 110, 114, 116, 118]⟩, .int .u8 118] W fun e w' => e = .returned (.int .i64 6) ∧ w' = W := fun W => Tryd.strings_IndexByte ⟨#[97, 98, 102, 110, 114, 116, 118]⟩ 118 W
    clear e hd
    go_enter Tryd.func24, Tryd.ntmps24
    go_wp2_with (go_at_call 26; refine (hix _).mono ?_; rintro e w1 ⟨rfl, rfl⟩)
    go_ret3
    exact ⟨by kernel_rfl, rfl⟩

set_option maxHeartbeats 1000000 in
theorem zzback_any (t : ByteArray) (c : UInt8) (w : World) (h : 1 < t.size) (hm : t.size ≤ 4194304) (hd : bs t[1] = some c) :
    Calls Tryd.prog 17 #[.string t] w fun e w' => e = .returned (.tuple #[.int .i32 (c.toNat : Int), .int .i64 2, .string ⟨#[]⟩]) ∧ w' = w := by
  have hb := fun W => back_any t c W h hm hd
  clear hd
  go_enter Tryd.func17, Tryd.ntmps17
  go_wp2_with (go_at_call 24; refine (hb _).mono ?_; rintro e w1 ⟨rfl, rfl⟩)
  go_ret3
  exact ⟨rfl, rfl⟩

set_option maxHeartbeats 1000000 in
theorem sep_lone (c : UInt8) (w : World) (h : Plain.lone c = true) :
    Calls Tryd.prog 22 #[.int .u8 (c.toNat : Int)] w fun e w' => e = .returned (.bool false) ∧ w' = w := by
  simp only [Plain.lone, Bool.not_eq_true', Bool.or_eq_false_iff, beq_eq_false_iff_ne] at h
  obtain ⟨⟨⟨⟨⟨⟨⟨⟨⟨a1, a2⟩, a3⟩, a4⟩, a5⟩, a6⟩, a7⟩, _⟩, _⟩, _⟩ := h
  have b1 : ¬ (c.toNat : Int) = 32 := by simpa using n_ne (n := 32) (by decide) a1
  have b2 : ¬ (c.toNat : Int) = 9 := by simpa using n_ne (n := 9) (by decide) a2
  have b3 : ¬ (c.toNat : Int) = 11 := by simpa using n_ne (n := 11) (by decide) a3
  have b4 : ¬ (c.toNat : Int) = 12 := by simpa using n_ne (n := 12) (by decide) a4
  have b5 : ¬ (c.toNat : Int) = 13 := by simpa using n_ne (n := 13) (by decide) a5
  have b6 : ¬ (c.toNat : Int) = 10 := by simpa using n_ne (n := 10) (by decide) a6
  have b7 : ¬ (c.toNat : Int) = 59 := by simpa using n_ne (n := 59) (by decide) a7
  clear a1 a2 a3 a4 a5 a6 a7
  go_enter Tryd.func22, Tryd.ntmps22
  go_wp2
  go_ret
  exact ⟨ret_bool (by simp [b1, b2, b3, b4, b5, b6, b7]), rfl⟩
set_option maxHeartbeats 1000000 in
theorem sep_bs (w : World) : Calls Tryd.prog 22 #[.int .u8 92] w fun e w' => e = .returned (.bool false) ∧ w' = w := by
  go_enter Tryd.func22, Tryd.ntmps22
  go_wp2
  go_ret
  exact ⟨rfl, rfl⟩
end Go.Proofs.Qxb6003380aDoor
