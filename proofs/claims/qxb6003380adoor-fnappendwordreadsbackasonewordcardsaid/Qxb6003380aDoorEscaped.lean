/-
  tdl.appendEscaped at this seat's dump, walked.
-/
import Derived.Test.Qxb6003380aDoorAppend
namespace Go.Proofs.Qxb6003380aDoor
open Go.RowKit Go.Proofs Plain

theorem cls (c : UInt8) : (c = 93 ∨ c = 91 ∨ c = 36 ∨ c = 59 ∨ c = 32 ∨ c = 92 ∨ c = 34) ∨ (c = 123 ∨ c = 125) ∨ (c = 12 ∨ c = 10 ∨ c = 13 ∨ c = 9 ∨ c = 11) ∨
    (c ≠ 93 ∧ c ≠ 91 ∧ c ≠ 36 ∧ c ≠ 59 ∧ c ≠ 32 ∧ c ≠ 92 ∧ c ≠ 34 ∧ c ≠ 123 ∧ c ≠ 125 ∧ c ≠ 12 ∧ c ≠ 10 ∧ c ≠ 13 ∧ c ≠ 9 ∧ c ≠ 11) := by
  have := all_u8 (p := fun c => decide ((c = 93 ∨ c = 91 ∨ c = 36 ∨ c = 59 ∨ c = 32 ∨ c = 92 ∨ c = 34) ∨ (c = 123 ∨ c = 125) ∨ (c = 12 ∨ c = 10 ∨ c = 13 ∨ c = 9 ∨ c = 11) ∨
    (c ≠ 93 ∧ c ≠ 91 ∧ c ≠ 36 ∧ c ≠ 59 ∧ c ≠ 32 ∧ c ≠ 92 ∧ c ≠ 34 ∧ c ≠ 123 ∧ c ≠ 125 ∧ c ≠ 12 ∧ c ≠ 10 ∧ c ≠ 13 ∧ c ≠ 9 ∧ c ≠ 11))) (by decide +kernel) c
  simpa using this
theorem esc_other {br : Bool} {c : UInt8} (h : c ≠ 93 ∧ c ≠ 91 ∧ c ≠ 36 ∧ c ≠ 59 ∧ c ≠ 32 ∧ c ≠ 92 ∧ c ≠ 34 ∧ c ≠ 123 ∧ c ≠ 125 ∧ c ≠ 12 ∧ c ≠ 10 ∧ c ≠ 13 ∧ c ≠ 9 ∧ c ≠ 11) : escB br c = [c] := by
  obtain ⟨a1, a2, a3, a4, a5, a6, a7, a8, a9, a10, a11, a12, a13, a14⟩ := h
  simp [escB, spec, a1, a2, a3, a4, a5, a6, a7, a8, a9, a10, a11, a12, a13, a14]
theorem take_at (s : ByteArray) (k : Nat) (h : k < s.size) : s.data.toList.take (k + 1) = s.data.toList.take k ++ [s[k]] := by
  rw [List.take_succ_eq_append_getElem (by simpa using h)]; rfl
theorem num_of {c : UInt8} {n : Nat} (h : c = UInt8.ofNat n) (hn : n < 256) : (c.toNat : Int) = (n : Int) := by rw [h]; simp [Nat.mod_eq_of_lt hn]
theorem hid_eq {α : Type} {a b : α} (h : a = b) : Hid (a = b) := h
theorem by_size2 {n k a b : Nat} (h : n ≤ 1048576 + 2 * k + 1) (hk : k < b) (hb : b ≤ 1048576) : n + (ByteArray.mk #[92, UInt8.ofNat a]).size ≤ 9223372036854775807 := by
  have : (ByteArray.mk #[92, UInt8.ofNat a]).size = 2 := rfl
  omega
theorem by_size2' {n k a b : Nat} (h : n ≤ 1048576 + 2 * k + 1) (hk : k < b) (hb : b ≤ 1048576) : n + (ByteArray.mk #[92, UInt8.ofNat a]).size ≤ 140737488355328 := by
  have : (ByteArray.mk #[92, UInt8.ofNat a]).size = 2 := rfl
  omega
theorem esc_step {pre : List UInt8} {hash br : Bool} {s : ByteArray} {k : Nat} (hk : k < s.size) {acc m : List UInt8} (ha : acc = pre ++ esc hash br (s.data.toList.take k)) (hm : escB br s[k] = m) :
    pre ++ esc hash br (s.data.toList.take (k + 1)) = acc ++ m := by
  rw [take_at s k hk, esc_snoc, ha, hm, List.append_assoc]

set_option maxHeartbeats 8000000 in
set_option maxRecDepth 100000 in
theorem escaped_any (B : Nat) (v : Value) (pre : List UInt8) (s : ByteArray) (hash br : Bool) (w : World) (hown : w.ownsRow B 5 1 v pre.length (Lib.byteCells pre)) (hB : B ≤ w.heap.size)
    (hp : pre.length ≤ 1048576) (hs : s.size ≤ 1048576) :
    Calls Tryd.prog 23 #[v, .string s, .bool hash, .bool br] w fun e w' => ∃ v', e = .returned v' ∧ Grew B w v w' v' (pre ++ esc hash br s.data.toList) := by
  obtain ⟨i0, hi, hz0, hz1, hz2⟩ := info_parts infoByte
  have hG0 := Grew.refl hown
  cases hash with
  | false =>
    have hGs : Grew B w v w v (pre ++ esc false br (s.data.toList.take 0)) := by simpa [esc] using hG0
    clear hG0 hown
    go_enter Tryd.func23, Tryd.ntmps23
    go_wp2
    go_loopw [0, 9] (fun u i wr => ∃ k : Nat, k ≤ s.size ∧ i = .int .i64 k ∧ Grew B w v wr u (pre ++ esc false br (s.data.toList.take k))) (fun _ i _ => s.size - (intOf i).toNat)
    case atStart => exact ⟨0, Nat.zero_le _, rfl, hGs⟩
    case round =>
      obtain ⟨k, hk, rfl, hG⟩ := hrel
      clear hGs
      obtain ⟨acc, hacc⟩ : ∃ acc, acc = pre ++ esc false br (s.data.toList.take k) := ⟨_, rfl⟩
      have HA : Hid (acc = pre ++ esc false br (s.data.toList.take k)) := hacc
      have hal : acc.length ≤ 1048576 + 2 * k + 1 := by
        have h1 := esc_le false br (s.data.toList.take k)
        have h2 : (s.data.toList.take k).length ≤ k := List.length_take_le _ _
        rw [hacc, List.length_append]; omega
      rw [← hacc] at hG
      clear hacc
      have hBr := hG.base hB
      by_cases hlt : k < s.size
      · rcases cls s[k] with h | h | h | h
        · rcases h with h | h | h | h | h | h | h
          all_goals
            have hv := num_of h (by decide)
            have HM := hid_eq (congrArg (escB br) h)
            clear h
            go_wp2_with (at_builtin; refine wpList_append_own_at _ rfl _ _ 22 rfl B 5 i0 (.int .u8 0) 1 1 Tryd.underlying22 hi hz0 hz1 hz2 rfl (by decide) _ _ _ rfl (hG.own.alloc _) ⟨wr.heap.size, 0, none⟩ 2 2 [.int .u8 92, .int .u8 _] rfl rfl (new2 _ _ _ _) (two8 _ _) (by unfold maxLen; omega) (by omega) (by simp; omega) ?_)
            intro v1 w1 hown1 hgrow1 _ hat1
            go_wp2
            go_roundw
            case rel => exact ⟨k + 1, by omega, by go_num, by rw [esc_step hlt HA.out HM.out]; exact hG.app rfl rfl hown1 hgrow1 hat1⟩
            case measure => simp [intOf]; omega
        · rcases h with h | h
          all_goals
            have hv := num_of h (by decide)
            have HM := hid_eq (congrArg (escB br) h)
            clear h
            cases br with
            | false =>
              go_wp2_with (at_builtin; refine wpList_append_own_at _ rfl _ _ 22 rfl B 5 i0 (.int .u8 0) 1 1 Tryd.underlying22 hi hz0 hz1 hz2 rfl (by decide) _ _ _ rfl (hG.own.alloc _) ⟨wr.heap.size, 0, none⟩ 1 1 [.int .u8 _] rfl rfl (new1 _ _ _) (one8 _) (by unfold maxLen; omega) (by omega) (by simp; omega) ?_)
              intro v1 w1 hown1 hgrow1 _ hat1
              go_wp2
              go_roundw
              case rel => exact ⟨k + 1, by omega, by go_num, by rw [esc_step hlt HA.out HM.out]; exact hG.app rfl rfl hown1 hgrow1 hat1⟩
              case measure => simp [intOf]; omega
            | true =>
              go_wp2_with (at_builtin; refine wpList_append_own_at _ rfl _ _ 22 rfl B 5 i0 (.int .u8 0) 1 1 Tryd.underlying22 hi hz0 hz1 hz2 rfl (by decide) _ _ _ rfl (hG.own.alloc _) ⟨wr.heap.size, 0, none⟩ 1 1 [.int .u8 92] rfl rfl (new1 _ _ _) (one8 _) (by unfold maxLen; omega) (by omega) (by simp; omega) ?_)
              intro v1 w1 hown1 hgrow1 _ hat1
              have hG1 : Grew B w v w1 v1 (acc ++ [92]) := hG.app (m := [92]) rfl rfl hown1 hgrow1 hat1
              have hBr1 := hG1.base hB
              have hl1 : (acc ++ [92]).length = acc.length + 1 := by simp
              have HL1 : Hid ((acc ++ [92]).length = acc.length + 1) := hl1
              clear hown1 hgrow1 hat1 hl1
              go_wp2_with (at_builtin; refine wpList_append_own_at _ rfl _ _ 22 rfl B 5 i0 (.int .u8 0) 1 1 Tryd.underlying22 hi hz0 hz1 hz2 rfl (by decide) _ _ _ rfl (hG1.own.alloc _) ⟨w1.heap.size, 0, none⟩ 1 1 [.int .u8 _] rfl rfl (new1 _ _ _) (one8 _) (by unfold maxLen; (rw [HL1.out]; omega)) (by (rw [HL1.out]; omega)) (by simp; omega) ?_)
              intro v2 w2 hown2 hgrow2 _ hat2
              go_wp2
              go_roundw
              case rel => exact ⟨k + 1, by omega, by go_num, by rw [esc_step hlt HA.out HM.out]; exact (List.append_assoc acc [92] _ ▸ hG1.app rfl (by simp) hown2 hgrow2 hat2)⟩
              case measure => simp [intOf]; omega
        · rcases h with h | h | h | h | h
          all_goals
            have hv := num_of h (by decide)
            have HM := hid_eq (congrArg (escB br) h)
            clear h
            go_wp2_with (at_builtin; refine wpList_append_string_at _ rfl _ _ 22 9 rfl B 5 i0 Tryd.underlying22 Tryd.underlying9 hi hz0 hz1 hz2 _ _ _ rfl hG.own ⟨#[92, _]⟩ rfl (by unfold maxLen; exact by_size2 hal hlt hs) (by exact by_size2' hal hlt hs) hBr ?_)
            intro v1 w1 hown1 hgrow1 hat1
            go_wp2
            go_roundw
            case rel => exact ⟨k + 1, by omega, by go_num, by rw [esc_step hlt HA.out HM.out]; exact hG.str rfl rfl hown1 hgrow1 hat1⟩
            case measure => simp [intOf]; omega
        · have HM := hid_eq (esc_other (br := br) h)
          obtain ⟨a1, a2, a3, a4, a5, a6, a7, a8, a9, a10, a11, a12, a13, a14⟩ := h
          have b1 := n_ne (n := 93) (by decide) a1
          have b2 := n_ne (n := 91) (by decide) a2
          have b3 := n_ne (n := 36) (by decide) a3
          have b4 := n_ne (n := 59) (by decide) a4
          have b5 := n_ne (n := 32) (by decide) a5
          have b6 := n_ne (n := 92) (by decide) a6
          have b7 := n_ne (n := 34) (by decide) a7
          have b8 := n_ne (n := 123) (by decide) a8
          have b9 := n_ne (n := 125) (by decide) a9
          have b10 := n_ne (n := 12) (by decide) a10
          have b11 := n_ne (n := 10) (by decide) a11
          have b12 := n_ne (n := 13) (by decide) a12
          have b13 := n_ne (n := 9) (by decide) a13
          have b14 := n_ne (n := 11) (by decide) a14
          clear a1 a2 a3 a4 a5 a6 a7 a8 a9 a10 a11 a12 a13 a14
          go_wp2_with (at_builtin; refine wpList_append_own_at _ rfl _ _ 22 rfl B 5 i0 (.int .u8 0) 1 1 Tryd.underlying22 hi hz0 hz1 hz2 rfl (by decide) _ _ _ rfl (hG.own.alloc _) ⟨wr.heap.size, 0, none⟩ 1 1 [.int .u8 (s[k].toNat : Int)] rfl rfl (new1 _ _ _) (one8 _) (by unfold maxLen; omega) (by omega) (by simp; omega) ?_)
          intro v1 w1 hown1 hgrow1 _ hat1
          go_wp2
          go_roundw
          case rel => exact ⟨k + 1, by omega, by go_num, by rw [esc_step hlt HA.out HM.out]; exact hG.app rfl rfl hown1 hgrow1 hat1⟩
          case measure => simp [intOf]; omega
      · have HE : Hid (pre ++ esc false br s.data.toList = acc) := by
          show _ = _
          rw [HA.out, List.take_of_length_le (by simp; omega)]
        go_wp2
        go_ret
        exact ⟨_, rfl, by rw [HE.out]; exact hG⟩
  | true =>
    go_enter Tryd.func23, Tryd.ntmps23
    go_wp2_with (at_builtin; refine wpList_append_own_at _ rfl _ _ 22 rfl B 5 i0 (.int .u8 0) 1 1 Tryd.underlying22 hi hz0 hz1 hz2 rfl (by decide) _ _ _ rfl (hG0.own.alloc _) ⟨w.heap.size, 0, none⟩ 1 1 [.int .u8 92] rfl rfl (new1 _ _ _) (one8 _) (by unfold maxLen; omega) (by omega) (by simp; omega) ?_)
    intro v1 w1 hown1 hgrow1 _ hat1
    have hGs : Grew B w v w1 v1 (pre ++ esc true br (s.data.toList.take 0)) := hG0.app (m := [92]) rfl rfl hown1 hgrow1 hat1
    clear hown1 hgrow1 hat1 hG0 hown
    go_wp2
    go_loopw [0, 9] (fun u i wr => ∃ k : Nat, k ≤ s.size ∧ i = .int .i64 k ∧ Grew B w v wr u (pre ++ esc true br (s.data.toList.take k))) (fun _ i _ => s.size - (intOf i).toNat)
    case atStart => exact ⟨0, Nat.zero_le _, rfl, hGs⟩
    case round =>
      obtain ⟨k, hk, rfl, hG⟩ := hrel
      clear hGs
      obtain ⟨acc, hacc⟩ : ∃ acc, acc = pre ++ esc true br (s.data.toList.take k) := ⟨_, rfl⟩
      have HA : Hid (acc = pre ++ esc true br (s.data.toList.take k)) := hacc
      have hal : acc.length ≤ 1048576 + 2 * k + 1 := by
        have h1 := esc_le true br (s.data.toList.take k)
        have h2 : (s.data.toList.take k).length ≤ k := List.length_take_le _ _
        rw [hacc, List.length_append]; omega
      rw [← hacc] at hG
      clear hacc
      have hBr := hG.base hB
      by_cases hlt : k < s.size
      · rcases cls s[k] with h | h | h | h
        · rcases h with h | h | h | h | h | h | h
          all_goals
            have hv := num_of h (by decide)
            have HM := hid_eq (congrArg (escB br) h)
            clear h
            go_wp2_with (at_builtin; refine wpList_append_own_at _ rfl _ _ 22 rfl B 5 i0 (.int .u8 0) 1 1 Tryd.underlying22 hi hz0 hz1 hz2 rfl (by decide) _ _ _ rfl (hG.own.alloc _) ⟨wr.heap.size, 0, none⟩ 2 2 [.int .u8 92, .int .u8 _] rfl rfl (new2 _ _ _ _) (two8 _ _) (by unfold maxLen; omega) (by omega) (by simp; omega) ?_)
            intro v1 w1 hown1 hgrow1 _ hat1
            go_wp2
            go_roundw
            case rel => exact ⟨k + 1, by omega, by go_num, by rw [esc_step hlt HA.out HM.out]; exact hG.app rfl rfl hown1 hgrow1 hat1⟩
            case measure => simp [intOf]; omega
        · rcases h with h | h
          all_goals
            have hv := num_of h (by decide)
            have HM := hid_eq (congrArg (escB br) h)
            clear h
            cases br with
            | false =>
              go_wp2_with (at_builtin; refine wpList_append_own_at _ rfl _ _ 22 rfl B 5 i0 (.int .u8 0) 1 1 Tryd.underlying22 hi hz0 hz1 hz2 rfl (by decide) _ _ _ rfl (hG.own.alloc _) ⟨wr.heap.size, 0, none⟩ 1 1 [.int .u8 _] rfl rfl (new1 _ _ _) (one8 _) (by unfold maxLen; omega) (by omega) (by simp; omega) ?_)
              intro v1 w1 hown1 hgrow1 _ hat1
              go_wp2
              go_roundw
              case rel => exact ⟨k + 1, by omega, by go_num, by rw [esc_step hlt HA.out HM.out]; exact hG.app rfl rfl hown1 hgrow1 hat1⟩
              case measure => simp [intOf]; omega
            | true =>
              go_wp2_with (at_builtin; refine wpList_append_own_at _ rfl _ _ 22 rfl B 5 i0 (.int .u8 0) 1 1 Tryd.underlying22 hi hz0 hz1 hz2 rfl (by decide) _ _ _ rfl (hG.own.alloc _) ⟨wr.heap.size, 0, none⟩ 1 1 [.int .u8 92] rfl rfl (new1 _ _ _) (one8 _) (by unfold maxLen; omega) (by omega) (by simp; omega) ?_)
              intro v1 w1 hown1 hgrow1 _ hat1
              have hG1 : Grew B w v w1 v1 (acc ++ [92]) := hG.app (m := [92]) rfl rfl hown1 hgrow1 hat1
              have hBr1 := hG1.base hB
              have hl1 : (acc ++ [92]).length = acc.length + 1 := by simp
              have HL1 : Hid ((acc ++ [92]).length = acc.length + 1) := hl1
              clear hown1 hgrow1 hat1 hl1
              go_wp2_with (at_builtin; refine wpList_append_own_at _ rfl _ _ 22 rfl B 5 i0 (.int .u8 0) 1 1 Tryd.underlying22 hi hz0 hz1 hz2 rfl (by decide) _ _ _ rfl (hG1.own.alloc _) ⟨w1.heap.size, 0, none⟩ 1 1 [.int .u8 _] rfl rfl (new1 _ _ _) (one8 _) (by unfold maxLen; (rw [HL1.out]; omega)) (by (rw [HL1.out]; omega)) (by simp; omega) ?_)
              intro v2 w2 hown2 hgrow2 _ hat2
              go_wp2
              go_roundw
              case rel => exact ⟨k + 1, by omega, by go_num, by rw [esc_step hlt HA.out HM.out]; exact (List.append_assoc acc [92] _ ▸ hG1.app rfl (by simp) hown2 hgrow2 hat2)⟩
              case measure => simp [intOf]; omega
        · rcases h with h | h | h | h | h
          all_goals
            have hv := num_of h (by decide)
            have HM := hid_eq (congrArg (escB br) h)
            clear h
            go_wp2_with (at_builtin; refine wpList_append_string_at _ rfl _ _ 22 9 rfl B 5 i0 Tryd.underlying22 Tryd.underlying9 hi hz0 hz1 hz2 _ _ _ rfl hG.own ⟨#[92, _]⟩ rfl (by unfold maxLen; exact by_size2 hal hlt hs) (by exact by_size2' hal hlt hs) hBr ?_)
            intro v1 w1 hown1 hgrow1 hat1
            go_wp2
            go_roundw
            case rel => exact ⟨k + 1, by omega, by go_num, by rw [esc_step hlt HA.out HM.out]; exact hG.str rfl rfl hown1 hgrow1 hat1⟩
            case measure => simp [intOf]; omega
        · have HM := hid_eq (esc_other (br := br) h)
          obtain ⟨a1, a2, a3, a4, a5, a6, a7, a8, a9, a10, a11, a12, a13, a14⟩ := h
          have b1 := n_ne (n := 93) (by decide) a1
          have b2 := n_ne (n := 91) (by decide) a2
          have b3 := n_ne (n := 36) (by decide) a3
          have b4 := n_ne (n := 59) (by decide) a4
          have b5 := n_ne (n := 32) (by decide) a5
          have b6 := n_ne (n := 92) (by decide) a6
          have b7 := n_ne (n := 34) (by decide) a7
          have b8 := n_ne (n := 123) (by decide) a8
          have b9 := n_ne (n := 125) (by decide) a9
          have b10 := n_ne (n := 12) (by decide) a10
          have b11 := n_ne (n := 10) (by decide) a11
          have b12 := n_ne (n := 13) (by decide) a12
          have b13 := n_ne (n := 9) (by decide) a13
          have b14 := n_ne (n := 11) (by decide) a14
          clear a1 a2 a3 a4 a5 a6 a7 a8 a9 a10 a11 a12 a13 a14
          go_wp2_with (at_builtin; refine wpList_append_own_at _ rfl _ _ 22 rfl B 5 i0 (.int .u8 0) 1 1 Tryd.underlying22 hi hz0 hz1 hz2 rfl (by decide) _ _ _ rfl (hG.own.alloc _) ⟨wr.heap.size, 0, none⟩ 1 1 [.int .u8 (s[k].toNat : Int)] rfl rfl (new1 _ _ _) (one8 _) (by unfold maxLen; omega) (by omega) (by simp; omega) ?_)
          intro v1 w1 hown1 hgrow1 _ hat1
          go_wp2
          go_roundw
          case rel => exact ⟨k + 1, by omega, by go_num, by rw [esc_step hlt HA.out HM.out]; exact hG.app rfl rfl hown1 hgrow1 hat1⟩
          case measure => simp [intOf]; omega
      · have HE : Hid (pre ++ esc true br s.data.toList = acc) := by
          show _ = _
          rw [HA.out, List.take_of_length_le (by simp; omega)]
        go_wp2
        go_ret
        exact ⟨_, rfl, by rw [HE.out]; exact hG⟩
end Go.Proofs.Qxb6003380aDoor
