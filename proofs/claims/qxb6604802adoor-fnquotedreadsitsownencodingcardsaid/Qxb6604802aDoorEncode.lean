/-
  zzAllBlanks and zzEncodeField at this seat's dump, walked.
-/
import Derived.Test.Qxb6604802aDoorModel
namespace Go.Proofs.Qxb6604802aDoor
open Go.Shelf Go.RowKit Go.Proofs Plain

theorem ret_bool {a b : Bool} (h : a = b) : Ending.returned (.bool a) = .returned (.bool b) := by rw [h]
theorem ret_str {a b : List UInt8} (h : a = b) : Ending.returned (.string ⟨a.toArray⟩) = .returned (.string ⟨b.toArray⟩) := by rw [h]
/-- Every byte is a blank. -/
def blanks (l : List UInt8) : Bool := l.all fun c => c == 32 || c == 9
theorem blanks_mem {l : List UInt8} (h : blanks l = true) : ∀ c ∈ l, c = 32 ∨ c = 9 := by
  intro c hc
  have := List.all_eq_true.1 h c hc
  simpa using this
theorem blanks_of {l : List UInt8} (h : ∀ c ∈ l, c = 32 ∨ c = 9) : blanks l = true :=
  List.all_eq_true.2 fun c hc => by simpa using h c hc
theorem blanks_not {s : ByteArray} {k : Nat} (hk : k < s.size) (hc : ((s[k].toNat : Int) != 32) = true ∧ ((s[k].toNat : Int) != 9) = true) : blanks s.data.toList = false := by
  cases hb : blanks s.data.toList with
  | false => rfl
  | true =>
    have hm : s[k] ∈ s.data.toList := List.mem_of_getElem? (get_at s k hk)
    rcases blanks_mem hb _ hm with h | h <;> rw [h] at hc <;> simp at hc

set_option maxHeartbeats 1000000 in
theorem allBlanks_any (s : ByteArray) (w : World) (hs : s.size ≤ 1048576) :
    Calls Tryd.prog 9 #[.string s] w fun e w' => e = .returned (.bool (blanks s.data.toList)) ∧ w' = w := by
  go_enter Tryd.func9, Tryd.ntmps9
  go_wp2
  go_loop [3] (fun i => ∃ k : Nat, k ≤ s.size ∧ i = .int .i64 k ∧ ∀ c ∈ s.data.toList.take k, c = 32 ∨ c = 9) (fun i => s.size - (intOf i).toNat)
  case atStart => exact ⟨0, Nat.zero_le _, rfl, by simp⟩
  case round =>
    obtain ⟨k, hk, rfl, hb⟩ := hrel
    have HB : Hid (∀ c ∈ s.data.toList.take k, c = 32 ∨ c = 9) := hb
    clear hb
    by_cases hlt : k < s.size
    · go_wp2
      · have hc : (s[k].toNat : Int) = 32 := by assumption
        go_round
        case rel => exact ⟨k + 1, by omega, by go_num, blank_step hlt (Or.inl hc) HB.out⟩
        case measure => simp [intOf]; omega
      · have hc : ((s[k].toNat : Int) != 32) = true ∧ ((s[k].toNat : Int) != 9) = true := by assumption
        go_ret
        exact ⟨ret_bool (blanks_not hlt hc).symm, rfl⟩
      · have hc : ((s[k].toNat : Int) != 32) = false ∨ ((s[k].toNat : Int) != 9) = false := by assumption
        go_round
        case rel => exact ⟨k + 1, by omega, by go_num, blank_step hlt (by simpa using hc) HB.out⟩
        case measure => simp [intOf]; omega
    · have hall : Hid (blanks s.data.toList = true) := blanks_of (fun c hc => HB.out c (by rwa [List.take_of_length_le (by simp; omega)]))
      go_wp2
      go_ret
      exact ⟨ret_bool hall.out.symm, rfl⟩

theorem new2 (w : World) (x y : Value) (e : TypeId) : ∀ j u, [x, y][j]? = some u → (w.alloc (.cells #[x, y] e)).cell? ((⟨w.heap.size, 0, none⟩ : Addr).add j) = some u := by
  intro j u hj
  match j, hj with
  | 0, hj => simp at hj; subst hj; simp [Addr.add]
  | 1, hj => simp at hj; subst hj; simp [Addr.add]
theorem two8 (m n : Int) : ∀ u ∈ [Value.int .u8 m, Value.int .u8 n], u.oneCell' = true := by
  intro u hu; simp at hu; rcases hu with rfl | rfl <;> rfl
theorem own_snoc2 {w : World} {B n : Nat} {v : Value} {l : List UInt8} {c d : UInt8} (hn : n = l.length + 2) (h : w.ownsRow B 5 1 v n (Lib.byteCells l ++ [.int .u8 (c.toNat : Int), .int .u8 (d.toNat : Int)])) :
    w.ownsRow B 5 1 v (l ++ [c, d]).length (Lib.byteCells (l ++ [c, d])) := by
  rw [Lib.byteCells_append, List.length_append, show [c, d].length = 2 from rfl, ← hn]
  exact h
theorem enc_q {s : ByteArray} {k : Nat} (hk : k < s.size) (h : s[k] = 34) : (34 :: enc (s.data.toList.take k)) ++ [34, 34] = 34 :: enc (s.data.toList.take (k + 1)) := by
  rw [take_at s k hk, enc_append, h]; rfl
theorem enc_o {s : ByteArray} {k : Nat} (hk : k < s.size) (h : s[k] ≠ 34) : (34 :: enc (s.data.toList.take k)) ++ [s[k]] = 34 :: enc (s.data.toList.take (k + 1)) := by
  rw [take_at s k hk, enc_append]; simp [enc, h]

set_option maxHeartbeats 2000000 in
set_option maxRecDepth 100000 in
theorem encode_any (s : ByteArray) (w : World) (hs : s.size ≤ 1048576) :
    Calls Tryd.prog 10 #[.string s] w fun e w' => e = .returned (.string ⟨(34 :: enc s.data.toList ++ [34]).toArray⟩) ∧ Below w.heap.size w w' := by
  obtain ⟨i0, hi, hz0, hz1, hz2⟩ := info_parts infoByte
  go_enter Tryd.func10, Tryd.ntmps10
  go_wp2_with (at_make; refine wpList_make_own _ rfl _ _ 28 rfl w.heap.size 5 i0 (.int .u8 0) 1 Tryd.underlying28 hi hz0 hz1 .i64 .i64 _ (s.size + 2) rfl rfl (by omega) (by rw [hz2]; omega) (by unfold maxLen; omega) (Nat.le_refl _) ?_)
  intro w1 hown1 hgrow1
  have hb1 := (Below.refl w.heap.size w).grown hgrow1 (Nat.le_refl _) (fun k hk => by cases hk)
  have hs1 := hb1.size
  go_wp2_with (at_builtin; refine wpList_append_own _ rfl _ _ 28 rfl w.heap.size 5 i0 (.int .u8 0) 1 1 Tryd.underlying28 hi hz0 hz1 hz2 rfl (by decide) _ _ _ rfl (hown1.alloc _) ⟨w1.heap.size, 0, none⟩ 1 1 [.int .u8 34] rfl rfl (new1 _ _ _) (one8 _) (by unfold maxLen; omega) (by omega) (by simp; omega) ?_)
  intro v2 w2 hown2 hgrow2 _
  have hb2 := (hb1.alloc hs1 _).grown hgrow2 (by simp; omega) (fun k hk => (hown1.lt k hk).1)
  clear hown1 hgrow1 hgrow2
  go_wp2
  go_loopw [3, 4] (fun v i wr => ∃ k : Nat, k ≤ s.size ∧ i = .int .i64 k ∧ wr.ownsRow w.heap.size 5 1 v (34 :: enc (s.data.toList.take k)).length (Lib.byteCells (34 :: enc (s.data.toList.take k))) ∧ Below w.heap.size w wr) (fun _ i _ => s.size - (intOf i).toNat)
  case atStart => exact ⟨0, Nat.zero_le _, rfl, hown2, hb2⟩
  case round =>
    obtain ⟨k, hk, rfl, hown, hbw⟩ := hrel
    have hsz := hbw.size
    have hl : (34 :: enc (s.data.toList.take k)).length ≤ 2 * k + 1 := by
      have := enc_length (s.data.toList.take k)
      have h2 : (s.data.toList.take k).length ≤ k := List.length_take_le _ _
      simp only [List.length_cons]; omega
    obtain ⟨acc, hacc⟩ : ∃ acc, acc = 34 :: enc (s.data.toList.take k) := ⟨_, rfl⟩
    have HA : Hid (acc = 34 :: enc (s.data.toList.take k)) := hacc
    rw [← hacc] at hown hl
    clear hacc
    by_cases hlt : k < s.size
    · by_cases hq : s[k] = 34
      · have hq' : ((s[k].toNat : Int) == 34) = true := by rw [hq]; rfl
        have HQ : Hid (s[k] = 34) := hq
        clear hq
        go_wp2_with (at_builtin; refine wpList_append_own _ rfl _ _ 28 rfl w.heap.size 5 i0 (.int .u8 0) 1 1 Tryd.underlying28 hi hz0 hz1 hz2 rfl (by decide) _ _ _ rfl (hown.alloc _) ⟨wr.heap.size, 0, none⟩ 2 2 [.int .u8 34, .int .u8 34] rfl rfl (new2 _ _ _ _) (two8 _ _) (by unfold maxLen; omega) (by omega) (by simp; omega) ?_)
        intro v' w3 hown' hgrow _
        go_wp2
        go_roundw
        case rel =>
          refine ⟨k + 1, by omega, by go_num, ?_, (hbw.alloc hsz _).grown hgrow (by simp; omega) (fun k hk => (hown.lt k hk).1)⟩
          rw [← enc_q hlt HQ.out, ← HA.out]
          exact own_snoc2 (c := 34) (d := 34) rfl hown'
        case measure => simp [intOf]; omega
      · have hq' : ((s[k].toNat : Int) == 34) = false := by
          have h2 : s[k].toNat ≠ 34 := fun h => hq (UInt8.toNat_inj.1 h)
          simp; omega
        go_wp2_with (at_builtin; refine wpList_append_own _ rfl _ _ 28 rfl w.heap.size 5 i0 (.int .u8 0) 1 1 Tryd.underlying28 hi hz0 hz1 hz2 rfl (by decide) _ _ _ rfl (hown.alloc _) ⟨wr.heap.size, 0, none⟩ 1 1 [.int .u8 (s[k].toNat : Int)] rfl rfl (new1 _ _ _) (one8 _) (by unfold maxLen; omega) (by omega) (by simp; omega) ?_)
        intro v' w3 hown' hgrow _
        go_wp2
        go_roundw
        case rel =>
          refine ⟨k + 1, by omega, by go_num, ?_, (hbw.alloc hsz _).grown hgrow (by simp; omega) (fun k hk => (hown.lt k hk).1)⟩
          rw [← enc_o hlt hq, ← HA.out]
          exact own_snoc rfl hown'
        case measure => simp [intOf]; omega
    · have HE : Hid (acc = 34 :: enc s.data.toList) := by
        show _ = _
        rw [HA.out, List.take_of_length_le (by simp; omega)]
      go_wp2_with (at_builtin; refine wpList_append_own _ rfl _ _ 28 rfl w.heap.size 5 i0 (.int .u8 0) 1 1 Tryd.underlying28 hi hz0 hz1 hz2 rfl (by decide) _ _ _ rfl (hown.alloc _) ⟨wr.heap.size, 0, none⟩ 1 1 [.int .u8 34] rfl rfl (new1 _ _ _) (one8 _) (by unfold maxLen; omega) (by omega) (by simp; omega) ?_)
      intro v' w3 hown' hgrow _
      have hcv : (convert 28 9 v').run Tryd.prog w3 = .ok (.string ⟨(acc ++ [34]).toArray⟩) w3 := own_string w3 w.heap.size v' (acc ++ [34]) (own_snoc (c := 34) rfl hown')
      go_wp2
      go_ret
      exact ⟨ret_str (by rw [HE.out]; rfl), (hbw.alloc hsz _).grown hgrow (by simp; omega) (fun k hk => (hown.lt k hk).1)⟩
end Go.Proofs.Qxb6604802aDoor
