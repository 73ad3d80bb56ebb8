/-
  appendWord at the empty string; zzl1ReadWord at a braced word that is whole, walked.
-/
import Derived.Test.Qxb6003380aDoorCloseOf
namespace Go.Proofs.Qxb6003380aDoor
open Go.RowKit Go.Proofs Plain Go.Maps

set_option maxHeartbeats 1000000 in
set_option maxRecDepth 100000 in
theorem word_empty (B : Nat) (v : Value) (pre : List UInt8) (s : ByteArray) (first : Bool) (w : World) (hown : w.ownsRow B 5 1 v pre.length (Lib.byteCells pre)) (hB : B ≤ w.heap.size)
    (hp : pre.length ≤ 1048576) (hs : s.size = 0) :
    Calls Tryd.prog 18 #[v, .string s, .bool first] w fun e w' => ∃ v', e = .returned v' ∧ Grew B w v w' v' (pre ++ wordL first s.data.toList) := by
  obtain ⟨i0, hi, hz0, hz1, hz2⟩ := info_parts infoByte
  have hG0 := Grew.refl hown
  have hnil : s.data.toList = [] := List.length_eq_zero_iff.1 (by rw [← Lib.size_eq]; exact hs)
  have hse : (s.toList == []) = true := by rw [Lib.toList_data, hnil]; rfl
  have HF : Hid (pre ++ wordL first s.data.toList = pre ++ [123, 125]) := by
    show _ = _
    rw [hnil]; rfl
  clear hnil hown
  go_enter Tryd.func18, Tryd.ntmps18
  go_wp2_with (at_builtin; refine wpList_append_string_at _ rfl _ _ 22 9 rfl B 5 i0 Tryd.underlying22 Tryd.underlying9 hi hz0 hz1 hz2 _ _ _ rfl hG0.own ⟨#[123, 125]⟩ rfl (by unfold maxLen; show _ + 2 ≤ _; omega) (by show _ + 2 ≤ _; omega) hB ?_)
  intro v1 w1 hown1 hgrow1 hat1
  go_wp2
  go_ret
  exact ⟨_, rfl, by rw [HF.out]; exact hG0.str (m := [123, 125]) (Lib.strCells_eq _) rfl hown1 hgrow1 hat1⟩

set_option maxHeartbeats 1000000 in
theorem zzword_any (B : Nat) (v : Value) (pre : List UInt8) (s : ByteArray) (first : Bool) (w : World) (hown : w.ownsRow B 5 1 v pre.length (Lib.byteCells pre)) (hB : B ≤ w.heap.size)
    (hp : pre.length ≤ 1048576) (hs : s.size ≤ 1048576) :
    Calls Tryd.prog 8 #[v, .string s, .bool first] w fun e w' => ∃ v', e = .returned v' ∧ Grew B w v w' v' (pre ++ wordL first s.data.toList) := by
  have h : Calls Tryd.prog 18 #[v, .string s, .bool first] w fun e w' => ∃ v', e = .returned v' ∧ Grew B w v w' v' (pre ++ wordL first s.data.toList) := by
    by_cases hne : 0 < s.size
    · exact word_any B v pre s first w hown hB hp hs hne
    · exact word_empty B v pre s first w hown hB hp (by omega)
  clear hown
  go_enter Tryd.func8, Tryd.ntmps8
  go_wp2_with (go_at_call 18; refine h.mono ?_; rintro e w1 ⟨v1, rfl, hG⟩)
  go_ret
  exact ⟨_, rfl, hG⟩

set_option maxHeartbeats 1000000 in
theorem source_new (S : ByteArray) (w : World) :
    Calls Tryd.prog 19 #[.string S] w fun e w' => e = .returned (.pointer (some ⟨w.heap.size, 0, none⟩)) ∧ w.grownBy w' none ∧ w'.cell? ⟨w.heap.size, 0, none⟩ = some (.string S) ∧ w'.cell? ⟨w.heap.size, 4, none⟩ = some (.map none) ∧ w'.frozen? ⟨w.heap.size, 4, none⟩ = false := by
  go_enter Tryd.func19, Tryd.ntmps19
  go_wp2
  go_ret
  refine ⟨rfl, World.grownBy_alloc _ _ none, ?_, ?_, ?_⟩
  · simp
  · simp
  · exact World.frozen?_alloc_at _ _ _ _ rfl

set_option maxHeartbeats 1000000 in
theorem zzclose_any (S : ByteArray) (l : List UInt8) (sb : Nat) (w : World) (hS : S.data.toList = 123 :: (l ++ [125])) (hb : bal l 0 = true) (hm : S.size ≤ 4194304)
    (h0 : w.cell? ⟨sb, 0, none⟩ = some (.string S)) (h4 : w.cell? ⟨sb, 4, none⟩ = some (.map none)) (hf : w.frozen? ⟨sb, 4, none⟩ = false) :
    Calls Tryd.prog 20 #[.pointer (some ⟨sb, 0, none⟩), .int .i64 0, .int .i64 S.size] w fun e w' => e = .returned (.int .i64 ((l.length : Int) + 1)) ∧ w.grownBy w' (some sb) := by
  have h := close_any S l sb w hS hb hm h0 h4 hf
  clear h0 h4 hf hS
  go_enter Tryd.func20, Tryd.ntmps20
  go_wp2_with (go_at_call 25; refine h.mono ?_; rintro e w1 ⟨rfl, hg⟩)
  go_ret
  exact ⟨rfl, hg⟩

theorem sees_grown {w w' : World} {v : Value} {l : List UInt8} (h : Sees w v l) (hg : w.grownBy w' none) : Sees w' v l := h.below (below_of_grown hg)

set_option maxHeartbeats 4000000 in
set_option maxRecDepth 100000 in
theorem read_braced (v : Value) (l : List UInt8) (first : Bool) (w : World) (h : Sees w v (123 :: (l ++ [125]))) (hb : bal l 0 = true) (hj : jl l = false) (hl : l.length ≤ 2097152)
    (hcap : ∀ a n c, v = .slice a n c → n ≤ c ∧ c ≤ maxLen) :
    Calls Tryd.prog 10 #[v, .bool first] w fun e w' => ∃ v', e = .returned (.tuple #[v', .bool true]) ∧ Sees w' v' l ∧ w.grownBy w' none := by
  have hcv := sees_string h
  obtain ⟨W, hW⟩ : ∃ W, W = 123 :: (l ++ [125]) := ⟨_, rfl⟩
  rw [← hW] at h hcv
  obtain ⟨S, hS⟩ : ∃ S : ByteArray, S = ⟨W.toArray⟩ := ⟨_, rfl⟩
  rw [← hS] at hcv
  have hSl : S.data.toList = W := by rw [hS]
  have hSz : S.size = l.length + 2 := by
    have := Lib.size_eq S
    rw [hSl, hW] at this
    simp at this
    omega
  have hWl : W.length = l.length + 2 := by rw [hW]; simp
  obtain ⟨ao, cap, rfl, hc⟩ := h
  obtain ⟨hcap1, hcap2⟩ := hcap _ _ _ rfl
  rw [hWl] at hcap1
  unfold maxLen at hcap2
  clear hcap
  obtain ⟨b, off, rfl, hcell0⟩ := cell_at hc (by omega : 0 < W.length) (by rw [hW]; rfl : W[0]? = some 123)
  have hcell00 : w.cell? ⟨b, off, none⟩ = some (.int .u8 123) := hcell0
  have hsee : Sees w (.slice (some ⟨b, off + 1, none⟩) l.length (cap - 1)) l := by
    refine ⟨_, _, rfl, fun j hj => ⟨b, off + 1, rfl, ?_⟩⟩
    obtain ⟨b', off', e, hh⟩ := hc (1 + j) (by omega)
    simp only [Option.some.injEq, Addr.mk.injEq, and_true] at e
    obtain ⟨rfl, rfl⟩ := e
    rw [← Nat.add_assoc] at hh
    rw [hh]
    subst hW
    congr 3
    rw [List.getElem_cons, dif_neg (by omega), List.getElem_append_left (by simp; omega)]
    simp
  have hnew := source_new S w
  have HCl := hid_eq (rfl : S = S)
  have hclose : Hid (∀ W1 : World, W1.cell? ⟨w.heap.size, 0, none⟩ = some (.string S) → W1.cell? ⟨w.heap.size, 4, none⟩ = some (.map none) → W1.frozen? ⟨w.heap.size, 4, none⟩ = false →
      Calls Tryd.prog 20 #[.pointer (some ⟨w.heap.size, 0, none⟩), .int .i64 0, .int .i64 ((l.length : Int) + 2)] W1 fun e w' => e = .returned (.int .i64 ((l.length : Int) + 1)) ∧ W1.grownBy w' (some w.heap.size)) := fun W1 h0 h4 hf => by
    have := zzclose_any S l w.heap.size W1 (by rw [hSl, hW]) hb (by omega) h0 h4 hf
    rw [hSz] at this
    exact this
  rw [hWl] at hcv ⊢
  clear hc hS hSl hW hcell0 hSz hWl HCl
  have hln : ((l.length : Int) + 2 == 0) = false := beq_eq_false_iff_ne.2 (by omega)
  go_enter Tryd.func10, Tryd.ntmps10
  go_wp2_with fail
  refine hnew.mono ?_; rintro e w1 ⟨rfl, hg1, c0, c4, cf⟩
  have hcl := hclose.out w1 c0 c4 cf
  clear c0 c4 cf hnew hcv hcell00
  go_wp2_with fail
  refine hcl.mono ?_
  rintro e w2 ⟨rfl, hg2⟩
  have hg : w.grownBy w2 none := grown_then hg1 hg2 (fun j hj => Or.inl (by simp at hj; omega))
  have hsee2 := sees_grown hsee hg
  have hjn := joins_any _ l w2 hsee2 (by omega) hj
  clear hcl hsee hg1 hg2 hclose
  have hne2 : ((l.length : Int) + 1 != (l.length : Int) + 2 - 1) = false := by simp; omega
  go_wp2_with (go_at_call 21; refine hjn.mono ?_; rintro e w3 ⟨rfl, rfl⟩)
  all_goals
    go_ret2
    exact ⟨_, rfl, hsee2, hg⟩
end Go.Proofs.Qxb6003380aDoor
