/-
  userlist.quoted at this seat's dump, walked: it answers as Plain.ans says.
-/
import Derived.Test.Qxb6604802aDoorBuilder
import Derived.Test.Qxb6604802aDoorPlain
import Derived.Outline
import Derived.Deep.RegionWith
import Derived.Deep.DeepFit
namespace Go.Proofs.Qxb6604802aDoor
open Go.Shelf Go.RowKit Go.Proofs Plain

/-- The three results of an answer. -/
def res (x : Option (List UInt8 × List UInt8)) : Value :=
  .tuple #[.string ⟨((x.map (·.1)).getD []).toArray⟩, .string ⟨((x.map (·.2)).getD []).toArray⟩, .bool x.isSome]

theorem drop_at (t : ByteArray) (k : Nat) (h : k < t.size) : t.data.toList.drop k = t[k] :: t.data.toList.drop (k + 1) := by
  rw [List.drop_eq_getElem_cons (by simpa using h)]; rfl
theorem drop_end (t : ByteArray) (k : Nat) (h : t.size ≤ k) : t.data.toList.drop k = [] :=
  List.drop_eq_nil_of_le (by simpa using h)
theorem extract_rest (t : ByteArray) (k : Nat) : (t.extract k t.size) = ⟨(t.data.toList.drop k).toArray⟩ := by
  apply ByteArray.ext
  apply Array.ext'
  simp only [ByteArray.data_extract, Array.toList_extract, List.extract]
  exact List.take_of_length_le (by simp)

theorem c_ne {c : UInt8} {n : Nat} (hn : n < 256) (h : ((c.toNat : Int) == n) = false) : c ≠ UInt8.ofNat n := by
  intro e
  subst e
  simp [Nat.mod_eq_of_lt hn] at h
theorem c_eq {c : UInt8} {n : Nat} (hn : n < 256) (h : ((c.toNat : Int) == n) = true) : c = UInt8.ofNat n := by
  have h' : c.toNat = n := by have := eq_of_beq h; omega
  apply UInt8.toNat_inj.1
  simp [h', Nat.mod_eq_of_lt hn]
theorem q_ne {c : UInt8} (h : ((c.toNat : Int) != 34) = true) : c ≠ 34 := c_ne (n := 34) (by decide) (by simpa using h)
theorem q_eq {c : UInt8} (h : ((c.toNat : Int) != 34) = false) : c = 34 := c_eq (n := 34) (by decide) (by simpa using h)
theorem q_ne' {c : UInt8} (h : ((c.toNat : Int) == 34) = false) : c ≠ 34 := c_ne (n := 34) (by decide) h
theorem q_eq' {c : UInt8} (h : ((c.toNat : Int) == 34) = true) : c = 34 := c_eq (n := 34) (by decide) h

theorem step_other {t : ByteArray} {k : Nat} {acc R} (hk : k < t.size) (h : ((t[k].toNat : Int) != 34) = true) (hr : rd (t.data.toList.drop k) acc = R) : rd (t.data.toList.drop (k + 1)) (acc ++ [t[k]]) = R := by
  rw [← hr, drop_at t k hk, rd_other _ _ _ (q_ne h)]
theorem step_two {t : ByteArray} {k : Nat} {acc R} (hk : k + 1 < t.size) (h : ((t[k].toNat : Int) != 34) = false) (h2 : ((t[k + 1].toNat : Int) == 34) = true) (hr : rd (t.data.toList.drop k) acc = R) : rd (t.data.toList.drop (k + 2)) (acc ++ [34]) = R := by
  rw [← hr, drop_at t k (by omega), drop_at t (k + 1) hk, q_eq h, q_eq' h2, rd_two]
theorem step_end {t : ByteArray} {k : Nat} {acc R} (hk : k < t.size) (h : ((t[k].toNat : Int) != 34) = false) (h2 : ∀ g : k + 1 < t.size, ((t[k + 1].toNat : Int) == 34) = false) (hr : rd (t.data.toList.drop k) acc = R) : R = some (acc, t.data.toList.drop (k + 1)) := by
  rw [← hr, drop_at t k hk, q_eq h, rd_end]
  intro u hu
  by_cases g : k + 1 < t.size
  · rw [drop_at t (k + 1) g] at hu
    exact q_ne' (h2 g) (List.cons.inj hu).1
  · rw [drop_end t (k + 1) (by omega)] at hu
    cases hu
theorem step_out {t : ByteArray} {k : Nat} {acc R} (hk : t.size ≤ k) (hr : rd (t.data.toList.drop k) acc = R) : R = none := by
  rw [← hr, drop_end t k hk]; rfl

set_option maxHeartbeats 2000000 in
set_option maxRecDepth 100000 in
theorem quoted_any (s : ByteArray) (w : World) (hs : s.size ≤ 4194304) :
    Calls Tryd.prog 11 #[.string s] w fun e w' => e = .returned (res (ans s.data.toList)) ∧ Below w.heap.size w w' := by
  obtain ⟨t, ht⟩ : ∃ t : ByteArray, t = ⟨(Lib.trimLeftS s.data.toList [32, 9]).toArray⟩ := ⟨_, rfl⟩
  have hl : t.data.toList = Lib.trimLeftS s.data.toList [32, 9] := by rw [ht]
  have hc := Tryd.strings_TrimLeft_blank s w
  rw [← ht] at hc
  have hts : t.size ≤ 4194304 := by
    have : t.data.toList.length ≤ s.data.toList.length := by rw [hl]; exact (List.dropWhile_sublist _).length_le
    simp at this; omega
  have HL : Hid (ans s.data.toList = match t.data.toList with
      | [] => none
      | c :: u => if c = 34 then rd u [] else none) := by
    show _ = _
    rw [hl]; rfl
  clear hl ht hs
  have hq : ∀ W : World, Calls Tryd.prog 14 #[.string t, .string ⟨#[34]⟩] W fun e w' => e = .returned (.bool (Lib.hasPrefix t.data.toList [34])) ∧ w' = W := fun W => Tryd.strings_HasPrefix t ⟨#[34]⟩ W
  cases hp : Lib.hasPrefix t.data.toList [34] with
  | false =>
    have ha : ans s.data.toList = none := by
      rw [HL.out]
      split
      · rfl
      · rename_i c u hcu
        rw [hcu] at hp
        rw [if_neg]
        intro e
        subst e
        simp [Lib.hasPrefix] at hp
    rw [ha]
    rw [hp] at hq
    clear ha HL hp
    go_enter Tryd.func11, Tryd.ntmps11
    go_wp2_with (first
      | (go_at_call 13; refine hc.mono ?_; rintro e w0 ⟨rfl, hb1⟩)
      | (go_at_call 14; refine (hq _).mono ?_; rintro e w1 ⟨rfl, rfl⟩))
    go_ret3
    exact ⟨rfl, hb1⟩
  | true =>
    obtain ⟨h1, ha⟩ : 1 ≤ t.size ∧ ans s.data.toList = rd (t.data.toList.drop 1) [] := by
      cases hcu : t.data.toList with
      | nil => rw [hcu] at hp; simp [Lib.hasPrefix] at hp
      | cons c u =>
        have : t.data.toList.length = u.length + 1 := by rw [hcu]; rfl
        refine ⟨by simp at this; omega, ?_⟩
        rw [HL.out, hcu]
        rw [hcu] at hp
        simp [Lib.hasPrefix] at hp
        simp [← hp]
    rw [hp] at hq
    rw [ha]
    clear ha HL hp
    obtain ⟨R, HR0⟩ : ∃ R, R = rd (t.data.toList.drop 1) [] := ⟨_, rfl⟩
    rw [← HR0]
    go_enter Tryd.func11, Tryd.ntmps11
    go_wp2_with (first
      | (go_at_call 13; refine hc.mono ?_; rintro e w0 ⟨rfl, hb1⟩)
      | (go_at_call 14; refine (hq _).mono ?_; rintro e w1 ⟨rfl, rfl⟩))
    clear hq hc
    go_loopw [6] (fun i wr => ∃ (k : Nat) (acc : List UInt8), i = .int .i64 k ∧ 1 ≤ k ∧ k ≤ t.size ∧ acc.length ≤ k ∧ Lib.IsBuilderF 33 5 w1.heap.size w1.heap.size (Lib.byteCells acc) wr ∧ Below w1.heap.size w1 wr ∧ rd (t.data.toList.drop k) acc = R)
      (fun i _ => t.size - (intOf i).toNat)
    case atStart =>
      exact ⟨1, [], rfl, Nat.le_refl _, h1, Nat.zero_le _, Lib.IsBuilderF.of (Lib.fresh_isBuilder 33 5 w1), (Below.refl _ w1).alloc (Nat.le_refl _) _, HR0.symm⟩
    case round =>
      obtain ⟨k, acc, rfl, hk1, hk2, hal, hI, hbw, hrd⟩ := hrel
      have HR : Hid (rd (t.data.toList.drop k) acc = R) := hrd
      clear hrd HR0
      have hsz := hbw.size
      by_cases hlt : k < t.size
      · go_wp2_with (first
          | (go_at_call 15; refine (writeByte_k w1.heap.size w1.heap.size _ _ _ hI (by rw [Lib.byteCells_length]; omega) hsz).mono ?_; rintro e w2 ⟨rfl, hI2, hb2, _⟩))
        · have hc : ((t[k].toNat : Int) != 34) = true := by assumption
          go_roundw
          case rel =>
            refine ⟨k + 1, acc ++ [t[k]], by go_num, by omega, by omega, by simp; omega, ?_, hbw.trans hb2, step_other hlt hc HR.out⟩
            rw [Lib.byteCells_append]; exact Or.inr hI2
          case measure => simp [intOf]; omega
        · have hc : ((t[k].toNat : Int) != 34) = false := by assumption
          have hlt2 : k + 1 < t.size := by omega
          have hc2 : ((t[k + 1].toNat : Int) == 34) = true := by assumption
          go_roundw
          case rel =>
            refine ⟨k + 2, acc ++ [34], by go_num, by omega, by omega, by simp; omega, ?_, hbw.trans hb2, step_two hlt2 hc hc2 HR.out⟩
            rw [Lib.byteCells_append]; exact Or.inr hI2
          case measure => simp [intOf]; omega
        · have hc : ((t[k].toNat : Int) != 34) = false := by assumption
          have hlt2 : k + 1 < t.size := by omega
          have hc2 : ((t[k + 1].toNat : Int) == 34) = false := by assumption
          have hend : Hid (R = some (acc, t.data.toList.drop (k + 1))) := step_end hlt hc (fun _ => hc2) HR.out
          have hwr : IntKind.i64.wrap ((k : Int) + 1) = (k : Int) + 1 := by rw [IntKind.wrap_i64]; omega
          have htn : ((k : Int) + 1).toNat = k + 1 := by omega
          have hle : ¬ (t.size : Int) < (k : Int) + 1 := by omega
          have hge : ¬ (k : Int) + 1 < 0 := by omega
          go_region_with (go_at_call 16; refine (Tryd.Builder_String_any_k w1.heap.size w1.heap.size acc _ (by exact hI) (by exact hsz)).mono ?_; rintro e w2 ⟨rfl, _, hb2, _⟩)
          all_goals
            go_wp2
            go_ret3
            exact ⟨by rw [hend.out]; exact congrArg (fun z => Ending.returned (.tuple #[.string ⟨acc.toArray⟩, .string z, .bool true])) (extract_rest t (k + 1)), hb1.trans (((hbw.drew).trans hb2).mono hb1.size)⟩
        · have hc : ((t[k].toNat : Int) != 34) = false := by assumption
          have hend : Hid (R = some (acc, t.data.toList.drop (k + 1))) := step_end hlt hc (fun g => by omega) HR.out
          have hwr : IntKind.i64.wrap ((k : Int) + 1) = (k : Int) + 1 := by rw [IntKind.wrap_i64]; omega
          have htn : ((k : Int) + 1).toNat = k + 1 := by omega
          have hle : ¬ (t.size : Int) < (k : Int) + 1 := by omega
          have hge : ¬ (k : Int) + 1 < 0 := by omega
          go_region_with (go_at_call 16; refine (Tryd.Builder_String_any_k w1.heap.size w1.heap.size acc _ (by exact hI) (by exact hsz)).mono ?_; rintro e w2 ⟨rfl, _, hb2, _⟩)
          all_goals
            go_wp2
            go_ret3
            exact ⟨by rw [hend.out]; exact congrArg (fun z => Ending.returned (.tuple #[.string ⟨acc.toArray⟩, .string z, .bool true])) (extract_rest t (k + 1)), hb1.trans (((hbw.drew).trans hb2).mono hb1.size)⟩
      · have hend := step_out (by omega) HR.out
        go_wp2
        go_ret3
        exact ⟨by rw [hend]; rfl, hb1.trans (hbw.mono hb1.size)⟩
end Go.Proofs.Qxb6604802aDoor
