/-
  FnQuotedReadsItsOwnEncoding at this seat's dump, walked out of the contracts: true, whatever the three strings.
-/
import Derived.Test.Qxb6604802aDoorEncode
import Derived.Test.Qxb6604802aDoorLawA
namespace Go.Proofs.Qxb6604802aDoor
open Go.Shelf Go.RowKit Go.Proofs Plain

theorem data_app (a b : ByteArray) : (a ++ b).data.toList = a.data.toList ++ b.data.toList := by simp

set_option maxHeartbeats 2000000 in
theorem lawB (p v r : ByteArray) (w : World) (hp : p.size ≤ maxLen) (hv : v.size ≤ maxLen) (hr : r.size ≤ maxLen) :
    Calls Tryd.prog 4 #[.string p, .string v, .string r] w fun e w' => e = .returned (.bool true) ∧ Below w.heap.size w w' := by
  unfold maxLen at hp hv hr
  by_cases hs : p.size ≤ 1048576 ∧ v.size ≤ 1048576 ∧ r.size ≤ 1048576 ∧ p.size + v.size ≤ 1048576 ∧ p.size + v.size + r.size ≤ 1048576
  · obtain ⟨h1, h2, h3, h4, h5⟩ := hs
    have h9 := fun W => allBlanks_any p W h1
    cases hbl : blanks p.data.toList with
    | false =>
      rw [hbl] at h9
      clear hbl
      go_enter Tryd.func4, Tryd.ntmps4
      go_wp2_with (first
        | (go_at_call 9; refine (h9 _).mono ?_; rintro e w1 ⟨rfl, rfl⟩)
        | go_in)
      go_ret
      exact ⟨rfl, Below.refl _ _⟩
    | true =>
      rw [hbl] at h9
      by_cases hq : ∃ g : 0 < r.size, r[0] = 34
      · obtain ⟨g, hq⟩ := hq
        have hq' : ((r[0].toNat : Int) == 34) = true := by rw [hq]; rfl
        clear hq hbl
        go_enter Tryd.func4, Tryd.ntmps4
        go_wp2_with (first
          | (go_at_call 9; refine (h9 _).mono ?_; rintro e w1 ⟨rfl, rfl⟩)
          | go_in)
        go_ret
        exact ⟨rfl, Below.refl _ _⟩
      · have hq' : ∀ g : 0 < r.size, ((r[0].toNat : Int) == 34) = false := by
          intro g
          have h : r[0].toNat ≠ 34 := fun h => hq ⟨g, UInt8.toNat_inj.1 h⟩
          simp; omega
        have hru : ∀ u, r.data.toList ≠ 34 :: u := by
          intro u hu
          have g : 0 < r.size := by
            have := congrArg List.length hu
            simp at this; omega
          have := drop_at r 0 g
          rw [List.drop_zero, hu] at this
          exact hq ⟨g, (List.cons.inj this).1.symm⟩
        clear hq
        obtain ⟨E, hE⟩ : ∃ E : ByteArray, E = ⟨(34 :: enc v.data.toList ++ [34]).toArray⟩ := ⟨_, rfl⟩
        have h10 := fun W => encode_any v W h2
        rw [← hE] at h10
        have hEs : E.size ≤ 2 * v.size + 2 := by
          have := enc_length v.data.toList
          rw [hE]
          show (34 :: enc v.data.toList ++ [34]).toArray.size ≤ _
          simp at this ⊢; omega
        have hans : ans (p ++ E ++ r).data.toList = some (v.data.toList, r.data.toList) := by
          rw [data_app, data_app, hE]
          exact ans_enc _ _ _ (blanks_mem hbl) hru
        have h6 := fun W => zz_any (p ++ E ++ r) W (by simp only [ByteArray.size_append]; omega)
        rw [hans] at h6
        have hres : res (some (v.data.toList, r.data.toList)) = .tuple #[.string v, .string r, .bool true] := rfl
        rw [hres] at h6
        clear hans hres hru hE hbl
        by_cases hr0 : 0 < r.size
        all_goals
          try have hq2 := hq' hr0
          clear hq'
          go_enter Tryd.func4, Tryd.ntmps4
          go_wp2_with (first
            | (go_at_call 9; refine (h9 _).mono ?_; rintro e w1 ⟨rfl, rfl⟩)
            | (go_at_call 10; refine (h10 _).mono ?_; rintro e w2 ⟨rfl, hb2⟩)
            | (go_at_call 6; refine (h6 _).mono ?_; rintro e w3 ⟨rfl, hb3⟩)
            | go_in)
          go_ret
          exact ⟨rfl, hb2.trans (hb3.mono hb2.size)⟩
  · go_enter Tryd.func4, Tryd.ntmps4
    go_wp2_with go_in
    all_goals
      go_ret
      exact ⟨rfl, Below.refl _ _⟩
end Go.Proofs.Qxb6604802aDoor
