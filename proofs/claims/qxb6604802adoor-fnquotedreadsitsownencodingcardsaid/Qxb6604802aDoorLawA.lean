/-
  FnQuotedMatchesRunModel at this seat's dump, walked out of the contracts: true, whatever the string.
-/
import Derived.Test.Qxb6604802aDoorModel
namespace Go.Proofs.Qxb6604802aDoor
open Go.Shelf Go.RowKit Go.Proofs Plain

set_option maxHeartbeats 1000000 in
theorem zz_any (s : ByteArray) (w : World) (hs : s.size ≤ 4194304) :
    Calls Tryd.prog 6 #[.string s] w fun e w' => e = .returned (res (ans s.data.toList)) ∧ Below w.heap.size w w' := by
  have hq := quoted_any s w hs
  unfold res at hq ⊢
  generalize ByteArray.mk _ = a at hq ⊢
  generalize (ans s.data.toList).isSome = c at hq ⊢
  generalize ByteArray.mk _ = b at hq ⊢
  go_enter Tryd.func6, Tryd.ntmps6
  go_wp2_with (go_at_call 11; refine hq.mono ?_; rintro e w1 ⟨rfl, hb⟩)
  go_ret3
  exact ⟨rfl, hb⟩

set_option maxHeartbeats 1000000 in
theorem lawA (s : ByteArray) (w : World) (hm : s.size ≤ maxLen) :
    Calls Tryd.prog 3 #[.string s] w fun e w' => e = .returned (.bool true) ∧ Below w.heap.size w w' := by
  unfold maxLen at hm
  by_cases hs : s.size ≤ 1048576
  · have h6 : ∀ W, Calls Tryd.prog 6 #[.string s] W fun e w' => e = .returned (res (ans s.data.toList)) ∧ Below W.heap.size W w' := fun W => zz_any s W (by omega)
    have h7 : ∀ W, Calls Tryd.prog 7 #[.string s] W fun e w' => e = .returned (res (ans s.data.toList)) ∧ Below W.heap.size W w' := fun W => model_any s W hs
    unfold res at h6 h7
    generalize (ByteArray.mk (((ans s.data.toList).map (·.1)).getD []).toArray) = a at h6 h7
    generalize (ByteArray.mk (((ans s.data.toList).map (·.2)).getD []).toArray) = b at h6 h7
    generalize (ans s.data.toList).isSome = c at h6 h7
    go_enter Tryd.func3, Tryd.ntmps3
    go_wp2_with (first
      | (go_at_call 6; refine (h6 _).mono ?_; rintro e w1 ⟨rfl, hb1⟩)
      | (go_at_call 7; refine (h7 _).mono ?_; rintro e w2 ⟨rfl, hb2⟩)
      | go_in)
    go_ret
    exact ⟨rfl, hb1.trans (hb2.mono hb1.size)⟩
  · go_enter Tryd.func3, Tryd.ntmps3
    go_wp2
    go_ret
    exact ⟨rfl, Below.refl _ _⟩
end Go.Proofs.Qxb6604802aDoor
