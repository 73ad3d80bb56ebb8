/-
  ZZMakeValue, ZZValueFields, ZZNextSubKey at this seat's dump, walked.
-/
import Derived.Test.Qxb6603964aDoorCut
namespace Go.Proofs.Qxb6603964aDoor
open Go.RowKit Go.Proofs Go.Lib

/-- A Value as a value. -/
abbrev valueOf (x : ByteArray) (a b c d : Int) : Value := .agg #[.string x, .int .u16 a, .int .u16 b, .int .u16 c, .int .u16 d]
theorem results5 {fn : Func} {t u v x y : Tmp} (h : fn.results = #[.tmp t, .tmp u, .tmp v, .tmp x, .tmp y]) (tmps : Array Value) (P : Program) (w : World) :
    (results fn tmps).run P w = .ok (.tuple #[tmps.getD t undef, tmps.getD u undef, tmps.getD v undef, tmps.getD x undef, tmps.getD y undef]) w := by
  simp [results, h]
set_option maxHeartbeats 1000000 in
theorem make_any (x : ByteArray) (a b c d : Int) (w : World) : Calls Tryd.prog 9 #[.string x, .int .u16 a, .int .u16 b, .int .u16 c, .int .u16 d] w fun e w' => e = .returned (valueOf x a b c d) ∧ Below w.heap.size w w' := by
  go_enter Tryd.func9, Tryd.ntmps9
  go_wp2
  refine bodyPost_ret (v := valueOf x a b c d) (by simp [results, Tryd.f9, go_sem]) rfl ⟨rfl, (Below.refl _ w).alloc (Nat.le_refl _) _⟩
set_option maxHeartbeats 1000000 in
theorem fields_any (x : ByteArray) (a b c d : Int) (w : World) : Calls Tryd.prog 10 #[valueOf x a b c d] w fun e w' => e = .returned (.tuple #[.string x, .int .u16 a, .int .u16 b, .int .u16 c, .int .u16 d]) ∧ Below w.heap.size w w' := by
  go_enter Tryd.func10, Tryd.ntmps10
  go_wp2
  go_region
  go_wp2
  refine bodyPost_ret (results5 rfl _ _ _) rfl ⟨rfl, ((Below.refl _ w).alloc (Nat.le_refl _) _).drew⟩
set_option maxHeartbeats 1000000 in
theorem zznext_any (s : ByteArray) (key value : List UInt8) (t : List (List UInt8 × List UInt8)) (w : World) (hs : s.size ≤ 8388608) (hk : KeyOK key) (hv : ValOK value) (h : s.data.toList = whole key value t) :
    Calls Tryd.prog 11 #[.string s, .int .i64 0] w (NextAns key value w) := by
  have hn := next_any s key value t w hs hk hv h
  go_enter Tryd.func11, Tryd.ntmps11
  go_wp2_with fail
  refine hn.mono ?_
  rintro e w1 ⟨rfl, h1⟩
  go_wp2
  refine bodyPost_ret (results4 rfl _ _ _) rfl ⟨rfl, h1⟩
end Go.Proofs.Qxb6603964aDoor
