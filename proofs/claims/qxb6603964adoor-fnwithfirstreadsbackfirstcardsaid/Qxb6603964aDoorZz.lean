/-
  ZZWithFirst at this seat's dump, walked; what the law's own loops look for (no Go).
-/
import Derived.Test.Qxb6603964aDoorWith
namespace Go.Proofs.Qxb6603964aDoor
open Go.RowKit Go.Proofs Go.Lib

set_option maxHeartbeats 2000000 in
set_option maxRecDepth 100000 in
theorem zzwith_any (x : ByteArray) (a b c d : Int) (key : ByteArray) (v : Value) (val : List UInt8) (w : World) (hsee : Sees w v val) (hsz : x.size + key.size + val.length ≤ 1048576) :
    Calls Tryd.prog 8 #[valueOf x a b c d, .string key, v] w (WithAns key val w) := by
  have hB0 : Below w.heap.size w ((w.alloc (.cells #[.string x, .int .u16 a, .int .u16 b, .int .u16 c, .int .u16 d] 31)).alloc zero31) := ((Below.refl _ w).alloc (Nat.le_refl _) _).alloc (by simp) _
  have hw := with_any x a b c d key v val _ (hsee.below hB0) hsz
  obtain ⟨ao, cap, rfl, _⟩ := hsee
  go_enter Tryd.func8, Tryd.ntmps8
  go_wp2_with fail
  refine hw.mono ?_
  have hnew : ((w.alloc (.cells #[.string x, .int .u16 a, .int .u16 b, .int .u16 c, .int .u16 d] 31)).alloc zero31).heap[w.heap.size + 1]? = some zero31 := by
    have := heap_new (w.alloc (.cells #[.string x, .int .u16 a, .int .u16 b, .int .u16 c, .int .u16 d] 31)) zero31
    rwa [World.size_alloc] at this
  have hz : ((w.alloc (.cells #[.string x, .int .u16 a, .int .u16 b, .int .u16 c, .int .u16 d] 31)).alloc zero31).heap.size = w.heap.size + 1 + 1 := by simp
  clear hw
  generalize (w.alloc (.cells #[.string x, .int .u16 a, .int .u16 b, .int .u16 c, .int .u16 d] 31)).alloc zero31 = W0 at hB0 hnew hz ⊢
  rintro e w2 ⟨T, ts, te, rs, re, kept, rfl, hTd, hkept, hTs, t1, t2, hB2⟩
  have gr : w2.heap[w.heap.size + 1]? = some zero31 := (hB2.block _ (by omega)).trans hnew
  have hBw : Below w.heap.size w w2 := hB0.trans (hB2.mono (by omega))
  clear hB0 hnew hz hB2
  obtain ⟨H, hH⟩ : ∃ H, w.heap.size = H := ⟨_, rfl⟩
  rw [hH] at gr hBw ⊢
  have r0 : w2.cell? ⟨H + 1, 0, none⟩ = some (.string ⟨#[]⟩) := by rw [Lib.cell_of_heap gr]; rfl
  have r1 : w2.cell? ⟨H + 1, 1, none⟩ = some (.int .u16 0) := by rw [Lib.cell_of_heap gr]; rfl
  have r2 : w2.cell? ⟨H + 1, 2, none⟩ = some (.int .u16 0) := by rw [Lib.cell_of_heap gr]; rfl
  have r3 : w2.cell? ⟨H + 1, 3, none⟩ = some (.int .u16 0) := by rw [Lib.cell_of_heap gr]; rfl
  have r4 : w2.cell? ⟨H + 1, 4, none⟩ = some (.int .u16 0) := by rw [Lib.cell_of_heap gr]; rfl
  have y0 : w2.frozen? ⟨H + 1, 0, none⟩ = false := Lib.frozen_of_heap gr 0
  have y1 : w2.frozen? ⟨H + 1, 1, none⟩ = false := Lib.frozen_of_heap gr 1
  have y2 : w2.frozen? ⟨H + 1, 2, none⟩ = false := Lib.frozen_of_heap gr 2
  have y3 : w2.frozen? ⟨H + 1, 3, none⟩ = false := Lib.frozen_of_heap gr 3
  have y4 : w2.frozen? ⟨H + 1, 4, none⟩ = false := Lib.frozen_of_heap gr 4
  go_wp2
  have hv7 := ValueAt.all gr T ts te rs re
  have hB7 : Below H w (((((w2.setCell ⟨H + 1, 0, none⟩ (.string T)).setCell ⟨H + 1, 1, none⟩ (.int .u16 ts)).setCell ⟨H + 1, 2, none⟩ (.int .u16 te)).setCell ⟨H + 1, 3, none⟩ (.int .u16 rs)).setCell ⟨H + 1, 4, none⟩ (.int .u16 re)) :=
    ((((hBw.setCell (p := ⟨H + 1, 0, none⟩) (by show H ≤ H + 1; omega) _).setCell (p := ⟨H + 1, 1, none⟩) (by show H ≤ H + 1; omega) _).setCell (p := ⟨H + 1, 2, none⟩) (by show H ≤ H + 1; omega) _).setCell (p := ⟨H + 1, 3, none⟩) (by show H ≤ H + 1; omega) _).setCell (p := ⟨H + 1, 4, none⟩) (by show H ≤ H + 1; omega) _
  generalize (((((w2.setCell ⟨H + 1, 0, none⟩ (.string T)).setCell ⟨H + 1, 1, none⟩ (.int .u16 ts)).setCell ⟨H + 1, 2, none⟩ (.int .u16 te)).setCell ⟨H + 1, 3, none⟩ (.int .u16 rs)).setCell ⟨H + 1, 4, none⟩ (.int .u16 re)) = W8 at hv7 hB7 ⊢
  have n0 : W8.cell? ⟨H + 1, 0, none⟩ = some (.string T) := by rw [Lib.cell_of_heap hv7]; rfl
  have n1 : W8.cell? ⟨H + 1, 1, none⟩ = some (.int .u16 ts) := by rw [Lib.cell_of_heap hv7]; rfl
  have n2 : W8.cell? ⟨H + 1, 2, none⟩ = some (.int .u16 te) := by rw [Lib.cell_of_heap hv7]; rfl
  have n3 : W8.cell? ⟨H + 1, 3, none⟩ = some (.int .u16 rs) := by rw [Lib.cell_of_heap hv7]; rfl
  have n4 : W8.cell? ⟨H + 1, 4, none⟩ = some (.int .u16 re) := by rw [Lib.cell_of_heap hv7]; rfl
  refine bodyPost_ret (v := valueOf T ts te rs re) (by simp [results, Tryd.f8, go_sem, n0, n1, n2, n3, n4]) rfl ⟨T, ts, te, rs, re, kept, rfl, hTd, hkept, hTs, t1, t2, by rw [hH]; exact hB7⟩

/-- Where the law's outer loop stands. -/
def Pos (s : ByteArray) (p : Nat) : List (List UInt8 × List UInt8) → Prop
  | [] => p = s.size + 1
  | kv :: t => Fr s p (kv.1 ++ 58 :: (kv.2 ++ tail t))
theorem pos_next {s : ByteArray} {q : Nat} : ∀ {t : List (List UInt8 × List UInt8)}, Fr s q (tail t) → Pos s (q + 1) t
  | [], h => by show q + 1 = s.size + 1; rw [Fr.nil h]
  | kv :: t, h => by obtain ⟨_, _, h2⟩ := Fr.cons (show Fr s q (59 :: (kv.1 ++ 58 :: (kv.2 ++ tail t))) from h); exact h2
theorem wrap16 (m : Int) (h0 : 0 ≤ m) (h1 : m < 65536) : IntKind.u16.wrap m = m := by
  rw [IntKind.wrap_u16]
  omega
end Go.Proofs.Qxb6603964aDoor
