/-
  nextSubKey at a text that withFirst wrote, walked.
-/
import Derived.Test.Qxb6603964aDoorKey
import Derived.Deep.Draws
import Derived.Laws.Strings2
import Derived.Laws.Strings3
namespace Go.Proofs.Qxb6603964aDoor
open Go.RowKit Go.Proofs Go.Lib

theorem results4 {fn : Func} {t u v x : Tmp} (h : fn.results = #[.tmp t, .tmp u, .tmp v, .tmp x]) (tmps : Array Value) (P : Program) (w : World) :
    (results fn tmps).run P w = .ok (.tuple #[tmps.getD t undef, tmps.getD u undef, tmps.getD v undef, tmps.getD x undef]) w := by
  simp [results, h]
theorem colon_no : ¬ lower 58 ∧ ¬ digit 58 := by unfold lower digit; decide
theorem semi_no : ¬ vchar 59 := by unfold vchar lower digit; decide

/-- What nextSubKey hands back at what withFirst wrote. -/
def NextAns (key value : List UInt8) (w : World) (e : Ending) (w' : World) : Prop :=
  e = .returned (.tuple #[.string ⟨key.toArray⟩, .string ⟨value.toArray⟩, .int .i64 ((key.length + 1 + value.length : Nat) : Int), .bool true]) ∧ ∃ n, w' = w.drewN n

theorem next_end {s : ByteArray} {key value : List UInt8} {i j : Nat} (h1 : (s.extract 0 i).data.toList = key) (h2 : (s.extract (i + 1) j).data.toList = value) (h3 : key.length + 1 + value.length = j) :
    Ending.returned (.tuple #[.string (s.extract 0 i), .string (s.extract (i + 1) j), .int .i64 (j : Int), .bool true]) = .returned (.tuple #[.string ⟨key.toArray⟩, .string ⟨value.toArray⟩, .int .i64 ((key.length + 1 + value.length : Nat) : Int), .bool true]) := by
  have e1 : s.extract 0 i = ⟨key.toArray⟩ := ba_ext h1
  have e2 : s.extract (i + 1) j = ⟨value.toArray⟩ := ba_ext h2
  rw [e1, e2, h3]
set_option maxHeartbeats 4000000 in
set_option maxRecDepth 100000 in
theorem next_any (s : ByteArray) (key value : List UInt8) (t : List (List UInt8 × List UInt8)) (w : World) (hs : s.size ≤ 8388608) (hk : KeyOK key) (hv : ValOK value) (h : s.data.toList = whole key value t) :
    Calls Tryd.prog 16 #[.string s, .int .i64 0] w (NextAns key value w) := by
  have hF : Fr s 0 (key ++ 58 :: (value ++ tail t)) := by
    have := Fr.start s
    rw [h] at this
    exact this
  obtain ⟨c0, k1, rfl, hc0⟩ := hk.first
  obtain ⟨g0, e0, hF1⟩ := Fr.cons hF
  have hp : 0 < s.size := g0
  have hz : (0 : Int) < (s.size : Int) := by omega
  have hne : ((0 : Int) == (s.size : Int)) = false := beq_eq_false_iff_ne.2 (by omega)
  have hy0 := lower_yes c0 w hc0
  have hkx := hF.ext
  rw [Nat.zero_add] at hkx
  have hall := fun c hm => hk.all c (List.mem_cons_of_mem _ hm)
  clear h hk
  go_enter Tryd.func16, Tryd.ntmps16
  go_wp2_with (go_at_call 22; refine hy0.mono ?_; rintro e w1 ⟨rfl, rfl⟩)
  go_loopg [1] k1.length (fun g s1 wx => w = wx ∧ ∃ (i : Nat) (r : List UInt8), r.length = g ∧ s1 = .int .i64 (i : Int) ∧ i + r.length = (c0 :: k1).length ∧ (∀ c ∈ r, lower c ∨ digit c) ∧ Fr s i (r ++ 58 :: (value ++ tail t)))
  case atStart => exact ⟨rfl, 1, k1, rfl, rfl, by simp; omega, hall, hF1⟩
  case round =>
    obtain ⟨rfl, i, r, hr, rfl, hir, hall', hFi⟩ := hrel
    clear hy0 hF1 hall
    cases r with
    | cons d r =>
      obtain ⟨gi, ei, hFn⟩ := Fr.cons hFi
      have hgi : (i : Int) < (s.size : Int) := by omega
      have hN : ∀ c ∈ r, lower c ∨ digit c := fun c hm => hall' c (List.mem_cons_of_mem _ hm)
      have hir' : i + 1 + r.length = (c0 :: k1).length := by rw [← hir, List.length_cons]; omega
      have hr' : r.length + 1 = gk := hr
      have hd := hall' d List.mem_cons_self
      clear hall' hFi hir hr
      by_cases h1 : lower d
      · have hy1 := lower_yes d w h1
        go_wp2_with (go_at_call 22; refine hy1.mono ?_; rintro e w1 ⟨rfl, rfl⟩)
        go_roundg r.length
        case measure => omega
        case rel => exact ⟨rfl, i + 1, r, rfl, by simp, hir', hN, hFn⟩
      · have hy1 := lower_no d w h1
        have hy2 := digit_yes d w (hd.resolve_left h1)
        go_wp2_with (first | (go_at_call 22; refine hy1.mono ?_; rintro e w1 ⟨rfl, rfl⟩) | (go_at_call 23; refine hy2.mono ?_; rintro e w1 ⟨rfl, rfl⟩))
        go_roundg r.length
        case measure => omega
        case rel => exact ⟨rfl, i + 1, r, rfl, by simp, hir', hN, hFn⟩
    | nil =>
      obtain ⟨gi, ei, hFn⟩ := Fr.cons hFi
      have hgi : (i : Int) < (s.size : Int) := by omega
      have hy1 := lower_no 58 w colon_no.1
      have hy2 := digit_no 58 w colon_no.2
      have hi : (c0 :: k1).length = i := hir.symm
      rw [hi] at hkx
      clear hall' hFi hr hir
      have hne2 : ((i : Int) == (s.size : Int)) = false := beq_eq_false_iff_ne.2 (by omega)
      go_wp2_with (first | (go_at_call 22; refine hy1.mono ?_; rintro e w1 ⟨rfl, rfl⟩) | (go_at_call 23; refine hy2.mono ?_; rintro e w1 ⟨rfl, rfl⟩))
      have hvx := hFn.ext
      go_loopg [1] value.length (fun g s1 wx => w = wx ∧ ∃ (j : Nat) (r : List UInt8), r.length = g ∧ s1 = .int .i64 (j : Int) ∧ j + r.length = i + 1 + value.length ∧ (∀ c ∈ r, vchar c) ∧ Fr s j (r ++ tail t))
      case atStart => exact ⟨rfl, i + 1, value, rfl, by simp, rfl, hv, hFn⟩
      case round =>
        obtain ⟨rfl, j, r, hr, rfl, hjr, hall2, hFj⟩ := hrel
        clear hy1 hy2 hFn hF
        have hj1 : (i : Int) + 1 ≤ (j : Int) ∨ ¬ (i : Int) + 1 ≤ (j : Int) := by omega
        cases r with
        | cons d r =>
          obtain ⟨gj, ej, hFn2⟩ := Fr.cons hFj
          have hgj : (j : Int) < (s.size : Int) := by omega
          have hN : ∀ c ∈ r, vchar c := fun c hm => hall2 c (List.mem_cons_of_mem _ hm)
          have hjr' : j + 1 + r.length = i + 1 + value.length := by rw [← hjr, List.length_cons]; omega
          have hr' : r.length + 1 = gk := hr
          have hy := vchar_yes d w (hall2 d List.mem_cons_self)
          clear hall2 hFj hjr hr hj1
          go_wp2_with (go_at_call 24; refine hy.mono ?_; rintro e w1 ⟨rfl, rfl⟩)
          go_roundg r.length
          case measure => omega
          case rel => exact ⟨rfl, j + 1, r, rfl, by simp, hjr', hN, hFn2⟩
        | nil =>
          have hj : i + 1 + value.length = j := hjr.symm
          rw [hj] at hvx
          have hle : (i : Int) + 1 ≤ (j : Int) := by omega
          have hjs : (j : Int) ≤ (s.size : Int) := by have := hvx.2; omega
          have hsl : ∀ W : World, (Instr.slice 9 (.string s) (some (.int .i64 ((i : Int) + 1))) (some (.int .i64 (j : Int))) none).run Tryd.prog W = .ok (.string (s.extract (i + 1) j)) W := fun W => by
            rw [run_slice_string W 9 s .i64 .i64 _ _ Tryd.underlying9 (by omega) hle hjs]
            rfl
          clear hall2 hjr hr hj1
          cases t with
          | nil =>
            have hjz : j = s.size := Fr.nil hFj
            have hnl : ¬ (j : Int) < (s.size : Int) := by omega
            clear hFj hjz
            go_wp2
            go_region
            go_wp2
            refine bodyPost_ret (results4 rfl _ _ _) rfl ?_
            exact ⟨next_end hkx.1 hvx.1 (by omega), _, rfl⟩
          | cons kv t =>
            obtain ⟨gj, ej, _⟩ := Fr.cons hFj
            have hgj : (j : Int) < (s.size : Int) := by omega
            have hy := vchar_no 59 w semi_no
            clear hFj
            go_wp2_with (go_at_call 24; refine hy.mono ?_; rintro e w1 ⟨rfl, rfl⟩)
            go_region
            go_wp2
            refine bodyPost_ret (results4 rfl _ _ _) rfl ?_
            exact ⟨next_end hkx.1 hvx.1 (by omega), _, rfl⟩
end Go.Proofs.Qxb6603964aDoor
