/-
  FnWithFirstReadsBackFirst at this seat's dump, walked: true, whatever the input.
-/
import Derived.Test.Qxb6603964aDoorZz
import Derived.Deep.QuietTactic
import Derived.BigQuiet
namespace Go.Proofs.Qxb6603964aDoor
open Go.RowKit Go.Proofs Go.Lib

theorem below_then {a b c : World} (h : Below a.heap.size a b) (k : Below b.heap.size b c) : Below a.heap.size a c :=
  ⟨k.os.trans h.os, k.tape.trans h.tape, k.output.trans h.output, Nat.le_trans h.size k.size, fun i hi => (k.block i (Nat.lt_of_lt_of_le hi h.size)).trans (h.block i hi)⟩
theorem own_form {w : World} {B : Nat} {v : Value} {l : List UInt8} (h : w.ownsRow B 5 1 v l.length (Lib.byteCells l)) : ∃ ao cap, v = .slice ao l.length cap := by
  obtain ⟨_, ⟨rfl, h0⟩ | ⟨g, cap, cur, rfl, _⟩⟩ := h
  · exact ⟨none, 0, by rw [h0]⟩
  · exact ⟨_, cap, rfl⟩

set_option maxHeartbeats 8000000 in
set_option maxRecDepth 100000 in
theorem lawF_main (x : ByteArray) (a b c d : Int) (key : ByteArray) (v : Value) (val : List UInt8) (w : World) (hsee : Sees w v val) (hsz : x.size + key.size + val.length ≤ 1048576) :
    Calls Tryd.prog 3 #[.string x, .int .u16 a, .int .u16 b, .int .u16 c, .int .u16 d, .string key, v] w fun e w' => e = .returned (.bool true) ∧ Below w.heap.size w w' := by
  have hkey := keyOK_any key w (by omega)
  have hval := valOK_any v val w hsee (by omega)
  have hcopy := copy_any v val w hsee (by omega)
  obtain ⟨ao, cap, rfl, _⟩ := hsee
  go_enter Tryd.func3, Tryd.ntmps3
  go_wp2_with (go_at_call 4; go_in)
  refine hkey.mono ?_
  rintro e w1 (⟨rfl, hK, rfl⟩ | ⟨rfl, rfl⟩)
  · go_wp2_with fail
    refine hval.mono ?_
    rintro e w1 (⟨rfl, hV, rfl⟩ | ⟨rfl, rfl⟩)
    · go_wp2_with fail
      refine hcopy.mono ?_
      clear hkey hval hcopy
      rintro e w1 ⟨v1, rfl, hown, hg1⟩
      have hs1 := own_sees hown
      obtain ⟨ao1, cap1, rfl⟩ := own_form hown
      have hB1 := below_of_grown hg1
      clear hown hg1
      go_wp2_with fail
      refine (make_any x a b c d w1).mono ?_
      rintro e w2 ⟨rfl, hB2⟩
      have hs2 := hs1.below hB2
      go_wp2_with fail
      refine (zzwith_any x a b c d key _ val w2 hs2 hsz).mono ?_
      rintro e w3 ⟨T, ts, te, rs, re, kept, rfl, hTd, hkept, hTs, t1, t2, hB3⟩
      have hs3 := hs2.below hB3
      have hB4 : Below w3.heap.size w3 (w3.alloc (.cells #[.string T, .int .u16 ts, .int .u16 te, .int .u16 rs, .int .u16 re] 31)) := (Below.refl _ w3).alloc (Nat.le_refl _) _
      have hs4 := hs3.below hB4
      have hBw4 : Below w.heap.size w (w3.alloc (.cells #[.string T, .int .u16 ts, .int .u16 te, .int .u16 rs, .int .u16 re] 31)) := below_then (below_then (below_then hB1 hB2) hB3) hB4
      go_wp2_with fail
      refine (fields_any T ts te rs re _).mono ?_
      clear hB1 hB2 hB3 hB4 hs1 hs2 hs3
      generalize w3.alloc (.cells #[.string T, .int .u16 ts, .int .u16 te, .int .u16 rs, .int .u16 re] 31) = w4 at hs4 hBw4 ⊢
      rintro e w5 ⟨rfl, hB5⟩
      have hs5 := hs4.below hB5
      have hBw5 := below_then hBw4 hB5
      clear hs4 hBw4 hB5
      go_wp2_with fail
      refine (zznext_any T key.data.toList val kept w5 hTs hK hV hTd).mono ?_
      rintro e w6 ⟨rfl, n6, rfl⟩
      have hkeq : (⟨key.data.toList.toArray⟩ : ByteArray) = key := ba_ext rfl
      rw [hkeq, ← Lib.size_eq]
      have hs6 : Sees (w5.drewN n6) (.slice ao1 val.length cap1) val := hs5.below ⟨rfl, rfl, rfl, Nat.le_refl _, fun _ _ => rfl⟩
      have hBw6 : Below w.heap.size w (w5.drewN n6) := hBw5.trans ⟨rfl, rfl, rfl, Nat.le_refl _, fun _ _ => rfl⟩
      generalize w5.drewN n6 = w6 at hs6 hBw6 ⊢
      clear hs5 hBw5 hkeq
      have hconv := sees_string hs6
      have q1 : (key.toList == key.toList) = true := by simp
      have q2 : ((⟨val.toArray⟩ : ByteArray).toList == (⟨val.toArray⟩ : ByteArray).toList) = true := by simp
      have q3 : (((key.size + 1 + val.length : Nat) : Int) == (key.size : Int) + 1 + (val.length : Int)) = true := beq_iff_eq.2 (by simp)
      have hFT : Fr T 0 (key.data.toList ++ 58 :: (val ++ tail kept)) := by
        have := Fr.start T
        rw [hTd] at this
        exact this
      have hF0 : Fr T (key.size + 1) (val ++ tail kept) := by
        have := hFT.app
        rw [Nat.zero_add, ← Lib.size_eq] at this
        obtain ⟨_, _, h2⟩ := Fr.cons this
        exact h2
      have hF1x := hF0.ext.1
      have hF1 := hF0.app
      have hF1s := hF1.1
      have hPos0 := pos_next hF1
      clear hFT hF0 hTd
      go_wp2_with fail
      go_loopg [25, 26, 27] kept.length (fun g s25 s26 s27 wx => w6 = wx ∧ ∃ (p : Nat) (R : List (List UInt8 × List UInt8)), R.length = g ∧ s25 = .int .i64 (p : Int) ∧ Pos T p R ∧ p ≤ T.size + 1 ∧ ∀ kv ∈ R, Kept key.data.toList kv)
      case atStart => exact ⟨rfl, key.size + 1 + val.length + 1, kept, rfl, by simp, hPos0, by omega, hkept⟩
      case round =>
        obtain ⟨rfl, p, R, hR, rfl, hPos, hple, hall⟩ := hrel
        clear hkept hF1 q1 q2 q3 hconv
        cases R with
        | nil =>
          have hpz : ¬ (p : Int) ≤ (T.size : Int) := by have : p = T.size + 1 := hPos; omega
          clear hPos hall
          by_cases hsm : T.size ≤ 65535
          · have hsm' : (T.size : Int) ≤ 65535 := by omega
            by_cases e1 : (key.toList == [116, 104]) = true
            · have e2 : (key.toList == [114, 118]) = false := by
                have e3 := e1
                rw [beq_iff_eq] at e3
                rw [e3]; rfl
              obtain ⟨hts, hte⟩ := t1 e1
              have hts' : ts = ((key.size + 1 : Nat) : Int) := by rw [hts]; exact wrap16 _ (by omega) (by omega)
              have hte' : te = ((key.size + 1 + val.length : Nat) : Int) := by
                rw [hte]
                unfold sp1
                rw [wrap16 _ (by omega) (by omega)]
                simp
              have hex := hF1x
              obtain ⟨A, hA⟩ : ∃ A, key.size + 1 = A := ⟨_, rfl⟩
              obtain ⟨B, hB⟩ : ∃ B, A + val.length = B := ⟨_, rfl⟩
              rw [hA] at hts' hte' hex
              rw [hB] at hte' hex
              have hAB : A ≤ B := by omega
              have hBT : B ≤ T.size := by omega
              have hsl : ∀ W : World, (Instr.slice 9 (.string T) (some (.int .u16 ts)) (some (.int .u16 te)) none).run Tryd.prog W = .ok (.string ⟨val.toArray⟩) W := fun W => by
                rw [hts', hte', run_slice_string W 9 T .u16 .u16 _ _ Tryd.underlying9 (by omega) (by omega) (by omega)]
                have : T.extract A B = ⟨val.toArray⟩ := ba_ext hex
                rw [← this]; rfl
              have hcv : ∀ n, (convert 23 9 (.slice ao1 val.length cap1)).run Tryd.prog (w6.drewN n) = .ok (.string ⟨val.toArray⟩) (w6.drewN n) := fun n => sees_string (hs6.below ⟨rfl, rfl, rfl, Nat.le_refl _, fun _ _ => rfl⟩)
              have hcv0 := sees_string hs6
              have q2 : ((⟨val.toArray⟩ : ByteArray).toList == (⟨val.toArray⟩ : ByteArray).toList) = true := by simp
              have c1 : decide (te < ts) = false := decide_eq_false (by omega)
              have c0 : IntKind.i64.wrap te = te := by rw [IntKind.wrap_i64]; omega
              have c2 : decide ((T.size : Int) < IntKind.i64.wrap te) = false := by rw [c0]; exact decide_eq_false (by omega)
              have c4 : decide ((T.size : Int) < te) = false := decide_eq_false (by omega)
              clear hts' hte' hAB hBT c0
              clear hts hte hA hB hex t1 t2 hF1x hF1s
              go_wp2
              go_quiet (fail)
              go_wp2
              go_ret
              exact ⟨rfl, hBw6.trans ⟨rfl, rfl, rfl, Nat.le_refl _, fun _ _ => rfl⟩⟩
            · have e0 : (key.toList == [116, 104]) = false := by simpa using e1
              clear e1
              by_cases e1 : (key.toList == [114, 118]) = true
              · obtain ⟨hts, hte⟩ := t2 e1
                have hts' : rs = ((key.size + 1 : Nat) : Int) := by rw [hts]; exact wrap16 _ (by omega) (by omega)
                have hte' : re = ((key.size + 1 + val.length : Nat) : Int) := by
                  rw [hte]
                  unfold sp1
                  rw [wrap16 _ (by omega) (by omega)]
                  simp
                have hex := hF1x
                obtain ⟨A, hA⟩ : ∃ A, key.size + 1 = A := ⟨_, rfl⟩
                obtain ⟨B, hB⟩ : ∃ B, A + val.length = B := ⟨_, rfl⟩
                rw [hA] at hts' hte' hex
                rw [hB] at hte' hex
                have hAB : A ≤ B := by omega
                have hBT : B ≤ T.size := by omega
                have hsl : ∀ W : World, (Instr.slice 9 (.string T) (some (.int .u16 rs)) (some (.int .u16 re)) none).run Tryd.prog W = .ok (.string ⟨val.toArray⟩) W := fun W => by
                  rw [hts', hte', run_slice_string W 9 T .u16 .u16 _ _ Tryd.underlying9 (by omega) (by omega) (by omega)]
                  have : T.extract A B = ⟨val.toArray⟩ := ba_ext hex
                  rw [← this]; rfl
                have hcv : ∀ n, (convert 23 9 (.slice ao1 val.length cap1)).run Tryd.prog (w6.drewN n) = .ok (.string ⟨val.toArray⟩) (w6.drewN n) := fun n => sees_string (hs6.below ⟨rfl, rfl, rfl, Nat.le_refl _, fun _ _ => rfl⟩)
                have hcv0 := sees_string hs6
                have q2 : ((⟨val.toArray⟩ : ByteArray).toList == (⟨val.toArray⟩ : ByteArray).toList) = true := by simp
                have c1 : decide (re < rs) = false := decide_eq_false (by omega)
                have c0 : IntKind.i64.wrap re = re := by rw [IntKind.wrap_i64]; omega
                have c2 : decide ((T.size : Int) < IntKind.i64.wrap re) = false := by rw [c0]; exact decide_eq_false (by omega)
                have c4 : decide ((T.size : Int) < re) = false := decide_eq_false (by omega)
                clear hts' hte' hAB hBT c0
                clear hts hte hA hB hex t1 t2 hF1x hF1s
                go_wp2
                go_quiet (fail)
                go_wp2
                go_ret
                exact ⟨rfl, hBw6.trans ⟨rfl, rfl, rfl, Nat.le_refl _, fun _ _ => rfl⟩⟩
              · have e2 : (key.toList == [114, 118]) = false := by simpa using e1
                clear e1 t1 t2
                go_wp2
                go_ret
                exact ⟨rfl, hBw6⟩
          · have hsm' : ¬ (T.size : Int) ≤ 65535 := by omega
            clear t1 t2
            go_wp2
            go_ret
            exact ⟨rfl, hBw6⟩
        | cons kv R =>
          obtain ⟨k, u⟩ := kv
          have hkv : Kept key.data.toList (k, u) := hall _ List.mem_cons_self
          have hall' : ∀ kv ∈ R, Kept key.data.toList kv := fun kv hm => hall kv (List.mem_cons_of_mem _ hm)
          have hPos : Fr T p (k ++ 58 :: (u ++ tail R)) := hPos
          have hps := hPos.1
          have hpz : (p : Int) ≤ (T.size : Int) := by omega
          have hR' : R.length + 1 = gk := hR
          have hF2 : Fr T p ((k ++ 58 :: u) ++ tail R) := by rw [List.append_assoc]; exact hPos
          clear hall hR hPos0
          go_wp2
          go_loopg [26] (k.length + 1 + u.length) (fun g s26 wx => w6 = wx ∧ ∃ (q : Nat) (l : List UInt8), l.length = g ∧ s26 = .int .i64 (q : Int) ∧ q + l.length = p + (k.length + 1 + u.length) ∧ (59 : UInt8) ∉ l ∧ Fr T q (l ++ tail R))
          case atStart => exact ⟨rfl, p, k ++ 58 :: u, by simp; omega, rfl, by simp; omega, fun hm => by
            rcases List.mem_append.1 hm with hm | hm
            · exact hkv.semi1 hm
            · rcases List.mem_cons.1 hm with hm | hm
              · revert hm; decide
              · exact hkv.semi2 hm, hF2⟩
          case round =>
            obtain ⟨rfl, q, l, hl, rfl, hql, hno, hFq⟩ := hrel
            clear hF2
            cases l with
            | cons x0 l =>
              obtain ⟨gq, eq, hFn⟩ := Fr.cons hFq
              have hgq : (q : Int) < (T.size : Int) := by omega
              have hx0 : ((x0.toNat : Int) == 59) = false := beq_eq_false_iff_ne.2 (fun e => hno (by
                have : x0 = 59 := UInt8.toNat_inj.1 (by rw [show (59 : UInt8).toNat = 59 from rfl]; omega)
                rw [this]; exact List.mem_cons_self))
              have hno' : (59 : UInt8) ∉ l := fun h => hno (List.mem_cons_of_mem _ h)
              have hql' : q + 1 + l.length = p + (k.length + 1 + u.length) := by rw [← hql, List.length_cons]; omega
              have hl' : l.length + 1 = gk := hl
              clear hno hFq hql hl
              go_wp2
              go_roundg l.length
              case measure => omega
              case rel => exact ⟨rfl, q + 1, l, rfl, by simp, hql', hno', hFn⟩
            | nil =>
              have hq2 : p + (k.length + 1 + u.length) = q := hql.symm
              have hFq : Fr T q (tail R) := hFq
              have hqT := hFq.1
              have hqT' : (q : Int) ≤ 8388608 := by omega
              clear hql hl hno
              cases hRc : R with
              | nil =>
                have hqz : q = T.size := by rw [hRc] at hFq; exact Fr.nil hFq
                have hgq : ¬ (q : Int) < (T.size : Int) := by omega
                clear hqz
                clear hRc
                go_wp2
                go_loopg [27] k.length (fun g s27 wx => w6 = wx ∧ ∃ (c : Nat) (l : List UInt8), l.length = g ∧ s27 = .int .i64 (c : Int) ∧ c + l.length = p + k.length ∧ (58 : UInt8) ∉ l ∧ Fr T c (l ++ 58 :: (u ++ tail R)))
                case atStart => exact ⟨rfl, p, k, rfl, rfl, rfl, hkv.colon, hPos⟩
                case round =>
                  obtain ⟨rfl, c, l, hl, rfl, hcl, hno, hFc⟩ := hrel
                  cases l with
                  | cons x0 l =>
                    obtain ⟨gc, ec, hFn⟩ := Fr.cons hFc
                    have hgc : (c : Int) < (T.size : Int) := by omega
                    have hx0 : ((x0.toNat : Int) == 58) = false := beq_eq_false_iff_ne.2 (fun e => hno (by
                      have : x0 = 58 := UInt8.toNat_inj.1 (by rw [show (58 : UInt8).toNat = 58 from rfl]; omega)
                      rw [this]; exact List.mem_cons_self))
                    have hno' : (58 : UInt8) ∉ l := fun h => hno (List.mem_cons_of_mem _ h)
                    have hcl' : c + 1 + l.length = p + k.length := by rw [← hcl, List.length_cons]; omega
                    have hcq : (c : Int) < (q : Int) := by omega
                    have hl' : l.length + 1 = gk := hl
                    clear hno hFc hcl hl
                    go_wp2
                    go_roundg l.length
                    case measure => omega
                    case rel => exact ⟨rfl, c + 1, l, rfl, by simp, hcl', hno', hFn⟩
                  | nil =>
                    obtain ⟨gc, ec, _⟩ := Fr.cons hFc
                    have hc2 : p + k.length = c := hcl.symm
                    have hgc : (c : Int) < (T.size : Int) := by omega
                    have hcq : (c : Int) < (q : Int) := by omega
                    have hsl : ∀ W : World, (Instr.slice 9 (.string T) (some (.int .i64 (p : Int))) (some (.int .i64 (c : Int))) none).run Tryd.prog W = .ok (.string (T.extract p c)) W := fun W => by
                      rw [run_slice_string W 9 T .i64 .i64 _ _ Tryd.underlying9 (by omega) (by omega) (by omega)]
                      rfl
                    have hck : ((T.extract p c).toList == key.toList) = false := by
                      have hk := hPos.ext
                      rw [hc2] at hk
                      rw [Lib.toList_data, Lib.toList_data, hk.1]
                      exact beq_eq_false_iff_ne.2 hkv.ne
                    clear hFc hcl hl hno
                    go_wp2
                    go_roundg R.length
                    case measure => omega
                    case rel => exact ⟨rfl, q + 1, R, rfl, by simp, pos_next hFq, by have := hFq.1; omega, hall'⟩
              | cons kv2 R2 =>
                obtain ⟨gq, eq, _⟩ := Fr.cons (show Fr T q (59 :: (kv2.1 ++ 58 :: (kv2.2 ++ tail R2))) by rw [hRc] at hFq; exact hFq)
                have hgq : (q : Int) < (T.size : Int) := by omega
                clear hRc
                go_wp2
                go_loopg [27] k.length (fun g s27 wx => w6 = wx ∧ ∃ (c : Nat) (l : List UInt8), l.length = g ∧ s27 = .int .i64 (c : Int) ∧ c + l.length = p + k.length ∧ (58 : UInt8) ∉ l ∧ Fr T c (l ++ 58 :: (u ++ tail R)))
                case atStart => exact ⟨rfl, p, k, rfl, rfl, rfl, hkv.colon, hPos⟩
                case round =>
                  obtain ⟨rfl, c, l, hl, rfl, hcl, hno, hFc⟩ := hrel
                  cases l with
                  | cons x0 l =>
                    obtain ⟨gc, ec, hFn⟩ := Fr.cons hFc
                    have hgc : (c : Int) < (T.size : Int) := by omega
                    have hx0 : ((x0.toNat : Int) == 58) = false := beq_eq_false_iff_ne.2 (fun e => hno (by
                      have : x0 = 58 := UInt8.toNat_inj.1 (by rw [show (58 : UInt8).toNat = 58 from rfl]; omega)
                      rw [this]; exact List.mem_cons_self))
                    have hno' : (58 : UInt8) ∉ l := fun h => hno (List.mem_cons_of_mem _ h)
                    have hcl' : c + 1 + l.length = p + k.length := by rw [← hcl, List.length_cons]; omega
                    have hcq : (c : Int) < (q : Int) := by omega
                    have hl' : l.length + 1 = gk := hl
                    clear hno hFc hcl hl
                    go_wp2
                    go_roundg l.length
                    case measure => omega
                    case rel => exact ⟨rfl, c + 1, l, rfl, by simp, hcl', hno', hFn⟩
                  | nil =>
                    obtain ⟨gc, ec, _⟩ := Fr.cons hFc
                    have hc2 : p + k.length = c := hcl.symm
                    have hgc : (c : Int) < (T.size : Int) := by omega
                    have hcq : (c : Int) < (q : Int) := by omega
                    have hsl : ∀ W : World, (Instr.slice 9 (.string T) (some (.int .i64 (p : Int))) (some (.int .i64 (c : Int))) none).run Tryd.prog W = .ok (.string (T.extract p c)) W := fun W => by
                      rw [run_slice_string W 9 T .i64 .i64 _ _ Tryd.underlying9 (by omega) (by omega) (by omega)]
                      rfl
                    have hck : ((T.extract p c).toList == key.toList) = false := by
                      have hk := hPos.ext
                      rw [hc2] at hk
                      rw [Lib.toList_data, Lib.toList_data, hk.1]
                      exact beq_eq_false_iff_ne.2 hkv.ne
                    clear hFc hcl hl hno
                    go_wp2
                    go_roundg R.length
                    case measure => omega
                    case rel => exact ⟨rfl, q + 1, R, rfl, by simp, pos_next hFq, by have := hFq.1; omega, hall'⟩
    · go_wp2
      go_ret
      exact ⟨rfl, Below.refl _ _⟩
  · go_wp2
    go_ret
    exact ⟨rfl, Below.refl _ _⟩

set_option maxHeartbeats 2000000 in
set_option maxRecDepth 100000 in
theorem lawF (x : ByteArray) (a b c d : Int) (key : ByteArray) (v : Value) (val : List UInt8) (w : World) (hsee : Sees w v val) (h1 : x.size ≤ maxLen) (h2 : key.size ≤ maxLen) (h3 : val.length ≤ maxLen) :
    Calls Tryd.prog 3 #[.string x, .int .u16 a, .int .u16 b, .int .u16 c, .int .u16 d, .string key, v] w fun e w' => e = .returned (.bool true) ∧ Below w.heap.size w w' := by
  by_cases hsz : x.size + key.size + val.length ≤ 1048576
  · exact lawF_main x a b c d key v val w hsee hsz
  · obtain ⟨ao, cap, rfl, _⟩ := hsee
    unfold maxLen at h1 h2 h3
    go_enter Tryd.func3, Tryd.ntmps3
    go_wp2_with (go_at_call 4; go_in)
    all_goals
      first
        | (exfalso; omega)
        | (go_ret
           exact ⟨rfl, Below.refl _ _⟩)
end Go.Proofs.Qxb6603964aDoor
