/-
  zzMatchQuoted at this seat's dump, walked: it reads back what strconv.Quote wrote.
-/
import Derived.Test.Qxb6601947aDoorDecode
import Derived.Test.Qxb6601947aDoorRound
namespace Go.Proofs.Qxb6601947aDoor
open Go.RowKit Go.Proofs Go.Lib

def Drawn (w w' : World) : Prop := ∃ n, w' = w.drewN n
theorem Drawn.refl (w : World) : Drawn w w := ⟨0, rfl⟩
theorem Drawn.more {w w' : World} (h : Drawn w w') (n : Nat) : Drawn w (w'.drewN n) := by
  obtain ⟨m, rfl⟩ := h
  exact ⟨m + n, by simp⟩

/-- It answers v; the world is as it was. -/
def Ans (v : Value) (w : World) (e : Ending) (w' : World) : Prop := e = .returned v ∧ w = w'
theorem Ans.of {f : FuncId} {args : Array Value} {v : Value} {w : World} (h : Calls Tryd.prog f args w fun e w' => e = .returned v ∧ w' = w) : Calls Tryd.prog f args w (Ans v w) :=
  h.mono fun _ _ ⟨h1, h2⟩ => ⟨h1, h2.symm⟩
theorem byte_yes (s : ByteArray) (p : Nat) (c : Int) (l : List Int) (w : World) (h : From s p (c :: l)) :
    Calls Tryd.prog 15 #[.string s, .int .i64 (p : Int), .int .u8 c] w (Ans (.bool true) w) := by
  have := byte_any s p c c l w h
  rw [beq_self_eq_true] at this
  exact Ans.of this
theorem byte_yes1 (s : ByteArray) (p : Nat) (c : Int) (l : List Int) (w : World) (h : From s (p + 1) (c :: l)) :
    Calls Tryd.prog 15 #[.string s, .int .i64 ((p : Int) + 1), .int .u8 c] w (Ans (.bool true) w) := byte_yes s (p + 1) c l w h
theorem byte_no (s : ByteArray) (p : Nat) (c x : Int) (l : List Int) (w : World) (h : From s p (x :: l)) (hx : x ≠ c) :
    Calls Tryd.prog 15 #[.string s, .int .i64 (p : Int), .int .u8 c] w (Ans (.bool false) w) := by
  have := byte_any s p c x l w h
  rw [beq_eq_false_iff_ne.2 hx] at this
  exact Ans.of this
theorem hex_yes2 (s : ByteArray) (p v k : Nat) (l : List Int) (w : World) (hs : s.size ≤ 1073741824) (hk : k ≤ 8) (h : From s (p + 2) (hexDigits v k ++ l)) :
    Calls Tryd.prog 18 #[.string s, .int .i64 ((p : Int) + 2), .int .u32 (v : Int), .int .i64 (k : Int)] w (Ans (.bool true) w) := Ans.of (hex_any s (p + 2) v k l w hs hk h)
theorem hexDigits_len (v : Nat) : ∀ k, (hexDigits v k).length = k
  | 0 => rfl
  | k + 1 => by unfold hexDigits; rw [List.length_cons, hexDigits_len v k]
theorem From.next {s : ByteArray} {p : Nat} {x : Int} {l : List Int} (h : From s p (x :: l)) : From s (p + 1) l := by
  obtain ⟨_, _, h⟩ := h.cons; exact h
theorem From.hex {s : ByteArray} {p v k : Nat} {l : List Int} (h : From s p (hexDigits v k ++ l)) : From s (p + k) l := by
  have := h.app
  rw [hexDigits_len] at this
  exact this
theorem From.str {s t : ByteArray} {p : Nat} {l : List Int} (h : From s p (ints t.data.toList ++ l)) : From s (p + t.size) l := by
  have := h.app
  rw [show (ints t.data.toList).length = t.size by simp [ints]] at this
  exact this
/-- What zzMatchQuoted hands back. -/
def Matched (out : ByteArray) (X : List Int) (w : World) (e : Ending) (w' : World) : Prop := (∃ q : Nat, e = .returned (.tuple #[.int .i64 (q : Int), .bool true]) ∧ From out q X) ∧ Drawn w w'

set_option maxHeartbeats 8000000 in
set_option maxRecDepth 100000 in
theorem match_any (T : PrintTabs) (out s : ByteArray) (p : Nat) (X : List Int) (w : World) (ho : out.size ≤ 1073741824) (hs : s.size ≤ 1073741824) (h : From out p (quoteZ T s ++ X)) :
    Calls Tryd.prog 9 #[.string out, .int .i64 (p : Int), .string s] w (Matched out X w) := by
  have hp := h.1
  have h' : From out p (34 :: (quoteFrom T s.size s ++ 34 :: X)) := by
    have e : quoteZ T s ++ X = 34 :: (quoteFrom T s.size s ++ 34 :: X) := by unfold quoteZ; simp
    rw [← e]; exact h
  have hb0 := byte_yes out p 34 _ w h'
  have h1 := h'.next
  have hself : s.extract 0 s.size = s := bytes_ext (by rw [rest_drop, List.drop_zero])
  clear h h'
  go_enter Tryd.func9, Tryd.ntmps9
  go_wp2_with fail
  refine hb0.mono ?_
  rintro e w1 ⟨rfl, rfl⟩
  go_wp2
  go_loopg [1, 8] s.size (fun g s1 s8 wx => ∃ i q f : Nat, i + g = s.size ∧ s1 = .int .i64 (q : Int) ∧ s8 = .int .i64 (i : Int) ∧ s.size - i ≤ f ∧ From out q (quoteFrom T f (s.extract i s.size) ++ 34 :: X) ∧ Drawn w wx)
  case atStart => exact ⟨0, p + 1, s.size, by omega, by simp, rfl, by omega, by rw [hself]; exact h1, Drawn.refl w⟩
  case round =>
    obtain ⟨i, q, f, hig, rfl, rfl, hf, hF, hD⟩ := hrel
    clear hb0 h1 hself
    have hq := hF.1
    cases gk with
    | zero =>
      have hiz : ¬ (i : Int) < (s.size : Int) := by omega
      rw [quoteFrom_end T f _ (by rw [size_rest]; omega)] at hF
      have hb := byte_yes out q 34 _ wr hF
      have hE := hF.next
      clear hF hig hf
      go_wp2_with fail
      refine hb.mono ?_
      rintro e w1 ⟨rfl, rfl⟩
      go_wp2
      go_ret2
      exact ⟨⟨q + 1, rfl, hE⟩, hD⟩
    | succ g =>
      have hi : i < s.size := by omega
      obtain ⟨Y, hR, hN, ⟨hk0, hk1⟩, hr⟩ := round_at T out s q i f X hi hf hF
      have hdec := decode_any s i wr hi hs
      unfold zdec at hdec
      generalize dec (s.data.toList.drop i) = d at hdec hR hN hk0 hk1 hr
      obtain ⟨r, k⟩ := d
      dsimp only at hdec hR hN hk0 hk1 hr
      generalize (!decide (k = 1 ∧ r = 65533)) = v at hdec hR
      obtain ⟨c, hc⟩ : ∃ c, s[i].toNat = c := ⟨_, rfl⟩
      have hc8 : c < 256 := by rw [← hc]; exact s[i].toNat_lt
      rw [hc] at hR
      have hnm : ∀ W, Calls Tryd.prog 17 #[.int .u8 (c : Int)] W (Ans (.int .u8 (named c : Int)) W) := fun W => Ans.of (named_any c W)
      clear hF
      have hx : (s[i].toNat : Int) = (c : Int) := by rw [hc]
      go_wp2_with fail
      refine hdec.mono ?_
      rintro e w1 ⟨rfl, n1, rfl⟩
      have hD1 := hD.more n1
      clear hdec hD
      generalize wr.drewN n1 = w1 at hD1 ⊢
      have hn := hnm w1
      clear hnm hc
      have z2 : (i : Int) < (s.size : Int) := by omega
      rcases hR with ⟨hk, rfl, hcx, h⟩ | ⟨hk, rfl, h1, h2, h3, h4, h⟩ | ⟨hk, rfl, h1, h2, h⟩ | ⟨hk, rfl, h⟩ | ⟨hk, rfl, h1, h2, h⟩ | ⟨hk, rfl, h1, h⟩ | ⟨hk, hr2, h⟩ | ⟨hk, hr2, h⟩ | ⟨hk, y, l, hy, h0, h⟩
      · -- esc
        rw [hk] at hN
        have hk' : ((k : Int) == 1) = true := beq_iff_eq.2 (by omega)
        have b0 := byte_yes out q 92 _ w1 h
        have b1 := byte_yes1 out q (c : Int) _ w1 h.next
        have hE := hN _ h.next.next
        clear h hN
        have hcc : ((c : Int) == 34) = true ∨ (((c : Int) == 34) = false ∧ ((c : Int) == 92) = true) := by
          rcases hcx with e | e
          · left; rw [e]; rfl
          · right; rw [e]; exact ⟨rfl, rfl⟩
        clear hcx
        have c0 : 0 ≤ (c : Int) := by omega
        have c1 : (c : Int) < 256 := by omega
        generalize (named c : Int) = nm at *
        generalize (c : Int) = xi at *
        rcases hcc with e34 | ⟨e34, e92⟩
        all_goals
          go_wp2_with fail
          refine hn.mono ?_
          rintro e w2 ⟨rfl, rfl⟩
          go_wp2_with fail
          refine b0.mono ?_
          rintro e w2 ⟨rfl, rfl⟩
          go_wp2_with fail
          refine b1.mono ?_
          rintro e w2 ⟨rfl, rfl⟩
          go_wp2
          go_roundg (g)
          case measure => omega
          case rel => exact ⟨i + 1, q + 2, f - 1, by omega, by simp, by simp, by omega, hE, hD1⟩
      · -- raw
        rw [hk] at hN
        have hk' : ((k : Int) == 1) = true := beq_iff_eq.2 (by omega)
        have b0 := byte_yes out q (c : Int) _ w1 h
        have hE := hN _ h.next
        clear h hN
        have e34 : ((c : Int) == 34) = false := beq_eq_false_iff_ne.2 (by omega)
        have e92 : ((c : Int) == 92) = false := beq_eq_false_iff_ne.2 (by omega)
        have l1 : (32 : Int) ≤ (c : Int) := by omega
        have l2 : (c : Int) ≤ 126 := by omega
        clear h1 h2 h3 h4 hc8
        generalize (named c : Int) = nm at *
        generalize (c : Int) = xi at *
        go_wp2_with fail
        refine hn.mono ?_
        rintro e w2 ⟨rfl, rfl⟩
        go_wp2_with fail
        refine b0.mono ?_
        rintro e w2 ⟨rfl, rfl⟩
        go_wp2
        go_roundg (g)
        case measure => omega
        case rel => exact ⟨i + 1, q + 1, f - 1, by omega, by simp, by simp, by omega, hE, hD1⟩
      · -- nam
        rw [hk] at hN
        have hk' : ((k : Int) == 1) = true := beq_iff_eq.2 (by omega)
        have b0 := byte_yes out q 92 _ w1 h
        have b1 := byte_yes1 out q (named c : Int) _ w1 h.next
        have hE := hN _ h.next.next
        clear h hN
        have e34 : ((c : Int) == 34) = false := beq_eq_false_iff_ne.2 (by omega)
        have e92 : ((c : Int) == 92) = false := beq_eq_false_iff_ne.2 (by omega)
        have l1 : ¬ (32 : Int) ≤ (c : Int) := by omega
        have en : ((named c : Int) == 0) = false := beq_eq_false_iff_ne.2 (by omega)
        clear h1 h2 hc8
        generalize (named c : Int) = nm at *
        generalize (c : Int) = xi at *
        go_wp2_with fail
        refine hn.mono ?_
        rintro e w2 ⟨rfl, rfl⟩
        go_wp2_with fail
        refine b0.mono ?_
        rintro e w2 ⟨rfl, rfl⟩
        go_wp2_with fail
        refine b1.mono ?_
        rintro e w2 ⟨rfl, rfl⟩
        go_wp2
        go_roundg (g)
        case measure => omega
        case rel => exact ⟨i + 1, q + 2, f - 1, by omega, by simp, by simp, by omega, hE, hD1⟩
      · -- bad
        rw [hk] at hN
        have hk' : ((k : Int) == 1) = true := beq_iff_eq.2 (by omega)
        have b0 := byte_yes out q 92 _ w1 h
        have b1 := byte_yes1 out q 120 _ w1 h.next
        have hh := hex_yes2 out q c 2 _ w1 ho (by omega) h.next.next
        have hE := hN _ h.next.next.hex
        clear h hN
        have x0 : 0 ≤ (c : Int) := by omega
        have x1 : (c : Int) < 256 := by omega
        clear hc8
        generalize (named c : Int) = nm at *
        generalize (c : Int) = xi at *
        go_wp2_with fail
        refine hn.mono ?_
        rintro e w2 ⟨rfl, rfl⟩
        go_wp2_with fail
        refine b0.mono ?_
        rintro e w2 ⟨rfl, rfl⟩
        go_wp2_with fail
        refine b1.mono ?_
        rintro e w2 ⟨rfl, rfl⟩
        go_wp2_with fail
        refine hh.mono ?_
        rintro e w2 ⟨rfl, rfl⟩
        go_wp2
        go_roundg (g)
        case measure => omega
        case rel => exact ⟨i + 1, q + 4, f - 1, by omega, by simp, by simp, by omega, hE, hD1⟩
      · -- low
        rw [hk] at hN
        have hk' : ((k : Int) == 1) = true := beq_iff_eq.2 (by omega)
        have b0 := byte_yes out q 92 _ w1 h
        have b1 := byte_yes1 out q 120 _ w1 h.next
        have hh := hex_yes2 out q c 2 _ w1 ho (by omega) h.next.next
        have hE := hN _ h.next.next.hex
        clear h hN
        have e34 : ((c : Int) == 34) = false := beq_eq_false_iff_ne.2 (by omega)
        have e92 : ((c : Int) == 92) = false := beq_eq_false_iff_ne.2 (by omega)
        have x0 : 0 ≤ (c : Int) := by omega
        have x1 : (c : Int) < 256 := by omega
        have l1 : ¬ (32 : Int) ≤ (c : Int) := by omega
        have en : ((named c : Int) == 0) = true := beq_iff_eq.2 (by omega)
        clear h1 h2 hc8
        generalize (named c : Int) = nm at *
        generalize (c : Int) = xi at *
        go_wp2_with fail
        refine hn.mono ?_
        rintro e w2 ⟨rfl, rfl⟩
        go_wp2_with fail
        refine b0.mono ?_
        rintro e w2 ⟨rfl, rfl⟩
        go_wp2_with fail
        refine b1.mono ?_
        rintro e w2 ⟨rfl, rfl⟩
        go_wp2_with fail
        refine hh.mono ?_
        rintro e w2 ⟨rfl, rfl⟩
        go_wp2
        go_roundg (g)
        case measure => omega
        case rel => exact ⟨i + 1, q + 4, f - 1, by omega, by simp, by simp, by omega, hE, hD1⟩
      · -- del
        rw [hk] at hN
        have hk' : ((k : Int) == 1) = true := beq_iff_eq.2 (by omega)
        have b0 := byte_yes out q 92 _ w1 h
        have b1 := byte_yes1 out q 120 _ w1 h.next
        have hh := hex_yes2 out q c 2 _ w1 ho (by omega) h.next.next
        have hE := hN _ h.next.next.hex
        clear h hN
        have e34 : ((c : Int) == 34) = false := beq_eq_false_iff_ne.2 (by omega)
        have e92 : ((c : Int) == 92) = false := beq_eq_false_iff_ne.2 (by omega)
        have x0 : 0 ≤ (c : Int) := by omega
        have x1 : (c : Int) < 256 := by omega
        have l1 : (32 : Int) ≤ (c : Int) := by omega
        have l2 : ¬ (c : Int) ≤ 126 := by omega
        have en : ((named c : Int) == 0) = true := by rw [h1]; rfl
        clear h1 hc8
        generalize (named c : Int) = nm at *
        generalize (c : Int) = xi at *
        go_wp2_with fail
        refine hn.mono ?_
        rintro e w2 ⟨rfl, rfl⟩
        go_wp2_with fail
        refine b0.mono ?_
        rintro e w2 ⟨rfl, rfl⟩
        go_wp2_with fail
        refine b1.mono ?_
        rintro e w2 ⟨rfl, rfl⟩
        go_wp2_with fail
        refine hh.mono ?_
        rintro e w2 ⟨rfl, rfl⟩
        go_wp2
        go_roundg (g)
        case measure => omega
        case rel => exact ⟨i + 1, q + 4, f - 1, by omega, by simp, by simp, by omega, hE, hD1⟩
      · -- four
        have hk' : ((k : Int) == 1) = false := beq_eq_false_iff_ne.2 (by omega)
        have b0 := byte_yes out q 92 _ w1 h
        have b1 := byte_yes1 out q 117 _ w1 h.next
        have hh := hex_yes2 out q r 4 _ w1 ho (by omega) h.next.next
        have hE := hN _ h.next.next.hex
        clear h hN hn
        have hr3 : (r : Int) < 65536 := by omega
        have r0 : 0 ≤ (r : Int) := by omega
        have r1 : (r : Int) ≤ 1114111 := by omega
        clear hr hr2
        generalize (r : Int) = ri at *
        go_wp2_with fail
        refine b0.mono ?_
        rintro e w2 ⟨rfl, rfl⟩
        go_wp2_with fail
        refine b1.mono ?_
        rintro e w2 ⟨rfl, rfl⟩
        go_wp2_with fail
        refine hh.mono ?_
        rintro e w2 ⟨rfl, rfl⟩
        go_wp2
        go_roundg (g + 1 - k)
        case measure => omega
        case rel => exact ⟨i + k, q + 6, f - 1, by omega, by simp, by simp, by omega, hE, hD1⟩
      · -- eight
        have hk' : ((k : Int) == 1) = false := beq_eq_false_iff_ne.2 (by omega)
        have b0 := byte_yes out q 92 _ w1 h
        have b1 := byte_yes1 out q 85 _ w1 h.next
        have hh := hex_yes2 out q r 8 _ w1 ho (by omega) h.next.next
        have hE := hN _ h.next.next.hex
        clear h hN hn
        have hr3 : ¬ (r : Int) < 65536 := by omega
        have r0 : 0 ≤ (r : Int) := by omega
        have r1 : (r : Int) ≤ 1114111 := by omega
        clear hr hr2
        generalize (r : Int) = ri at *
        go_wp2_with fail
        refine b0.mono ?_
        rintro e w2 ⟨rfl, rfl⟩
        go_wp2_with fail
        refine b1.mono ?_
        rintro e w2 ⟨rfl, rfl⟩
        go_wp2_with fail
        refine hh.mono ?_
        rintro e w2 ⟨rfl, rfl⟩
        go_wp2
        go_roundg (g + 1 - k)
        case measure => omega
        case rel => exact ⟨i + k, q + 10, f - 1, by omega, by simp, by simp, by omega, hE, hD1⟩
      · -- lit
        have hk' : ((k : Int) == 1) = false := beq_eq_false_iff_ne.2 (by omega)
        have b0 := byte_no out q 92 y _ w1 h0 hy
        have hz : (s.extract i (i + k)).size = k := by rw [ByteArray.size_extract]; omega
        have ha := Ans.of (at_any out (s.extract i (i + k)) q _ w1 ho h)
        have hE : From out (q + k) _ := hN _ (by have := h.str; rw [hz] at this; exact this)
        have hqk := hE.1
        clear h hN hn h0
        go_wp2_with fail
        refine b0.mono ?_
        rintro e w2 ⟨rfl, rfl⟩
        go_wp2_with fail
        refine ha.mono ?_
        rintro e w2 ⟨rfl, rfl⟩
        go_wp2
        go_roundg (g + 1 - k)
        case measure => omega
        case rel => exact ⟨i + k, q + k, f - 1, by omega, by simp, by simp, by omega, hE, hD1⟩
end Go.Proofs.Qxb6601947aDoor
