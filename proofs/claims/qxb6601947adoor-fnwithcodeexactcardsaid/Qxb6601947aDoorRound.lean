/-
  What one round of zzMatchQuoted finds (no Go).
-/
import Derived.Test.Qxb6601947aDoorLook
namespace Go.Proofs.Qxb6601947aDoor
open Go.Lib

/-- What a round finds at p of out: r, k, v: what zzDecode gave; c: the byte; Y: what lies behind the token. -/
inductive Rnd (out s : ByteArray) (p i r k : Nat) (v : Bool) (c : Nat) (Y : List Int) : Prop
  | esc (hk : k = 1) (hv : v = true) (hc : c = 34 ∨ c = 92) (h : From out p (92 :: (c : Int) :: Y))
  | raw (hk : k = 1) (hv : v = true) (h1 : 32 ≤ c) (h2 : c ≤ 126) (h3 : c ≠ 34) (h4 : c ≠ 92) (h : From out p ((c : Int) :: Y))
  | nam (hk : k = 1) (hv : v = true) (h1 : c < 32) (h2 : named c ≠ 0) (h : From out p (92 :: (named c : Int) :: Y))
  | bad (hk : k = 1) (hv : v = false) (h : From out p (92 :: 120 :: (hexDigits c 2 ++ Y)))
  | low (hk : k = 1) (hv : v = true) (h1 : c < 32) (h2 : named c = 0) (h : From out p (92 :: 120 :: (hexDigits c 2 ++ Y)))
  | del (hk : k = 1) (hv : v = true) (h1 : c = 127) (h : From out p (92 :: 120 :: (hexDigits c 2 ++ Y)))
  | four (hk : k ≠ 1) (hr : r < 65536) (h : From out p (92 :: 117 :: (hexDigits r 4 ++ Y)))
  | eight (hk : k ≠ 1) (hr : 65536 ≤ r) (h : From out p (92 :: 85 :: (hexDigits r 8 ++ Y)))
  | lit (hk : k ≠ 1) (x : Int) (l : List Int) (hx : x ≠ 92) (h0 : From out p (x :: l)) (h : From out p (ints (s.extract i (i + k)).data.toList ++ Y))

theorem dn_one (n b0 b1 b2 b3 : Nat) (h : (decodeN n b0 b1 b2 b3).2 = 1) : (decodeN n b0 b1 b2 b3).1 = 65533 ∨ (b0 < 128 ∧ (decodeN n b0 b1 b2 b3).1 = b0) := by
  unfold decodeN at h ⊢
  by_cases h0 : b0 < 128
  · rw [if_pos h0]; exact Or.inr ⟨h0, rfl⟩
  · rw [if_neg h0] at h ⊢
    revert h
    repeat' split
    all_goals intro h
    all_goals first | exact Or.inl rfl | (simp at h)
theorem dn_wide (n b0 b1 b2 b3 : Nat) (h : (decodeN n b0 b1 b2 b3).2 ≠ 1) : 128 ≤ (decodeN n b0 b1 b2 b3).1 := by
  unfold decodeN at h ⊢
  revert h
  repeat' split
  all_goals intro h
  all_goals first | exact absurd rfl h | (dsimp only; omega)
theorem dn_width (n b0 b1 b2 b3 : Nat) (hn : 0 < n) : 0 < (decodeN n b0 b1 b2 b3).2 ∧ (decodeN n b0 b1 b2 b3).2 ≤ n := by
  unfold decodeN
  repeat' split
  all_goals (dsimp only; omega)
theorem hex2 (c : Nat) (h : c < 256) (Y : List Int) : [92, 120, Lib.hexDigit (c / 16), Lib.hexDigit (c % 16)] ++ Y = 92 :: 120 :: (hexDigits c 2 ++ Y) := by
  simp only [hexDigits, List.cons_append, List.nil_append]
  rw [show c / 16 ^ 1 % 16 = c / 16 by omega, show c / 16 ^ 0 % 16 = c % 16 by omega]
theorem latin_yes (T : PrintTabs) (r : Nat) (h1 : 32 ≤ r) (h2 : r ≤ 126) : isPrintR T (r : Int) = true := by
  unfold isPrintR isPrintLatin
  rw [if_pos (by omega)]
  repeat' split
  all_goals first | rfl | (simp; omega)
theorem latin_no (T : PrintTabs) (r : Nat) (h : r < 32 ∨ r = 127) : ¬ isPrintR T (r : Int) = true := by
  unfold isPrintR isPrintLatin
  rw [if_pos (by omega)]
  repeat' split
  all_goals first | (simp; omega) | (exfalso; omega)

theorem enc_first (r : Nat) (h : 128 ≤ r) (Y : List Int) : ∃ x l, encodeRuneZ (r : Int) ++ Y = x :: l ∧ x ≠ 92 := by
  unfold encodeRuneZ
  repeat' split
  all_goals first | exact ⟨_, _, rfl, by omega⟩ | (exfalso; omega)
theorem enc_ints (r : Nat) : ints (encodeRune (r : Int)) = encodeRuneZ (r : Int) := by
  unfold ints encodeRune
  rw [List.map_map]
  refine (List.map_congr_left (fun x hx => ?_)).trans (List.map_id _)
  have hb : 0 ≤ x ∧ x < 256 := by
    revert hx
    unfold encodeRuneZ
    repeat' split
    all_goals
      intro hx
      simp only [List.mem_cons, List.not_mem_nil, or_false] at hx
      omega
  simp only [Function.comp, id]
  show ((UInt8.ofNat x.toNat).toNat : Int) = x
  rw [UInt8.toNat_ofNat_of_lt' (by show x.toNat < 256; omega)]
  omega

theorem dec_one (a : UInt8) (t : List UInt8) (h : (dec (a :: t)).2 = 1) : (dec (a :: t)).1 = 65533 ∨ (a.toNat < 128 ∧ (dec (a :: t)).1 = a.toNat) := dn_one _ _ _ _ _ h
theorem dec_wide (a : UInt8) (t : List UInt8) (h : (dec (a :: t)).2 ≠ 1) : 128 ≤ (dec (a :: t)).1 := dn_wide _ _ _ _ _ h
theorem dec_width (a : UInt8) (t : List UInt8) : 0 < (dec (a :: t)).2 ∧ (dec (a :: t)).2 ≤ t.length + 1 := dn_width _ _ _ _ _ (Nat.succ_pos _)
theorem named_of (r : Nat) (h : named r ≠ 0) : r < 32 := by
  apply Classical.byContradiction
  intro hr
  apply h
  unfold named
  rw [if_neg (by omega), if_neg (by omega), if_neg (by omega), if_neg (by omega), if_neg (by omega), if_neg (by omega), if_neg (by omega)]

theorem tok_low (T : PrintTabs) (r : Nat) (h : r < 128) : tok T (.rune r) = if r = 34 ∨ r = 92 then [92, (r : Int)] else if 32 ≤ r ∧ r ≤ 126 then [(r : Int)] else if named r ≠ 0 then [92, (named r : Int)] else [92, 120, Lib.hexDigit (r / 16), Lib.hexDigit (r % 16)] := by
  show escRune T r = _
  unfold escRune
  by_cases c0 : r = 34 ∨ r = 92
  · rw [if_pos c0, if_pos (by omega)]
  rw [if_neg c0, if_neg (by omega)]
  by_cases c1 : 32 ≤ r ∧ r ≤ 126
  · rw [if_pos c1, if_pos (latin_yes T r c1.1 c1.2), encodeRuneZ_one (by omega) (by omega)]
  rw [if_neg c1, if_neg (latin_no T r (by omega))]
  unfold named
  by_cases c7 : r = 7
  · subst c7; rfl
  by_cases c8 : r = 8
  · subst c8; rfl
  by_cases c9 : r = 9
  · subst c9; rfl
  by_cases c10 : r = 10
  · subst c10; rfl
  by_cases c11 : r = 11
  · subst c11; rfl
  by_cases c12 : r = 12
  · subst c12; rfl
  by_cases c13 : r = 13
  · subst c13; rfl
  rw [if_neg (by omega), if_neg (by omega), if_neg (by omega), if_neg (by omega), if_neg (by omega), if_neg (by omega), if_neg (by omega), if_pos (by omega)]
  rw [if_neg c7, if_neg c8, if_neg c9, if_neg c10, if_neg c11, if_neg c12, if_neg c13, if_neg (by omega)]
  simp
theorem tok_high (T : PrintTabs) (r : Nat) (h : 128 ≤ r) (hv : (Key.rune r).ok) : tok T (.rune r) = if isPrintR T (r : Int) = true then encodeRuneZ (r : Int) else if r < 65536 then 92 :: 117 :: hexDigits r 4 else 92 :: 85 :: hexDigits r 8 := by
  have h' : r < 55296 ∨ (57343 < r ∧ r ≤ 1114111) := hv
  have hv : Lib.validRune (r : Int) = true := by simp only [Lib.validRune, decide_eq_true_eq]; omega
  show escRune T r = _
  unfold escRune
  rw [if_neg (by omega)]
  by_cases c1 : isPrintR T (r : Int) = true
  · rw [if_pos c1, if_pos c1]
  rw [if_neg c1, if_neg c1, if_neg (by omega), if_neg (by omega), if_neg (by omega), if_neg (by omega), if_neg (by omega), if_neg (by omega), if_neg (by omega), if_neg (by omega), if_neg (by rw [hv]; decide)]
  by_cases c11 : r < 65536
  · rw [if_pos c11, if_pos (by omega)]; rfl
  · rw [if_neg c11, if_neg (by omega)]; rfl

set_option maxRecDepth 100000 in
theorem round_of (T : PrintTabs) (out s : ByteArray) (p i : Nat) (Y : List Int) (hi : i < s.size) (h : From out p (tok T (key (s.extract i s.size)) ++ Y)) :
    Rnd out s p i (dec (s.data.toList.drop i)).1 (dec (s.data.toList.drop i)).2 (!decide ((dec (s.data.toList.drop i)).2 = 1 ∧ (dec (s.data.toList.drop i)).1 = 65533)) s[i].toNat Y := by
  obtain ⟨x, hx⟩ : ∃ x, s[i] = x := ⟨_, rfl⟩
  obtain ⟨u, hu⟩ : ∃ u, s.data.toList.drop (i + 1) = u := ⟨_, rfl⟩
  have hl : s.data.toList.drop i = x :: u := by
    rw [List.drop_eq_getElem_cons (by rw [← Lib.size_eq]; exact hi), ← hx, ← hu]; rfl
  have hg : (s.extract i s.size).get! 0 = x := by
    have e : (s.extract i s.size).get! 0 = (s.extract i s.size).data.toList.getD 0 0 := (getD_get!' _ _).symm
    rw [e, rest_drop, hl]; rfl
  have hk : key (s.extract i s.size) = if (dec (x :: u)).2 = 1 ∧ (dec (x :: u)).1 = 65533 then .bad x.toNat else .rune (dec (x :: u)).1 := by
    unfold key
    rw [dec_eq, rest_drop, hg, hl]
  have hok := key_ok (s.extract i s.size)
  have hc : x.toNat < 256 := x.toNat_lt
  have hone := dec_one x u
  have hwide := dec_wide x u
  have hch := dec_chunk x u
  have hex : ∀ k, (s.extract i (i + k)).data.toList = (x :: u).take k := fun k => by
    rw [ByteArray.data_extract, Array.toList_extract, List.extract_eq_take_drop, Nat.add_sub_cancel_left, hl]
  rw [hl, hx]
  rw [hk] at h hok
  clear hk hg hl
  generalize dec (x :: u) = d at h hok hone hwide hch ⊢
  obtain ⟨r, k⟩ := d
  dsimp only at *
  by_cases hb : k = 1 ∧ r = 65533
  · rw [if_pos hb] at h
    rw [decide_eq_true hb]
    exact .bad hb.1 rfl (by rw [← hex2 _ hc]; exact h)
  rw [if_neg hb] at h hok
  rw [decide_eq_false hb]
  have hch := hch hb
  by_cases h1 : k = 1
  · rcases hone h1 with e | ⟨e1, e2⟩
    · exact absurd ⟨h1, e⟩ hb
    · rw [e2, tok_low T _ e1] at h
      by_cases g0 : x.toNat = 34 ∨ x.toNat = 92
      · rw [if_pos g0] at h
        exact .esc h1 rfl g0 h
      rw [if_neg g0] at h
      by_cases g1 : 32 ≤ x.toNat ∧ x.toNat ≤ 126
      · rw [if_pos g1] at h
        exact .raw h1 rfl g1.1 g1.2 (by omega) (by omega) h
      rw [if_neg g1] at h
      by_cases g2 : named x.toNat ≠ 0
      · rw [if_pos g2] at h
        exact .nam h1 rfl (named_of _ g2) g2 h
      rw [if_neg g2, hex2 _ hc] at h
      by_cases g3 : x.toNat < 32
      · exact .low h1 rfl g3 (by omega) h
      · exact .del h1 rfl (by omega) h
  · have hw := hwide h1
    rw [tok_high T r hw hok] at h
    by_cases g1 : isPrintR T (r : Int) = true
    · rw [if_pos g1] at h
      obtain ⟨x, l, e1, e2⟩ := enc_first r hw Y
      refine .lit h1 x l e2 (e1 ▸ h) ?_
      rw [hex, hch, enc_ints]; exact h
    rw [if_neg g1] at h
    by_cases g2 : r < 65536
    · rw [if_pos g2] at h
      exact .four h1 g2 h
    · rw [if_neg g2] at h
      exact .eight h1 (by omega) h

theorem dn_top (n b0 b1 b2 b3 : Nat) : (decodeN n b0 b1 b2 b3).1 ≤ 1114111 := by
  unfold decodeN
  repeat' split
  all_goals (dsimp only; omega)
theorem round_at (T : PrintTabs) (out s : ByteArray) (q i f : Nat) (X : List Int) (hi : i < s.size) (hf : s.size - i ≤ f) (hF : From out q (quoteFrom T f (s.extract i s.size) ++ 34 :: X)) :
    ∃ Y, Rnd out s q i (dec (s.data.toList.drop i)).1 (dec (s.data.toList.drop i)).2 (!decide ((dec (s.data.toList.drop i)).2 = 1 ∧ (dec (s.data.toList.drop i)).1 = 65533)) s[i].toNat Y ∧
      (∀ q', From out q' Y → From out q' (quoteFrom T (f - 1) (s.extract (i + (dec (s.data.toList.drop i)).2) s.size) ++ 34 :: X)) ∧
      (0 < (dec (s.data.toList.drop i)).2 ∧ i + (dec (s.data.toList.drop i)).2 ≤ s.size) ∧ (dec (s.data.toList.drop i)).1 ≤ 1114111 := by
  rw [from_step T f _ (by rw [size_rest]; omega) (by rw [size_rest]; omega)] at hF
  have hR := round_of T out s q i _ hi hF
  refine ⟨_, hR, fun q' h => ?_, ?_, dn_top _ _ _ _ _⟩
  · have hext : (s.extract i s.size).extract (Utf8.decode (s.extract i s.size) 0).2 (s.extract i s.size).size = s.extract (i + (dec (s.data.toList.drop i)).2) s.size := bytes_ext (by
      rw [rest_drop, rest_drop, rest_drop, List.drop_drop, dec_eq, rest_drop])
    rw [hext] at h
    exact h
  · have hl : s.data.toList.drop i = s[i] :: s.data.toList.drop (i + 1) := by
      rw [List.drop_eq_getElem_cons (by rw [← Lib.size_eq]; exact hi)]; rfl
    have hw := dec_width s[i] (s.data.toList.drop (i + 1))
    rw [← hl, List.length_drop, ← Lib.size_eq] at hw
    omega

end Go.Proofs.Qxb6601947aDoor
