/-
  What strconv.Quote writes, token by token (no Go): each token is read back to the chunk that it stands for; so quoted text ends where it ends, and no two strings are quoted alike.
-/
import Derived.Lib.QuoteLoop
import Derived.Lib.TrimUEq
import Derived.Lib.IndexBytes
namespace Go.Proofs.Qxb6601947aDoor
open Go.Lib

inductive Key
  | bad (b : Nat)
  | rune (r : Nat)

def key (s : ByteArray) : Key := if (Utf8.decode s 0).2 = 1 ∧ (Utf8.decode s 0).1 = 65533 then .bad (s.get! 0).toNat else .rune (Utf8.decode s 0).1
def tok (T : PrintTabs) : Key → List Int
  | .bad b => [92, 120, hexDigit (b / 16), hexDigit (b % 16)]
  | .rune r => escRune T r
def Key.ok : Key → Prop
  | .bad b => 128 ≤ b ∧ b < 256
  | .rune r => r < 55296 ∨ (57343 < r ∧ r ≤ 1114111)
def chunk : Key → List UInt8
  | .bad b => [UInt8.ofNat b]
  | .rune r => encodeRune r

theorem step_tok (T : PrintTabs) (s : ByteArray) : quoteStep T s = tok T (key s) := by
  unfold quoteStep key
  split <;> rfl

def unhex (x : Int) : Nat := if x < 58 then (x - 48).toNat else (x - 87).toNat
theorem unhex_hex (n : Nat) (h : n < 16) : unhex (hexDigit n) = n := by
  unfold unhex hexDigit
  repeat' split
  all_goals omega

def unEsc : List Int → Option (Key × List Int)
  | [] => none
  | c :: X =>
    if c = 120 then (match X with
      | a :: b :: Y => some (if 128 ≤ unhex a * 16 + unhex b then .bad (unhex a * 16 + unhex b) else .rune (unhex a * 16 + unhex b), Y)
      | _ => none)
    else if c = 117 then (match X with
      | a :: b :: d :: e :: Y => some (.rune (((unhex a * 16 + unhex b) * 16 + unhex d) * 16 + unhex e), Y)
      | _ => none)
    else if c = 85 then (match X with
      | a :: b :: d :: e :: f :: g :: h :: i :: Y => some (.rune (((((((unhex a * 16 + unhex b) * 16 + unhex d) * 16 + unhex e) * 16 + unhex f) * 16 + unhex g) * 16 + unhex h) * 16 + unhex i), Y)
      | _ => none)
    else some (.rune (if c = 97 then 7 else if c = 98 then 8 else if c = 102 then 12 else if c = 110 then 10 else if c = 114 then 13 else if c = 116 then 9 else if c = 118 then 11 else c.toNat), X)
def unRaw (a : Int) (X : List Int) : Option (Key × List Int) :=
  if a < 128 then some (.rune a.toNat, X)
  else if a < 224 then (match X with
    | b :: Y => some (.rune ((a - 192) * 64 + (b - 128)).toNat, Y)
    | _ => none)
  else if a < 240 then (match X with
    | b :: c :: Y => some (.rune ((a - 224) * 4096 + (b - 128) * 64 + (c - 128)).toNat, Y)
    | _ => none)
  else (match X with
    | b :: c :: d :: Y => some (.rune ((a - 240) * 262144 + (b - 128) * 4096 + (c - 128) * 64 + (d - 128)).toNat, Y)
    | _ => none)
def un : List Int → Option (Key × List Int)
  | [] => none
  | a :: X => if a = 92 then unEsc X else unRaw a X

theorem some_rune {a b : Nat} {X : List Int} (h : a = b) : some (Key.rune a, X) = some (Key.rune b, X) := by rw [h]

theorem un_raw (r : Nat) (X : List Int) (h : r < 55296 ∨ (57343 < r ∧ r ≤ 1114111)) (h92 : r ≠ 92) : un (encodeRuneZ (r : Int) ++ X) = some (.rune r, X) := by
  by_cases h1 : r ≤ 127
  · rw [encodeRuneZ_one (by omega) (by omega)]
    show un ((r : Int) :: X) = _
    rw [un, if_neg (by omega)]; unfold unRaw; rw [if_pos (by omega)]
    exact some_rune (by omega)
  by_cases h2 : r ≤ 2047
  · rw [encodeRuneZ_two (by omega) (by omega)]
    show un (_ :: _ :: X) = _
    rw [un, if_neg (by omega)]; unfold unRaw; rw [if_neg (by omega), if_pos (by omega)]
    exact some_rune (by omega)
  by_cases h3 : r ≤ 65535
  · rw [encodeRuneZ_three (by omega)]
    show un (_ :: _ :: _ :: X) = _
    rw [un, if_neg (by omega)]; unfold unRaw; rw [if_neg (by omega), if_neg (by omega), if_pos (by omega)]
    exact some_rune (by omega)
  · rw [encodeRuneZ_four (by omega) (by omega)]
    show un (_ :: _ :: _ :: _ :: X) = _
    rw [un, if_neg (by omega)]; unfold unRaw; rw [if_neg (by omega), if_neg (by omega), if_neg (by omega)]
    exact some_rune (by omega)

theorem un_tok (T : PrintTabs) (k : Key) (X : List Int) (h : k.ok) : un (tok T k ++ X) = some (k, X) := by
  cases k with
  | bad b =>
    obtain ⟨h1, h2⟩ := h
    show un (92 :: 120 :: hexDigit (b / 16) :: hexDigit (b % 16) :: X) = _
    rw [un, if_pos rfl, unEsc, if_pos rfl]
    show some ((if 128 ≤ unhex _ * 16 + unhex _ then Key.bad (unhex _ * 16 + unhex _) else _), X) = _
    rw [unhex_hex _ (by omega), unhex_hex _ (by omega), if_pos (by omega)]
    congr 3
    omega
  | rune r =>
    have h' : r < 55296 ∨ (57343 < r ∧ r ≤ 1114111) := h
    have hv : validRune (r : Int) = true := by simp only [validRune, decide_eq_true_eq]; omega
    show un (escRune T r ++ X) = _
    unfold escRune
    by_cases c0 : (r : Int) = 34 ∨ (r : Int) = 92
    · rw [if_pos c0]
      show un (92 :: (r : Int) :: X) = _
      rw [un, if_pos rfl]
      change (if (r : Int) = 120 then _ else if (r : Int) = 117 then _ else if (r : Int) = 85 then _ else _) = _
      rw [if_neg (by omega), if_neg (by omega), if_neg (by omega)]
      rw [if_neg (by omega), if_neg (by omega), if_neg (by omega), if_neg (by omega), if_neg (by omega), if_neg (by omega), if_neg (by omega)]
      exact some_rune (by omega)
    rw [if_neg c0]
    by_cases c1 : isPrintR T r = true
    · rw [if_pos c1]
      exact un_raw r X h' (by omega)
    rw [if_neg c1]
    by_cases c2 : (r : Int) = 7
    · rw [if_pos c2]; exact some_rune (by have e : r = 7 := by omega
                                          rw [e]; rfl)
    rw [if_neg c2]
    by_cases c3 : (r : Int) = 8
    · rw [if_pos c3]; exact some_rune (by have e : r = 8 := by omega
                                          rw [e]; rfl)
    rw [if_neg c3]
    by_cases c4 : (r : Int) = 12
    · rw [if_pos c4]; exact some_rune (by have e : r = 12 := by omega
                                          rw [e]; rfl)
    rw [if_neg c4]
    by_cases c5 : (r : Int) = 10
    · rw [if_pos c5]; exact some_rune (by have e : r = 10 := by omega
                                          rw [e]; rfl)
    rw [if_neg c5]
    by_cases c6 : (r : Int) = 13
    · rw [if_pos c6]; exact some_rune (by have e : r = 13 := by omega
                                          rw [e]; rfl)
    rw [if_neg c6]
    by_cases c7 : (r : Int) = 9
    · rw [if_pos c7]; exact some_rune (by have e : r = 9 := by omega
                                          rw [e]; rfl)
    rw [if_neg c7]
    by_cases c8 : (r : Int) = 11
    · rw [if_pos c8]; exact some_rune (by have e : r = 11 := by omega
                                          rw [e]; rfl)
    rw [if_neg c8]
    by_cases c9 : (r : Int) < 32 ∨ (r : Int) = 127
    · rw [if_pos c9]
      show un (92 :: 120 :: hexDigit _ :: hexDigit _ :: X) = _
      rw [un, if_pos rfl, unEsc, if_pos rfl]
      show some ((if 128 ≤ unhex _ * 16 + unhex _ then Key.bad (unhex _ * 16 + unhex _) else Key.rune (unhex _ * 16 + unhex _)), X) = _
      rw [unhex_hex _ (by omega), unhex_hex _ (by omega), if_neg (by omega)]
      exact some_rune (by omega)
    rw [if_neg c9, if_neg (by rw [hv]; decide)]
    by_cases c11 : (r : Int) < 65536
    · rw [if_pos c11]
      simp only [hexDigits, Int.toNat_natCast, List.cons_append, List.nil_append]
      rw [un, if_pos rfl, unEsc, if_neg (by decide), if_pos rfl]
      show some (Key.rune (((unhex _ * 16 + unhex _) * 16 + unhex _) * 16 + unhex _), X) = _
      rw [unhex_hex _ (by omega), unhex_hex _ (by omega), unhex_hex _ (by omega), unhex_hex _ (by omega)]
      exact some_rune (by omega)
    · rw [if_neg c11]
      simp only [hexDigits, Int.toNat_natCast, List.cons_append, List.nil_append]
      rw [un, if_pos rfl, unEsc, if_neg (by decide), if_neg (by decide), if_pos rfl]
      show some (Key.rune (((((((unhex _ * 16 + unhex _) * 16 + unhex _) * 16 + unhex _) * 16 + unhex _) * 16 + unhex _) * 16 + unhex _) * 16 + unhex _), X) = _
      rw [unhex_hex _ (by omega), unhex_hex _ (by omega), unhex_hex _ (by omega), unhex_hex _ (by omega), unhex_hex _ (by omega), unhex_hex _ (by omega), unhex_hex _ (by omega), unhex_hex _ (by omega)]
      exact some_rune (by omega)

theorem hexDigit_byte (n : Nat) (h : n < 16) : 0 ≤ hexDigit n ∧ hexDigit n < 256 := by
  unfold hexDigit
  split <;> omega
theorem hexDigits_byte (r : Nat) : ∀ n, ∀ x ∈ hexDigits r n, 0 ≤ x ∧ x < 256
  | 0, x, h => by cases h
  | n + 1, x, h => by
    rcases List.mem_cons.1 h with rfl | h
    · exact hexDigit_byte _ (by omega)
    · exact hexDigits_byte r n x h
theorem mem_ite {c : Prop} [Decidable c] {x : Int} {a b : List Int} (h : x ∈ if c then a else b) : (c ∧ x ∈ a) ∨ (¬ c ∧ x ∈ b) := by
  by_cases hc : c
  · rw [if_pos hc] at h; exact Or.inl ⟨hc, h⟩
  · rw [if_neg hc] at h; exact Or.inr ⟨hc, h⟩
theorem tok_byte (T : PrintTabs) (k : Key) (h : k.ok) : ∀ x ∈ tok T k, 0 ≤ x ∧ x < 256 := by
  cases k with
  | bad b =>
    obtain ⟨h1, h2⟩ := h
    have a1 := hexDigit_byte (b / 16) (by omega)
    have a2 := hexDigit_byte (b % 16) (by omega)
    intro x hx
    simp [tok] at hx
    rcases hx with rfl | rfl | rfl | rfl <;> omega
  | rune r =>
    have h' : r < 55296 ∨ (57343 < r ∧ r ≤ 1114111) := h
    intro x hx
    have hx' : x ∈ escRune T r := hx
    unfold escRune at hx'
    rcases mem_ite hx' with ⟨c, hx'⟩ | ⟨c, hx'⟩
    · simp only [List.mem_cons, List.not_mem_nil, or_false] at hx'; omega
    rcases mem_ite hx' with ⟨_, hx'⟩ | ⟨_, hx'⟩
    · exact encodeRuneZ_byte _ x hx'
    rcases mem_ite hx' with ⟨_, hx'⟩ | ⟨_, hx'⟩
    · simp only [List.mem_cons, List.not_mem_nil, or_false] at hx'; omega
    rcases mem_ite hx' with ⟨_, hx'⟩ | ⟨_, hx'⟩
    · simp only [List.mem_cons, List.not_mem_nil, or_false] at hx'; omega
    rcases mem_ite hx' with ⟨_, hx'⟩ | ⟨_, hx'⟩
    · simp only [List.mem_cons, List.not_mem_nil, or_false] at hx'; omega
    rcases mem_ite hx' with ⟨_, hx'⟩ | ⟨_, hx'⟩
    · simp only [List.mem_cons, List.not_mem_nil, or_false] at hx'; omega
    rcases mem_ite hx' with ⟨_, hx'⟩ | ⟨_, hx'⟩
    · simp only [List.mem_cons, List.not_mem_nil, or_false] at hx'; omega
    rcases mem_ite hx' with ⟨_, hx'⟩ | ⟨_, hx'⟩
    · simp only [List.mem_cons, List.not_mem_nil, or_false] at hx'; omega
    rcases mem_ite hx' with ⟨_, hx'⟩ | ⟨_, hx'⟩
    · simp only [List.mem_cons, List.not_mem_nil, or_false] at hx'; omega
    rcases mem_ite hx' with ⟨c9, hx'⟩ | ⟨_, hx'⟩
    · simp only [List.mem_cons, List.not_mem_nil, or_false] at hx'
      rcases hx' with e | e | e | e
      · omega
      · omega
      · rw [e]; exact hexDigit_byte _ (by omega)
      · rw [e]; exact hexDigit_byte _ (by omega)
    have two : ∀ a m n, (a = 117 ∨ a = 85) → x ∈ 92 :: a :: hexDigits m n → 0 ≤ x ∧ x < 256 := fun a m n ha hm => by
      rcases List.mem_cons.1 hm with e | e
      · omega
      · rcases List.mem_cons.1 e with e | e
        · omega
        · exact hexDigits_byte _ _ x e
    rcases mem_ite hx' with ⟨_, hx'⟩ | ⟨_, hx'⟩
    · exact two _ _ _ (Or.inl rfl) hx'
    rcases mem_ite hx' with ⟨_, hx'⟩ | ⟨_, hx'⟩
    · exact two _ _ _ (Or.inl rfl) hx'
    · exact two _ _ _ (Or.inr rfl) hx'

theorem key_ok (s : ByteArray) : (key s).ok := by
  unfold key
  split
  · rename_i hb
    refine ⟨?_, UInt8.toNat_lt _⟩
    rw [decode_at] at hb
    apply Classical.byContradiction
    intro hlt
    unfold decodeN at hb
    rw [if_pos (by simp at hlt ⊢; omega)] at hb
    simp at hb hlt
    omega
  · have := decodeN_valid (s.size - 0) (s.get! 0).toNat (s.get! (0 + 1)).toNat (s.get! (0 + 2)).toNat (s.get! (0 + 3)).toNat (UInt8.toNat_lt _)
    rw [← decode_at] at this
    exact this

theorem ub {x : Int} {a : UInt8} (h : x = (a.toNat : Int)) : x.toNat.toUInt8 = a := by subst h; simp
def dec (l : List UInt8) : Nat × Nat := decodeN l.length (l.getD 0 0).toNat (l.getD 1 0).toNat (l.getD 2 0).toNat (l.getD 3 0).toNat
theorem two_of : ∀ t : List UInt8, 2 < t.length + 1 → ∃ b c u, t = b :: c :: u
  | [], h => by simp at h
  | [_], h => by simp at h
  | b :: c :: u, _ => ⟨b, c, u, rfl⟩
theorem three_of : ∀ t : List UInt8, 3 < t.length + 1 → ∃ b c d u, t = b :: c :: d :: u
  | [], h => by simp at h
  | [_], h => by simp at h
  | [_, _], h => by simp at h
  | b :: c :: d :: u, _ => ⟨b, c, d, u, rfl⟩
set_option maxHeartbeats 1000000 in
set_option maxRecDepth 100000 in
theorem dec_chunk (a : UInt8) (t : List UInt8) (h : ¬ ((dec (a :: t)).2 = 1 ∧ (dec (a :: t)).1 = 65533)) : (a :: t).take (dec (a :: t)).2 = encodeRune ((dec (a :: t)).1 : Int) := by
  have ha := a.toNat_lt
  revert h
  unfold dec
  show ¬ ((decodeN (t.length + 1) a.toNat (t.getD 0 0).toNat (t.getD 1 0).toNat (t.getD 2 0).toNat).2 = 1 ∧ (decodeN (t.length + 1) a.toNat (t.getD 0 0).toNat (t.getD 1 0).toNat (t.getD 2 0).toNat).1 = 65533) →
    (a :: t).take (decodeN (t.length + 1) a.toNat (t.getD 0 0).toNat (t.getD 1 0).toNat (t.getD 2 0).toNat).2 = encodeRune ((decodeN (t.length + 1) a.toNat (t.getD 0 0).toNat (t.getD 1 0).toNat (t.getD 2 0).toNat).1 : Int)
  unfold decodeN
  by_cases c1 : a.toNat < 128
  · rw [if_pos c1]
    intro _
    simp only [List.take_succ_cons, List.take_zero, encodeRune]
    rw [encodeRuneZ_one (by omega) (by omega)]
    simp only [List.map_cons, List.map_nil]
    rw [ub rfl]
  rw [if_neg c1]
  by_cases c2 : a.toNat / 32 = 6 ∧ (1 < t.length + 1 ∧ (t.getD 0 0).toNat / 64 = 2)
  · rw [if_pos c2]
    by_cases d2 : a.toNat % 32 * 64 + (t.getD 0 0).toNat % 64 ≥ 128
    · rw [if_pos d2]
      intro _
      cases t with
      | nil => simp at c2
      | cons b t =>
        have hb := b.toNat_lt
        simp only [List.getD_cons_zero] at c2 d2 ⊢
        simp only [List.take_succ_cons, List.take_zero, encodeRune]
        rw [encodeRuneZ_two (by omega) (by omega)]
        simp only [List.map_cons, List.map_nil]
        rw [ub (a := a) (by omega), ub (a := b) (by omega)]
    · rw [if_neg d2]
      intro h; exact absurd ⟨rfl, rfl⟩ h
  rw [if_neg c2]
  by_cases c3 : a.toNat / 16 = 14 ∧ (1 < t.length + 1 ∧ (t.getD 0 0).toNat / 64 = 2) ∧ (2 < t.length + 1 ∧ (t.getD 1 0).toNat / 64 = 2)
  · rw [if_pos c3]
    split
    · rename_i d3
      intro _
      obtain ⟨b, c, t, rfl⟩ := two_of t c3.2.2.1
      have hb := b.toNat_lt
      have hc := c.toNat_lt
      simp only [List.getD_cons_zero, List.getD_cons_succ] at c3 d3 ⊢
      generalize hr : a.toNat % 16 * 4096 + b.toNat % 64 * 64 + c.toNat % 64 = r at d3 ⊢
      simp only [List.take_succ_cons, List.take_zero, encodeRune]
      rw [encodeRuneZ_three (by omega)]
      simp only [List.map_cons, List.map_nil]
      rw [ub (a := a) (by omega), ub (a := b) (by omega), ub (a := c) (by omega)]
    · intro h; exact absurd ⟨rfl, rfl⟩ h
  rw [if_neg c3]
  by_cases c4 : a.toNat / 8 = 30 ∧ (1 < t.length + 1 ∧ (t.getD 0 0).toNat / 64 = 2) ∧ (2 < t.length + 1 ∧ (t.getD 1 0).toNat / 64 = 2) ∧ (3 < t.length + 1 ∧ (t.getD 2 0).toNat / 64 = 2)
  · rw [if_pos c4]
    split
    · rename_i d4
      intro _
      obtain ⟨b, c, d, t, rfl⟩ := three_of t c4.2.2.2.1
      have hb := b.toNat_lt
      have hc := c.toNat_lt
      have hd := d.toNat_lt
      simp only [List.getD_cons_zero, List.getD_cons_succ] at c4 d4 ⊢
      generalize hr : a.toNat % 8 * 262144 + b.toNat % 64 * 4096 + c.toNat % 64 * 64 + d.toNat % 64 = r at d4 ⊢
      simp only [List.take_succ_cons, List.take_zero, encodeRune]
      rw [encodeRuneZ_four (by omega) (by omega)]
      simp only [List.map_cons, List.map_nil]
      rw [ub (a := a) (by omega), ub (a := b) (by omega), ub (a := c) (by omega), ub (a := d) (by omega)]
    · intro h; exact absurd ⟨rfl, rfl⟩ h
  rw [if_neg c4]
  intro h; exact absurd ⟨rfl, rfl⟩ h
theorem dec_eq (s : ByteArray) : Utf8.decode s 0 = dec s.data.toList := by
  rw [decode_N]; rfl
theorem rest_drop (s : ByteArray) (k : Nat) : (s.extract k s.size).data.toList = s.data.toList.drop k := by
  exact Lib.extract_to_end s k
theorem chunk_key (s : ByteArray) (h : 0 < s.size) : s.data.toList = chunk (key s) ++ (s.extract (Utf8.decode s 0).2 s.size).data.toList := by
  rw [rest_drop]
  have hs : s.data.toList.take (Utf8.decode s 0).2 = chunk (key s) := by
    unfold key
    have h0 : (s.get! 0) = s.data.toList.getD 0 0 := (getD_get!' _ _).symm
    rw [h0, dec_eq]
    cases hl : s.data.toList with
    | nil =>
      have := Lib.size_eq s
      rw [hl, List.length_nil] at this
      omega
    | cons a t =>
      split
      · rename_i hb
        rw [hb.1]
        simp [chunk]
      · rename_i hb
        exact dec_chunk a t hb
  rw [← hs, List.take_append_drop]
end Go.Proofs.Qxb6601947aDoor
