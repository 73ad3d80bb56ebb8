/-
  Sub-keys as plain lists of bytes (no Go).
-/
import Derived.Lib.Bytealg
import Derived.Laws.BytesArg
namespace Go.Proofs.Qxb6603964aDoor
open Go.Lib

def lower (c : UInt8) : Prop := 97 ≤ c.toNat ∧ c.toNat ≤ 122
def digit (c : UInt8) : Prop := 48 ≤ c.toNat ∧ c.toNat ≤ 57
def vchar (c : UInt8) : Prop := lower c ∨ (65 ≤ c.toNat ∧ c.toNat ≤ 90) ∨ digit c ∨ c.toNat = 46 ∨ c.toNat = 95 ∨ c.toNat = 45
/-- A key of the grammar. -/
structure KeyOK (k : List UInt8) : Prop where
  first : ∃ c t, k = c :: t ∧ lower c
  all : ∀ c ∈ k, lower c ∨ digit c
def ValOK (v : List UInt8) : Prop := ∀ c ∈ v, vchar c

theorem KeyOK.colon {k : List UInt8} (h : KeyOK k) : (58 : UInt8) ∉ k := fun hm => by
  rcases h.all _ hm with ⟨h1, h2⟩ | ⟨h1, h2⟩
  · revert h1; decide
  · revert h2; decide
theorem KeyOK.semi {k : List UInt8} (h : KeyOK k) : (59 : UInt8) ∉ k := fun hm => by
  rcases h.all _ hm with ⟨h1, h2⟩ | ⟨h1, h2⟩
  · revert h1; decide
  · revert h2; decide

/-- The sub-keys behind the first, each with its ";" ahead. -/
def tail : List (List UInt8 × List UInt8) → List UInt8
  | [] => []
  | kv :: t => 59 :: (kv.1 ++ 58 :: (kv.2 ++ tail t))
theorem tail_snoc (t : List (List UInt8 × List UInt8)) (kv : List UInt8 × List UInt8) : tail (t ++ [kv]) = tail t ++ 59 :: (kv.1 ++ 58 :: kv.2) := by
  induction t with
  | nil => simp [tail]
  | cons a t ih => simp [tail, ih]
def whole (key value : List UInt8) (t : List (List UInt8 × List UInt8)) : List UInt8 := key ++ 58 :: (value ++ tail t)
theorem whole_snoc (key value : List UInt8) (t : List (List UInt8 × List UInt8)) (kv : List UInt8 × List UInt8) : whole key value (t ++ [kv]) = whole key value t ++ 59 :: (kv.1 ++ 58 :: kv.2) := by
  simp [whole, tail_snoc]

/-- A sub-key that withFirst keeps. -/
structure Kept (key : List UInt8) (kv : List UInt8 × List UInt8) : Prop where
  ne : kv.1 ≠ key
  colon : (58 : UInt8) ∉ kv.1
  semi1 : (59 : UInt8) ∉ kv.1
  semi2 : (59 : UInt8) ∉ kv.2

theorem index_no {l : List UInt8} {c : UInt8} (h : indexByte l c < 0) : c ∉ l := by
  induction l with
  | nil => simp
  | cons b l ih =>
    unfold indexByte at h
    by_cases hb : b = c
    · subst hb; simp at h
    · have hb' : (b == c) = false := beq_eq_false_iff_ne.2 hb
      rw [hb'] at h
      have hge := indexByte_ge l c
      by_cases h1 : indexByte l c = -1
      · have := ih (by omega)
        simp only [List.mem_cons, not_or]
        exact ⟨fun e => hb e.symm, this⟩
      · have h1' : (indexByte l c == -1) = false := beq_eq_false_iff_ne.2 h1
        rw [h1'] at h
        simp at h
        omega
theorem index_yes {l : List UInt8} {c : UInt8} (h : ¬ indexByte l c < 0) : ∃ n : Nat, indexByte l c = (n : Int) ∧ n < l.length ∧ c ∉ l.take n ∧ l = l.take n ++ c :: l.drop (n + 1) := by
  induction l with
  | nil => simp [indexByte] at h
  | cons b l ih =>
    unfold indexByte at h ⊢
    by_cases hb : b = c
    · subst hb
      exact ⟨0, by simp, by simp, by simp, by simp⟩
    · have hb' : (b == c) = false := beq_eq_false_iff_ne.2 hb
      rw [hb'] at h ⊢
      have hge := indexByte_ge l c
      by_cases h1 : indexByte l c = -1
      · rw [h1] at h; simp at h
      · have h1' : (indexByte l c == -1) = false := beq_eq_false_iff_ne.2 h1
        rw [h1'] at h ⊢
        obtain ⟨n, e1, e2, e3, e4⟩ := ih (by omega)
        refine ⟨n + 1, by simp [e1], by simp; omega, ?_, ?_⟩
        · simp only [List.take_succ_cons, List.mem_cons, not_or]
          exact ⟨fun e => hb e.symm, e3⟩
        · simp only [List.take_succ_cons, List.drop_succ_cons, List.cons_append]
          rw [← e4]

/-- What lies in s from p on. -/
def Fr (s : ByteArray) (p : Nat) (l : List UInt8) : Prop := p ≤ s.size ∧ s.data.toList.drop p = l
theorem Fr.cons {s : ByteArray} {p : Nat} {x : UInt8} {l : List UInt8} (h : Fr s p (x :: l)) : ∃ g : p < s.size, s[p] = x ∧ Fr s (p + 1) l := by
  obtain ⟨h1, h2⟩ := h
  have hz : s.data.toList.length = s.size := by simp
  have g : p < s.size := by
    rcases Nat.lt_or_ge p s.size with g | g
    · exact g
    · rw [List.drop_eq_nil_of_le (by omega)] at h2; cases h2
  have hd : s.data.toList.drop p = s[p] :: s.data.toList.drop (p + 1) := by
    rw [List.drop_eq_getElem_cons (by omega)]; rfl
  rw [hd] at h2
  obtain ⟨e1, e2⟩ := List.cons.inj h2
  exact ⟨g, e1, by omega, e2⟩
theorem Fr.app {s : ByteArray} : ∀ {l m : List UInt8} {p : Nat}, Fr s p (l ++ m) → Fr s (p + l.length) m
  | [], _, _, h => h
  | x :: l, m, p, h => by
    obtain ⟨_, _, h2⟩ := Fr.cons h
    have := Fr.app h2
    rw [List.length_cons, show p + (l.length + 1) = p + 1 + l.length by omega]
    exact this
theorem Fr.nil {s : ByteArray} {p : Nat} (h : Fr s p []) : p = s.size := by
  obtain ⟨h1, h2⟩ := h
  have := congrArg List.length h2
  rw [List.length_drop] at this
  simp at this
  omega
theorem Fr.start (s : ByteArray) : Fr s 0 s.data.toList := ⟨Nat.zero_le _, by simp⟩
theorem Fr.ext {s : ByteArray} {p : Nat} {l m : List UInt8} (h : Fr s p (l ++ m)) : (s.extract p (p + l.length)).data.toList = l ∧ p + l.length ≤ s.size := by
  have h2 := h.app.1
  refine ⟨?_, h2⟩
  rw [ByteArray.data_extract, Array.toList_extract]
  have : (s.data.toList.drop p).take l.length = l := by rw [h.2, List.take_left]
  rw [List.extract_eq_take_drop, Nat.add_sub_cancel_left]
  exact this
theorem ba_ext {s t : ByteArray} (h : s.data.toList = t.data.toList) : s = t := by
  cases s; cases t
  simp only [ByteArray.mk.injEq]
  exact Array.toList_inj.1 h
end Go.Proofs.Qxb6603964aDoor
