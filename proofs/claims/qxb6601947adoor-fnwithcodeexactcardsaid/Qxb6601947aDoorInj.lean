/-
  No two pairs of code and description are written alike (no Go).
-/
import Derived.Test.Qxb6601947aDoorTok
import Derived.Laws.BytesArg
namespace Go.Proofs.Qxb6601947aDoor
open Go.Lib

theorem bytes_ext {s t : ByteArray} (h : s.data.toList = t.data.toList) : s = t := by
  cases s; cases t
  simp only [ByteArray.mk.injEq]
  exact Array.toList_inj.1 h
theorem empty_of {s : ByteArray} (h : ¬ 0 < s.size) : s.data.toList = [] :=
  List.length_eq_zero_iff.1 (by rw [← Lib.size_eq]; omega)

theorem from_step (T : PrintTabs) (f : Nat) (s : ByteArray) (h0 : 0 < s.size) (hf : s.size ≤ f) (X : List Int) :
    quoteFrom T f s ++ X = tok T (key s) ++ (quoteFrom T (f - 1) (s.extract (Utf8.decode s 0).2 s.size) ++ X) := by
  rw [quoteFrom_step T f s h0 hf, step_tok, List.append_assoc]
theorem not_quote (T : PrintTabs) (k : Key) (hk : k.ok) (X Y : List Int) (h : 34 :: X = tok T k ++ Y) : False := by
  have h1 := congrArg un h
  rw [un_tok T k Y hk] at h1
  have h2 : un (34 :: X) = some (Key.rune 34, X) := rfl
  rw [h2] at h1
  have hk34 : Key.rune 34 = k := (Prod.mk.inj (Option.some.inj h1)).1
  subst hk34
  have h3 : tok T (Key.rune 34) = [92, 34] := rfl
  rw [h3] at h
  have := (List.cons.inj h).1
  omega

theorem body_inj (T : PrintTabs) : ∀ (n : Nat) (s s' : ByteArray) (f f' : Nat) (X X' : List Int), s.size ≤ n → s.size ≤ f → s'.size ≤ f' →
    quoteFrom T f s ++ 34 :: X = quoteFrom T f' s' ++ 34 :: X' → s = s' ∧ X = X' := by
  intro n
  induction n with
  | zero =>
    intro s s' f f' X X' hn hf hf' h
    have h0 : ¬ 0 < s.size := by omega
    rw [quoteFrom_end T f s h0] at h
    by_cases h1 : 0 < s'.size
    · rw [from_step T f' s' h1 hf'] at h
      exact (not_quote T _ (key_ok s') _ _ h).elim
    · rw [quoteFrom_end T f' s' h1] at h
      exact ⟨bytes_ext (by rw [empty_of h0, empty_of h1]), (List.cons.inj h).2⟩
  | succ n ih =>
    intro s s' f f' X X' hn hf hf' h
    by_cases h0 : 0 < s.size
    · by_cases h1 : 0 < s'.size
      · rw [from_step T f s h0 hf, from_step T f' s' h1 hf'] at h
        have hu := congrArg un h
        rw [un_tok T _ _ (key_ok s), un_tok T _ _ (key_ok s')] at hu
        obtain ⟨hk, hr⟩ := Prod.mk.inj (Option.some.inj hu)
        have hw := width_pos s 0
        have hw' := width_pos s' 0
        obtain ⟨e1, e2⟩ := ih (s.extract (Utf8.decode s 0).2 s.size) (s'.extract (Utf8.decode s' 0).2 s'.size) (f - 1) (f' - 1) X X' (by rw [size_rest]; omega) (by rw [size_rest]; omega) (by rw [size_rest]; omega) hr
        refine ⟨bytes_ext ?_, e2⟩
        rw [chunk_key s h0, chunk_key s' h1, hk, e1]
      · rw [quoteFrom_end T f' s' h1, from_step T f s h0 hf] at h
        exact (not_quote T _ (key_ok s) _ _ h.symm).elim
    · rw [quoteFrom_end T f s h0] at h
      by_cases h1 : 0 < s'.size
      · rw [from_step T f' s' h1 hf'] at h
        exact (not_quote T _ (key_ok s') _ _ h).elim
      · rw [quoteFrom_end T f' s' h1] at h
        exact ⟨bytes_ext (by rw [empty_of h0, empty_of h1]), (List.cons.inj h).2⟩
theorem quote_inj (T : PrintTabs) (s s' : ByteArray) (X X' : List Int) (h : quoteZ T s ++ X = quoteZ T s' ++ X') : s = s' ∧ X = X' := by
  unfold quoteZ at h
  have h2 := (List.cons.inj (show (34 : Int) :: (quoteFrom T s.size s ++ [34] ++ X) = 34 :: (quoteFrom T s'.size s' ++ [34] ++ X') from h)).2
  rw [List.append_assoc, List.append_assoc] at h2
  exact body_inj T s.size s s' s.size s'.size X X' (Nat.le_refl _) (Nat.le_refl _) (Nat.le_refl _) h2

theorem from_byte (T : PrintTabs) : ∀ (f : Nat) (s : ByteArray), ∀ x ∈ quoteFrom T f s, 0 ≤ x ∧ x < 256
  | 0, s, x, h => by cases h
  | f + 1, s, x, h => by
    unfold quoteFrom at h
    rcases mem_ite h with ⟨_, h⟩ | ⟨_, h⟩
    · rcases List.mem_append.1 h with h | h
      · rw [step_tok] at h
        exact tok_byte T _ (key_ok s) x h
      · exact from_byte T f _ x h
    · cases h
theorem quote_byte (T : PrintTabs) (s : ByteArray) : ∀ x ∈ quoteZ T s, 0 ≤ x ∧ x < 256 := by
  intro x h
  unfold quoteZ at h
  rcases List.mem_cons.1 h with rfl | h
  · omega
  rcases List.mem_append.1 h with h | h
  · exact from_byte T _ s x h
  · simp at h; omega

def ints (l : List UInt8) : List Int := l.map fun c => (c.toNat : Int)
theorem ints_append (a b : List UInt8) : ints (a ++ b) = ints a ++ ints b := List.map_append
theorem ints_inj {a b : List UInt8} (h : ints a = ints b) : a = b := by
  refine List.map_inj_right (fun x y hxy => ?_) |>.1 h
  exact UInt8.toNat_inj.1 (by omega)
theorem ints_nums (xs : List Int) (h : ∀ x ∈ xs, 0 ≤ x ∧ x < 256) : ints (strOfNums xs).data.toList = xs := by
  rw [strOfNums_data]
  unfold ints
  rw [List.map_map]
  refine (List.map_congr_left (fun x hx => ?_)).trans (List.map_id _)
  have := h x hx
  simp only [Function.comp, id]
  rw [UInt8.toNat_ofNat_of_lt' (by show x.toNat < 256; omega)]
  omega

def lit1 : ByteArray := ⟨#[32, 119, 105, 116, 104, 32, 101, 114, 114, 111, 114, 32]⟩
def lit2 : ByteArray := ⟨#[44, 32, 100, 101, 115, 99, 114, 105, 98, 101, 100, 32, 97, 115, 32]⟩
/-- What withCode gives. -/
def quoteS (T : PrintTabs) (s : ByteArray) : ByteArray := strOfNums (quoteZ T s)
def one1 (T : PrintTabs) (m c : ByteArray) : ByteArray := if c.size = 0 then m else m ++ (lit1 ++ quoteS T c)
def outS (T : PrintTabs) (m c d : ByteArray) : ByteArray := if d.size = 0 then one1 T m c else one1 T m c ++ (lit2 ++ quoteS T d)
def partA (T : PrintTabs) (c : ByteArray) : List Int := if c.size = 0 then [] else ints lit1.data.toList ++ quoteZ T c
def partB (T : PrintTabs) (d : ByteArray) : List Int := if d.size = 0 then [] else ints lit2.data.toList ++ quoteZ T d
theorem data_app (a b : ByteArray) : (a ++ b).data.toList = a.data.toList ++ b.data.toList := by simp [ByteArray.data_append]
theorem quote_ints (T : PrintTabs) (c : ByteArray) : ints (quoteS T c).data.toList = quoteZ T c := ints_nums _ (quote_byte T c)
theorem one_ints (T : PrintTabs) (m c : ByteArray) : ints (one1 T m c).data.toList = ints m.data.toList ++ partA T c := by
  unfold one1 partA
  split
  · simp
  · rw [data_app, data_app, ints_append, ints_append, quote_ints]
theorem out_ints (T : PrintTabs) (m c d : ByteArray) : ints (outS T m c d).data.toList = ints m.data.toList ++ (partA T c ++ partB T d) := by
  unfold outS
  by_cases h : d.size = 0
  · rw [if_pos h, one_ints, partB, if_pos h, List.append_nil]
  · rw [if_neg h, data_app, data_app, ints_append, ints_append, quote_ints, one_ints, partB, if_neg h, List.append_assoc]
theorem size_zero {c d : ByteArray} (h : c.size = 0) (h' : d.size = 0) : c = d := bytes_ext (by rw [empty_of (by omega), empty_of (by omega)])
theorem B_inj (T : PrintTabs) (d d' : ByteArray) (h : partB T d = partB T d') : d = d' := by
  unfold partB at h
  by_cases h1 : d.size = 0 <;> by_cases h2 : d'.size = 0
  · exact size_zero h1 h2
  · rw [if_pos h1, if_neg h2] at h; cases h
  · rw [if_neg h1, if_pos h2] at h; cases h
  · rw [if_neg h1, if_neg h2] at h
    have := List.append_cancel_left h
    exact (quote_inj T d d' [] [] (by rw [this])).1
theorem A_inj (T : PrintTabs) (c d c' d' : ByteArray) (h : partA T c ++ partB T d = partA T c' ++ partB T d') : c = c' ∧ d = d' := by
  have hB : ∀ d X, partB T d ≠ 32 :: X := fun d X e => by
    unfold partB at e
    by_cases h1 : d.size = 0
    · rw [if_pos h1] at e; cases e
    · rw [if_neg h1] at e
      have := (List.cons.inj e).1
      revert this; decide
  unfold partA at h
  by_cases h1 : c.size = 0 <;> by_cases h2 : c'.size = 0
  · rw [if_pos h1, if_pos h2] at h
    exact ⟨size_zero h1 h2, B_inj T d d' h⟩
  · rw [if_pos h1, if_neg h2] at h
    exact (hB d _ h).elim
  · rw [if_neg h1, if_pos h2] at h
    exact (hB d' _ h.symm).elim
  · rw [if_neg h1, if_neg h2, List.append_assoc, List.append_assoc] at h
    obtain ⟨e1, e2⟩ := quote_inj T c c' _ _ (List.append_cancel_left h)
    exact ⟨e1, B_inj T d d' e2⟩
theorem out_inj (T : PrintTabs) (m c d c' d' : ByteArray) : outS T m c d = outS T m c' d' ↔ (c = c' ∧ d = d') := by
  constructor
  · intro h
    have h1 := congrArg (fun s : ByteArray => ints s.data.toList) h
    simp only [out_ints] at h1
    exact A_inj T c d c' d' (List.append_cancel_left h1)
  · rintro ⟨rfl, rfl⟩; rfl
end Go.Proofs.Qxb6601947aDoor
