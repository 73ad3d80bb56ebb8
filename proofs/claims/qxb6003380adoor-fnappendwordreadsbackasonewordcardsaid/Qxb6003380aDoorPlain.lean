/-
  Plain mathematics of the seat: how a word is escaped, and how a bare word is read back token by token. No Go in sight.
-/
import Derived.Lib.Strings
namespace Go.Proofs.Qxb6003380aDoor.Plain

/-- The seven bytes that only a backslash quotes. -/
def spec (c : UInt8) : Bool := c == 93 || c == 91 || c == 36 || c == 59 || c == 32 || c == 92 || c == 34
/-- What appendEscaped writes for one byte. -/
def escB (br : Bool) (c : UInt8) : List UInt8 :=
  if spec c then [92, c]
  else if c == 123 || c == 125 then (if br then [92, c] else [c])
  else if c == 12 then [92, 102]
  else if c == 10 then [92, 110]
  else if c == 13 then [92, 114]
  else if c == 9 then [92, 116]
  else if c == 11 then [92, 118]
  else [c]
def esc (hash br : Bool) (l : List UInt8) : List UInt8 := (if hash then [92] else []) ++ l.flatMap (escB br)

/-- A byte that stands for itself in a bare word. -/
def lone (c : UInt8) : Bool := !(c == 32 || c == 9 || c == 11 || c == 12 || c == 13 || c == 10 || c == 59 || c == 36 || c == 91 || c == 92)
/-- A byte that, behind a backslash, stands for itself. -/
def self (d : UInt8) : Bool := d == 93 || d == 91 || d == 36 || d == 59 || d == 32 || d == 92 || d == 34 || d == 123 || d == 125 || d == 35
/-- What a backslash and d stand for (of the sequences that are written). -/
def bs (d : UInt8) : Option UInt8 :=
  if self d then some d
  else if d == 102 then some 12
  else if d == 110 then some 10
  else if d == 114 then some 13
  else if d == 116 then some 9
  else if d == 118 then some 11
  else none

/-- A token: its bytes, and the byte that it stands for. -/
def good (t : List UInt8 × UInt8) : Prop := (t.1 = [t.2] ∧ lone t.2 = true) ∨ ∃ d, t.1 = [92, d] ∧ bs d = some t.2
def flat (T : List (List UInt8 × UInt8)) : List UInt8 := T.flatMap (·.1)
def vals (T : List (List UInt8 × UInt8)) : List UInt8 := T.map (·.2)

theorem flat_cons (t : List UInt8 × UInt8) (T : List (List UInt8 × UInt8)) : flat (t :: T) = t.1 ++ flat T := by simp [flat]
theorem vals_cons (t : List UInt8 × UInt8) (T : List (List UInt8 × UInt8)) : vals (t :: T) = t.2 :: vals T := rfl

theorem all_u8 {p : UInt8 → Bool} (h : (List.range 256).all (fun n => p (UInt8.ofNat n)) = true) (c : UInt8) : p c = true := by
  have := List.all_eq_true.1 h c.toNat (List.mem_range.2 c.toNat_lt)
  simpa using this

def goodB (t : List UInt8) (c : UInt8) : Bool := match t with
  | [x] => x == c && lone c
  | [x, d] => x == 92 && bs d == some c
  | _ => false
theorem good_of_B {t : List UInt8} {c : UInt8} (h : goodB t c = true) : good (t, c) := by
  unfold goodB at h
  split at h
  · simp at h; exact Or.inl ⟨by simp [h.1], h.2⟩
  · simp at h; exact Or.inr ⟨_, by simp [h.1], h.2⟩
  · cases h

theorem good_escB (br : Bool) (c : UInt8) : good (escB br c, c) := by
  apply good_of_B
  cases br
  · exact all_u8 (p := fun c => goodB (escB false c) c) (by decide +kernel) c
  · exact all_u8 (p := fun c => goodB (escB true c) c) (by decide +kernel) c
theorem escB_len (br : Bool) (c : UInt8) : 1 ≤ (escB br c).length ∧ (escB br c).length ≤ 2 := by
  cases br
  · have := all_u8 (p := fun c => decide (1 ≤ (escB false c).length ∧ (escB false c).length ≤ 2)) (by decide +kernel) c
    simpa using this
  · have := all_u8 (p := fun c => decide (1 ≤ (escB true c).length ∧ (escB true c).length ≤ 2)) (by decide +kernel) c
    simpa using this

/-- The tokens of an escaped word. -/
def toks (hash br : Bool) (l : List UInt8) : List (List UInt8 × UInt8) :=
  match hash, l with
  | true, c :: t => (92 :: escB br c, c) :: t.map fun c => (escB br c, c)
  | _, l => l.map fun c => (escB br c, c)

theorem flat_map (br : Bool) (l : List UInt8) : flat (l.map fun c => (escB br c, c)) = l.flatMap (escB br) := by
  induction l with
  | nil => rfl
  | cons c t ih => rw [List.map_cons, flat_cons, ih]; rfl
theorem vals_map (br : Bool) (l : List UInt8) : vals (l.map fun c => (escB br c, c)) = l := by
  induction l with
  | nil => rfl
  | cons c t ih => rw [List.map_cons, vals_cons, ih]
theorem flat_toks (hash br : Bool) (l : List UInt8) (hl : l ≠ []) : flat (toks hash br l) = esc hash br l := by
  cases hash
  · show flat (l.map _) = _
    rw [flat_map]; rfl
  · cases l with
    | nil => exact absurd rfl hl
    | cons c t =>
      show flat ((92 :: escB br c, c) :: t.map _) = _
      rw [flat_cons, flat_map]; rfl
theorem vals_toks (hash br : Bool) (l : List UInt8) : vals (toks hash br l) = l := by
  cases hash
  · exact vals_map br l
  · cases l with
    | nil => rfl
    | cons c t =>
      show vals ((92 :: escB br c, c) :: t.map _) = _
      rw [vals_cons, vals_map]
theorem good_toks (hash br : Bool) (l : List UInt8) (hh : hash = true → l.head? = some 35) : ∀ t ∈ toks hash br l, good t := by
  intro t ht
  cases hash
  · obtain ⟨c, _, rfl⟩ := List.mem_map.1 ht
    exact good_escB br c
  · cases l with
    | nil => cases ht
    | cons c u =>
      rcases List.mem_cons.1 ht with rfl | ht
      · have : c = 35 := by simpa using hh rfl
        subst this
        exact Or.inr ⟨35, by cases br <;> rfl, rfl⟩
      · obtain ⟨c, _, rfl⟩ := List.mem_map.1 ht
        exact good_escB br c

theorem esc_snoc (hash br : Bool) (l : List UInt8) (c : UInt8) : esc hash br (l ++ [c]) = esc hash br l ++ escB br c := by
  simp [esc, List.flatMap_append]
theorem esc_length (br : Bool) (l : List UInt8) : l.length ≤ (l.flatMap (escB br)).length ∧ (l.flatMap (escB br)).length ≤ 2 * l.length := by
  induction l with
  | nil => simp
  | cons c t ih =>
    have := escB_len br c
    simp only [List.flatMap_cons, List.length_append, List.length_cons]
    omega
theorem esc_true (br : Bool) (l : List UInt8) : esc true br l = 92 :: l.flatMap (escB br) := rfl
theorem esc_false (br : Bool) (l : List UInt8) : esc false br l = l.flatMap (escB br) := rfl
theorem esc_le (hash br : Bool) (l : List UInt8) : (esc hash br l).length ≤ 2 * l.length + 1 := by
  have := esc_length br l
  cases hash
  · rw [esc_false]; omega
  · rw [esc_true, List.length_cons]; omega
theorem esc_twice (hash br : Bool) (l : List UInt8) (hh : hash = true → l.head? = some 35) : (esc hash br l).length ≤ 2 * l.length := by
  cases hash
  · have := esc_length br l
    rw [esc_false]; omega
  · cases l with
    | nil => exact absurd (hh rfl) (by simp)
    | cons c t =>
      have : c = 35 := by simpa using hh rfl
      subst this
      have h1 := esc_length br t
      have h2 : (escB br 35).length = 1 := by cases br <;> rfl
      rw [esc_true, List.flatMap_cons, List.length_cons, List.length_append, h2, List.length_cons]
      omega
theorem esc_pos (hash br : Bool) (l : List UInt8) : l.length ≤ (esc hash br l).length := by
  have h1 := esc_length br l
  cases hash
  · rw [esc_false]; omega
  · rw [esc_true, List.length_cons]; omega
end Go.Proofs.Qxb6003380aDoor.Plain
