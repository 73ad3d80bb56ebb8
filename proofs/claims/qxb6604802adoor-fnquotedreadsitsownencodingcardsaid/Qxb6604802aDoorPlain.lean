/-
  Plain mathematics of the seat: the field reader over lists of bytes, no Go in sight.
-/
import Derived.Lib.SlTrimSet
namespace Go.Proofs.Qxb6604802aDoor.Plain

/-- What stands behind the opening quote is read: 'none' where no closing quote comes; else the value (behind what was gathered) and the rest. -/
def rd : List UInt8 → List UInt8 → Option (List UInt8 × List UInt8)
  | [], _ => none
  | [c], acc => if c = 34 then some (acc, []) else none
  | c :: d :: t, acc => if c = 34 then (if d = 34 then rd t (acc ++ [34]) else some (acc, d :: t)) else rd (d :: t) (acc ++ [c])

theorem rd_other (c : UInt8) (t acc : List UInt8) (h : c ≠ 34) : rd (c :: t) acc = rd t (acc ++ [c]) := by
  cases t with
  | nil => simp [rd, h]
  | cons d t => simp [rd, h]
theorem rd_two (t acc : List UInt8) : rd (34 :: 34 :: t) acc = rd t (acc ++ [34]) := by simp [rd]
theorem rd_end (t acc : List UInt8) (h : ∀ u, t ≠ 34 :: u) : rd (34 :: t) acc = some (acc, t) := by
  cases t with
  | nil => simp [rd]
  | cons d t =>
    have : d ≠ 34 := fun e => h t (by rw [e])
    simp [rd, this]
theorem rd_twos (m : Nat) (t acc : List UInt8) : rd (List.replicate (2 * m) 34 ++ t) acc = rd t (acc ++ List.replicate m 34) := by
  induction m generalizing acc with
  | zero => simp
  | succ m ih =>
    have e : 2 * (m + 1) = (2 * m + 1) + 1 := by omega
    rw [e, List.replicate_succ, List.replicate_succ, List.cons_append, List.cons_append, rd_two, ih, List.append_assoc, List.replicate_succ]
    rfl

/-- The whole answer. -/
def ans (l : List UInt8) : Option (List UInt8 × List UInt8) :=
  match Lib.trimLeftS l [32, 9] with
  | [] => none
  | c :: t => if c = 34 then rd t [] else none
def val (l : List UInt8) : List UInt8 := ((ans l).map (·.1)).getD []
def rst (l : List UInt8) : List UInt8 := ((ans l).map (·.2)).getD []
def ok (l : List UInt8) : Bool := (ans l).isSome

/-- The encoding of a value, each quote doubled. -/
def enc : List UInt8 → List UInt8
  | [] => []
  | c :: t => if c = 34 then 34 :: 34 :: enc t else c :: enc t
theorem enc_length (l : List UInt8) : (enc l).length ≤ 2 * l.length := by
  induction l with
  | nil => simp [enc]
  | cons c t ih => by_cases h : c = 34 <;> simp [enc, h] <;> omega
theorem enc_append (a b : List UInt8) : enc (a ++ b) = enc a ++ enc b := by
  induction a with
  | nil => rfl
  | cons c t ih => by_cases h : c = 34 <;> simp [enc, h, ih]
theorem rd_enc (v r acc : List UInt8) (h : ∀ u, r ≠ 34 :: u) : rd (enc v ++ 34 :: r) acc = some (acc ++ v, r) := by
  induction v generalizing acc with
  | nil => simp [enc, rd_end r acc h]
  | cons c t ih =>
    by_cases hc : c = 34
    · subst hc
      simp only [enc, if_true, List.cons_append]
      rw [rd_two, ih]
      simp
    · simp only [enc, if_neg hc, List.cons_append]
      rw [rd_other _ _ _ hc, ih]
      simp
theorem ans_enc (pad v r : List UInt8) (hp : ∀ c ∈ pad, c = 32 ∨ c = 9) (h : ∀ u, r ≠ 34 :: u) :
    ans (pad ++ (34 :: enc v ++ [34]) ++ r) = some (v, r) := by
  have e : Lib.trimLeftS (pad ++ (34 :: enc v ++ [34]) ++ r) [32, 9] = 34 :: (enc v ++ 34 :: r) := by
    unfold Lib.trimLeftS
    induction pad with
    | nil => simp
    | cons c t ih =>
      have hc : ([32, 9] : List UInt8).contains c = true := by
        rcases hp c (by simp) with rfl | rfl <;> decide
      simp only [List.cons_append, List.dropWhile_cons, hc, if_true]
      exact ih (fun d hd => hp d (by simp [hd]))
  unfold ans
  rw [e]
  simp [rd_enc v r [] h]
end Go.Proofs.Qxb6604802aDoor.Plain
