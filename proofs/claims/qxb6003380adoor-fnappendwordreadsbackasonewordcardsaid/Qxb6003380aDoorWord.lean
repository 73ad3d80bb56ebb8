/-
  Plain mathematics: how appendWord looks a word over, what it then writes, and that braces keep it whole. No Go in sight.
-/
import Derived.Test.Qxb6003380aDoorPlain
namespace Go.Proofs.Qxb6003380aDoor.Plain

structure St where
  need : Bool
  pb : Bool
  pe : Bool
  q : Bool
  nest : Int

/-- The bytes that braces quote best. -/
def wsp (c : UInt8) : Bool := c == 91 || c == 36 || c == 59 || c == 32 || c == 12 || c == 10 || c == 13 || c == 9 || c == 11
/-- One byte looked at, with the byte behind it. -/
def one (c : UInt8) (nxt : Option UInt8) (st : St) : St :=
  if c = 123 then { st with nest := st.nest + 1 }
  else if c = 125 then { st with nest := st.nest - 1, need := st.need || decide (st.nest - 1 < 0) }
  else if c = 93 ∨ c = 34 then { st with q := true, pe := true }
  else if wsp c = true then { st with q := true, pb := true }
  else if c = 92 then { st with q := true, pb := true, need := st.need || (nxt == none || nxt == some 10) }
  else st
def scan : List UInt8 → St → St
  | [], st => st
  | [c], st => one c none st
  | c :: d :: t, st => if c = 92 ∧ (d = 123 ∨ d = 125 ∨ d = 92) then scan t { st with q := true, pb := true } else scan (d :: t) (one c (some d) st)

theorem scan_skip (d : UInt8) (t : List UInt8) (st : St) (h : d = 123 ∨ d = 125 ∨ d = 92) : scan (92 :: d :: t) st = scan t { st with q := true, pb := true } := by
  simp [scan, h]
theorem scan_one (c : UInt8) (t : List UInt8) (st : St) (h : c ≠ 92 ∨ ∀ d u, t = d :: u → ¬ (d = 123 ∨ d = 125 ∨ d = 92)) : scan (c :: t) st = scan t (one c t.head? st) := by
  cases t with
  | nil => simp [scan]
  | cons d t =>
    have hn : ¬ (c = 92 ∧ (d = 123 ∨ d = 125 ∨ d = 92)) := by
      rintro ⟨h1, h2⟩
      rcases h with h | h
      · exact h h1
      · exact h d t rfl h2
    simp only [scan]
    rw [if_neg hn]
    rfl
/-- Either one byte is looked at, or an escaped brace or backslash is passed over. -/
theorem scan_ind {P : List UInt8 → Prop} (h0 : P []) (h1 : ∀ c t, (c ≠ 92 ∨ ∀ d u, t = d :: u → ¬ (d = 123 ∨ d = 125 ∨ d = 92)) → P t → P (c :: t)) (h2 : ∀ d t, (d = 123 ∨ d = 125 ∨ d = 92) → P t → P (92 :: d :: t)) : ∀ l, P l := by
  intro l
  suffices h : ∀ n (l : List UInt8), l.length ≤ n → P l from h l.length l (Nat.le_refl _)
  intro n
  induction n with
  | zero => intro l hl; have hl0 : l = [] := List.length_eq_zero_iff.1 (by omega)
            rw [hl0]; exact h0
  | succ n ih =>
    intro l hl
    cases l with
    | nil => exact h0
    | cons c t =>
      cases t with
      | nil => exact h1 c [] (Or.inr (fun d u e => by cases e)) h0
      | cons d t =>
        by_cases hc : c = 92 ∧ (d = 123 ∨ d = 125 ∨ d = 92)
        · obtain ⟨rfl, hd⟩ := hc
          exact h2 d t hd (ih t (by simp at hl; omega))
        · refine h1 c (d :: t) ?_ (ih (d :: t) (by simp at hl ⊢; omega))
          by_cases h : c = 92
          · refine Or.inr (fun d' u e hd => hc ⟨h, ?_⟩)
            cases e
            exact hd
          · exact Or.inl h

theorem one_q (c : UInt8) (n : Option UInt8) (st : St) (h : st.q = true) : (one c n st).q = true := by
  unfold one; repeat (split; · first | exact h | rfl)
  exact h
theorem one_pb (c : UInt8) (n : Option UInt8) (st : St) (h : st.pb = true) : (one c n st).pb = true := by
  unfold one; repeat (split; · first | exact h | rfl)
  exact h
theorem one_need (c : UInt8) (n : Option UInt8) (st : St) (h : st.need = true) : (one c n st).need = true := by
  unfold one; repeat (split; · first | exact h | simp [h])
  exact h
theorem scan_q (l : List UInt8) : ∀ st : St, st.q = true → (scan l st).q = true := by
  refine scan_ind (P := fun l => ∀ st : St, st.q = true → (scan l st).q = true) ?_ ?_ ?_ l
  · intro st h; exact h
  · intro c t hc ih st h; rw [scan_one c t st hc]; exact ih _ (one_q _ _ _ h)
  · intro d t hd ih st _; rw [scan_skip d t st hd]; exact ih _ rfl
theorem scan_pb (l : List UInt8) : ∀ st : St, st.pb = true → (scan l st).pb = true := by
  refine scan_ind (P := fun l => ∀ st : St, st.pb = true → (scan l st).pb = true) ?_ ?_ ?_ l
  · intro st h; exact h
  · intro c t hc ih st h; rw [scan_one c t st hc]; exact ih _ (one_pb _ _ _ h)
  · intro d t hd ih st _; rw [scan_skip d t st hd]; exact ih _ rfl
theorem scan_need (l : List UInt8) : ∀ st : St, st.need = true → (scan l st).need = true := by
  refine scan_ind (P := fun l => ∀ st : St, st.need = true → (scan l st).need = true) ?_ ?_ ?_ l
  · intro st h; exact h
  · intro c t hc ih st h; rw [scan_one c t st hc]; exact ih _ (one_need _ _ _ h)
  · intro d t hd ih st h; rw [scan_skip d t st hd]; exact ih _ h
theorem false_of_true {a b : Bool} (h : a = true → b = true) (hb : b = false) : a = false := by
  cases a
  · rfl
  · rw [h rfl] at hb; cases hb

/-- Nothing in it needs quoting: each byte stands for itself. -/
theorem lone_of_scan (l : List UInt8) : ∀ st : St, (scan l st).q = false → ∀ c ∈ l, lone c = true := by
  refine scan_ind (P := fun l => ∀ st : St, (scan l st).q = false → ∀ c ∈ l, lone c = true) ?_ ?_ ?_ l
  · intro st _ c hc; cases hc
  · intro c t hc ih st h x hx
    rw [scan_one c t st hc] at h
    rcases List.mem_cons.1 hx with rfl | hx
    · have h1 : (one x t.head? st).q = false := false_of_true (scan_q t _) h
      have key : (one x t.head? st).q = true ∨ lone x = true := by
        cases hl : lone x with
        | true => exact Or.inr rfl
        | false =>
          have := all_u8 (p := fun x => lone x || ((wsp x || x == 92) && x != 123 && x != 125 && x != 93 && x != 34)) (by decide +kernel) x
          rw [hl] at this
          simp at this
          obtain ⟨⟨⟨⟨a1, a2⟩, a3⟩, a4⟩, a5⟩ := this
          left
          unfold one
          rw [if_neg a2, if_neg a3, if_neg (fun h => h.elim a4 a5)]
          rcases a1 with a1 | a1
          · rw [if_pos a1]
          · by_cases hw : wsp x = true
            · rw [if_pos hw]
            · rw [if_neg hw, if_pos a1]
      rcases key with k | k
      · rw [k] at h1; cases h1
      · exact k
    · exact ih _ h x hx
  · intro d t hd ih st h
    rw [scan_skip d t st hd, scan_q t _ rfl] at h
    cases h

/-- How the reader counts braces: a backslash passes the next byte over. -/
def bal : List UInt8 → Nat → Bool
  | [], n => n == 0
  | [c], n => if c = 92 then false else if c = 123 then false else if c = 125 then n == 1 else n == 0
  | c :: d :: t, n => if c = 92 then bal t n else if c = 123 then bal (d :: t) (n + 1) else if c = 125 then (if n = 0 then false else bal (d :: t) (n - 1)) else bal (d :: t) n
theorem bal_bs (d : UInt8) (t : List UInt8) (n : Nat) : bal (92 :: d :: t) n = bal t n := by simp [bal]
theorem bal_open (t : List UInt8) (n : Nat) : bal (123 :: t) n = bal t (n + 1) := by cases t <;> simp [bal]
theorem bal_shut (t : List UInt8) (n : Nat) : bal (125 :: t) n = if n = 0 then false else bal t (n - 1) := by
  cases t with
  | nil => cases n <;> simp [bal]
  | cons d t => simp [bal]
theorem bal_other (c : UInt8) (t : List UInt8) (n : Nat) (h1 : c ≠ 92) (h2 : c ≠ 123) (h3 : c ≠ 125) : bal (c :: t) n = bal t n := by cases t <;> simp [bal, h1, h2, h3]
theorem bal_lone (n : Nat) : bal [92] n = false := rfl

/-- A backslash and a line end that no backslash before it escapes. -/
def jl : List UInt8 → Bool
  | [] => false
  | [_] => false
  | c :: d :: t => if c = 92 then (if d = 10 then true else jl t) else jl (d :: t)
theorem jl_bs (d : UInt8) (t : List UInt8) : jl (92 :: d :: t) = if d = 10 then true else jl t := by simp [jl]
theorem jl_other (c : UInt8) (t : List UInt8) (h : c ≠ 92) : jl (c :: t) = jl t := by cases t <;> simp [jl, h]

theorem one_keeps (c : UInt8) (n : Option UInt8) (st : St) (h1 : c ≠ 123) (h2 : c ≠ 125) (h3 : c ≠ 92) : (one c n st).nest = st.nest ∧ (one c n st).need = st.need := by
  unfold one
  rw [if_neg h1, if_neg h2]
  split
  · exact ⟨rfl, rfl⟩
  · split
    · exact ⟨rfl, rfl⟩
    · exact ⟨rfl, rfl⟩
theorem one_open (n : Option UInt8) (st : St) : (one 123 n st).nest = st.nest + 1 ∧ (one 123 n st).need = st.need := ⟨rfl, rfl⟩
theorem one_shut (n : Option UInt8) (st : St) : (one 125 n st).nest = st.nest - 1 ∧ (one 125 n st).need = (st.need || decide (st.nest - 1 < 0)) := ⟨rfl, rfl⟩
theorem one_bs (n : Option UInt8) (st : St) : (one 92 n st).nest = st.nest ∧ (one 92 n st).need = (st.need || (n == none || n == some 10)) := ⟨rfl, rfl⟩

/-- Braces keep it whole: they balance as the reader counts them, and no line end is joined. -/
theorem whole_of_scan (l : List UInt8) : ∀ (st : St) (n : Nat), st.nest = n → (scan l st).need = false → (scan l st).nest = 0 → bal l n = true ∧ jl l = false := by
  suffices h : ∀ m (l : List UInt8), l.length ≤ m → ∀ (st : St) (n : Nat), st.nest = n → (scan l st).need = false → (scan l st).nest = 0 → bal l n = true ∧ jl l = false from h l.length l (Nat.le_refl _)
  intro m
  induction m with
  | zero =>
    intro l hl st n hn _ h0
    have hl0 : l = [] := List.length_eq_zero_iff.1 (by omega)
    subst hl0
    have h0' : st.nest = 0 := h0
    have : n = 0 := by omega
    subst this
    exact ⟨rfl, rfl⟩
  | succ m ih =>
    intro l hl st n hn hneed h0
    cases l with
    | nil =>
      have h0' : st.nest = 0 := h0
      have : n = 0 := by omega
      subst this
      exact ⟨rfl, rfl⟩
    | cons c t =>
      have hlt : t.length ≤ m := by simp at hl; omega
      by_cases hc : c = 92
      · subst hc
        cases t with
        | nil =>
          rw [scan_one 92 [] st (Or.inr (fun d u e => by cases e))] at hneed
          have : (one 92 none st).need = true := by simp [one, wsp]
          rw [show scan [] (one 92 ([] : List UInt8).head? st) = one 92 none st from rfl, this] at hneed
          cases hneed
        | cons d t =>
          have hlt2 : t.length ≤ m := by simp at hlt; omega
          rw [bal_bs, jl_bs]
          by_cases hd : d = 123 ∨ d = 125 ∨ d = 92
          · rw [scan_skip d t st hd] at hneed h0
            have hd10 : d ≠ 10 := by rcases hd with rfl | rfl | rfl <;> decide
            rw [if_neg hd10]
            exact ih t hlt2 { st with q := true, pb := true } n hn hneed h0
          · have hs : scan (92 :: d :: t) st = scan (d :: t) (one 92 (some d) st) := scan_one 92 (d :: t) st (Or.inr (fun d' u e => by cases e; exact hd))
            have hd3 : d ≠ 92 := fun e => hd (Or.inr (Or.inr e))
            have hs2 : scan (d :: t) (one 92 (some d) st) = scan t (one d t.head? (one 92 (some d) st)) := scan_one d t _ (Or.inl hd3)
            rw [hs, hs2] at hneed h0
            have k := one_keeps d t.head? (one 92 (some d) st) (fun e => hd (Or.inl e)) (fun e => hd (Or.inr (Or.inl e))) hd3
            have hn1 : (one d t.head? (one 92 (some d) st)).need = false := false_of_true (scan_need t _) hneed
            rw [k.2, (one_bs (some d) st).2] at hn1
            have hd10 : d ≠ 10 := by
              rintro rfl
              simp at hn1
            rw [if_neg hd10]
            exact ih t hlt2 _ n (by rw [k.1, (one_bs (some d) st).1]; exact hn) hneed h0
      · rw [scan_one c t st (Or.inl hc)] at hneed h0
        rw [jl_other c t hc]
        have hn1 : (one c t.head? st).need = false := false_of_true (scan_need t _) hneed
        by_cases h1 : c = 123
        · subst h1
          rw [bal_open]
          exact ih t hlt _ (n + 1) (by rw [(one_open t.head? st).1]; omega) hneed h0
        · by_cases h2 : c = 125
          · subst h2
            rw [bal_shut]
            rw [(one_shut t.head? st).2] at hn1
            have hpos : n ≠ 0 := by
              rintro rfl
              simp [hn] at hn1
            rw [if_neg hpos]
            exact ih t hlt _ (n - 1) (by rw [(one_shut t.head? st).1]; omega) hneed h0
          · rw [bal_other c t n hc h1 h2]
            exact ih t hlt _ n (by rw [(one_keeps c t.head? st h1 h2 hc).1]; exact hn) hneed h0

def st0 (h : Bool) : St := { need := false, pb := h, pe := false, q := h, nest := 0 }
def hashOf (first : Bool) (l : List UInt8) : Bool := first && l.head? == some 35
def opn (hash : Bool) (l : List UInt8) : Bool := l.head? == some 123 || l.head? == some 34 || hash
/-- What the look over the word leaves. -/
def seen (hash : Bool) (l : List UInt8) : St := scan l (st0 (opn hash l))
/-- What is written, the look's outcome given. -/
def wr (hash : Bool) (l : List UInt8) (R : St) : List UInt8 :=
  if (R.need || R.nest != 0) = true then esc hash true l else if (R.pe && !R.pb) = true then esc hash false l else if R.q = true then 123 :: (l ++ [125]) else l
/-- What appendWord writes. -/
def wordL (first : Bool) (l : List UInt8) : List UInt8 :=
  if l = [] then [123, 125] else wr (hashOf first l) l (seen (hashOf first l) l)

theorem word_other (first : Bool) (l : List UInt8) (h : l.head? ≠ some 35) : wordL (!first) l = wordL first l := by
  have e : ∀ f, hashOf f l = false := fun f => by simp [hashOf, h]
  simp [wordL, e]
theorem wr_len (hash : Bool) (l : List UInt8) (R : St) : (wr hash l R).length ≤ 2 * l.length + 2 := by
  unfold wr
  have h1 := esc_le hash true l
  have h2 := esc_le hash false l
  split
  · omega
  · split
    · omega
    · split
      · simp; omega
      · omega
theorem word_len (first : Bool) (l : List UInt8) : (wordL first l).length ≤ 2 * l.length + 2 := by
  unfold wordL
  split
  · simp
  · exact wr_len _ _ _

def headB (br : Bool) (c : UInt8) : Bool := match escB br c with
  | [] => false
  | x :: _ => x != 123 && x != 34 && (x == 92 || x == c)
theorem esc_top (hash br : Bool) (c : UInt8) (t : List UInt8) (hb : br = false → c ≠ 123) :
    ∃ c0 u0, esc hash br (c :: t) = c0 :: u0 ∧ c0 ≠ 123 ∧ c0 ≠ 34 ∧ (c0 = 92 ∨ (hash = false ∧ c0 = c)) := by
  cases hash
  · have hh : headB br c = true := by
      cases br
      · have := all_u8 (p := fun c => c == 123 || headB false c) (by decide +kernel) c
        simpa [hb rfl] using this
      · exact all_u8 (p := fun c => headB true c) (by decide +kernel) c
    rw [esc_false, List.flatMap_cons]
    unfold headB at hh
    split at hh
    · cases hh
    · rename_i x r hx
      rw [hx]
      simp at hh
      exact ⟨x, r ++ t.flatMap (escB br), rfl, hh.1.1, hh.1.2, hh.2.imp id (fun h => ⟨rfl, h⟩)⟩
  · exact ⟨92, _, esc_true br (c :: t), by decide, by decide, Or.inl rfl⟩

/-- A word written bare reads back by its tokens; a braced one is whole. -/
theorem word_cases (first : Bool) (l : List UInt8) :
    (∃ T c0 u0, flat T = wordL first l ∧ vals T = l ∧ (∀ t ∈ T, good t) ∧ wordL first l = c0 :: u0 ∧ c0 ≠ 123 ∧ c0 ≠ 34 ∧ (first = true → c0 ≠ 35)) ∨
    (wordL first l = 123 :: (l ++ [125]) ∧ bal l 0 = true ∧ jl l = false) := by
  cases l with
  | nil => exact Or.inr ⟨rfl, rfl, rfl⟩
  | cons c t =>
    have hne : (c :: t) ≠ [] := by simp
    have hW : wordL first (c :: t) = wr (hashOf first (c :: t)) (c :: t) (seen (hashOf first (c :: t)) (c :: t)) := if_neg hne
    rw [hW]
    have hhead : hashOf first (c :: t) = true → (c :: t).head? = some 35 := fun h => by
      simp [hashOf] at h
      simp [h.2]
    have hno : first = true → hashOf first (c :: t) = false → c ≠ 35 := by
      rintro rfl h rfl
      simp [hashOf] at h
    have hs : seen (hashOf first (c :: t)) (c :: t) = scan (c :: t) (st0 (opn (hashOf first (c :: t)) (c :: t))) := rfl
    have bare : ∀ br, (br = false → c ≠ 123) → wr (hashOf first (c :: t)) (c :: t) (seen (hashOf first (c :: t)) (c :: t)) = esc (hashOf first (c :: t)) br (c :: t) →
        ∃ T c0 u0, flat T = wr (hashOf first (c :: t)) (c :: t) (seen (hashOf first (c :: t)) (c :: t)) ∧ vals T = c :: t ∧ (∀ t ∈ T, good t) ∧ wr (hashOf first (c :: t)) (c :: t) (seen (hashOf first (c :: t)) (c :: t)) = c0 :: u0 ∧ c0 ≠ 123 ∧ c0 ≠ 34 ∧ (first = true → c0 ≠ 35) := by
      intro br hb he
      rw [he]
      obtain ⟨c0, u0, h1, h2, h3, h4⟩ := esc_top (hashOf first (c :: t)) br c t hb
      refine ⟨toks (hashOf first (c :: t)) br (c :: t), c0, u0, flat_toks _ _ _ hne, vals_toks _ _ _, good_toks _ _ _ hhead, h1, h2, h3, fun hf => ?_⟩
      rcases h4 with rfl | ⟨h5, rfl⟩
      · decide
      · exact hno hf h5
    generalize hR : seen (hashOf first (c :: t)) (c :: t) = R at hs bare ⊢
    unfold wr at bare ⊢
    by_cases h1 : (R.need || R.nest != 0) = true
    · rw [if_pos h1] at bare ⊢
      exact Or.inl (bare true (fun h => by cases h) rfl)
    · rw [if_neg h1] at bare ⊢
      have h1' : R.need = false ∧ R.nest = 0 := by simpa using h1
      by_cases h2 : (R.pe && !R.pb) = true
      · rw [if_pos h2] at bare ⊢
        refine Or.inl (bare false (fun _ hc => ?_) rfl)
        have hpb : R.pb = false := by simp at h2; exact h2.2
        rw [hs] at hpb
        have := false_of_true (scan_pb (c :: t) _) hpb
        simp [st0, opn, hc] at this
      · rw [if_neg h2] at bare ⊢
        by_cases h3 : R.q = true
        · rw [if_pos h3]
          have := whole_of_scan (c :: t) (st0 (opn (hashOf first (c :: t)) (c :: t))) 0 rfl (by rw [← hs]; exact h1'.1) (by rw [← hs]; exact h1'.2)
          exact Or.inr ⟨rfl, this.1, this.2⟩
        · rw [if_neg h3]
          have hq : R.q = false := by simpa using h3
          rw [hs] at hq
          have hlone := lone_of_scan (c :: t) _ hq
          have hq0 := false_of_true (scan_q (c :: t) _) hq
          simp [st0, opn] at hq0
          refine Or.inl ⟨(c :: t).map fun c => ([c], c), c, t, ?_, ?_, ?_, rfl, hq0.1.1, hq0.1.2, fun hf => hno hf hq0.2⟩
          · have : ∀ l : List UInt8, flat (l.map fun c => ([c], c)) = l := by
              intro l
              induction l with
              | nil => rfl
              | cons a u ih => rw [List.map_cons, flat_cons, ih]; rfl
            exact this _
          · have : ∀ l : List UInt8, vals (l.map fun c => ([c], c)) = l := by
              intro l
              induction l with
              | nil => rfl
              | cons a u ih => rw [List.map_cons, vals_cons, ih]
            exact this _
          · intro x hx
            obtain ⟨d, hd, rfl⟩ := List.mem_map.1 hx
            exact Or.inl ⟨rfl, hlone d hd⟩
end Go.Proofs.Qxb6003380aDoor.Plain
