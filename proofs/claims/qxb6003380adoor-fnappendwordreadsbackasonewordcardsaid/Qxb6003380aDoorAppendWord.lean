/-
  tdl.appendWord at this seat's dump, walked.
-/
import Derived.Test.Qxb6003380aDoorLawE
import Derived.Test.Qxb6003380aDoorWord
import Derived.Deep.DeepCutAuto
namespace Go.Proofs.Qxb6003380aDoor
open Go.RowKit Go.Proofs Plain

theorem head_at (s : ByteArray) (h : 0 < s.size) : s.data.toList.head? = some s[0] := by
  rw [List.head?_eq_getElem?, List.getElem?_eq_getElem (by simpa using h)]; rfl
theorem beq_num (c d : UInt8) : (c == d) = ((c.toNat : Int) == (d.toNat : Int)) := by
  by_cases h : c = d
  · subst h; simp
  · have h2 : c.toNat ≠ d.toNat := fun e => h (UInt8.toNat_inj.1 e)
    have e1 : (c == d) = false := by simp [h]
    rw [e1]
    exact (beq_eq_false_iff_ne.2 (by omega)).symm

theorem head_beq (c d : UInt8) (n : Int) (h : (d.toNat : Int) = n) : ((some c : Option UInt8) == some d) = ((c.toNat : Int) == n) := by
  rw [← h, ← beq_num]; rfl

theorem kinds (c : UInt8) : c = 123 ∨ c = 125 ∨ (c = 93 ∨ c = 34) ∨ (c = 91 ∨ c = 36 ∨ c = 59 ∨ c = 32 ∨ c = 12 ∨ c = 10 ∨ c = 13 ∨ c = 9 ∨ c = 11) ∨ c = 92 ∨
    (c ≠ 123 ∧ c ≠ 125 ∧ c ≠ 93 ∧ c ≠ 34 ∧ c ≠ 91 ∧ c ≠ 36 ∧ c ≠ 59 ∧ c ≠ 32 ∧ c ≠ 12 ∧ c ≠ 10 ∧ c ≠ 13 ∧ c ≠ 9 ∧ c ≠ 11 ∧ c ≠ 92) := by
  have := all_u8 (p := fun c => decide (c = 123 ∨ c = 125 ∨ (c = 93 ∨ c = 34) ∨ (c = 91 ∨ c = 36 ∨ c = 59 ∨ c = 32 ∨ c = 12 ∨ c = 10 ∨ c = 13 ∨ c = 9 ∨ c = 11) ∨ c = 92 ∨
    (c ≠ 123 ∧ c ≠ 125 ∧ c ≠ 93 ∧ c ≠ 34 ∧ c ≠ 91 ∧ c ≠ 36 ∧ c ≠ 59 ∧ c ≠ 32 ∧ c ≠ 12 ∧ c ≠ 10 ∧ c ≠ 13 ∧ c ≠ 9 ∧ c ≠ 11 ∧ c ≠ 92))) (by decide +kernel) c
  simpa using this
theorem next (d : UInt8) : d = 10 ∨ (d = 123 ∨ d = 125 ∨ d = 92) ∨ (d ≠ 10 ∧ d ≠ 123 ∧ d ≠ 125 ∧ d ≠ 92) := by
  by_cases h1 : d = 10
  · exact Or.inl h1
  by_cases h2 : d = 123 ∨ d = 125 ∨ d = 92
  · exact Or.inr (Or.inl h2)
  exact Or.inr (Or.inr ⟨h1, fun e => h2 (Or.inl e), fun e => h2 (Or.inr (Or.inl e)), fun e => h2 (Or.inr (Or.inr e))⟩)
theorem one_plain {c : UInt8} {n : Option UInt8} {st : St} (h : c ≠ 123 ∧ c ≠ 125 ∧ c ≠ 93 ∧ c ≠ 34 ∧ c ≠ 91 ∧ c ≠ 36 ∧ c ≠ 59 ∧ c ≠ 32 ∧ c ≠ 12 ∧ c ≠ 10 ∧ c ≠ 13 ∧ c ≠ 9 ∧ c ≠ 11 ∧ c ≠ 92) : one c n st = st := by
  obtain ⟨a1, a2, a3, a4, a5, a6, a7, a8, a9, a10, a11, a12, a13, a14⟩ := h
  simp [one, wsp, a1, a2, a3, a4, a5, a6, a7, a8, a9, a10, a11, a12, a13, a14]
theorem drop_at (t : ByteArray) (k : Nat) (h : k < t.size) : t.data.toList.drop k = t[k] :: t.data.toList.drop (k + 1) := by
  rw [List.drop_eq_getElem_cons (by simpa using h)]; rfl
theorem sc_skip {s : ByteArray} {k : Nat} {st R : St} (hk : k + 1 < s.size) (hc : s[k] = 92) (hd : s[k + 1] = 123 ∨ s[k + 1] = 125 ∨ s[k + 1] = 92) (h : scan (s.data.toList.drop k) st = R) :
    scan (s.data.toList.drop (k + 2)) { st with q := true, pb := true } = R := by
  rw [← h, drop_at s k (by omega), drop_at s (k + 1) hk, hc, scan_skip _ _ _ hd]
theorem sc_one {s : ByteArray} {k : Nat} {st R : St} (hk : k < s.size) (hc : s[k] ≠ 92 ∨ ∀ d u, s.data.toList.drop (k + 1) = d :: u → ¬ (d = 123 ∨ d = 125 ∨ d = 92)) (h : scan (s.data.toList.drop k) st = R) :
    scan (s.data.toList.drop (k + 1)) (one s[k] (s.data.toList.drop (k + 1)).head? st) = R := by
  rw [← h, drop_at s k hk, scan_one _ _ _ hc]

set_option maxHeartbeats 4000000 in
set_option maxRecDepth 100000 in
theorem word_any (B : Nat) (v : Value) (pre : List UInt8) (s : ByteArray) (first : Bool) (w : World) (hown : w.ownsRow B 5 1 v pre.length (Lib.byteCells pre)) (hB : B ≤ w.heap.size)
    (hp : pre.length ≤ 1048576) (hs : s.size ≤ 1048576) (hne : 0 < s.size) :
    Calls Tryd.prog 18 #[v, .string s, .bool first] w fun e w' => ∃ v', e = .returned v' ∧ Grew B w v w' v' (pre ++ wordL first s.data.toList) := by
  obtain ⟨i0, hi, hz0, hz1, hz2⟩ := info_parts infoByte
  have hG0 := Grew.refl hown
  have hse : (s.toList == []) = false := str_ne hne
  obtain ⟨hash, hh⟩ : ∃ hash, hash = hashOf first s.data.toList := ⟨_, rfl⟩
  obtain ⟨o, ho⟩ : ∃ o, o = opn hash s.data.toList := ⟨_, rfl⟩
  have HH : Hid (hash = (first && (s[0].toNat : Int) == 35)) := by
    show _ = _
    rw [hh, hashOf, head_at s hne]
    rw [head_beq s[0] 35 35 rfl]
  have HO : Hid (o = ((s[0].toNat : Int) == 123 || (s[0].toNat : Int) == 34 || hash)) := by
    show _ = _
    rw [ho, opn, head_at s hne]
    rw [head_beq s[0] 123 123 rfl, head_beq s[0] 34 34 rfl]
  have HW : Hid (wordL first s.data.toList = wr hash s.data.toList (scan s.data.toList (st0 o))) := by
    show _ = _
    have hl : s.data.toList ≠ [] := by
      intro e
      have := head_at s hne
      rw [e] at this; cases this
    rw [wordL, if_neg hl, ← hh]
    show wr hash _ (scan _ (st0 (opn hash _))) = _
    rw [← ho]
  clear hh ho
  go_enter Tryd.func18, Tryd.ntmps18
  go_upto_region 3 with fail
  go_cut [7] (fun a wc => a = .bool hash ∧ wc = w)
  case first =>
    cases first
    all_goals
      go_wp2
      go_meet
      case rel => exact ⟨by rw [HH.out]; rfl, rfl⟩
  case rest =>
    obtain ⟨rfl, rfl⟩ := hcut
    go_upto_region 5 with fail
    go_cut [34] (fun a wd => a = .bool o ∧ wd = wc)
    case first =>
      by_cases h1 : (s[0].toNat : Int) = 123
      · go_wp2
        go_meet
        case rel => exact ⟨by rw [HO.out]; simp [h1], rfl⟩
      · by_cases h2 : (s[0].toNat : Int) = 34
        · go_wp2
          go_meet
          case rel => exact ⟨by rw [HO.out]; simp [h2], rfl⟩
        · go_wp2
          go_meet
          case rel => exact ⟨by rw [HO.out]; try simp [h1, h2], rfl⟩
    case rest =>
      obtain ⟨rfl, rfl⟩ := hcut
      go_upto_if 34 with fail
      go_cut [9, 11] (fun a b wd => a = .bool o ∧ b = .bool o ∧ wd = wc)
      case first =>
        cases o
        all_goals
          go_wp2
          go_meet
          case rel => exact ⟨rfl, rfl, rfl⟩
      case rest =>
        obtain ⟨rfl, rfl, rfl⟩ := hcut
        go_wp2
        obtain ⟨R, hR⟩ : ∃ R, R = scan s.data.toList (st0 o) := ⟨_, rfl⟩
        have HR0 : Hid (scan (s.data.toList.drop 0) (st0 o) = R) := hR.symm
        have HW' : Hid (wordL first s.data.toList = wr hash s.data.toList R) := by
          show _ = _
          rw [HW.out, hR]
        clear hR HW HH HO hown
        go_loop [8, 9, 10, 11, 12, 13] (fun a1 a2 a3 a4 a5 i => ∃ (k : Nat) (st : St), k ≤ s.size ∧ i = .int .i64 k ∧ a1 = .bool st.need ∧ a2 = .bool st.pb ∧ a3 = .bool st.pe ∧ a4 = .bool st.q ∧ a5 = .int .i64 st.nest ∧ scan (s.data.toList.drop k) st = R ∧ -(k : Int) ≤ st.nest ∧ st.nest ≤ (k : Int))
          (fun _ _ _ _ _ i => s.size - (intOf i).toNat)
        case atStart => exact ⟨0, st0 o, Nat.zero_le _, rfl, rfl, rfl, rfl, rfl, rfl, HR0.out, Int.le_refl _, Int.le_refl _⟩
        case round =>
          obtain ⟨k, ⟨nd, pb, pe, q, ne⟩, hk, rfl, rfl, rfl, rfl, rfl, rfl, hsc, hn1, hn2⟩ := hrel
          have HS : Hid (scan (s.data.toList.drop k) ⟨nd, pb, pe, q, ne⟩ = R) := hsc
          have hm1 : -(k : Int) ≤ ne := hn1
          have hm2 : ne ≤ (k : Int) := hn2
          clear hsc HR0 hn1 hn2
          by_cases hlt : k < s.size
          · rcases kinds s[k] with h | h | h | h | h | h
            · have hv := num_of h (by decide)
              have HN := hid_eq (sc_one hlt (Or.inl (by rw [h]; decide)) HS.out)
              rw [h] at HN
              clear h
              go_wp2
              go_round
              case rel => exact ⟨k + 1, _, by omega, by go_num, rfl, rfl, rfl, rfl, rfl, HN.out, by simp [one]; omega, by simp [one]; omega⟩
              case measure => simp [intOf]; omega
            · have hv := num_of h (by decide)
              have HN := hid_eq (sc_one hlt (Or.inl (by rw [h]; decide)) HS.out)
              rw [h] at HN
              clear h
              by_cases hneg : ne - 1 < 0
              · go_wp2
                go_round
                case rel => exact ⟨k + 1, _, by omega, by go_num, by simp [one, hneg], rfl, rfl, rfl, rfl, HN.out, by simp [one]; omega, by simp [one]; omega⟩
                case measure => simp [intOf]; omega
              · go_wp2
                go_round
                case rel => exact ⟨k + 1, _, by omega, by go_num, by simp [one]; omega, rfl, rfl, rfl, rfl, HN.out, by simp [one]; omega, by simp [one]; omega⟩
                case measure => simp [intOf]; omega
            · rcases h with h | h
              all_goals
                have hv := num_of h (by decide)
                have HN := hid_eq (sc_one hlt (Or.inl (by rw [h]; decide)) HS.out)
                rw [h] at HN
                clear h
                go_wp2
                go_round
                case rel => exact ⟨k + 1, _, by omega, by go_num, rfl, rfl, rfl, rfl, rfl, HN.out, by show _ ≤ ne; omega, by show ne ≤ _; omega⟩
                case measure => simp [intOf]; omega
            · rcases h with h | h | h | h | h | h | h | h | h
              all_goals
                have hv := num_of h (by decide)
                have HN := hid_eq (sc_one hlt (Or.inl (by rw [h]; decide)) HS.out)
                rw [h] at HN
                clear h
                go_wp2
                go_round
                case rel => exact ⟨k + 1, _, by omega, by go_num, rfl, rfl, rfl, rfl, rfl, HN.out, by show _ ≤ ne; omega, by show ne ≤ _; omega⟩
                case measure => simp [intOf]; omega
            · have hv := num_of h (by decide)
              by_cases hl1 : k + 1 < s.size
              · rcases next s[k + 1] with h2 | h2 | h2
                · have hv2 := num_of h2 (by decide)
                  have HN := hid_eq (sc_one hlt (Or.inr (fun d u e => by rw [drop_at s (k + 1) hl1] at e; rw [← (List.cons.inj e).1, h2]; decide)) HS.out)
                  have hhd : (s.data.toList.drop (k + 1)).head? = some s[k + 1] := by rw [drop_at s (k + 1) hl1]; rfl
                  rw [h, hhd, h2] at HN
                  have hle : ((k : Int) + 1 == (s.size : Int)) = false := beq_eq_false_iff_ne.2 (by omega)
                  have hle2 : ¬ (k : Int) + 1 = (s.size : Int) := by omega
                  clear h h2 hhd
                  go_wp2
                  go_round
                  case rel => exact ⟨k + 1, _, by omega, by go_num, by simp [one, wsp], rfl, rfl, rfl, rfl, HN.out, by show _ ≤ ne; omega, by show ne ≤ _; omega⟩
                  case measure => simp [intOf]; omega
                · have HN := hid_eq (sc_skip hl1 h h2 HS.out)
                  have hle : ((k : Int) + 1 == (s.size : Int)) = false := beq_eq_false_iff_ne.2 (by omega)
                  have hle2 : ¬ (k : Int) + 1 = (s.size : Int) := by omega
                  clear h
                  rcases h2 with h2 | h2 | h2
                  all_goals
                    have hv2 := num_of h2 (by decide)
                    clear h2
                    go_wp2
                    go_round
                    case rel => exact ⟨k + 2, _, by omega, by go_num, rfl, rfl, rfl, rfl, rfl, HN.out, by show _ ≤ ne; omega, by show ne ≤ _; omega⟩
                    case measure => simp [intOf]; omega
                · obtain ⟨a1, a2, a3, a4⟩ := h2
                  have HN := hid_eq (sc_one hlt (Or.inr (fun d u e => by
                    rw [drop_at s (k + 1) hl1] at e
                    rw [← (List.cons.inj e).1]
                    rintro (e | e | e)
                    · exact a2 e
                    · exact a3 e
                    · exact a4 e)) HS.out)
                  have hhd : (s.data.toList.drop (k + 1)).head? = some s[k + 1] := by rw [drop_at s (k + 1) hl1]; rfl
                  have hone : one 92 (some s[k + 1]) ⟨nd, pb, pe, q, ne⟩ = ⟨nd, true, pe, true, ne⟩ := by simp [one, wsp, a1]
                  rw [h, hhd, hone] at HN
                  have b1 := n_ne (n := 10) (by decide) a1
                  have b2 := n_ne (n := 123) (by decide) a2
                  have b3 := n_ne (n := 125) (by decide) a3
                  have b4 := n_ne (n := 92) (by decide) a4
                  have c1 : ¬ (s[k + 1].toNat : Int) = 10 := by simpa using b1
                  have c2 : ¬ (s[k + 1].toNat : Int) = 123 := by simpa using b2
                  have c3 : ¬ (s[k + 1].toNat : Int) = 125 := by simpa using b3
                  have c4 : ¬ (s[k + 1].toNat : Int) = 92 := by simpa using b4
                  have hle : ((k : Int) + 1 == (s.size : Int)) = false := beq_eq_false_iff_ne.2 (by omega)
                  have hle2 : ¬ (k : Int) + 1 = (s.size : Int) := by omega
                  clear h a1 a2 a3 a4 hhd hone
                  go_wp2
                  · exfalso
                    have hx : (((s[k + 1].toNat : Int) == 123) = true ∨ ((s[k + 1].toNat : Int) == 125) = true) ∨ ((s[k + 1].toNat : Int) == 92) = true := by assumption
                    rcases hx with (hx | hx) | hx
                    · exact c2 (beq_iff_eq.1 hx)
                    · exact c3 (beq_iff_eq.1 hx)
                    · exact c4 (beq_iff_eq.1 hx)
                  · go_round
                    case rel => exact ⟨k + 1, _, by omega, by go_num, rfl, rfl, rfl, rfl, rfl, HN.out, by show _ ≤ ne; omega, by show ne ≤ _; omega⟩
                    case measure => simp [intOf]; omega
              · have hnil : s.data.toList.drop (k + 1) = [] := List.drop_eq_nil_of_le (by simp; omega)
                have HN := hid_eq (sc_one hlt (Or.inr (fun d u e => by rw [hnil] at e; cases e)) HS.out)
                rw [h, hnil] at HN
                have hle : ((k : Int) + 1 == (s.size : Int)) = true := beq_iff_eq.2 (by omega)
                clear h hnil
                go_wp2
                go_round
                case rel => exact ⟨k + 1, one 92 none ⟨nd, pb, pe, q, ne⟩, by omega, by go_num, by simp [one, wsp], rfl, rfl, rfl, rfl, by rw [List.drop_eq_nil_of_le (by rw [Array.length_toList]; show s.size ≤ k + 1; omega)]; exact HN.out, by show _ ≤ ne; omega, by show ne ≤ _; omega⟩
                case measure => simp [intOf]; omega
            · have HO := hid_eq (one_plain (n := (s.data.toList.drop (k + 1)).head?) (st := ⟨nd, pb, pe, q, ne⟩) h)
              have HN := hid_eq (sc_one hlt (Or.inl h.2.2.2.2.2.2.2.2.2.2.2.2.2) HS.out)
              obtain ⟨a1, a2, a3, a4, a5, a6, a7, a8, a9, a10, a11, a12, a13, a14⟩ := h
              have b1 := n_ne (n := 123) (by decide) a1
              have b2 := n_ne (n := 125) (by decide) a2
              have b3 := n_ne (n := 93) (by decide) a3
              have b4 := n_ne (n := 34) (by decide) a4
              have b5 := n_ne (n := 91) (by decide) a5
              have b6 := n_ne (n := 36) (by decide) a6
              have b7 := n_ne (n := 59) (by decide) a7
              have b8 := n_ne (n := 32) (by decide) a8
              have b9 := n_ne (n := 12) (by decide) a9
              have b10 := n_ne (n := 10) (by decide) a10
              have b11 := n_ne (n := 13) (by decide) a11
              have b12 := n_ne (n := 9) (by decide) a12
              have b13 := n_ne (n := 11) (by decide) a13
              have b14 := n_ne (n := 92) (by decide) a14
              clear a1 a2 a3 a4 a5 a6 a7 a8 a9 a10 a11 a12 a13 a14
              go_wp2
              go_round
              case rel => exact ⟨k + 1, ⟨nd, pb, pe, q, ne⟩, by omega, by go_num, rfl, rfl, rfl, rfl, rfl, by rw [← HN.out, HO.out], by show _ ≤ ne; omega, by show ne ≤ _; omega⟩
              case measure => simp [intOf]; omega
          · have hfin : (⟨nd, pb, pe, q, ne⟩ : St) = R := by
              rw [← HS.out, List.drop_eq_nil_of_le (by simp; omega)]; rfl
            subst hfin
            clear HS
            have he1 := escaped_any B v pre s hash true wc hG0.own hB hp hs
            have he2 := escaped_any B v pre s hash false wc hG0.own hB hp hs
            have hbytes : s.size ≤ 1048576 := hs
            cases hnd : (nd || ne != 0) with
            | true =>
              have HF : Hid (pre ++ wordL first s.data.toList = pre ++ esc hash true s.data.toList) := by
                show _ = _
                rw [HW'.out]
                show pre ++ (if (nd || ne != 0) = true then _ else _) = _
                rw [if_pos hnd]
              clear HW' he2
              cases nd with
              | true =>
                go_wp2_with (go_at_call 23; refine he1.mono ?_; rintro e w1 ⟨v1, rfl, hG⟩)
                all_goals
                  go_ret
                  exact ⟨_, rfl, by rw [HF.out]; exact hG⟩
              | false =>
                have hne0 : (ne != 0) = true := by simpa using hnd
                clear hnd
                go_wp2_with (go_at_call 23; refine he1.mono ?_; rintro e w1 ⟨v1, rfl, hG⟩)
                go_ret
                exact ⟨_, rfl, by rw [HF.out]; exact hG⟩
            | false =>
              have hnd' : nd = false ∧ (ne != 0) = false := by simpa using hnd
              obtain ⟨rfl, hne0⟩ := hnd'
              have HF1 : Hid (wordL first s.data.toList = if (pe && !pb) = true then esc hash false s.data.toList else if q = true then 123 :: (s.data.toList ++ [125]) else s.data.toList) := by
                show _ = _
                rw [HW'.out]
                show (if (false || ne != 0) = true then _ else _) = _
                rw [if_neg (by rw [hnd]; decide)]
              clear hnd HW' he1
              cases hpe : (pe && !pb) with
              | true =>
                have hpe' : pe = true ∧ pb = false := by simpa using hpe
                obtain ⟨rfl, rfl⟩ := hpe'
                have HF : Hid (pre ++ wordL first s.data.toList = pre ++ esc hash false s.data.toList) := by
                  show _ = _
                  rw [HF1.out, if_pos hpe]
                clear hpe HF1
                go_wp2_with (go_at_call 23; refine he2.mono ?_; rintro e w1 ⟨v1, rfl, hG⟩)
                go_ret
                exact ⟨_, rfl, by rw [HF.out]; exact hG⟩
              | false =>
                clear he2
                cases q with
                | false =>
                  have HF : Hid (pre ++ wordL first s.data.toList = pre ++ s.data.toList) := by
                    show _ = _
                    rw [HF1.out, if_neg (by rw [hpe]; decide), if_neg (by decide)]
                  clear HF1
                  cases pe <;> cases pb
                  all_goals
                    first
                      | (exfalso; revert hpe; decide)
                      | (clear hpe
                         go_wp2_with (at_builtin; refine wpList_append_string_at _ rfl _ _ 22 9 rfl B 5 i0 Tryd.underlying22 Tryd.underlying9 hi hz0 hz1 hz2 _ _ _ rfl hG0.own s rfl (by unfold maxLen; omega) (by omega) hB ?_)
                         intro v1 w1 hown1 hgrow1 hat1
                         go_wp2
                         go_ret
                         exact ⟨_, rfl, by rw [HF.out]; exact hG0.str (Lib.strCells_eq s) (by simp) hown1 hgrow1 hat1⟩)
                | true =>
                  have HF : Hid (pre ++ wordL first s.data.toList = pre ++ (123 :: (s.data.toList ++ [125]))) := by
                    show _ = _
                    rw [HF1.out, if_neg (by rw [hpe]; decide), if_pos rfl]
                  clear HF1
                  cases pe <;> cases pb
                  all_goals
                    first
                      | (exfalso; revert hpe; decide)
                      | (clear hpe
                         go_wp2_with (at_builtin; refine wpList_append_own_at _ rfl _ _ 22 rfl B 5 i0 (.int .u8 0) 1 1 Tryd.underlying22 hi hz0 hz1 hz2 rfl (by decide) _ _ _ rfl (hG0.own.alloc _) ⟨wc.heap.size, 0, none⟩ 1 1 [.int .u8 123] rfl rfl (new1 _ _ _) (one8 _) (by unfold maxLen; omega) (by omega) (by simp; omega) ?_)
                         intro v1 w1 hown1 hgrow1 _ hat1
                         have hG1 : Grew B wc v w1 v1 (pre ++ [123]) := hG0.app (m := [123]) rfl rfl hown1 hgrow1 hat1
                         have hB1 := hG1.base hB
                         have hl1 : (pre ++ [123]).length ≤ 1048577 := by simp; omega
                         clear hown1 hgrow1 hat1
                         go_wp2_with (at_builtin; refine wpList_append_string_at _ rfl _ _ 22 9 rfl B 5 i0 Tryd.underlying22 Tryd.underlying9 hi hz0 hz1 hz2 _ _ _ rfl hG1.own s rfl (by unfold maxLen; omega) (by omega) hB1 ?_)
                         intro v2 w2 hown2 hgrow2 hat2
                         have hG2 : Grew B wc v w2 v2 ((pre ++ [123]) ++ s.data.toList) := hG1.str (Lib.strCells_eq s) (by simp) hown2 hgrow2 hat2
                         have hB2 := hG2.base hB
                         have hl2 : ((pre ++ [123]) ++ s.data.toList).length ≤ 2097153 := by simp; omega
                         clear hown2 hgrow2 hat2 hG1
                         go_wp2_with (at_builtin; refine wpList_append_own_at _ rfl _ _ 22 rfl B 5 i0 (.int .u8 0) 1 1 Tryd.underlying22 hi hz0 hz1 hz2 rfl (by decide) _ _ _ rfl (hG2.own.alloc _) ⟨w2.heap.size, 0, none⟩ 1 1 [.int .u8 125] rfl rfl (new1 _ _ _) (one8 _) (by unfold maxLen; omega) (by omega) (by simp; omega) ?_)
                         intro v3 w3 hown3 hgrow3 _ hat3
                         go_wp2
                         go_ret
                         have hG2' : Grew B wc v w2 v2 (pre ++ 123 :: s.data.toList) := by
                           rw [List.append_assoc] at hG2; exact hG2
                         have hG3 : Grew B wc v w3 v3 ((pre ++ 123 :: s.data.toList) ++ [125]) := by
                           refine hG2'.app rfl ?_ hown3 hgrow3 hat3
                           have hz := Lib.size_eq s
                           simp only [List.length_append, List.length_cons, List.length_nil]
                           omega
                         rw [List.append_assoc] at hG3
                         exact ⟨_, rfl, by rw [HF.out]; exact hG3⟩)
end Go.Proofs.Qxb6003380aDoor
