/-
  zzSkipBlanks and zzQuotedRunModel at this seat's dump, walked: the run model answers as Plain.ans says.
-/
import Derived.Test.Qxb6604802aDoorQuoted
import Derived.Laws.IdiomStrings
namespace Go.Proofs.Qxb6604802aDoor
open Go.Shelf Go.RowKit Go.Proofs Plain

/-- How many blanks lead. -/
def bl (l : List UInt8) : Nat := (l.takeWhile (([32, 9] : List UInt8).contains ·)).length
theorem bl_le (l : List UInt8) : bl l ≤ l.length := (List.takeWhile_sublist _).length_le
theorem trim_bl (l : List UInt8) : Lib.trimLeftS l [32, 9] = l.drop (bl l) := by
  unfold Lib.trimLeftS bl
  induction l with
  | nil => rfl
  | cons c t ih =>
    by_cases h : ([32, 9] : List UInt8).contains c = true
    · simp only [List.dropWhile_cons, List.takeWhile_cons, h, if_true, List.length_cons, List.drop_succ_cons]
      exact ih
    · simp only [List.dropWhile_cons, List.takeWhile_cons, h]
      rfl
theorem bl_of (l : List UInt8) (k : Nat) (hk : k ≤ l.length) (h1 : ∀ c ∈ l.take k, c = 32 ∨ c = 9) (h2 : ∀ c, l[k]? = some c → c ≠ 32 ∧ c ≠ 9) : bl l = k := by
  induction l generalizing k with
  | nil => simp at hk; subst hk; rfl
  | cons c t ih =>
    cases k with
    | zero =>
      have := h2 c rfl
      have hc : ([32, 9] : List UInt8).contains c = false := by simp [this.1, this.2]
      simp only [bl, List.takeWhile_cons, hc]; rfl
    | succ k =>
      have hc : ([32, 9] : List UInt8).contains c = true := by
        rcases h1 c (by simp) with rfl | rfl <;> decide
      have := ih k (by simpa using hk) (fun d hd => h1 d (by simp [hd])) (fun d hd => h2 d (by simpa using hd))
      simp only [bl, List.takeWhile_cons, hc, if_true, List.length_cons]
      exact congrArg (· + 1) this

theorem take_at (s : ByteArray) (k : Nat) (h : k < s.size) : s.data.toList.take (k + 1) = s.data.toList.take k ++ [s[k]] := by
  rw [List.take_succ_eq_append_getElem (by simpa using h)]; rfl
theorem get_at (s : ByteArray) (k : Nat) (h : k < s.size) : s.data.toList[k]? = some s[k] := by
  rw [List.getElem?_eq_getElem (by simpa using h)]; rfl

theorem ret_int {k : IntKind} {a b : Int} (h : a = b) : Ending.returned (.int k a) = .returned (.int k b) := by rw [h]
theorem u8_of {c : UInt8} {n : Nat} (hn : n < 256) (h : (c.toNat : Int) = n) : c = UInt8.ofNat n := c_eq hn (by simpa using h)
theorem blank_step {s : ByteArray} {k : Nat} (hk : k < s.size) (hc : (s[k].toNat : Int) = 32 ∨ (s[k].toNat : Int) = 9) (hb : ∀ c ∈ s.data.toList.take k, c = 32 ∨ c = 9) : ∀ c ∈ s.data.toList.take (k + 1), c = 32 ∨ c = 9 := by
  intro c h
  rw [take_at s k hk] at h
  rcases List.mem_append.1 h with h | h
  · exact hb c h
  · simp at h
    subst h
    exact hc.imp (u8_of (n := 32) (by decide)) (u8_of (n := 9) (by decide))
theorem blank_out {s : ByteArray} {k : Nat} (hk : k < s.size) (hc : ((s[k].toNat : Int) == 32) = false ∧ ((s[k].toNat : Int) == 9) = false) : ∀ c, s.data.toList[k]? = some c → c ≠ 32 ∧ c ≠ 9 := by
  intro c h
  rw [get_at s k hk] at h
  cases h
  exact ⟨c_ne (n := 32) (by decide) hc.1, c_ne (n := 9) (by decide) hc.2⟩

set_option maxHeartbeats 1000000 in
theorem skip_any (s : ByteArray) (w : World) (hs : s.size ≤ 1048576) :
    Calls Tryd.prog 12 #[.string s] w fun e w' => e = .returned (.int .i64 (bl s.data.toList)) ∧ w' = w := by
  go_enter Tryd.func12, Tryd.ntmps12
  go_wp2
  go_loop [3] (fun i => ∃ k : Nat, k ≤ s.size ∧ i = .int .i64 k ∧ ∀ c ∈ s.data.toList.take k, c = 32 ∨ c = 9) (fun i => s.size - (intOf i).toNat)
  case atStart => exact ⟨0, Nat.zero_le _, rfl, by simp⟩
  case round =>
    obtain ⟨k, hk, rfl, hb⟩ := hrel
    have HB : Hid (∀ c ∈ s.data.toList.take k, c = 32 ∨ c = 9) := hb
    clear hb
    by_cases hlt : k < s.size
    · go_wp2
      · have hc : (s[k].toNat : Int) = 32 := by assumption
        go_round
        case rel => exact ⟨k + 1, by omega, by go_num, blank_step hlt (Or.inl hc) HB.out⟩
        case measure => simp [intOf]; omega
      · have hc : ((s[k].toNat : Int) == 32) = true ∨ ((s[k].toNat : Int) == 9) = true := by assumption
        go_round
        case rel => exact ⟨k + 1, by omega, by go_num, blank_step hlt (by simpa using hc) HB.out⟩
        case measure => simp [intOf]; omega
      · have hc : ((s[k].toNat : Int) == 32) = false ∧ ((s[k].toNat : Int) == 9) = false := by assumption
        go_ret
        exact ⟨ret_int (by rw [bl_of _ k (by simpa using hk) HB.out (blank_out hlt hc)]), rfl⟩
    · go_wp2
      go_ret
      exact ⟨ret_int (by rw [bl_of _ k (by simpa using hk) HB.out (fun c hc => by rw [List.getElem?_eq_none (by simp; omega)] at hc; cases hc)]), rfl⟩

/-- A new block of one cell. -/
theorem new1 (w : World) (x : Value) (e : TypeId) : ∀ j u, [x][j]? = some u → (w.alloc (.cells #[x] e)).cell? ((⟨w.heap.size, 0, none⟩ : Addr).add j) = some u := by
  intro j u hj
  match j, hj with
  | 0, hj => simp at hj; subst hj; simp [Addr.add]
theorem one8 (n : Int) : ∀ u ∈ [Value.int .u8 n], u.oneCell' = true := by
  intro u hu; simp at hu; subst hu; rfl

theorem own_snoc {w : World} {B n : Nat} {v : Value} {l : List UInt8} {c : UInt8} (hn : n = l.length + 1) (h : w.ownsRow B 5 1 v n (Lib.byteCells l ++ [.int .u8 (c.toNat : Int)])) :
    w.ownsRow B 5 1 v (l ++ [c]).length (Lib.byteCells (l ++ [c])) := by
  rw [Lib.byteCells_append, List.length_append, List.length_singleton, ← hn]
  exact h
/-- 'string(b)' of a row that the call owns. -/
theorem own_string (w : World) (B : Nat) (v : Value) (l : List UInt8) (h : w.ownsRow B 5 1 v l.length (Lib.byteCells l)) :
    (convert 28 9 v).run Tryd.prog w = .ok (.string ⟨l.toArray⟩) w := by
  obtain ⟨g, hv⟩ : v = .slice none 0 0 ∧ l.length = 0 ∨ ∃ g cap, v = .slice (some ⟨g, 0, none⟩) l.length cap := by
    obtain ⟨_, ⟨rfl, h0⟩ | ⟨g, cap, cur, rfl, _⟩⟩ := h
    · exact Or.inl ⟨rfl, h0⟩
    · exact Or.inr ⟨g, cap, rfl⟩
  · subst g
    rw [List.length_eq_zero_iff.1 hv]
    rw [run_convert_bytes_string w 28 9 5 none 0 0 Tryd.underlying28 Tryd.underlying5 Tryd.underlying9]
    simp [Conv.bytesToString]
    rfl
  · rename_i hv
    obtain ⟨g, cap, rfl⟩ := hv
    refine run_convert_bytes_back w 28 9 5 ⟨g, 0, none⟩ cap l Tryd.underlying28 Tryd.underlying5 Tryd.underlying9 ?_
    intro j hj
    exact h.cells rfl j _ (by simp [Lib.byteCells, hj])

theorem run_twos (s : ByteArray) (j m : Nat) (acc : List UInt8) (R : Option (List UInt8 × List UInt8))
    (hd : s.data.toList.drop j = List.replicate (m - j) 34 ++ s.data.toList.drop m) (hr : rd (s.data.toList.drop j) acc = R) (hev : (m - j) % 2 = 0) :
    rd (s.data.toList.drop m) (acc ++ List.replicate ((m - j) / 2) 34) = R := by
  rw [← hr, hd, ← rd_twos]
  congr 2
  congr 1
  omega
theorem run_odd (s : ByteArray) (j m : Nat) (acc : List UInt8) (R : Option (List UInt8 × List UInt8))
    (hd : s.data.toList.drop j = List.replicate (m - j) 34 ++ s.data.toList.drop m) (hr : rd (s.data.toList.drop j) acc = R) (hod : (m - j) % 2 = 1)
    (hend : ∀ g : m < s.size, s[m] ≠ 34) :
    R = some (acc ++ List.replicate ((m - j) / 2) 34, s.data.toList.drop m) := by
  have e : List.replicate (m - j) (34 : UInt8) = List.replicate (2 * ((m - j) / 2)) 34 ++ [34] := by
    rw [← List.replicate_succ']
    congr 1
    omega
  rw [← hr, hd, e, List.append_assoc, rd_twos, List.cons_append, List.nil_append, rd_end]
  intro u hu
  by_cases g : m < s.size
  · rw [drop_at s m g] at hu
    exact hend g (List.cons.inj hu).1
  · rw [drop_end s m (by omega)] at hu
    cases hu
theorem run_more (s : ByteArray) (j m : Nat) (hj : j ≤ m) (hm : m < s.size) (hc : s[m] = 34) (hd : s.data.toList.drop j = List.replicate (m - j) 34 ++ s.data.toList.drop m) :
    s.data.toList.drop j = List.replicate (m + 1 - j) 34 ++ s.data.toList.drop (m + 1) := by
  rw [hd, drop_at s m hm, hc, show m + 1 - j = (m - j) + 1 from by omega, List.replicate_succ', List.append_assoc]
  rfl

set_option maxHeartbeats 2000000 in
set_option maxRecDepth 100000 in
theorem model_any (s : ByteArray) (w : World) (hs : s.size ≤ 1048576) :
    Calls Tryd.prog 7 #[.string s] w fun e w' => e = .returned (res (ans s.data.toList)) ∧ Below w.heap.size w w' := by
  obtain ⟨i0, hi, hz0, hz1, hz2⟩ := info_parts infoByte
  obtain ⟨p, hp⟩ : ∃ p, p = bl s.data.toList := ⟨_, rfl⟩
  have hc := skip_any s w hs
  rw [← hp] at hc
  have hps : p ≤ s.size := by have := bl_le s.data.toList; rw [← hp] at this; simpa using this
  have HL : Hid (ans s.data.toList = match s.data.toList.drop p with
      | [] => none
      | c :: u => if c = 34 then rd u [] else none) := by
    show _ = _
    rw [hp, ← trim_bl]; rfl
  clear hp
  by_cases hq : ∃ g : p < s.size, s[p] = 34
  · obtain ⟨hpl, hq⟩ := hq
    have hq' : ((s[p].toNat : Int) != 34) = false := by rw [hq]; rfl
    obtain ⟨R, hR⟩ : ∃ R, R = rd (s.data.toList.drop (p + 1)) [] := ⟨_, rfl⟩
    have ha : ans s.data.toList = R := by rw [HL.out, drop_at s p hpl, hq, hR]; rfl
    rw [ha]
    have HR0 : Hid (rd (s.data.toList.drop (p + 1)) [] = R) := hR.symm
    clear ha hR HL hq
    have hpd : decide (s.size ≤ p) = false := by simp; omega
    go_enter Tryd.func7, Tryd.ntmps7
    go_wp2_with (go_at_call 12; refine hc.mono ?_; rintro e w0 ⟨rfl, rfl⟩)
    clear hc hpd hq'
    go_loopw [6, 7] (fun v j wr => ∃ (k : Nat) (acc : List UInt8), j = .int .i64 k ∧ p + 1 ≤ k ∧ k ≤ s.size ∧ acc.length ≤ k ∧ wr.ownsRow w0.heap.size 5 1 v acc.length (Lib.byteCells acc) ∧ Below w0.heap.size w0 wr ∧ rd (s.data.toList.drop k) acc = R)
      (fun _ j _ => s.size - (intOf j).toNat)
    case atStart =>
      exact ⟨p + 1, [], by go_num, Nat.le_refl _, hpl, Nat.zero_le _, World.ownsRow_nil _ _ _ _, Below.refl _ _, HR0.out⟩
    case round =>
      obtain ⟨j, acc, rfl, hk1, hk2, hal, hown, hbw, hrd⟩ := hrel
      have HR : Hid (rd (s.data.toList.drop j) acc = R) := hrd
      clear hrd HR0
      have hsz := hbw.size
      obtain ⟨wo, rfl⟩ : ∃ wo : World, wo = wr := ⟨_, rfl⟩
      by_cases hlt : j < s.size
      · by_cases hq : s[j] = 34
        · have hq' : ((s[j].toNat : Int) != 34) = false := by rw [hq]; rfl
          have HQ : Hid (s[j] = 34) := hq
          clear hq
          go_wp2
          clear hq'
          go_loop [8] (fun kk => ∃ m : Nat, j ≤ m ∧ m ≤ s.size ∧ kk = .int .i64 m ∧ s.data.toList.drop j = List.replicate (m - j) 34 ++ s.data.toList.drop m) (fun kk => s.size - (intOf kk).toNat)
          case atStart => exact ⟨j, Nat.le_refl _, hk2, rfl, by simp⟩
          case round =>
            obtain ⟨m, hm1, hm2, rfl, hdm⟩ := hrel
            have HD : Hid (s.data.toList.drop j = List.replicate (m - j) 34 ++ s.data.toList.drop m) := hdm
            clear hdm
            by_cases hrun : ∃ g : m < s.size, s[m] = 34
            · obtain ⟨hml, hmq⟩ := hrun
              have hmq' : ((s[m].toNat : Int) == 34) = true := by rw [hmq]; rfl
              have HM : Hid (s[m] = 34) := hmq
              clear hmq
              go_wp2
              go_round
              case rel => exact ⟨m + 1, by omega, by omega, by go_num, run_more s j m hm1 hml HM.out HD.out⟩
              case measure => simp [intOf]; omega
            · have hstop : Hid (∀ g : m < s.size, s[m] ≠ 34) := fun g h => hrun ⟨g, h⟩
              have hjm : j < m := by
                rcases Nat.lt_or_ge j m with h | h
                · exact h
                · exfalso
                  obtain rfl : j = m := by omega
                  exact hstop.out hlt HQ.out
              have htest : ∀ g : m < s.size, ((s[m].toNat : Int) == 34) = false := by
                intro g
                have h2 : s[m].toNat ≠ 34 := fun h => hstop.out g (UInt8.toNat_inj.1 h)
                simp; omega
              clear hrun
              by_cases hml : m < s.size
              all_goals
                try have htest' := htest hml
                clear htest
                go_wp2
                try clear htest'
                go_loopw [6, 10] (fun v hh wr => ∃ h : Nat, 2 * h ≤ m - j ∧ hh = .int .i64 h ∧ wr.ownsRow w0.heap.size 5 1 v (acc ++ List.replicate h 34).length (Lib.byteCells (acc ++ List.replicate h 34)) ∧ Below w0.heap.size w0 wr) (fun _ hh _ => m - (intOf hh).toNat)
                case atStart => exact ⟨0, Nat.zero_le _, rfl, by simpa using hown, hbw⟩
                case round =>
                  obtain ⟨h, hh1, rfl, hown2, hbw2⟩ := hrel
                  have hsz2 := hbw2.size
                  have hl2 : (acc ++ List.replicate h (34 : UInt8)).length ≤ 1048576 * 2 := by simp; omega
                  by_cases hh2 : 2 * h + 2 ≤ m - j
                  · go_wp2_with (at_builtin; refine wpList_append_own _ rfl _ _ 28 rfl w0.heap.size 5 i0 (.int .u8 0) 1 1 Tryd.underlying28 hi hz0 hz1 hz2 rfl (by decide) _ _ _ rfl (hown2.alloc _) ⟨wr.heap.size, 0, none⟩ 1 1 [.int .u8 34] rfl rfl (new1 _ _ _) (one8 _) (by unfold maxLen; omega) (by omega) (by simp; omega) ?_)
                    intro v' w1 hown' hgrow _
                    go_wp2
                    go_roundw
                    case rel =>
                      exact ⟨h + 1, by omega, by go_num, by rw [List.replicate_succ', ← List.append_assoc]; exact own_snoc (c := 34) (by simp) hown', (hbw2.alloc hsz2 _).grown hgrow (by simp; omega) (fun k hk => (hown2.lt k hk).1)⟩
                    case measure => simp [intOf]; omega
                  · have hhe : h = (m - j) / 2 := by omega
                    have HH : Hid (h = (m - j) / 2) := hhe
                    clear hhe
                    by_cases hpar : (m - j) % 2 = 1
                    · have hpar' : ((((m : Int) - j) % 2) == 1) = true := by simp; omega
                      have HE : Hid (R = some (acc ++ List.replicate h 34, s.data.toList.drop m)) := by
                        show _ = _
                        rw [HH.out]
                        exact run_odd s j m acc R HD.out HR.out hpar hstop.out
                      have hcv : (convert 28 9 u6).run Tryd.prog wr.drew = .ok (.string ⟨(acc ++ List.replicate h 34).toArray⟩) wr.drew := own_string wr.drew w0.heap.size u6 _ hown2
                      have hle : ¬ (s.size : Int) < (m : Int) := by omega
                      have hge : ¬ (m : Int) < 0 := by omega
                      go_wp2
                      go_region
                      all_goals
                        go_wp2
                        go_ret3
                        exact ⟨by rw [HE.out]; exact congrArg (fun z => Ending.returned (.tuple #[.string ⟨(acc ++ List.replicate h 34).toArray⟩, .string z, .bool true])) (extract_rest s m), hbw2.drew⟩
                    · have hpar' : ((((m : Int) - j) % 2) == 1) = false := by simp; omega
                      have hne : Hid (rd (s.data.toList.drop m) (acc ++ List.replicate h 34) = R) := by
                        show _ = _
                        rw [HH.out]
                        exact run_twos s j m acc R HD.out HR.out (by omega)
                      go_wp2
                      go_roundw
                      case rel =>
                        exact ⟨m, acc ++ List.replicate h 34, rfl, by omega, by omega, by simp; omega, hown2, hbw2, hne.out⟩
                      case measure => simp [intOf]; omega
        · have hq' : ((s[j].toNat : Int) != 34) = true := by
            have h2 : s[j].toNat ≠ 34 := fun h => hq (UInt8.toNat_inj.1 h)
            simp; omega
          go_wp2_with (at_builtin; refine wpList_append_own _ rfl _ _ 28 rfl w0.heap.size 5 i0 (.int .u8 0) 1 1 Tryd.underlying28 hi hz0 hz1 hz2 rfl (by decide) _ _ _ rfl (hown.alloc _) ⟨wo.heap.size, 0, none⟩ 1 1 [.int .u8 (s[j].toNat : Int)] rfl rfl (new1 _ _ _) (one8 _) (by unfold maxLen; omega) (by omega) (by simp; omega) ?_)
          intro v' w1 hown' hgrow _
          go_wp2
          go_roundw
          case rel =>
            exact ⟨j + 1, acc ++ [s[j]], by go_num, by omega, by omega, by simp; omega, own_snoc rfl hown', (hbw.alloc hsz _).grown hgrow (by simp; omega) (fun k hk => (hown.lt k hk).1), step_other hlt hq' HR.out⟩
          case measure => simp [intOf]; omega
      · go_wp2
        go_ret3
        exact ⟨by rw [step_out (by omega) HR.out]; rfl, hbw⟩
  · have hq' : ∀ g : p < s.size, ((s[p].toNat : Int) != 34) = true := by
      intro g
      have : s[p] ≠ 34 := fun h => hq ⟨g, h⟩
      have h2 : s[p].toNat ≠ 34 := fun h => this (UInt8.toNat_inj.1 h)
      simp; omega
    have ha : ans s.data.toList = none := by
      rw [HL.out]
      by_cases g : p < s.size
      · rw [drop_at s p g]
        exact if_neg (fun h => hq ⟨g, h⟩)
      · rw [drop_end s p (by omega)]
    rw [ha]
    clear ha HL hq
    by_cases hpl : p < s.size
    · have hq2 := hq' hpl
      clear hq'
      go_enter Tryd.func7, Tryd.ntmps7
      go_wp2_with (go_at_call 12; refine hc.mono ?_; rintro e w0 ⟨rfl, rfl⟩)
      go_ret3
      exact ⟨rfl, Below.refl _ _⟩
    · clear hq'
      go_enter Tryd.func7, Tryd.ntmps7
      go_wp2_with (go_at_call 12; refine hc.mono ?_; rintro e w0 ⟨rfl, rfl⟩)
      go_ret3
      exact ⟨rfl, Below.refl _ _⟩
end Go.Proofs.Qxb6604802aDoor
