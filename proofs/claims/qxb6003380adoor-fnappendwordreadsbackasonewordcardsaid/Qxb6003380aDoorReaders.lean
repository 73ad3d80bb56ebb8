/-
  zzl1EqualBytes, zzl1SameText, zzl1BareBrace, zzl1Separates at this seat's dump: they only read.
-/
import Derived.Test.Qxb6003380aDoorBase
import Derived.Test.Qxb6003380aDoorPlain
import Derived.Deep.QuietTactic
import Derived.BigQuiet
namespace Go.Proofs.Qxb6003380aDoor
open Go.RowKit Go.Proofs Plain

theorem u8_ne {c d : UInt8} (h : ((c.toNat : Int) != (d.toNat : Int)) = true) : c ≠ d := by
  intro e; subst e; simp at h
theorem u8_eq {c d : UInt8} (h : ((c.toNat : Int) != (d.toNat : Int)) = false) : c = d := by
  simp at h
  exact UInt8.toNat_inj.1 (by omega)
theorem take_eq {l m : List UInt8} {k : Nat} (h1 : k < l.length) (h2 : k < m.length) (e : l.take k = m.take k) (hc : l[k] = m[k]) : l.take (k + 1) = m.take (k + 1) := by
  rw [List.take_succ_eq_append_getElem h1, List.take_succ_eq_append_getElem h2, e, hc]

set_option maxHeartbeats 1000000 in
set_option maxRecDepth 100000 in
theorem equal_any (v1 v2 : Value) (l m : List UInt8) (w : World) (h1 : Sees w v1 l) (h2 : Sees w v2 m) (hl : l.length ≤ 4194304) (hm : m.length ≤ 4194304) :
    Calls Tryd.prog 9 #[v1, v2] w fun e w' => e = .returned (.bool (decide (l = m))) ∧ ∃ n, w' = w.drewN n := by
  obtain ⟨ao, cap, rfl, hc⟩ := h1
  obtain ⟨ao2, cap2, rfl, hc2⟩ := h2
  by_cases hlen : l.length = m.length
  · have hd : ((l.length : Int) != (m.length : Int)) = false := by simp [hlen]
    have HL : Hid (l.length = m.length) := hlen
    have hle1 : l.length ≤ m.length := by omega
    have hle2 : m.length ≤ l.length := by omega
    clear hlen
    go_enter Tryd.func9, Tryd.ntmps9
    go_wp2
    clear hd
    go_loopw [5] (fun i wr => ∃ k n : Nat, k ≤ l.length ∧ i = .int .i64 k ∧ wr = w.drewN n ∧ l.take k = m.take k) (fun i _ => l.length - (intOf i).toNat)
    case atStart => exact ⟨0, 0, Nat.zero_le _, rfl, rfl, rfl⟩
    case round =>
      obtain ⟨k, n, hk, rfl, rfl, htk⟩ := hrel
      have HT : Hid (l.take k = m.take k) := htk
      clear htk
      by_cases hlt : k < l.length
      · obtain ⟨b, off, rfl, hcell⟩ := hc k hlt
        obtain ⟨b2, off2, rfl, hcell2⟩ := hc2 k (by omega)
        clear hc hc2
        go_wp2
        go_quiet (fail)
        go_wp2
        · have hx : ((l[k].toNat : Int) != (m[k].toNat : Int)) = true := by assumption
          go_ret
          refine ⟨ret_bool (Eq.symm (decide_eq_false (fun e => u8_ne hx (by subst e; rfl)))), n + nq, World.drewN_drewN _ _ _⟩
        · have hx : ((l[k].toNat : Int) != (m[k].toNat : Int)) = false := by assumption
          go_roundw
          case rel => exact ⟨k + 1, n + nq, by omega, by go_num, rfl, take_eq hlt (by omega) HT.out (u8_eq hx)⟩
          case measure => simp [intOf]; omega
      · go_wp2
        go_ret
        exact ⟨ret_bool (by rw [decide_eq_true]; have := HT.out; rwa [List.take_of_length_le (by omega), List.take_of_length_le (by omega)] at this), n, rfl⟩
  · have hd : ((l.length : Int) != (m.length : Int)) = true := by simp; omega
    have hf : Hid (decide (l = m) = false) := decide_eq_false (fun e => hlen (by rw [e]))
    clear hlen
    go_enter Tryd.func9, Tryd.ntmps9
    go_wp2
    go_ret
    exact ⟨ret_bool hf.out.symm, 0, rfl⟩

theorem str_at (s : ByteArray) (k : Nat) (h : k < s.size) : s.data.toList[k]'(by simpa using h) = s[k] := rfl

set_option maxHeartbeats 1000000 in
set_option maxRecDepth 100000 in
theorem same_any (v : Value) (l : List UInt8) (s : ByteArray) (w : World) (h1 : Sees w v l) (hl : l.length ≤ 4194304) :
    Calls Tryd.prog 11 #[v, .string s] w fun e w' => e = .returned (.bool (decide (l = s.data.toList))) ∧ ∃ n, w' = w.drewN n := by
  obtain ⟨ao, cap, rfl, hc⟩ := h1
  by_cases hlen : l.length = s.size
  · have hd : ((l.length : Int) != (s.size : Int)) = false := by simp [hlen]
    have hle1 : l.length ≤ s.size := by omega
    have hle2 : s.size ≤ l.length := by omega
    clear hlen
    go_enter Tryd.func11, Tryd.ntmps11
    go_wp2
    clear hd
    go_loopw [5] (fun i wr => ∃ k n : Nat, k ≤ l.length ∧ i = .int .i64 k ∧ wr = w.drewN n ∧ l.take k = s.data.toList.take k) (fun i _ => l.length - (intOf i).toNat)
    case atStart => exact ⟨0, 0, Nat.zero_le _, rfl, rfl, rfl⟩
    case round =>
      obtain ⟨k, n, hk, rfl, rfl, htk⟩ := hrel
      have HT : Hid (l.take k = s.data.toList.take k) := htk
      clear htk
      by_cases hlt : k < l.length
      · obtain ⟨b, off, rfl, hcell⟩ := hc k hlt
        have hks : k < s.size := by omega
        have hki : (k : Int) < (s.size : Int) := by omega
        clear hc
        go_wp2
        go_quiet (fail)
        go_wp2
        · have hx : ((l[k].toNat : Int) != (s[k].toNat : Int)) = true := by assumption
          go_ret
          refine ⟨ret_bool (Eq.symm (decide_eq_false (fun e => u8_ne hx ?_))), n + nq, World.drewN_drewN _ _ _⟩
          rw [← str_at s k hks]
          simp [e]
        · have hx : ((l[k].toNat : Int) != (s[k].toNat : Int)) = false := by assumption
          go_roundw
          case rel => exact ⟨k + 1, n + nq, by omega, by go_num, rfl, take_eq hlt (by simpa using hks) HT.out (u8_eq hx)⟩
          case measure => simp [intOf]; omega
      · go_wp2
        go_ret
        exact ⟨ret_bool (by rw [decide_eq_true]; have := HT.out; rwa [List.take_of_length_le (by omega), List.take_of_length_le (by simp; omega)] at this), n, rfl⟩
  · have hd : ((l.length : Int) != (s.size : Int)) = true := by simp; omega
    have hf : Hid (decide (l = s.data.toList) = false) := decide_eq_false (fun e => hlen (by rw [e]; simp))
    clear hlen
    go_enter Tryd.func11, Tryd.ntmps11
    go_wp2
    go_ret
    exact ⟨ret_bool hf.out.symm, 0, rfl⟩

theorem drop_head {W : List UInt8} {i : Nat} {c : UInt8} {u : List UInt8} (h : W.drop i = c :: u) : i < W.length ∧ W[i]? = some c ∧ W.drop (i + 1) = u := by
  have h1 : i < W.length := by
    rcases Nat.lt_or_ge i W.length with g | g
    · exact g
    · rw [List.drop_eq_nil_of_le g] at h; cases h
  rw [List.drop_eq_getElem_cons h1] at h
  obtain ⟨h2, h3⟩ := List.cons.inj h
  exact ⟨h1, by rw [List.getElem?_eq_getElem h1, h2], h3⟩

/-- A token without a bare brace. -/
def shut (t : List UInt8 × UInt8) : Prop := (∃ c, t.1 = [c] ∧ c ≠ 92 ∧ c ≠ 123 ∧ c ≠ 125) ∨ ∃ d, t.1 = [92, d]

theorem cell_at {w : World} {ao : Option Addr} {W : List UInt8} {i : Nat} {c : UInt8} (hc : ∀ j (h : j < W.length), ∃ b off, ao = some ⟨b, off, none⟩ ∧ w.cell? ⟨b, off + j, none⟩ = some (.int .u8 (W[j].toNat : Int)))
    (h1 : i < W.length) (h2 : W[i]? = some c) : ∃ b off, ao = some ⟨b, off, none⟩ ∧ w.cell? ⟨b, off + i, none⟩ = some (.int .u8 (c.toNat : Int)) := by
  obtain ⟨b, off, e, h⟩ := hc i h1
  rw [List.getElem?_eq_getElem h1] at h2
  rw [Option.some.inj h2] at h
  exact ⟨b, off, e, h⟩
theorem n_ne {c : UInt8} {n : Nat} (hn : n < 256) (h : c ≠ UInt8.ofNat n) : ((c.toNat : Int) == n) = false := by
  have h2 : c.toNat ≠ n := fun e => h (UInt8.toNat_inj.1 (by simp [e, Nat.mod_eq_of_lt hn]))
  simp; omega

set_option maxHeartbeats 1000000 in
set_option maxRecDepth 100000 in
theorem bare_any (v : Value) (T : List (List UInt8 × UInt8)) (w : World) (h1 : Sees w v (flat T)) (hl : (flat T).length ≤ 4194304) (hT : ∀ t ∈ T, shut t) :
    Calls Tryd.prog 14 #[v] w fun e w' => e = .returned (.bool false) ∧ w' = w := by
  obtain ⟨ao, cap, rfl, hc⟩ := h1
  generalize hW : flat T = W at hc hl ⊢
  go_enter Tryd.func14, Tryd.ntmps14
  go_wp2
  go_loop [3] (fun i => ∃ (k : Nat) (R : List (List UInt8 × UInt8)), k ≤ W.length ∧ i = .int .i64 k ∧ W.drop k = flat R ∧ ∀ t ∈ R, shut t) (fun i => W.length - (intOf i).toNat)
  case atStart => exact ⟨0, T, Nat.zero_le _, rfl, by rw [hW]; rfl, hT⟩
  case round =>
    obtain ⟨k, R, hk, rfl, hd, hR⟩ := hrel
    rcases R with _ | ⟨t, R⟩
    · have hlt : ¬ k < W.length := by
        intro g
        have : (W.drop k).length = 0 := by rw [hd]; rfl
        simp at this; omega
      clear hd hR hc hT
      go_wp2
      go_ret
      exact ⟨rfl, rfl⟩
    · rw [flat_cons] at hd
      have hR' : Hid (∀ t ∈ R, shut t) := fun t ht => hR t (List.mem_cons_of_mem _ ht)
      rcases hR t (List.mem_cons_self) with ⟨c, ht, hc1, hc2, hc3⟩ | ⟨d, ht⟩
      · rw [ht, List.cons_append, List.nil_append] at hd
        obtain ⟨g1, g2, g3⟩ := drop_head hd
        obtain ⟨b, off, rfl, hcell⟩ := cell_at hc g1 g2
        have e1 := n_ne (n := 92) (by decide) hc1
        have e2 := n_ne (n := 123) (by decide) hc2
        have e3 := n_ne (n := 125) (by decide) hc3
        have HD : Hid (W.drop (k + 1) = flat R) := g3
        clear hd hR hc hT g2 g3 hc1 hc2 hc3 ht
        go_wp2
        go_round
        case rel => exact ⟨k + 1, R, by omega, by go_num, HD.out, hR'.out⟩
        case measure => simp [intOf]; omega
      · rw [ht, List.cons_append, List.cons_append, List.nil_append] at hd
        obtain ⟨g1, g2, g3⟩ := drop_head hd
        obtain ⟨g4, _, g5⟩ := drop_head g3
        obtain ⟨b, off, rfl, hcell⟩ := cell_at hc g1 g2
        have HD : Hid (W.drop (k + 2) = flat R) := g5
        clear hd hR hc hT g2 g3 g5 ht
        go_wp2
        go_round
        case rel => exact ⟨k + 2, R, by omega, by go_num, HD.out, hR'.out⟩
        case measure => simp [intOf]; omega
end Go.Proofs.Qxb6003380aDoor
