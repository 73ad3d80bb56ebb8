/-
  The row of FnWithFirstReadsBackFirst, and its tied card. (The frame: the guide's shell; the witness: by Derived/Lay.lean.)
-/
import Derived.Test.Qxb6603964aDoorCards
import Derived.Test.Qxb6603964aDoorTie
import Derived.Test.Qxb6603964aDoorLawF
import Derived.ProofKit
import Derived.OpenShut
import Derived.ShutString
import Derived.ChangeOld
import Derived.Lay
import Derived.SevenTiedAt
namespace Go.Proofs.Qxb6603964aDoor
open Go.ChangeShapes Go.WideShapes Go.ChangeAt Go.RowKit
open Go.ChangeMaps (open_string shut_string)

theorem ownF : ownKnob Tryd.prog.godebug = none := by kernel_rfl
theorem laidOutF : laidOutB Tryd.prog = true := by kernel_rfl

def IsRowF (k : IntKind) (w : World) (a : Option Addr) (len cap : Nat) (zs : List Int) : Prop :=
  (a = none ∧ len = 0 ∧ cap = 0 ∧ zs = []) ∨
  ∃ x, a = some x ∧ len ≤ cap ∧ cap ≤ maxLen ∧ zs.length = cap ∧ (∀ i, i < zs.length → w.cell? (x.add i) = some (.int k (zs.getD i 0))) ∧ ∀ n ∈ zs, (Lit.int k n).wf = true

theorem row_seesF {w : World} {a : Option Addr} {len cap : Nat} {zs : List Int} (h : IsRowF .u8 w a len cap zs) : ∃ lb, Sees w (.slice a len cap) lb ∧ lb.length ≤ maxLen := by
  rcases h with ⟨rfl, rfl, rfl, rfl⟩ | ⟨x, rfl, hl, hm, hz, hcell, hwf⟩
  · exact ⟨[], ⟨none, 0, rfl, fun j hj => by simp at hj⟩, Nat.zero_le _⟩
  · have hlen : ((zs.take len).map fun z => UInt8.ofNat z.toNat).length = len := by simp; omega
    refine ⟨(zs.take len).map fun z => UInt8.ofNat z.toNat, ⟨some x, cap, by rw [hlen], fun j hj => ?_⟩, by rw [hlen]; omega⟩
    rw [hlen] at hj
    obtain ⟨b, off, rfl, hc⟩ := ints_at hcell (by omega)
    refine ⟨b, off, rfl, ?_⟩
    rw [hc j (by omega)]
    have hw := hwf (zs[j]'(by omega)) (List.getElem_mem _)
    have hb : 0 ≤ zs[j]'(by omega) ∧ zs[j]'(by omega) ≤ 255 := by simpa [Lit.wf, IntKind.min, IntKind.max, IntKind.signed, IntKind.bits] using hw
    have e : zs.getD j 0 = zs[j]'(by omega) := by simp [List.getD, List.getElem?_eq_getElem (show j < zs.length by omega)]
    rw [e]
    simp
    omega
theorem walkF (a0 : ByteArray) (a1 : Int) (a2 : Int) (a3 : Int) (a4 : Int) (a5 : ByteArray) (a6 : Option Addr) (len6 cap6 : Nat) (z6 : List Int) (w : World) (w0 : a0.size ≤ maxLen) (w5 : a5.size ≤ maxLen) (w6 : IsRowF .u8 w a6 len6 cap6 z6) :
    Calls Tryd.prog 3 #[.string a0, .int .u16 a1, .int .u16 a2, .int .u16 a3, .int .u16 a4, .string a5, .slice a6 len6 cap6] w fun e w' => e = .returned (.bool true) ∧ Below w.heap.size w w' := by
  obtain ⟨lb, h, hl⟩ := row_seesF w6
  exact lawF a0 a1 a2 a3 a4 a5 _ lb w h w0 w5 hl
set_option maxRecDepth 100000 in
theorem liftedF (os : Os) (started : os.Started) (H : Type) (enc : TypeId × Value → H) :
    ReturnsInHanded {} Tryd.checked os 3 .any (fun w args => (Rows.fnWithFirstReadsBackFirstSpec.pre enc Tryd.prog Tryd.f3 [] false w args ∧ laidMetH Tryd.prog Rows.fnWithFirstReadsBackFirstRow.laid w) ∧ sizedMet enc Tryd.prog Tryd.f3 (OpenSpec.ofChange Rows.fnWithFirstReadsBackFirstSpec) false w args)
      (Rows.fnWithFirstReadsBackFirstSpec.post enc Tryd.prog Tryd.f3 false true false false) := by
  refine returnsInHanded_of_change_and (C := Tryd.checked) (X := fun w _ => laidMetH Tryd.prog Rows.fnWithFirstReadsBackFirstRow.laid w) (fun _ _ _ hh h => h.of_heap hh) ownF started (by kernel_rfl) Tryd.func3
    (ChangeSpec.witness_shaped (enc := enc) (C := Tryd.checked) (os := os) (X := fun w _ => laidMetH Tryd.prog Rows.fnWithFirstReadsBackFirstRow.laid w) false (World.laidAll Tryd.prog os Rows.fnWithFirstReadsBackFirstRow.laid) #[.string ByteArray.empty, .int .u16 0, .int .u16 0, .int .u16 0, .int .u16 0, .string ByteArray.empty, .slice none 0 0] 8 (World.laidAll_os _ _ _)
      (World.shaped_of_ZipB (by kernel_rfl) (by kernel_rfl)) (by kernel_rfl) (by kernel_rfl) (by kernel_rfl)
      (by rw [MakeChecks.laidMetH_plain _ _ _ (by kernel_rfl)]; exact laidMet_laidAll _ (by kernel_rfl) (by kernel_rfl))) ?_
  intro W base args ds gs before hval0 hW _ _ _ _
  have hval : ∀ (j : Nat) t v, Tryd.f3.params[j]? = some t → args[j]? = some v → Value.okWide Tryd.prog W .any base t v := hval0
  have hW' := hW
  obtain ⟨p, q, hA0, hV, rfl, _, _⟩ := hW
  have hA : DataW.TrodAll enc Tryd.prog W 0 (fun _ => true) true Tryd.f3.params.toList args.toList ds p := hA0
  rw [Tryd.params3] at hA hval
  obtain ⟨v0, vs0, d0, ds0, p0, q0, hargs, rfl, rfl, h0, r0⟩ := trodAll_cons hA
  obtain ⟨v1, vs1, d1, ds1, p1, q1, rfl, rfl, rfl, h1, r1⟩ := trodAll_cons r0
  obtain ⟨v2, vs2, d2, ds2, p2, q2, rfl, rfl, rfl, h2, r2⟩ := trodAll_cons r1
  obtain ⟨v3, vs3, d3, ds3, p3, q3, rfl, rfl, rfl, h3, r3⟩ := trodAll_cons r2
  obtain ⟨v4, vs4, d4, ds4, p4, q4, rfl, rfl, rfl, h4, r4⟩ := trodAll_cons r3
  obtain ⟨v5, vs5, d5, ds5, p5, q5, rfl, rfl, rfl, h5, r5⟩ := trodAll_cons r4
  obtain ⟨v6, vs6, d6, ds6, p6, q6, rfl, rfl, rfl, h6, r6⟩ := trodAll_cons r5
  obtain ⟨rfl, rfl, rfl⟩ := trodAll_nil r6
  obtain rfl : args = #[v0, v1, v2, v3, v4, v5, v6] := by cases args; simp_all
  obtain ⟨rfl, rfl⟩ := trodVars_none hV
  obtain ⟨a0, rfl, rfl, rfl, w0⟩ := open_string Tryd.underlying9 (hval 0 9 v0 rfl rfl) h0
  obtain ⟨a1, rfl, rfl, rfl, w1⟩ := open_int Tryd.underlying22 (hval 1 22 v1 rfl rfl) h1
  obtain ⟨a2, rfl, rfl, rfl, w2⟩ := open_int Tryd.underlying22 (hval 2 22 v2 rfl rfl) h2
  obtain ⟨a3, rfl, rfl, rfl, w3⟩ := open_int Tryd.underlying22 (hval 3 22 v3 rfl rfl) h3
  obtain ⟨a4, rfl, rfl, rfl, w4⟩ := open_int Tryd.underlying22 (hval 4 22 v4 rfl rfl) h4
  obtain ⟨a5, rfl, rfl, rfl, w5⟩ := open_string Tryd.underlying9 (hval 5 9 v5 rfl rfl) h5
  obtain ⟨a6, len6, cap6, rfl⟩ := okWide_slice Tryd.underlying23 (hval 6 23 v6 rfl rfl)
  have k6 := h6
  have lt6 : ∀ x ∈ p6, x.block < W.heap.size := by obtain ⟨m, hm⟩ := k6; exact DataW.trod_lt m _ _ _ hm
  obtain ⟨z6, w6⟩ : ∃ zs, IsRowF .u8 W a6 len6 cap6 zs := by
    obtain ⟨fuel, hf⟩ := h6
    rcases open_ints Tryd.underlying23 Tryd.underlying5 (by kernel_rfl) hf with ⟨hcs, _⟩ | ⟨x, l, c, zs, hcs, _, hl, hm, hz, _, hcell, hwz⟩
    · simp [Value.cells] at hcs
      obtain ⟨rfl, rfl, rfl⟩ := hcs
      exact ⟨[], .inl ⟨rfl, rfl, rfl, rfl⟩⟩
    · simp [Value.cells] at hcs
      obtain ⟨rfl, rfl, rfl⟩ := hcs
      exact ⟨zs, .inr ⟨_, rfl, hl, hm, by simpa using hz, hcell, hwz⟩⟩
  clear hA0 hval0
  refine (walkF a0 a1 a2 a3 a4 a5 a6 len6 cap6 z6 W w0 w5 w6).mono fun e W' ⟨he, bel⟩ => ?_
  subst he
  exact ⟨_, rfl, _, _, _, [], _, [], hW', trodAll_mk1 (shut_bool Tryd.underlying4 _), (trodAll_cons_mk (shut_string Tryd.underlying9 w0) (trodAll_cons_mk (shut_int Tryd.underlying22 w1) (trodAll_cons_mk (shut_int Tryd.underlying22 w2) (trodAll_cons_mk (shut_int Tryd.underlying22 w3) (trodAll_cons_mk (shut_int Tryd.underlying22 w4) (trodAll_cons_mk (shut_string Tryd.underlying9 w5) (trodAll_cons_mk (Below.trod laidOutF (by kernel_rfl) (of_decide_eq_true (by kernel_rfl)) k6 bel lt6) trodAll_mk0))))))), rfl, bel.frame _, fun h => by cases h⟩

theorem rowF : Rows.FnWithFirstReadsBackFirstSaid :=
  OpenClaim.holds_of_wide 3 Tryd.f3 rfl rfl rfl rfl rfl rfl rfl ⟨rfl, rfl, rfl, rfl, rfl⟩ rfl rfl rfl rfl rfl (by kernel_rfl) Tryd.func3 (by kernel_rfl)
    (of_decide_eq_true (by kernel_rfl)) (by unfold Func.isWrapper; first | (rw [if_pos (by decide +kernel)]; kernel_rfl) | (rw [if_neg (by decide +kernel)]; exact ⟨rfl, rfl⟩))
    (fun os started H enc _ => liftedF os started H enc)
theorem cardF : Rows.FnWithFirstReadsBackFirstCardSaid :=
  Claim7.holds_tied_plain_at .later [] [.data, .pinned] true (true, "92a7b328436fe0d88120ea392b6381852eeab15838bd5c3c940137f53989b7a4") false rowF (fun _ h => by cases h) (by kernel_rfl) (fun _ h => by cases h) fnWithFirstReadsBackFirst_row_tie rfl ⟨rfl, rfl⟩ (by kernel_rfl) rfl
    (fun f fn hf hfn => by
      obtain rfl : f = 3 := Option.some.inj ((show Tryd.prog.funcNamed Rows.fnWithFirstReadsBackFirstRow.func = some 3 by kernel_rfl).symm.trans hf) |>.symm
      obtain rfl : fn = Tryd.f3 := (Option.some.inj (Tryd.func3.symm.trans hfn)).symm
      exact ⟨by kernel_rfl, fun j t ht => by
        rw [Tryd.params3] at ht
        have hm : t ∈ [9, 22, 22, 22, 22, 9, 23] := by simpa using Array.mem_of_getElem? ht
        have hall : ([9, 22, 22, 22, 22, 9, 23].all fun u => !Tryd.prog.wantsStandIn u) = true := by kernel_rfl
        exact (show Tryd.prog.wantsStandIn t = false by simpa using List.all_eq_true.1 hall t hm)⟩)
    (by kernel_rfl)
end Go.Proofs.Qxb6603964aDoor
