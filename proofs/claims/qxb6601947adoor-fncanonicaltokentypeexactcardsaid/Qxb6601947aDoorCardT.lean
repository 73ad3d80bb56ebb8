/-
  The row of FnCanonicalTokenTypeExact, and its tied card. (The frame: the guide's shell; the witness: by Derived/Lay.lean.)
-/
import Derived.Test.Qxb6601947aDoorCards
import Derived.Test.Qxb6601947aDoorTie
import Derived.Test.Qxb6601947aDoorLawT
import Derived.ProofKit
import Derived.OpenShut
import Derived.ShutString
import Derived.ChangeOld
import Derived.Lay
import Derived.SevenTiedAt
import Derived.Lib.LaidU8
namespace Go.Proofs.Qxb6601947aDoor
open Go.ChangeShapes Go.WideShapes Go.ChangeAt Go.RowKit
open Go.ChangeMaps (open_string shut_string)

theorem ownT : ownKnob Tryd.prog.godebug = none := by kernel_rfl

/-- unicode.asciiFold's numbers. -/
def foldTab : List Int := (List.range 128).map fun (c : Nat) => if c = 107 then 8490 else if c = 115 then 383 else if 65 ≤ c ∧ c ≤ 90 then (c : Int) + 32 else if 97 ≤ c ∧ c ≤ 122 then (c : Int) - 32 else (c : Int)
theorem fold_data : (Rows.laid_unicode_asciiFold : DataW Unit) = Lib.tabData .u16 foldTab := by kernel_rfl
theorem folds_of_laid {w : World} (h : laidMetH Tryd.prog Rows.fnCanonicalTokenTypeExactRow.laid w) : Folds w := by
  rw [MakeChecks.laidMetH_plain _ _ _ (by kernel_rfl)] at h
  have hm : ("unicode.asciiFold", (Rows.laid_unicode_asciiFold : DataW Unit)) ∈ Rows.fnCanonicalTokenTypeExactRow.laid := List.mem_cons_of_mem _ (List.mem_cons_self ..)
  obtain ⟨g, t, cs, fuel, p, hg, hty, hvar, hd⟩ := Lib.laidMet.reads h hm
  obtain rfl : 0 = g := Option.some.inj ((show Tryd.prog.globalNamed "unicode.asciiFold" = some 0 by kernel_rfl).symm.trans hg)
  obtain rfl : 44 = t := Option.some.inj ((show (Tryd.prog.globals[0]?).map (·.type) = some 44 by kernel_rfl).symm.trans hty)
  rw [fold_data] at hd
  have hcs := Lib.cells_of_tab Tryd.underlying44 Tryd.underlying43 (by kernel_rfl) (by kernel_rfl) hd
  have hcell : ∀ c : Nat, w.cell? ⟨0, c, none⟩ = (foldTab.map fun z => Value.int .u16 z)[c]? := fun c => by
    rw [World.var?_cell hg hvar c, ← Array.getElem?_toList, hcs]
  intro c hc
  rw [hcell, hcell]
  rcases hc with rfl | rfl | rfl | rfl <;> exact ⟨by kernel_rfl, by kernel_rfl⟩
set_option maxRecDepth 100000 in
theorem liftedT (os : Os) (started : os.Started) (H : Type) (enc : TypeId × Value → H) :
    ReturnsInHanded {} Tryd.checked os 5 .any (fun w args => (Rows.fnCanonicalTokenTypeExactSpec.pre enc Tryd.prog Tryd.f5 [] false w args ∧ laidMetH Tryd.prog Rows.fnCanonicalTokenTypeExactRow.laid w) ∧ sizedMet enc Tryd.prog Tryd.f5 (OpenSpec.ofChange Rows.fnCanonicalTokenTypeExactSpec) false w args)
      (Rows.fnCanonicalTokenTypeExactSpec.post enc Tryd.prog Tryd.f5 false true false false) := by
  refine returnsInHanded_of_change_and (C := Tryd.checked) (X := fun w _ => laidMetH Tryd.prog Rows.fnCanonicalTokenTypeExactRow.laid w) (fun _ _ _ hh h => h.of_heap hh) ownT started (by kernel_rfl) Tryd.func5
    (ChangeSpec.witness_shaped (enc := enc) (C := Tryd.checked) (os := os) (X := fun w _ => laidMetH Tryd.prog Rows.fnCanonicalTokenTypeExactRow.laid w) false (World.laidAll Tryd.prog os Rows.fnCanonicalTokenTypeExactRow.laid) #[.string ByteArray.empty] 8 (World.laidAll_os _ _ _)
      (World.shaped_of_ZipB (by kernel_rfl) (by kernel_rfl)) (by kernel_rfl) (by kernel_rfl) (by kernel_rfl)
      (by rw [MakeChecks.laidMetH_plain _ _ _ (by kernel_rfl)]; exact laidMet_laidAll _ (by kernel_rfl) (by kernel_rfl))) ?_
  intro W base args ds gs before hval0 hW _ _ hL _
  have hval : ∀ (j : Nat) t v, Tryd.f5.params[j]? = some t → args[j]? = some v → Value.okWide Tryd.prog W .any base t v := hval0
  have hW' := hW
  obtain ⟨p, q, hA0, hV, rfl, _, _⟩ := hW
  have hA : DataW.TrodAll enc Tryd.prog W 0 (fun _ => true) true Tryd.f5.params.toList args.toList ds p := hA0
  rw [Tryd.params5] at hA hval
  obtain ⟨v0, vs0, d0, ds0, p0, q0, hargs, rfl, rfl, h0, r0⟩ := trodAll_cons hA
  obtain ⟨rfl, rfl, rfl⟩ := trodAll_nil r0
  obtain rfl : args = #[v0] := by cases args; simp_all
  obtain ⟨rfl, rfl⟩ := trodVars_none hV
  obtain ⟨a0, rfl, rfl, rfl, w0⟩ := open_string Tryd.underlying9 (hval 0 9 v0 rfl rfl) h0
  clear hA0 hval0
  refine (lawT a0 W (folds_of_laid hL) w0).mono fun e W' ⟨he, bel⟩ => ?_
  subst he
  exact ⟨_, rfl, _, _, _, [], _, [], hW', trodAll_mk1 (shut_bool Tryd.underlying4 _), (trodAll_cons_mk (shut_string Tryd.underlying9 w0) trodAll_mk0), rfl, bel.frame _, fun h => by cases h⟩

theorem rowT : Rows.FnCanonicalTokenTypeExactSaid :=
  OpenClaim.holds_of_wide 5 Tryd.f5 rfl rfl rfl rfl rfl rfl rfl ⟨rfl, rfl, rfl, rfl, rfl⟩ rfl rfl rfl rfl rfl (by kernel_rfl) Tryd.func5 (by kernel_rfl)
    (of_decide_eq_true (by kernel_rfl)) (by unfold Func.isWrapper; first | (rw [if_pos (by decide +kernel)]; kernel_rfl) | (rw [if_neg (by decide +kernel)]; exact ⟨rfl, rfl⟩))
    (fun os started H enc _ => liftedT os started H enc)
theorem cardT : Rows.FnCanonicalTokenTypeExactCardSaid :=
  Claim7.holds_tied_plain_at .later [] [.data, .data, .data, .pinned, .pinned] true (true, "ba818ad4fa13b4449ea32c61f8333bf3698f57a79573a41dfdc0223023ea558d") false rowT (fun _ h => by cases h) (by kernel_rfl) (fun _ h => by cases h) fnCanonicalTokenTypeExact_row_tie rfl ⟨rfl, rfl⟩ (by kernel_rfl) rfl
    (fun f fn hf hfn => by
      obtain rfl : f = 5 := Option.some.inj ((show Tryd.prog.funcNamed Rows.fnCanonicalTokenTypeExactRow.func = some 5 by kernel_rfl).symm.trans hf) |>.symm
      obtain rfl : fn = Tryd.f5 := (Option.some.inj (Tryd.func5.symm.trans hfn)).symm
      exact ⟨by kernel_rfl, fun j t ht => by
        rw [Tryd.params5] at ht
        have hm : t ∈ [9] := by simpa using Array.mem_of_getElem? ht
        have hall : ([9].all fun u => !Tryd.prog.wantsStandIn u) = true := by kernel_rfl
        exact (show Tryd.prog.wantsStandIn t = false by simpa using List.all_eq_true.1 hall t hm)⟩)
    (by kernel_rfl)
end Go.Proofs.Qxb6601947aDoor
