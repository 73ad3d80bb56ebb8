/-
  'for sub := range strings.SplitSeq(text, ";") { .. }': the law of the walk, where the iterator keeps its state in a cell of its own. (After the shelf's laws on a range over a function.)
-/
import Derived.Test.Qxb6603964aDoorSplit
namespace Go.Proofs.Qxb6603964aDoor
open Go.RowKit Go.Proofs Go.Lib Go.Shelf
attribute [local go_sem] Oper.semAt_some

theorem Cells3.put {Bsep Bs Bv : Nat} {r : ByteArray} {W : World} (h : Cells3 Bsep Bs Bv r W) {l : Nat} {o : Obj} (o' : Obj) (hl : W.heap[l]? = some o) (ho : o.isCells = false) : Cells3 Bsep Bs Bv r (W.putObj l o') := by
  obtain ⟨h1, h2, h3, h4⟩ := h
  have hg := grownBy_putObj' W l o'
  have hr : ∀ j, some l = some j → ∃ o : Obj, W.heap[j]? = some o ∧ o.isCells = false := fun j e => by cases e; exact ⟨o, hl, ho⟩
  exact ⟨cell_kept h1 hg hr, cell_kept h2 hg hr, (frozen_kept h2 hg hr).trans h3, cell_kept h4 hg hr⟩

theorem Cells3.alloc {Bsep Bs Bv : Nat} {r : ByteArray} {W : World} (h : Cells3 Bsep Bs Bv r W) (o : Obj) : Cells3 Bsep Bs Bv r (W.alloc o) := by
  obtain ⟨h1, h2, h3, h4⟩ := h
  have hg := World.grownBy_alloc W o none
  have hr : ∀ j, (none : Option Nat) = some j → ∃ o : Obj, W.heap[j]? = some o ∧ o.isCells = false := fun j e => by cases e
  exact ⟨cell_kept h1 hg hr, cell_kept h2 hg hr, (frozen_kept h2 hg hr).trans h3, cell_kept h4 hg hr⟩
theorem Cells3.store {Bsep Bs Bv : Nat} {r : ByteArray} {W : World} (h : Cells3 Bsep Bs Bv r W) (h1 : Bsep ≠ Bs) (h2 : Bv ≠ Bs) (r' : ByteArray) : Cells3 Bsep Bs Bv r' (W.setCell ⟨Bs, 0, none⟩ (.string r')) :=
  ⟨(World.cell?_of_block (Below.heap_setCell _ _ _ _ h1)).trans h.sep, World.cell?_setCell_same' _ _ _ (by rw [h.left]; rfl), by rw [World.frozen?_setCell]; exact h.open_, (World.cell?_of_block (Below.heap_setCell _ _ _ _ h2)).trans h.save⟩

/-- How the body of a round is left. -/
def roundEnd (W : World) (p : World → Prop) : Exit → Act → World → Prop
  | .normal, _, W' => KeepsOthers W W' ∧ p W'
  | _, _, _ => False

theorem block_ne {W : World} {B l : Nat} {v : Value} {o : Obj} (hc : W.cell? ⟨B, 0, none⟩ = some v) (hl : W.heap[l]? = some o) (ho : o.isCells = false) : l ≠ B := by
  intro e
  subst e
  obtain ⟨o', h1, h2⟩ := cells_of_cell hc
  rw [show (⟨l, 0, none⟩ : Addr).block = l from rfl, hl] at h1
  cases h1
  rw [ho] at h2; cases h2

set_option maxHeartbeats 1000000 in
theorem wpIn_range_split {n : Nat} {g : Operand} {ps : Array Tmp} {assign body : Code} {Q : Exit → Act → World → Prop} {a : Act} {w : World} (h1 : 2 ≤ n) (Bsep Bs Bv : Nat) (hb1 : Bsep ≠ Bs) (hb2 : Bv ≠ Bs)
    (hg : a.eval g = .func (.func 34) #[] #[.pointer (some ⟨Bsep, 0, none⟩), .pointer (some ⟨Bs, 0, none⟩), .pointer (some ⟨Bv, 0, none⟩)]) (hps : ps.size = 1) (s : ByteArray) (hs : s.size ≤ 1048576)
    (Core : ByteArray → World → Prop) (Ie : World → Prop)
    (hP : ∀ r W l o o', Core r W → w.heap.size ≤ l → W.heap[l]? = some o → o.isCells = false → Core r (W.putObj l o'))
    (hPe : ∀ W l o o', Ie W → w.heap.size ≤ l → W.heap[l]? = some o → o.isCells = false → Ie (W.putObj l o'))
    (hS : ∀ r r' r'' W, Cells3 Bsep Bs Bv r' W → Core r W → Core r (W.setCell ⟨Bs, 0, none⟩ (.string r'')))
    (hC0 : Cells3 Bsep Bs Bv s w) (h0 : ∀ o o', Core s ((w.alloc o).alloc o')) (a₁ : ByteArray → Act)
    (hassign : ∀ (l : Nat) (x : ByteArray) (W : World) (K : Act → World → Prop), K (a₁ x) W →
      assign.wpIn (Fence.wide.inRound l) (n - 1 - 1) Tryd.prog (Exit.then K (fun _ _ _ => False)) { tmps := (ps.zip #[.string x]).foldl (fun t (p, v) => t.setIfInBounds p v) a.tmps, defers := [] } W)
    (hbody : ∀ (l : Nat) (r : ByteArray) (i : Nat) (W : World), Cells3 Bsep Bs Bv r W → Core r W → i < r.size → (59 : UInt8) ∉ r.data.toList.take i → r.size ≤ 1048576 →
      body.wpIn (Fence.wide.inRound l) (n - 1 - 1) Tryd.prog (roundEnd W (fun W' => Cells3 Bsep Bs Bv r W' ∧ Core (r.extract (i + 1) r.size) W')) (a₁ (r.extract 0 i)) W)
    (hlast : ∀ (l : Nat) (r : ByteArray) (W : World), Cells3 Bsep Bs Bv r W → Core r W → (59 : UInt8) ∉ r.data.toList → r.size ≤ 1048576 →
      body.wpIn (Fence.wide.inRound l) (n - 1 - 1) Tryd.prog (roundEnd W Ie) (a₁ r) W)
    (hdone : ∀ (D : Nat) (W : World), Ie W → w.heap.size ≤ D → W.heap[D]? = some (.deferred (some [])) → Q .normal { a with defers := { target := .collected D, args := #[] } :: a.defers } W) :
    (Code.rangeFunc g ps assign body).wpIn Fence.wide n Tryd.prog Q a w := by
  refine wpIn_rangeFunc ?_
  intro fn hfn
  show ∃ _ _ _ _ _ _ _ _, (Instr.enterLoop fn a.tmps ps assign body none).run Tryd.prog w = _ ∧ _
  obtain ⟨rec, hrec⟩ : ∃ rec : LoopState → Option Code → Loop, rec = fun st pe => { state := st, pending := pe, fn, tmps := a.tmps, params := ps, assign, body, defers := w.heap.size } := ⟨_, rfl⟩
  obtain ⟨W1, hW1⟩ : ∃ W1, (w.alloc (.deferred (some []))).alloc (.loop (rec .ready none)) = W1 := ⟨_, rfl⟩
  have hL1 : W1.heap[w.heap.size + 1]? = some (.loop (rec .ready none)) := by
    rw [← hW1]; have := World.alloc_heap_new (w.alloc (.deferred (some []))) (.loop (rec .ready none)); rwa [World.size_alloc] at this
  have hK1 : W1.heap[w.heap.size]? = some (.deferred (some [])) := by
    rw [← hW1]; exact (Below.heap_alloc _ _ _ (by simp)).trans (World.alloc_heap_new w _)
  have hI1 : Core s W1 := by rw [← hW1]; exact h0 _ _
  have hC1 : Cells3 Bsep Bs Bv s W1 := by
    rw [← hW1]
    exact (hC0.alloc _).alloc _
  refine ⟨w.heap.size + 1, [{ target := .collected w.heap.size, args := #[] }], W1, { target := .fn (.func 34) #[.pointer (some ⟨Bsep, 0, none⟩), .pointer (some ⟨Bs, 0, none⟩), .pointer (some ⟨Bv, 0, none⟩)], args := #[.func (.yield (w.heap.size + 1)) #[] #[]] }, W1, 34,
    #[.func (.yield (w.heap.size + 1)) #[] #[], .pointer (some ⟨Bsep, 0, none⟩), .pointer (some ⟨Bs, 0, none⟩), .pointer (some ⟨Bv, 0, none⟩)], W1, ?_, ?_, ?_, ?_, fun _ => by omega, ?_⟩
  · rw [← hW1, hrec]; exact run_enterLoop_outer _ _ _ _ _
  · simp only [resolve, hg]
    simp [go_sem]
  · intro f' _; trivial
  · simp [invoke, go_sem]
  · have fin : ∀ (W W3 : World), W.heap[w.heap.size + 1]? = some (.loop (rec .ready none)) → W.heap[w.heap.size]? = some (.deferred (some [])) → KeepsOthers (W.putObj (w.heap.size + 1) (.loop { rec .ready none with state := .busy })) W3 →
        (Instr.endRound (w.heap.size + 1) none).run Tryd.prog W3 = .ok (.bool true) (W3.putObj (w.heap.size + 1) (.loop (rec .ready none))) ∧
        W3.heap[w.heap.size + 1]? = some (.loop { rec .ready none with state := .busy }) ∧
        (W3.putObj (w.heap.size + 1) (.loop (rec .ready none))).heap[w.heap.size + 1]? = some (.loop (rec .ready none)) ∧
        (W3.putObj (w.heap.size + 1) (.loop (rec .ready none))).heap[w.heap.size]? = some (.deferred (some [])) := fun W W3 hl hk hk3 => by
      have hlt : w.heap.size + 1 < W.heap.size := (Array.getElem?_eq_some_iff.1 hl).1
      have hl3 := hk3.same _ _ (World.putObj_heap_same hlt) rfl
      have hd3 := hk3.same _ _ ((World.putObj_heap_other (by omega)).trans hk) rfl
      have := run_endRound (P := Tryd.prog) none hl3
      rw [hrec] at this ⊢
      exact ⟨this, by rw [hrec] at hl3; exact hl3, World.putObj_heap_same (Array.getElem?_eq_some_iff.1 hl3).1, (World.putObj_heap_other (by omega)).trans hd3⟩
    refine (split_in (n - 1) (by omega) (w.heap.size + 1) Bsep Bs Bv
      (fun r W => Cells3 Bsep Bs Bv r W ∧ Core r W ∧ W.heap[w.heap.size + 1]? = some (.loop (rec .ready none)) ∧ W.heap[w.heap.size]? = some (.deferred (some [])))
      (fun W => Ie W ∧ W.heap[w.heap.size + 1]? = some (.loop (rec .ready none)) ∧ W.heap[w.heap.size]? = some (.deferred (some [])))
      (fun r W h => h.1) ?_ ?_ s W1 ⟨hC1, hI1, hL1, hK1⟩ hs).mono ?_
    · rintro r i W ⟨hc, hi, hl, hk⟩ hir hno hrs
      have hlt : w.heap.size + 1 < W.heap.size := (Array.getElem?_eq_some_iff.1 hl).1
      have hy := run_yield (P := Tryd.prog) (args := #[.string (r.extract 0 i)]) hl (by rw [hrec]; exact hps.symm)
      rw [hrec] at hy
      refine ⟨fn, _, assign, body, hy, roundIn_of_wpIn hfn (hassign _ _ W _ ⟨_, run_beginRound hl (by rw [hrec]), ?_⟩)⟩
      refine wpIn_mono (hbody _ r i _ (hc.put _ hl rfl) (hP _ _ _ _ _ hi (by omega) hl rfl) hir hno hrs) ?_
      rintro e a3 W3 hp
      cases e with
      | normal =>
        obtain ⟨hk3, hc3, hi3⟩ := hp
        obtain ⟨hr, hl3, hl4, hk4⟩ := fin W W3 hl hk hk3
        have hc4 := hc3.put (.loop (rec .ready none)) hl3 rfl
        have hi4 := hP _ _ _ _ (.loop (rec .ready none)) hi3 (by omega) hl3 rfl
        have n1 := block_ne hc4.left hl4 rfl
        have n2 := block_ne hc4.left hk4 rfl
        exact ⟨_, _, hr, rfl, hc4, hc4.store hb1 hb2 _, hS _ _ _ _ hc4 hi4, (Below.heap_setCell _ _ _ _ n1).trans hl4, (Below.heap_setCell _ _ _ _ n2).trans hk4⟩
      | ret => exact hp.elim
      | exit id => exact hp.elim
      | goto t => exact hp.elim
      | panic ch => exact hp.elim
      | outgrown => exact hp.elim
    · rintro r W ⟨hc, hi, hl, hk⟩ hno hrs
      have hy := run_yield (P := Tryd.prog) (args := #[.string r]) hl (by rw [hrec]; exact hps.symm)
      rw [hrec] at hy
      refine ⟨fn, _, assign, body, hy, roundIn_of_wpIn hfn (hassign _ _ W _ ⟨_, run_beginRound hl (by rw [hrec]), ?_⟩)⟩
      refine wpIn_mono (hlast _ r _ (hc.put _ hl rfl) (hP _ _ _ _ _ hi (by omega) hl rfl) hno hrs) ?_
      rintro e a3 W3 hp
      cases e with
      | normal =>
        obtain ⟨hk3, hi3⟩ := hp
        obtain ⟨hr, hl3, hl4, hk4⟩ := fin W W3 hl hk hk3
        exact ⟨_, _, hr, rfl, hPe _ _ _ _ hi3 (by omega) hl3 rfl, hl4, hk4⟩
      | ret => exact hp.elim
      | exit id => exact hp.elim
      | goto t => exact hp.elim
      | panic ch => exact hp.elim
      | outgrown => exact hp.elim
    · rintro e W2 ⟨⟨v, rfl⟩, hi, hl, hk⟩
      exact ⟨none, _, by have := run_endLoop (P := Tryd.prog) hl (by rw [hrec]; simp); rw [hrec] at this; exact this, hdone _ _ (hPe _ _ _ _ hi (by omega) hl rfl) (Nat.le_refl _) ((World.putObj_heap_other (by omega)).trans hk)⟩
end Go.Proofs.Qxb6603964aDoor
