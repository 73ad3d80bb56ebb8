/-
  Rows of bytes at this seat's dump: what a slice value shows, what is kept; small laws for the walks. (23: []byte, 5: byte, 9: string.)
-/
import Derived.Test.Qxb6603964aDoorProg
import Derived.WalkKit
import Derived.BigCall
import Derived.Lib.UnsafeStr
import Derived.Lib.AppendStr
import Derived.Laws.IdiomStrings
import Derived.Lib.SliceRun
import Derived.Outline
namespace Go.Proofs.Qxb6603964aDoor
open Go.RowKit Go.Proofs

theorem infoByte : (Tryd.prog.info? 5).map (fun i => (i.zero, i.size, i.bytes)) = some (some (.int .u8 0), 1, 1) := by kernel_rfl

/-- The slice value v shows the bytes l in the world w. -/
def Sees (w : World) (v : Value) (l : List UInt8) : Prop :=
  ∃ ao cap, v = .slice ao l.length cap ∧ ∀ j (h : j < l.length), ∃ b off, ao = some ⟨b, off, none⟩ ∧ w.cell? ⟨b, off + j, none⟩ = some (.int .u8 (l[j].toNat : Int))

theorem Sees.kept {w w' : World} {v : Value} {l : List UInt8} {r : Option Nat} (h : Sees w v l) (hg : w.grownBy w' r) (hne : l ≠ [] → v.ownBlock ≠ r) : Sees w' v l := by
  obtain ⟨ao, cap, rfl, hc⟩ := h
  refine ⟨ao, cap, rfl, fun j hj => ?_⟩
  obtain ⟨b, off, rfl, hcell⟩ := hc j hj
  have hl : l ≠ [] := by intro e; subst e; simp at hj
  exact ⟨b, off, rfl, hg.cell hcell (by simpa [Value.ownBlock] using hne hl)⟩
theorem Sees.below {w w' : World} {v : Value} {l : List UInt8} (h : Sees w v l) (hb : Below w.heap.size w w') : Sees w' v l :=
  h.kept (r := none) ⟨hb.os, hb.tape, hb.output, hb.size, fun k hk _ => hb.block k hk⟩ (by
    obtain ⟨ao, cap, rfl, hc⟩ := h
    intro hl e
    have hj : 0 < l.length := List.length_pos_iff.2 hl
    obtain ⟨b, off, rfl, _⟩ := hc 0 hj
    simp [Value.ownBlock] at e)

theorem below_of_grown {w w' : World} (h : w.grownBy w' none) : Below w.heap.size w w' := ⟨h.os, h.tape, h.output, h.size, fun k hk => h.block k hk (by simp)⟩
theorem grown_of_below {w w' : World} (h : Below w.heap.size w w') (r : Option Nat) : w.grownBy w' r := ⟨h.os, h.tape, h.output, h.size, fun k hk _ => h.block k hk⟩
theorem grown_then {a b c : World} {r r' : Option Nat} (h : a.grownBy b r) (k : b.grownBy c r') (hr : ∀ j, r' = some j → a.heap.size ≤ j ∨ r = some j) : a.grownBy c r :=
  ⟨k.os.trans h.os, k.tape.trans h.tape, k.output.trans h.output, Nat.le_trans h.size k.size, fun i hi hne =>
    (k.block i (Nat.lt_of_lt_of_le hi h.size) (fun e => by
      rcases hr i e.symm with g | g
      · omega
      · exact hne g.symm)).trans (h.block i hi hne)⟩

/-- What is owned is seen. -/
theorem own_sees {w : World} {B : Nat} {v : Value} {l : List UInt8} (h : w.ownsRow B 5 1 v l.length (Lib.byteCells l)) : Sees w v l := by
  have hshape : (v = .slice none 0 0 ∧ l.length = 0) ∨ ∃ g cap, v = .slice (some ⟨g, 0, none⟩) l.length cap := by
    obtain ⟨_, ⟨rfl, h0⟩ | ⟨g, cap, cur, rfl, _⟩⟩ := h
    · exact Or.inl ⟨rfl, h0⟩
    · exact Or.inr ⟨g, cap, rfl⟩
  rcases hshape with ⟨rfl, h0⟩ | ⟨g, cap, rfl⟩
  · exact ⟨none, 0, by rw [h0], fun j hj => by omega⟩
  · refine ⟨some ⟨g, 0, none⟩, cap, rfl, fun j hj => ⟨g, 0, rfl, ?_⟩⟩
    rw [Nat.zero_add, h.cellAt j (by omega)]
    simp [Lib.byteCells, hj]

theorem new1 (w : World) (x : Value) (e : TypeId) : ∀ j u, [x][j]? = some u → (w.alloc (.cells #[x] e)).cell? ((⟨w.heap.size, 0, none⟩ : Addr).add j) = some u := by
  intro j u hj
  match j, hj with
  | 0, hj => simp at hj; subst hj; simp [Addr.add]
theorem one8 (n : Int) : ∀ u ∈ [Value.int .u8 n], u.oneCell' = true := by
  intro u hu; simp at hu; subst hu; rfl
theorem new2 (w : World) (x y : Value) (e : TypeId) : ∀ j u, [x, y][j]? = some u → (w.alloc (.cells #[x, y] e)).cell? ((⟨w.heap.size, 0, none⟩ : Addr).add j) = some u := by
  intro j u hj
  match j, hj with
  | 0, hj => simp at hj; subst hj; simp [Addr.add]
  | 1, hj => simp at hj; subst hj; simp [Addr.add]
theorem two8 (m n : Int) : ∀ u ∈ [Value.int .u8 m, Value.int .u8 n], u.oneCell' = true := by
  intro u hu; simp at hu; rcases hu with rfl | rfl <;> rfl
/-- Behind an append of the bytes m: what is owned. -/
theorem own_app {w : World} {B n : Nat} {v : Value} {l m : List UInt8} {cs : List Value} (hm : cs = Lib.byteCells m) (hn : n = l.length + m.length) (h : w.ownsRow B 5 1 v n (Lib.byteCells l ++ cs)) :
    w.ownsRow B 5 1 v (l ++ m).length (Lib.byteCells (l ++ m)) := by
  rw [Lib.byteCells_append, List.length_append, ← hn, ← hm]
  exact h
theorem ret_int {k : IntKind} {a b : Int} (h : a = b) : Ending.returned (.int k a) = .returned (.int k b) := by rw [h]
theorem ret_bool {a b : Bool} (h : a = b) : Ending.returned (.bool a) = .returned (.bool b) := by rw [h]

/-- 'string(b)' of what is seen. -/
theorem sees_string {w : World} {v : Value} {l : List UInt8} (h : Sees w v l) : (convert 23 9 v).run Tryd.prog w = .ok (.string ⟨l.toArray⟩) w := by
  obtain ⟨ao, cap, rfl, hc⟩ := h
  rcases l with _ | ⟨c, t⟩
  · rw [run_convert_bytes_string w 23 9 5 ao _ cap Tryd.underlying23 Tryd.underlying5 Tryd.underlying9]
    cases ao
    · simp [Conv.bytesToString]; rfl
    · rename_i a
      exact run_bytesToString (P := Tryd.prog) w a 0 cap [] (by simp [loadCells, loadCellsFrom])
  · obtain ⟨b, off, rfl, _⟩ := hc 0 (by simp)
    refine run_convert_bytes_back w 23 9 5 ⟨b, off, none⟩ cap (c :: t) Tryd.underlying23 Tryd.underlying5 Tryd.underlying9 ?_
    intro j hj
    obtain ⟨b', off', e, hcell⟩ := hc j hj
    simp only [Option.some.injEq, Addr.mk.injEq, and_true] at e
    obtain ⟨rfl, rfl⟩ := e
    have hadd : (⟨b, off, none⟩ : Addr).add j = ⟨b, off + j, none⟩ := by unfold Addr.add; split <;> simp_all
    rw [hadd]
    exact hcell

/-- How far the copy has come. -/
def copied (l : List UInt8) (k : Nat) : List Value := Lib.byteCells (l.take k) ++ List.replicate (l.length - k) (.int .u8 0)
theorem copied_zero (l : List UInt8) : copied l 0 = List.replicate l.length (.int .u8 0) := by simp [copied, Lib.byteCells]
theorem copied_all (l : List UInt8) (k : Nat) (h : l.length ≤ k) : copied l k = Lib.byteCells l := by
  simp [copied, List.take_of_length_le h, Nat.sub_eq_zero_of_le h]
theorem taken (l : List UInt8) (k : Nat) (h : k < l.length) : (Lib.byteCells (l.take k)).length = k := by
  rw [Lib.byteCells_length, List.length_take]; omega
theorem copied_at (l : List UInt8) (k : Nat) (h : k < l.length) : (copied l k)[k]? = some (.int .u8 0) := by
  unfold copied
  have ht := taken l k h
  rw [List.getElem?_append_right (by omega), ht, Nat.sub_self, List.getElem?_replicate, if_pos (by omega)]
theorem copied_set (l : List UInt8) (k : Nat) (h : k < l.length) : (copied l k).set k (.int .u8 (l[k].toNat : Int)) = copied l (k + 1) := by
  unfold copied
  have ht := taken l k h
  rw [List.take_succ_eq_append_getElem h, Lib.byteCells_append, List.set_append_right _ _ (by omega), ht, Nat.sub_self, show l.length - k = (l.length - (k + 1)) + 1 from by omega, List.replicate_succ, List.append_assoc]
  rfl

set_option maxHeartbeats 1000000 in
set_option maxRecDepth 100000 in
/-- zzCloneBytes: a fresh row that holds the same bytes (nil stays nil). -/
theorem copy_any (v : Value) (l : List UInt8) (w : World) (h : Sees w v l) (hl : l.length ≤ 4194304) :
    Calls Tryd.prog 7 #[v] w fun e w' => ∃ v', e = .returned v' ∧ w'.ownsRow w.heap.size 5 1 v' l.length (Lib.byteCells l) ∧ w.grownBy w' none := by
  obtain ⟨i0, hi, hz0, hz1, hz2⟩ := info_parts infoByte
  obtain ⟨ao, cap, rfl, hc⟩ := h
  have hnil := fun W a n c => Lib.run_eql_slice_nil (P := Tryd.prog) W 23 5 a n c 0 0 Tryd.underlying23
  cases ao with
  | none =>
    have h0 : l = [] := by
      rcases l with _ | ⟨c, t⟩
      · rfl
      · obtain ⟨b, off, e, _⟩ := hc 0 (by simp)
        cases e
    subst h0
    go_enter Tryd.func7, Tryd.ntmps7
    go_wp2
    go_ret
    exact ⟨_, rfl, World.ownsRow_nil _ _ _ _, World.grownBy.refl _ _⟩
  | some a =>
    go_enter Tryd.func7, Tryd.ntmps7
    go_wp2_with (at_make; refine wpList_make_full _ rfl _ _ 23 rfl w.heap.size 5 i0 (.int .u8 0) 1 Tryd.underlying23 hi hz0 hz1 .i64 .i64 _ _ l.length rfl rfl rfl rfl (by rw [hz2]; omega) (by unfold maxLen; omega) (Nat.le_refl _) ?_)
    intro w1 hown1 hgrow1
    have hown0 : w1.ownsRow w.heap.size 5 1 (.slice (some ⟨w.heap.size, 0, none⟩) l.length l.length) l.length (copied l 0) := by
      rw [copied_zero, ← toList_madeCells_one]
      simpa [Value.cells] using hown1
    clear hown1 hnil
    go_wp2
    go_loopw [4] (fun i wr => ∃ k : Nat, k ≤ l.length ∧ i = .int .i64 k ∧ wr.ownsRow w.heap.size 5 1 (.slice (some ⟨w.heap.size, 0, none⟩) l.length l.length) l.length (copied l k) ∧ w.grownBy wr none) (fun i _ => l.length - (intOf i).toNat)
    case atStart => exact ⟨0, Nat.zero_le _, rfl, hown0, hgrow1⟩
    case round =>
      obtain ⟨k, hk, rfl, hown, hg⟩ := hrel
      by_cases hlt : k < l.length
      · obtain ⟨b, off, e, hcell⟩ := hc k hlt
        obtain rfl := Option.some.inj e
        have hsrc : wr.cell? ⟨b, off + k, none⟩ = some (.int .u8 (l[k].toNat : Int)) := hg.cell hcell (by simp)
        have hdst : wr.cell? ⟨w.heap.size, k, none⟩ = some (.int .u8 0) := by rw [hown.cellAt k (by omega), copied_at l k hlt]
        have hfz := hown.frozenAt k
        have hst := hown.stored k (.int .u8 (l[k].toNat : Int))
        rw [copied_set l k hlt] at hst
        obtain ⟨hst1, hst2⟩ := hst
        have hb := hg.size
        clear hown hcell hc
        go_wp2
        go_roundw
        case rel =>
          exact ⟨k + 1, by omega, by go_num, hst1, grown_then hg hst2 (fun j hj => by simp at hj; omega)⟩
        case measure => simp [intOf]; omega
      · go_wp2
        go_ret
        rw [copied_all l k (by omega)] at hown
        exact ⟨_, rfl, hown, hg⟩
end Go.Proofs.Qxb6603964aDoor
