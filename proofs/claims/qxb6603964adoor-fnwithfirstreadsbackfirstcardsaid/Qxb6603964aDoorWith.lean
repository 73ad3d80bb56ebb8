/-
  (Value).withFirst at this seat's dump, walked.
-/
import Derived.Test.Qxb6603964aDoorMake
namespace Go.Proofs.Qxb6603964aDoor
open Go.RowKit Go.Proofs Go.Lib Go.Shelf
attribute [local go_sem] Oper.semAt_some

/-- What withFirst hands back. -/
def WithAns (key : ByteArray) (val : List UInt8) (w : World) (e : Ending) (w' : World) : Prop :=
  ∃ (t : ByteArray) (ts te rs re : Int) (kept : List (List UInt8 × List UInt8)), e = .returned (valueOf t ts te rs re) ∧ t.data.toList = whole key.data.toList val kept ∧ (∀ kv ∈ kept, Kept key.data.toList kv) ∧ t.size ≤ 8388608 ∧
    ((key.toList == [116, 104]) = true → ts = sp0 (key.size + 1) ∧ te = sp1 (key.size + 1) val.length) ∧ ((key.toList == [114, 118]) = true → rs = sp0 (key.size + 1) ∧ re = sp1 (key.size + 1) val.length) ∧ Below w.heap.size w w'

abbrev zero31 : Obj := .cells #[.string ⟨#[]⟩, .int .u16 0, .int .u16 0, .int .u16 0, .int .u16 0] 31 (0, 0)
/-- What withFirst holds between two sub-keys: n more bytes may come. -/
structure St (H b vb : Nat) (key : ByteArray) (val : List UInt8) (w : World) (n : Nat) (W : World) : Prop where
  text : ∃ kept, (∀ kv ∈ kept, Kept key.data.toList kv) ∧ Has b (whole key.data.toList val kept) W ∧ (whole key.data.toList val kept).length + n ≤ 4194304
  marks : ∃ ts te rs re, ValueAt W vb ⟨#[]⟩ ts te rs re ∧ ((key.toList == [116, 104]) = true → ts = sp0 (key.size + 1) ∧ te = sp1 (key.size + 1) val.length) ∧ ((key.toList == [114, 118]) = true → rs = sp0 (key.size + 1) ∧ re = sp1 (key.size + 1) val.length)
  key : W.heap[H + 1]? = some (.cells #[.string key] 9 (0, 0))
  res : W.heap[H + 1 + 1]? = some zero31
  below : Below H w W

theorem St.added {H b vb : Nat} {key : ByteArray} {val : List UInt8} {w : World} {n n' m s : Nat} {W w5 : World} {kept : List (List UInt8 × List UInt8)} {k v : ByteArray} {ts te rs re : Int} (hkept : ∀ kv ∈ kept, Kept key.data.toList kv) (hlen : (whole key.data.toList val kept).length + n ≤ 4194304) (hHas : Has b (whole key.data.toList val kept) W)
    (t1 : (key.toList == [116, 104]) = true → ts = sp0 (key.size + 1) ∧ te = sp1 (key.size + 1) val.length) (t2 : (key.toList == [114, 118]) = true → rs = sp0 (key.size + 1) ∧ re = sp1 (key.size + 1) val.length)
    (gk : W.heap[H + 1]? = some (.cells #[.string key] 9 (0, 0))) (gr : W.heap[H + 1 + 1]? = some zero31) (hB : Below H w W) (h1 : H + 1 + 1 < vb) (h2 : vb < b) (hn : n' + k.size + v.size + 2 ≤ n) (hk : Kept key.data.toList (k.data.toList, v.data.toList)) (hkk : (k.toList == key.toList) = false)
    (h5 : Has b (whole key.data.toList val kept ++ [59] ++ k.data.toList ++ [58] ++ v.data.toList) w5) (hM : Marked w5 vb m s k ⟨#[]⟩ ts te rs re) (hK : Kept2 b vb W w5) : St H b vb key val w n' w5 := by
  have hlt := hHas.lt
  obtain ⟨⟨ts2, te2, rs2, re2, v5, _, m2, _, m4⟩⟩ := hM
  have hno : ∀ L : List UInt8, (key.toList == L) = true → (k.toList == L) = false := fun L hL => by
    rw [beq_iff_eq] at hL
    rw [← hL]; exact hkk
  refine ⟨⟨kept ++ [(k.data.toList, v.data.toList)], ?_, ?_, ?_⟩, ⟨ts2, te2, rs2, re2, v5, ?_, ?_⟩, ?_, ?_, ?_⟩
  · intro kv hm
    rcases List.mem_append.1 hm with hm | hm
    · exact hkept kv hm
    · rw [List.mem_singleton] at hm; subst hm; exact hk
  · rw [whole_snoc]
    have e : whole key.data.toList val kept ++ 59 :: (k.data.toList ++ 58 :: v.data.toList) = whole key.data.toList val kept ++ [59] ++ k.data.toList ++ [58] ++ v.data.toList := by simp
    rw [e]; exact h5
  · rw [whole_snoc]
    have e1 : k.data.toList.length = k.size := (Lib.size_eq k).symm
    have e2 : v.data.toList.length = v.size := (Lib.size_eq v).symm
    simp only [List.length_append, List.length_cons, e1, e2]
    omega
  · intro hL
    obtain ⟨e1, e2⟩ := m2 (hno _ hL)
    rw [e1, e2]; exact t1 hL
  · intro hL
    obtain ⟨e1, e2⟩ := m4 (hno _ hL)
    rw [e1, e2]; exact t2 hL
  · exact hK.others _ _ gk (by omega) (by omega) (fun c fz e => by cases e)
  · exact hK.others _ _ gr (by omega) (by omega) (fun c fz e => by cases e)
  · exact hB.trans (hK.below.mono (by omega))
theorem Kept2.keeps {b vb : Nat} {W w5 : World} {l : List UInt8} {x : ByteArray} {ts te rs re : Int} (hK : Kept2 b vb W w5) (hHas : Has b l W) (hv : ValueAt W vb x ts te rs re) : KeepsOthers W w5 := by
  refine ⟨hK.below.size, fun j o hj ho => ?_⟩
  obtain ⟨_, v, hb, _⟩ := hHas
  refine hK.others j o hj (fun e => ?_) (fun e => ?_) (fun c fz e => by subst e; cases ho)
  · subst e; rw [hb] at hj; cases hj; cases ho
  · subst e; rw [show W.heap[j]? = _ from hv] at hj; cases hj; cases ho
theorem keeps_drewN (W : World) (n : Nat) : KeepsOthers W (W.drewN n) := ⟨Nat.le_refl _, fun _ _ h _ => h⟩
theorem kept_ne {k key : ByteArray} (h : (k.toList == key.toList) = false) : k.data.toList ≠ key.data.toList := by
  rw [Lib.toList_data, Lib.toList_data] at h
  exact beq_eq_false_iff_ne.1 h
theorem St.other {H b vb : Nat} {key : ByteArray} {val : List UInt8} {w : World} {n : Nat} {W W' : World} {j : Nat} (h : St H b vb key val w n W) (h1 : H + 1 + 1 < vb) (h2 : vb < b) (hg : W.grownBy W' (some j)) (hj : b < j) (hn : ∀ c fz, W.heap[j]? ≠ some (.cells c 5 fz)) :
    St H b vb key val w n W' := by
  obtain ⟨⟨kept, hkept, hHas, hlen⟩, ⟨ts, te, rs, re, hv, t1, t2⟩, gk, gr, hB⟩ := h
  have hlt := hHas.lt
  have hb : ∀ k, k < b → W'.heap[k]? = W.heap[k]? := fun k hk => hg.block k (by omega) (fun e => by have := Option.some.inj e; omega)
  refine ⟨⟨kept, hkept, hHas.other hg (by omega) hn, hlen⟩, ⟨ts, te, rs, re, (hb _ h2).trans hv, t1, t2⟩, (hb _ (by omega)).trans gk, (hb _ (by omega)).trans gr, ?_⟩
  exact hB.trans ⟨hg.os, hg.tape, hg.output, hg.size, fun k hk => hb k (by omega)⟩
theorem St.alloc {H b vb : Nat} {key : ByteArray} {val : List UInt8} {w : World} {n : Nat} {W : World} (h : St H b vb key val w n W) (h1 : H + 1 + 1 < vb) (h2 : vb < b) (o : Obj) : St H b vb key val w n (W.alloc o) := by
  obtain ⟨⟨kept, hkept, hHas, hlen⟩, ⟨ts, te, rs, re, hv, t1, t2⟩, gk, gr, hB⟩ := h
  have hlt := hHas.lt
  have hb : ∀ k, k < b → (W.alloc o).heap[k]? = W.heap[k]? := fun k hk => Lib.alloc_old W o k (by omega)
  exact ⟨⟨kept, hkept, Lib.BuilderAtF.alloc hHas o, hlen⟩, ⟨ts, te, rs, re, (hb _ h2).trans hv, t1, t2⟩, (hb _ (by omega)).trans gk, (hb _ (by omega)).trans gr, hB.alloc (by omega) _⟩
theorem St.less {H b vb : Nat} {key : ByteArray} {val : List UInt8} {w : World} {n n' : Nat} {W : World} (h : St H b vb key val w n W) (hn : n' ≤ n) : St H b vb key val w n' W := by
  obtain ⟨⟨kept, hkept, hHas, hlen⟩, hm, gk, gr, hB⟩ := h
  exact ⟨⟨kept, hkept, hHas, by omega⟩, hm, gk, gr, hB⟩
theorem St.drewN {H b vb : Nat} {key : ByteArray} {val : List UInt8} {w : World} {n : Nat} {W : World} (h : St H b vb key val w n W) (m : Nat) : St H b vb key val w n (W.drewN m) :=
  ⟨h.text, h.marks, h.key, h.res, h.below.trans ⟨rfl, rfl, rfl, Nat.le_refl _, fun _ _ => rfl⟩⟩

/-- What the loop holds: the iterator's three cells lie in S and behind. -/
structure Core (H S : Nat) (key : ByteArray) (val : List UInt8) (w : World) (r : ByteArray) (W : World) : Prop where
  st : St H (H + 1 + 1 + 1 + 1) (H + 1 + 1 + 1) key val w (3 * r.size + 4) W
  left : ∃ r', W.heap[S]? = some (.cells #[.string r'] 9 (0, 0))
  sep : W.heap[S + 1]? = some (.cells #[.string ⟨#[59]⟩] 9 (0, 0))
  save : W.heap[S + 1 + 1]? = some (.cells #[.int .i64 0] 3 (0, 0))
theorem Core.put {H S : Nat} {key : ByteArray} {val : List UInt8} {w : World} {r : ByteArray} {W : World} (h : Core H S key val w r W) (hS : H + 1 + 1 + 1 + 1 < S) {l : Nat} {o : Obj} (o' : Obj) (hl : S + 1 + 1 + 1 ≤ l) (ho : W.heap[l]? = some o) (hc : o.isCells = false) : Core H S key val w r (W.putObj l o') := by
  obtain ⟨hst, ⟨r', h1⟩, h2, h3⟩ := h
  refine ⟨hst.other (by omega) (by omega) (grownBy_putObj' W l o') (by omega) (fun c fz e => ?_), ⟨r', (World.putObj_heap_other (by omega)).trans h1⟩, (World.putObj_heap_other (by omega)).trans h2, (World.putObj_heap_other (by omega)).trans h3⟩
  rw [ho] at e
  cases e
  cases hc
theorem Core.store {H S : Nat} {key : ByteArray} {val : List UInt8} {w : World} {r : ByteArray} {W : World} (h : Core H S key val w r W) (hS : H + 1 + 1 + 1 + 1 < S) (r'' : ByteArray) : Core H S key val w r (W.setCell ⟨S, 0, none⟩ (.string r'')) := by
  obtain ⟨hst, ⟨r', h1⟩, h2, h3⟩ := h
  refine ⟨hst.other (by omega) (by omega) (grown_set W ⟨S, 0, none⟩ _) hS (fun c fz e => ?_), ⟨r'', ?_⟩, (Below.heap_setCell _ _ _ _ (by show S + 1 ≠ S; omega)).trans h2, (Below.heap_setCell _ _ _ _ (by show S + 1 + 1 ≠ S; omega)).trans h3⟩
  · rw [show W.heap[(⟨S, 0, none⟩ : Addr).block]? = _ from h1] at e
    cases e
  · simp [World.setCell, Array.getElem?_modify, h1]
theorem Core.cells {H S : Nat} {key : ByteArray} {val : List UInt8} {w : World} {r s : ByteArray} {W : World} (h : Core H S key val w r W) (hs : W.cell? ⟨S, 0, none⟩ = some (.string s)) : W.heap[S]? = some (.cells #[.string s] 9 (0, 0)) := by
  obtain ⟨r', h1⟩ := h.left
  rw [Lib.cell_of_heap h1] at hs
  have : r' = s := by simpa using hs
  rw [h1, this]
theorem cells3_of {S : Nat} {r : ByteArray} {W : World} (h1 : W.heap[S]? = some (.cells #[.string r] 9 (0, 0))) (h2 : W.heap[S + 1]? = some (.cells #[.string ⟨#[59]⟩] 9 (0, 0))) (h3 : W.heap[S + 1 + 1]? = some (.cells #[.int .i64 0] 3 (0, 0))) : Cells3 (S + 1) S (S + 1 + 1) r W :=
  ⟨by rw [Lib.cell_of_heap h2]; rfl, by rw [Lib.cell_of_heap h1]; rfl, Lib.frozen_of_heap h1 0, by rw [Lib.cell_of_heap h3]; rfl⟩
theorem three (w : World) (o0 o1 o2 : Obj) : (((w.alloc o0).alloc o1).alloc o2).heap[w.heap.size]? = some o0 ∧ (((w.alloc o0).alloc o1).alloc o2).heap[w.heap.size + 1]? = some o1 ∧ (((w.alloc o0).alloc o1).alloc o2).heap[w.heap.size + 1 + 1]? = some o2 ∧ (((w.alloc o0).alloc o1).alloc o2).heap.size = w.heap.size + 1 + 1 + 1 := by
  have a1 : ((w.alloc o0).alloc o1).heap[w.heap.size + 1]? = some o1 := by have := heap_new (w.alloc o0) o1; rwa [World.size_alloc] at this
  have a2 : (((w.alloc o0).alloc o1).alloc o2).heap[w.heap.size + 1 + 1]? = some o2 := by have := heap_new ((w.alloc o0).alloc o1) o2; rwa [World.size_alloc, World.size_alloc] at this
  refine ⟨?_, ?_, a2, by simp⟩
  · exact (Lib.alloc_old _ _ _ (by simp <;> omega)).trans ((Lib.alloc_old _ _ _ (by simp)).trans (heap_new w o0))
  · exact (Lib.alloc_old _ _ _ (by simp)).trans a1
theorem ValueAt.all {w : World} {vb : Nat} {x : ByteArray} {ts te rs re : Int} (h : ValueAt w vb x ts te rs re) (y : ByteArray) (p q r s : Int) :
    ValueAt (((((w.setCell ⟨vb, 0, none⟩ (.string y)).setCell ⟨vb, 1, none⟩ (.int .u16 p)).setCell ⟨vb, 2, none⟩ (.int .u16 q)).setCell ⟨vb, 3, none⟩ (.int .u16 r)).setCell ⟨vb, 4, none⟩ (.int .u16 s)) vb y p q r s := by
  unfold ValueAt at h ⊢
  simp [World.setCell, Array.getElem?_modify, h]
theorem whole_len (k v : List UInt8) (t : List (List UInt8 × List UInt8)) : (whole k v t).length = k.length + 1 + v.length + (tail t).length := by
  simp [whole]; omega
theorem str_ne {s : ByteArray} (h : ¬ s.size = 0) : (s.toList == []) = false := by
  rw [Lib.toList_data]
  cases hx : s.data.toList with
  | nil => have h2 := Lib.size_eq s
           rw [hx, List.length_nil] at h2; omega
  | cons a t => rfl
theorem str_nil {s : ByteArray} (h : s.size = 0) : (s.toList == []) = true := by
  rw [Lib.toList_data]
  cases hx : s.data.toList with
  | nil => rfl
  | cons a t => have h2 := Lib.size_eq s
                rw [hx, List.length_cons] at h2; omega
theorem grow_at (b n : Nat) (m : Int) (hm : m = (n : Int)) (w : World) (hbk : w.heap[b]? = some (.cells #[.pointer none, .slice none 0 0] 42 (0, 0))) (hbw : b ≤ w.heap.size) (hn : n ≤ 281474976710656) (h0 : 0 < n) :
    Calls Tryd.prog 17 #[.pointer (some ⟨b, 0, none⟩), .int .i64 m] w fun e w' => e = .returned (.tuple #[]) ∧ Has b [] w' ∧ Below b w w' := by
  subst hm
  exact grow_any b n w hbk hbw hn h0

theorem five (w : World) (o0 o1 o2 o3 o4 : Obj) : (((((w.alloc o0).alloc o1).alloc o2).alloc o3).alloc o4).heap[w.heap.size]? = some o0 ∧ (((((w.alloc o0).alloc o1).alloc o2).alloc o3).alloc o4).heap[w.heap.size + 1]? = some o1 ∧
    (((((w.alloc o0).alloc o1).alloc o2).alloc o3).alloc o4).heap[w.heap.size + 1 + 1]? = some o2 ∧ (((((w.alloc o0).alloc o1).alloc o2).alloc o3).alloc o4).heap[w.heap.size + 1 + 1 + 1]? = some o3 ∧
    (((((w.alloc o0).alloc o1).alloc o2).alloc o3).alloc o4).heap[w.heap.size + 1 + 1 + 1 + 1]? = some o4 ∧ (((((w.alloc o0).alloc o1).alloc o2).alloc o3).alloc o4).heap.size = w.heap.size + 1 + 1 + 1 + 1 + 1 := by
  have a1 : ((w.alloc o0).alloc o1).heap[w.heap.size + 1]? = some o1 := by have := heap_new (w.alloc o0) o1; rwa [World.size_alloc] at this
  have a2 : (((w.alloc o0).alloc o1).alloc o2).heap[w.heap.size + 1 + 1]? = some o2 := by have := heap_new ((w.alloc o0).alloc o1) o2; rwa [World.size_alloc, World.size_alloc] at this
  have a3 : ((((w.alloc o0).alloc o1).alloc o2).alloc o3).heap[w.heap.size + 1 + 1 + 1]? = some o3 := by have := heap_new (((w.alloc o0).alloc o1).alloc o2) o3; rwa [World.size_alloc, World.size_alloc, World.size_alloc] at this
  have a4 : (((((w.alloc o0).alloc o1).alloc o2).alloc o3).alloc o4).heap[w.heap.size + 1 + 1 + 1 + 1]? = some o4 := by have := heap_new ((((w.alloc o0).alloc o1).alloc o2).alloc o3) o4; rwa [World.size_alloc, World.size_alloc, World.size_alloc, World.size_alloc] at this
  refine ⟨?_, ?_, ?_, ?_, a4, by simp⟩
  · exact (Lib.alloc_old _ _ _ (by simp <;> omega)).trans ((Lib.alloc_old _ _ _ (by simp <;> omega)).trans ((Lib.alloc_old _ _ _ (by simp <;> omega)).trans ((Lib.alloc_old _ _ _ (by simp)).trans (heap_new w o0))))
  · exact (Lib.alloc_old _ _ _ (by simp <;> omega)).trans ((Lib.alloc_old _ _ _ (by simp <;> omega)).trans ((Lib.alloc_old _ _ _ (by simp)).trans a1))
  · exact (Lib.alloc_old _ _ _ (by simp <;> omega)).trans ((Lib.alloc_old _ _ _ (by simp)).trans a2)
  · exact (Lib.alloc_old _ _ _ (by simp)).trans a3

set_option maxHeartbeats 1000000 in
theorem seq_any (s sep : ByteArray) (w : World) : Calls Tryd.prog 19 #[.string s, .string sep] w fun e w' =>
    e = .returned (.func (.func 34) #[] #[.pointer (some ⟨w.heap.size + 1, 0, none⟩), .pointer (some ⟨w.heap.size, 0, none⟩), .pointer (some ⟨w.heap.size + 1 + 1, 0, none⟩)]) ∧
    w' = ((w.alloc (.cells #[.string s] 9)).alloc (.cells #[.string sep] 9)).alloc (.cells #[.int .i64 0] 3) := by
  go_enter Tryd.func19, Tryd.ntmps19
  go_wp2_with (go_at_call 30; go_in)
  go_ret
  exact ⟨rfl, rfl⟩

set_option maxHeartbeats 4000000 in
set_option maxRecDepth 100000 in
theorem with_any (x : ByteArray) (a b c d : Int) (key : ByteArray) (v : Value) (val : List UInt8) (w : World) (hsee : Sees w v val) (hsz : x.size + key.size + val.length ≤ 1048576) :
    Calls Tryd.prog 15 #[valueOf x a b c d, .string key, v] w (WithAns key val w) := by
  have hsee' := hsee
  obtain ⟨ao, cap, rfl, hcv⟩ := hsee
  clear hcv
  refine (callsIn_wide (n := 4)).1 ?_
  refine callsIn_of_wp_marks Tryd.func15 rfl trivial ?_ rfl
  simp only [Tryd.ntmps15, List.size_toArray, List.length_cons, List.length_nil, Nat.reduceAdd, Nat.reduceSub, Array.replicate_succ, Array.replicate_zero, List.push_toArray, List.append_toArray, List.nil_append, List.cons_append]
  gi_wp2_with fail
  obtain ⟨H, hH⟩ : ∃ H, w.heap.size = H := ⟨_, rfl⟩
  obtain ⟨W0, hW0⟩ : ∃ W0, (((((w.alloc (.cells #[.string x, .int .u16 a, .int .u16 b, .int .u16 c, .int .u16 d] 31)).alloc (.cells #[.string key] 9)).alloc zero31).alloc zero31).alloc (.cells #[.pointer none, .slice none 0 0] 42)) = W0 := ⟨_, rfl⟩
  obtain ⟨f0, f1, f2, f3, f4, hz0⟩ := five w (.cells #[.string x, .int .u16 a, .int .u16 b, .int .u16 c, .int .u16 d] 31) (.cells #[.string key] 9) zero31 zero31 (.cells #[.pointer none, .slice none 0 0] 42)
  rw [hW0, hH] at f0 f1 f2 f3 f4 hz0
  have hB0 : Below H w W0 := by
    rw [← hW0, ← hH]
    exact (((((Below.refl _ w).alloc (Nat.le_refl _) _).alloc (by simp) _).alloc (by simp; omega) _).alloc (by simp; omega) _).alloc (by simp; omega) _
  rw [hW0, hH]
  clear hW0
  refine ⟨trivial, (callsIn_wide.2 (grow_at (H + 1 + 1 + 1 + 1) (key.size + 1 + val.length + 1 + x.size) _ (by simp) W0 f4 (by omega) (by omega) (by omega))).mono ?_⟩
  rintro e w1 ⟨rfl, h1, hb1⟩
  have hb1' : Below H W0 w1 := hb1.mono (by omega)
  have g0 := (hb1.block H (by omega)).trans f0
  have g1 := (hb1.block (H + 1) (by omega)).trans f1
  have g2 := (hb1.block (H + 1 + 1) (by omega)).trans f2
  have g3 : ValueAt w1 (H + 1 + 1 + 1) ⟨#[]⟩ 0 0 0 0 := (hb1.block (H + 1 + 1 + 1) (by omega)).trans f3
  have hB1 : Below H w w1 := hB0.trans hb1'
  have hconv := sees_string (hsee'.below (by rw [hH]; exact hB1))
  have k1 : w1.cell? ⟨H + 1, 0, none⟩ = some (.string key) := by rw [Lib.cell_of_heap g1]; rfl
  have hn2 : (ByteArray.mk val.toArray).size = val.length := by
    show val.toArray.size = val.length
    simp
  have hkl : key.data.toList.length = key.size := (Lib.size_eq key).symm
  clear f0 f1 f2 f3 f4 hz0 hb1 hB0 hb1' hsee'
  gi_wp2_with fail
  refine ⟨trivial, (callsIn_wide.2 (add_first (H + 1 + 1 + 1 + 1) (H + 1 + 1 + 1) key ⟨val.toArray⟩ ⟨#[]⟩ 0 0 0 0 w1 h1 g3 (by omega) (by rw [hn2]; omega) (key.size + 1) (by simp [hkl]))).mono ?_⟩
  rintro e w2 ⟨rfl, h2, ⟨⟨ts, te, rs, re, v2, m1, m2, m3, m4⟩⟩, hK2⟩
  have hS2 : St H (H + 1 + 1 + 1 + 1) (H + 1 + 1 + 1) key val w (3 * x.size + 4) w2 := by
    refine ⟨⟨[], fun kv h => absurd h List.not_mem_nil, ?_, ?_⟩, ⟨ts, te, rs, re, v2, ?_, ?_⟩, ?_, ?_, hB1.trans (hK2.below.mono (by omega))⟩
    · have e : whole key.data.toList val [] = [] ++ key.data.toList ++ [58] ++ (ByteArray.mk val.toArray).data.toList := by simp [whole, tail]
      rw [e]; exact h2
    · rw [whole_len, hkl]; simp [tail]; omega
    · rw [← hn2]; exact m1
    · rw [← hn2]; exact m3
    · exact hK2.others _ _ g1 (by omega) (by omega) (fun c fz e => by cases e)
    · exact hK2.others _ _ g2 (by omega) (by omega) (fun c fz e => by cases e)
  have gx : w2.heap[H]? = some (.cells #[.string x, .int .u16 a, .int .u16 b, .int .u16 c, .int .u16 d] 31 (0, 0)) := hK2.others _ _ g0 (by omega) (by omega) (fun c fz e => by cases e)
  have cx : w2.cell? ⟨H, 0, none⟩ = some (.string x) := by rw [Lib.cell_of_heap gx]; rfl
  clear h2 v2 m1 m2 m3 m4 hK2 g0 g1 g2 g3 gx h1 hB1 k1 hconv hn2 hkl
  by_cases hx0 : x.size = 0
  · have e1 := str_nil hx0
    gi_wp2_with fail
    obtain ⟨⟨kept, hkept, hHas, hlen⟩, ⟨ts', te', rs', re', hv, t1, t2⟩, _, gr, hBw⟩ := hS2
    have hb2 := hHas.lt
    refine ⟨trivial, (callsIn_wide.2 (Tryd.Builder_String_any_k _ _ _ w2 (Or.inr hHas) (Nat.le_of_lt hb2))).mono ?_⟩
    rintro e w5 ⟨rfl, _, hB5, hO5⟩
    have hv5 : ValueAt w5 (H + 1 + 1 + 1) ⟨#[]⟩ ts' te' rs' re' := (hB5.block _ (by omega)).trans hv
    have gr5 : w5.heap[H + 1 + 1]? = some zero31 := (hB5.block _ (by omega)).trans gr
    obtain ⟨T, hT⟩ : ∃ T : ByteArray, (⟨(whole key.data.toList val kept).toArray⟩ : ByteArray) = T := ⟨_, rfl⟩
    rw [hT]
    obtain ⟨W6, hW6⟩ : ∃ W6, w5.setCell ⟨H + 1 + 1 + 1, 0, none⟩ (.string T) = W6 := ⟨_, rfl⟩
    have hv6 : ValueAt W6 (H + 1 + 1 + 1) T ts' te' rs' re' := by
      rw [← hW6]; unfold ValueAt at hv5 ⊢; simp [World.setCell, Array.getElem?_modify, hv5]
    have gr6 : W6.heap[H + 1 + 1]? = some zero31 := by rw [← hW6]; exact (Below.heap_setCell _ _ _ _ (by simp)).trans gr5
    have q0 : w5.cell? ⟨H + 1 + 1 + 1, 0, none⟩ = some (.string ⟨#[]⟩) := by rw [Lib.cell_of_heap hv5]; rfl
    have z0 : w5.frozen? ⟨H + 1 + 1 + 1, 0, none⟩ = false := Lib.frozen_of_heap hv5 0
    have p0 : W6.cell? ⟨H + 1 + 1 + 1, 0, none⟩ = some (.string T) := by rw [Lib.cell_of_heap hv6]; rfl
    have p1 : W6.cell? ⟨H + 1 + 1 + 1, 1, none⟩ = some (.int .u16 ts') := by rw [Lib.cell_of_heap hv6]; rfl
    have p2 : W6.cell? ⟨H + 1 + 1 + 1, 2, none⟩ = some (.int .u16 te') := by rw [Lib.cell_of_heap hv6]; rfl
    have p3 : W6.cell? ⟨H + 1 + 1 + 1, 3, none⟩ = some (.int .u16 rs') := by rw [Lib.cell_of_heap hv6]; rfl
    have p4 : W6.cell? ⟨H + 1 + 1 + 1, 4, none⟩ = some (.int .u16 re') := by rw [Lib.cell_of_heap hv6]; rfl
    have r0 : W6.cell? ⟨H + 1 + 1, 0, none⟩ = some (.string ⟨#[]⟩) := by rw [Lib.cell_of_heap gr6]; rfl
    have r1 : W6.cell? ⟨H + 1 + 1, 1, none⟩ = some (.int .u16 0) := by rw [Lib.cell_of_heap gr6]; rfl
    have r2 : W6.cell? ⟨H + 1 + 1, 2, none⟩ = some (.int .u16 0) := by rw [Lib.cell_of_heap gr6]; rfl
    have r3 : W6.cell? ⟨H + 1 + 1, 3, none⟩ = some (.int .u16 0) := by rw [Lib.cell_of_heap gr6]; rfl
    have r4 : W6.cell? ⟨H + 1 + 1, 4, none⟩ = some (.int .u16 0) := by rw [Lib.cell_of_heap gr6]; rfl
    have y0 : W6.frozen? ⟨H + 1 + 1, 0, none⟩ = false := Lib.frozen_of_heap gr6 0
    have y1 : W6.frozen? ⟨H + 1 + 1, 1, none⟩ = false := Lib.frozen_of_heap gr6 1
    have y2 : W6.frozen? ⟨H + 1 + 1, 2, none⟩ = false := Lib.frozen_of_heap gr6 2
    have y3 : W6.frozen? ⟨H + 1 + 1, 3, none⟩ = false := Lib.frozen_of_heap gr6 3
    have y4 : W6.frozen? ⟨H + 1 + 1, 4, none⟩ = false := Lib.frozen_of_heap gr6 4
    gi_wp2
    obtain ⟨W7, hW7⟩ : ∃ W7, (((((W6.setCell ⟨H + 1 + 1, 0, none⟩ (.string T)).setCell ⟨H + 1 + 1, 1, none⟩ (.int .u16 ts')).setCell ⟨H + 1 + 1, 2, none⟩ (.int .u16 te')).setCell ⟨H + 1 + 1, 3, none⟩ (.int .u16 rs')).setCell ⟨H + 1 + 1, 4, none⟩ (.int .u16 re')) = W7 := ⟨_, rfl⟩
    rw [hW7]
    have hv7 : ValueAt W7 (H + 1 + 1) T ts' te' rs' re' := by rw [← hW7]; exact ValueAt.all gr6 _ _ _ _ _
    have hB7 : Below H w W7 := by
      rw [← hW7, ← hW6]
      exact ((((((hBw.trans (hB5.mono (by omega))).setCell (p := ⟨H + 1 + 1 + 1, 0, none⟩) (by show H ≤ H + 1 + 1 + 1; omega) _).setCell (p := ⟨H + 1 + 1, 0, none⟩) (by show H ≤ H + 1 + 1; omega) _).setCell (p := ⟨H + 1 + 1, 1, none⟩) (by show H ≤ H + 1 + 1; omega) _).setCell (p := ⟨H + 1 + 1, 2, none⟩) (by show H ≤ H + 1 + 1; omega) _).setCell (p := ⟨H + 1 + 1, 3, none⟩) (by show H ≤ H + 1 + 1; omega) _).setCell (p := ⟨H + 1 + 1, 4, none⟩) (by show H ≤ H + 1 + 1; omega) _
    have hTd : T.data.toList = whole key.data.toList val kept := by rw [← hT]
    have hTs : T.size ≤ 8388608 := by rw [Lib.size_eq, hTd]; omega
    have hv8 := hv7
    have hB8 := hB7
    generalize W7 = W8 at hv8 hB8 ⊢
    have n0 : W8.cell? ⟨H + 1 + 1, 0, none⟩ = some (.string T) := by rw [Lib.cell_of_heap hv8]; rfl
    have n1 : W8.cell? ⟨H + 1 + 1, 1, none⟩ = some (.int .u16 ts') := by rw [Lib.cell_of_heap hv8]; rfl
    have n2 : W8.cell? ⟨H + 1 + 1, 2, none⟩ = some (.int .u16 te') := by rw [Lib.cell_of_heap hv8]; rfl
    have n3 : W8.cell? ⟨H + 1 + 1, 3, none⟩ = some (.int .u16 rs') := by rw [Lib.cell_of_heap hv8]; rfl
    have n4 : W8.cell? ⟨H + 1 + 1, 4, none⟩ = some (.int .u16 re') := by rw [Lib.cell_of_heap hv8]; rfl
    refine ⟨valueOf T ts' te' rs' re', by simp [results, Tryd.f15, go_sem, n0, n1, n2, n3, n4], T, ts', te', rs', re', kept, rfl, hTd, hkept, hTs, t1, t2, by rw [hH]; exact hB8⟩
  · have e1 := str_ne hx0
    gi_wp2_with fail
    refine ⟨trivial, (callsIn_wide.2 (seq_any x ⟨#[59]⟩ w2)).mono ?_⟩
    obtain ⟨S, hS⟩ : ∃ S, w2.heap.size = S := ⟨_, rfl⟩
    obtain ⟨u0, u1, u2, hz3⟩ := three w2 (.cells #[.string x] 9) (.cells #[.string ⟨#[59]⟩] 9) (.cells #[.int .i64 0] 3)
    obtain ⟨W3, hW3⟩ : ∃ W3, ((w2.alloc (.cells #[.string x] 9)).alloc (.cells #[.string ⟨#[59]⟩] 9)).alloc (.cells #[.int .i64 0] 3) = W3 := ⟨_, rfl⟩
    rw [hW3, hS] at u0 u1 u2 hz3
    rintro e w3 ⟨rfl, rfl⟩
    have hSb : H + 1 + 1 + 1 + 1 < S := by
      obtain ⟨⟨kept, _, hHas, _⟩, _⟩ := hS2
      rw [← hS]; exact hHas.lt
    have hS3 : St H (H + 1 + 1 + 1 + 1) (H + 1 + 1 + 1) key val w (3 * x.size + 4) W3 := by
      rw [← hW3]
      exact ((hS2.alloc (by omega) (by omega) _).alloc (by omega) (by omega) _).alloc (by omega) (by omega) _
    rw [hW3, hS]
    clear hW3 hS2 cx hS
    gi_wp2_with fail
    refine wpIn_range_split (n := 4) (by omega) (S + 1) S (S + 1 + 1) (by omega) (by omega) rfl rfl x (by omega)
      (Core H S key val w) (St H (H + 1 + 1 + 1 + 1) (H + 1 + 1 + 1) key val w 0)
      (fun r W l o o' h hl ho hc => h.put hSb o' (by omega) ho hc)
      (fun W l o o' h hl ho hc => h.other (by omega) (by omega) (grownBy_putObj' W l o') (by omega) (fun c fz e => by rw [ho] at e; cases e; cases hc))
      (fun r r' r'' W _ h => h.store hSb r'')
      (cells3_of u0 u1 u2)
      (fun o o' => ⟨(hS3.alloc (by omega) (by omega) o).alloc (by omega) (by omega) o', ⟨x, (Lib.alloc_old _ _ _ (by simp; omega)).trans ((Lib.alloc_old _ _ _ (by omega)).trans u0)⟩, (Lib.alloc_old _ _ _ (by simp; omega)).trans ((Lib.alloc_old _ _ _ (by omega)).trans u1), (Lib.alloc_old _ _ _ (by simp; omega)).trans ((Lib.alloc_old _ _ _ (by omega)).trans u2)⟩)
      (fun y => { tmps := #[valueOf x a b c d, .string key, .slice ao val.length cap, .pointer (some ⟨H, 0, none⟩), .pointer (some ⟨H + 1, 0, none⟩), undef, .pointer (some ⟨H + 1 + 1, 0, none⟩), .pointer (some ⟨H + 1 + 1 + 1, 0, none⟩), .pointer (some ⟨H + 1 + 1 + 1 + 1, 0, none⟩), .string y, undef, undef, undef, .string key, .int .i64 (key.size : Int), .int .i64 ((key.size : Int) + 1), .slice ao val.length cap, .int .i64 (val.length : Int), .int .i64 ((key.size : Int) + 1 + (val.length : Int)), .int .i64 ((key.size : Int) + 1 + (val.length : Int) + 1), .pointer (some ⟨H, 0, none⟩), .string x, .int .i64 (x.size : Int), .int .i64 ((key.size : Int) + 1 + (val.length : Int) + 1 + (x.size : Int)), .tuple #[], .string key, .slice ao val.length cap, .string ⟨val.toArray⟩, .tuple #[], .pointer (some ⟨H, 0, none⟩), .string x, .bool true, .pointer (some ⟨H, 0, none⟩), .string x, .func (.func 34) #[] #[.pointer (some ⟨S + 1, 0, none⟩), .pointer (some ⟨S, 0, none⟩), .pointer (some ⟨S + 1 + 1, 0, none⟩)], .string y, undef, undef, undef, undef, undef, undef, undef, undef, undef, undef, undef, undef, undef, undef, undef], defers := [] }) ?assign ?body ?last ?done
    case assign =>
      intro l y W K hK
      gi_wp2
      exact hK
    case body =>
      intro l r i W hC hCore hir hno hrs
      obtain ⟨⟨kept, hkept, hHas, hlen⟩, ⟨ts', te', rs', re', hv, t1, t2⟩, gk, gr, hB⟩ := hCore.st
      have gl := hCore.cells hC.left
      have gs := hCore.sep
      have gv := hCore.save
      have hymem : (59 : UInt8) ∉ (r.extract 0 i).data.toList := by
        rw [ByteArray.data_extract, Array.toList_extract, List.extract_eq_take_drop, List.drop_zero, Nat.sub_zero]
        exact hno
      have hst := hCore.st
      have hrest : (r.extract (i + 1) r.size).size = r.size - (i + 1) := by rw [ByteArray.size_extract]; omega
      obtain ⟨y, hy⟩ : ∃ y, r.extract 0 i = y := ⟨_, rfl⟩
      have hyi : y.size = i := by rw [← hy, ByteArray.size_extract]; omega
      have hys : y.size ≤ 1048576 := by omega
      have hbud : 3 * (r.extract (i + 1) r.size).size + 4 + y.size + 2 ≤ 3 * r.size + 4 := by rw [hrest]; omega
      rw [hy] at hymem
      rw [hy]
      gi_wp2_with fail
      refine ⟨trivial, (CallsIn.inRound l (callsIn_wide.2 (cut_any y W hys))).mono ?_⟩
      rintro e w4 ⟨k, v', b', rfl, hk1, hk2, hk3, hk4, n4, rfl⟩
      have kc : (W.drewN n4).cell? ⟨H + 1, 0, none⟩ = some (.string key) := by
        rw [Lib.cell_of_heap (show (W.drewN n4).heap[H + 1]? = _ from gk)]; rfl
      by_cases hkk : (k.toList == key.toList) = true
      · gi_wp2
        exact ⟨keeps_drewN W n4, ⟨hC.sep, hC.left, hC.open_, hC.save⟩, (hst.less (by rw [hrest]; omega)).drewN n4, ⟨r, gl⟩, gs, gv⟩
      · have hkk' : (k.toList == key.toList) = false := by simpa using hkk
        clear hkk
        have hkp : Kept key.data.toList (k.data.toList, v'.data.toList) := ⟨kept_ne hkk', hk1, fun h => hymem (hk2 _ h), fun h => hymem (hk3 _ h)⟩
        gi_wp2_with fail
        refine ⟨trivial, (CallsIn.inRound l (callsIn_wide.2 (add_more (H + 1 + 1 + 1 + 1) (H + 1 + 1 + 1) (whole key.data.toList val kept) k v' ⟨#[]⟩ ts' te' rs' re' (W.drewN n4) hHas hv (by omega) (by rw [whole_len]; omega) (by omega) _ rfl))).mono ?_⟩
        rintro e w5 ⟨rfl, h5, hM, hK5⟩
        have hst5 := St.added (n' := 3 * (r.extract (i + 1) r.size).size + 4) (W := W.drewN n4) hkept hlen hHas t1 t2 gk gr (hB.trans ⟨rfl, rfl, rfl, Nat.le_refl _, fun _ _ => rfl⟩) (by omega) (by omega) (by omega) hkp hkk' h5 hM hK5
        have hko := hK5.keeps hHas hv
        gi_wp2
        exact ⟨(keeps_drewN W n4).trans hko, cells3_of (hK5.others _ _ gl (by omega) (by omega) (fun c fz e => by cases e)) (hK5.others _ _ gs (by omega) (by omega) (fun c fz e => by cases e)) (hK5.others _ _ gv (by omega) (by omega) (fun c fz e => by cases e)), hst5, ⟨r, hK5.others _ _ gl (by omega) (by omega) (fun c fz e => by cases e)⟩, hK5.others _ _ gs (by omega) (by omega) (fun c fz e => by cases e), hK5.others _ _ gv (by omega) (by omega) (fun c fz e => by cases e)⟩
    case last =>
      intro l r W hC hCore hno hrs
      obtain ⟨⟨kept, hkept, hHas, hlen⟩, ⟨ts', te', rs', re', hv, t1, t2⟩, gk, gr, hB⟩ := hCore.st
      have gl := hCore.cells hC.left
      have gs := hCore.sep
      have gv := hCore.save
      have hymem : (59 : UInt8) ∉ r.data.toList := hno
      have hst := hCore.st
      obtain ⟨y, hy⟩ : ∃ y, r = y := ⟨_, rfl⟩
      have hys : y.size ≤ 1048576 := by rw [← hy]; exact hrs
      have hbud : 0 + y.size + 2 ≤ 3 * r.size + 4 := by rw [hy]; omega
      rw [hy] at hymem
      rw [hy]
      gi_wp2_with fail
      refine ⟨trivial, (CallsIn.inRound l (callsIn_wide.2 (cut_any y W hys))).mono ?_⟩
      rintro e w4 ⟨k, v', b', rfl, hk1, hk2, hk3, hk4, n4, rfl⟩
      have kc : (W.drewN n4).cell? ⟨H + 1, 0, none⟩ = some (.string key) := by
        rw [Lib.cell_of_heap (show (W.drewN n4).heap[H + 1]? = _ from gk)]; rfl
      by_cases hkk : (k.toList == key.toList) = true
      · gi_wp2
        exact ⟨keeps_drewN W n4, (hst.less (by omega)).drewN n4⟩
      · have hkk' : (k.toList == key.toList) = false := by simpa using hkk
        clear hkk
        have hkp : Kept key.data.toList (k.data.toList, v'.data.toList) := ⟨kept_ne hkk', hk1, fun h => hymem (hk2 _ h), fun h => hymem (hk3 _ h)⟩
        gi_wp2_with fail
        refine ⟨trivial, (CallsIn.inRound l (callsIn_wide.2 (add_more (H + 1 + 1 + 1 + 1) (H + 1 + 1 + 1) (whole key.data.toList val kept) k v' ⟨#[]⟩ ts' te' rs' re' (W.drewN n4) hHas hv (by omega) (by rw [whole_len]; omega) (by omega) _ rfl))).mono ?_⟩
        rintro e w5 ⟨rfl, h5, hM, hK5⟩
        have hst5 := St.added (n' := 0) (W := W.drewN n4) hkept hlen hHas t1 t2 gk gr (hB.trans ⟨rfl, rfl, rfl, Nat.le_refl _, fun _ _ => rfl⟩) (by omega) (by omega) (by omega) hkp hkk' h5 hM hK5
        have hko := hK5.keeps hHas hv
        gi_wp2
        exact ⟨(keeps_drewN W n4).trans hko, hst5⟩
    case done =>
      intro D W hSt hD hK
      rw [hz3] at hD
      clear hS3 u0 u1 u2 hz3
      gi_wp2_with fail
      obtain ⟨⟨kept, hkept, hHas, hlen⟩, ⟨ts', te', rs', re', hv, t1, t2⟩, _, gr, hBw⟩ := hSt
      have hb2 := hHas.lt
      refine ⟨trivial, (callsIn_wide.2 (Tryd.Builder_String_any_k _ _ _ W (Or.inr hHas) (Nat.le_of_lt hb2))).mono ?_⟩
      rintro e w5 ⟨rfl, _, hB5, hO5⟩
      have hv5 : ValueAt w5 (H + 1 + 1 + 1) ⟨#[]⟩ ts' te' rs' re' := (hB5.block _ (by omega)).trans hv
      have gr5 : w5.heap[H + 1 + 1]? = some zero31 := (hB5.block _ (by omega)).trans gr
      obtain ⟨T, hT⟩ : ∃ T : ByteArray, (⟨(whole key.data.toList val kept).toArray⟩ : ByteArray) = T := ⟨_, rfl⟩
      rw [hT]
      obtain ⟨W6, hW6⟩ : ∃ W6, w5.setCell ⟨H + 1 + 1 + 1, 0, none⟩ (.string T) = W6 := ⟨_, rfl⟩
      have hv6 : ValueAt W6 (H + 1 + 1 + 1) T ts' te' rs' re' := by
        rw [← hW6]; unfold ValueAt at hv5 ⊢; simp [World.setCell, Array.getElem?_modify, hv5]
      have gr6 : W6.heap[H + 1 + 1]? = some zero31 := by rw [← hW6]; exact (Below.heap_setCell _ _ _ _ (by simp)).trans gr5
      have q0 : w5.cell? ⟨H + 1 + 1 + 1, 0, none⟩ = some (.string ⟨#[]⟩) := by rw [Lib.cell_of_heap hv5]; rfl
      have z0 : w5.frozen? ⟨H + 1 + 1 + 1, 0, none⟩ = false := Lib.frozen_of_heap hv5 0
      have p0 : W6.cell? ⟨H + 1 + 1 + 1, 0, none⟩ = some (.string T) := by rw [Lib.cell_of_heap hv6]; rfl
      have p1 : W6.cell? ⟨H + 1 + 1 + 1, 1, none⟩ = some (.int .u16 ts') := by rw [Lib.cell_of_heap hv6]; rfl
      have p2 : W6.cell? ⟨H + 1 + 1 + 1, 2, none⟩ = some (.int .u16 te') := by rw [Lib.cell_of_heap hv6]; rfl
      have p3 : W6.cell? ⟨H + 1 + 1 + 1, 3, none⟩ = some (.int .u16 rs') := by rw [Lib.cell_of_heap hv6]; rfl
      have p4 : W6.cell? ⟨H + 1 + 1 + 1, 4, none⟩ = some (.int .u16 re') := by rw [Lib.cell_of_heap hv6]; rfl
      have r0 : W6.cell? ⟨H + 1 + 1, 0, none⟩ = some (.string ⟨#[]⟩) := by rw [Lib.cell_of_heap gr6]; rfl
      have r1 : W6.cell? ⟨H + 1 + 1, 1, none⟩ = some (.int .u16 0) := by rw [Lib.cell_of_heap gr6]; rfl
      have r2 : W6.cell? ⟨H + 1 + 1, 2, none⟩ = some (.int .u16 0) := by rw [Lib.cell_of_heap gr6]; rfl
      have r3 : W6.cell? ⟨H + 1 + 1, 3, none⟩ = some (.int .u16 0) := by rw [Lib.cell_of_heap gr6]; rfl
      have r4 : W6.cell? ⟨H + 1 + 1, 4, none⟩ = some (.int .u16 0) := by rw [Lib.cell_of_heap gr6]; rfl
      have y0 : W6.frozen? ⟨H + 1 + 1, 0, none⟩ = false := Lib.frozen_of_heap gr6 0
      have y1 : W6.frozen? ⟨H + 1 + 1, 1, none⟩ = false := Lib.frozen_of_heap gr6 1
      have y2 : W6.frozen? ⟨H + 1 + 1, 2, none⟩ = false := Lib.frozen_of_heap gr6 2
      have y3 : W6.frozen? ⟨H + 1 + 1, 3, none⟩ = false := Lib.frozen_of_heap gr6 3
      have y4 : W6.frozen? ⟨H + 1 + 1, 4, none⟩ = false := Lib.frozen_of_heap gr6 4
      gi_wp2
      obtain ⟨W7, hW7⟩ : ∃ W7, (((((W6.setCell ⟨H + 1 + 1, 0, none⟩ (.string T)).setCell ⟨H + 1 + 1, 1, none⟩ (.int .u16 ts')).setCell ⟨H + 1 + 1, 2, none⟩ (.int .u16 te')).setCell ⟨H + 1 + 1, 3, none⟩ (.int .u16 rs')).setCell ⟨H + 1 + 1, 4, none⟩ (.int .u16 re')) = W7 := ⟨_, rfl⟩
      rw [hW7]
      have hv7 : ValueAt W7 (H + 1 + 1) T ts' te' rs' re' := by rw [← hW7]; exact ValueAt.all gr6 _ _ _ _ _
      have hB7 : Below H w W7 := by
        rw [← hW7, ← hW6]
        exact ((((((hBw.trans (hB5.mono (by omega))).setCell (p := ⟨H + 1 + 1 + 1, 0, none⟩) (by show H ≤ H + 1 + 1 + 1; omega) _).setCell (p := ⟨H + 1 + 1, 0, none⟩) (by show H ≤ H + 1 + 1; omega) _).setCell (p := ⟨H + 1 + 1, 1, none⟩) (by show H ≤ H + 1 + 1; omega) _).setCell (p := ⟨H + 1 + 1, 2, none⟩) (by show H ≤ H + 1 + 1; omega) _).setCell (p := ⟨H + 1 + 1, 3, none⟩) (by show H ≤ H + 1 + 1; omega) _).setCell (p := ⟨H + 1 + 1, 4, none⟩) (by show H ≤ H + 1 + 1; omega) _
      have hTd : T.data.toList = whole key.data.toList val kept := by rw [← hT]
      have hTs : T.size ≤ 8388608 := by rw [Lib.size_eq, hTd]; omega
      have hK5 := hO5 _ _ hK (fun e => by have := Option.some.inj e; omega) (fun c fz e => by cases e)
      have hK7 : W7.heap[D]? = some (.deferred (some [])) := by
        rw [← hW7, ← hW6]
        exact (Below.heap_setCell _ _ _ _ (by show D ≠ H + 1 + 1; omega)).trans ((Below.heap_setCell _ _ _ _ (by show D ≠ H + 1 + 1; omega)).trans ((Below.heap_setCell _ _ _ _ (by show D ≠ H + 1 + 1; omega)).trans ((Below.heap_setCell _ _ _ _ (by show D ≠ H + 1 + 1; omega)).trans ((Below.heap_setCell _ _ _ _ (by show D ≠ H + 1 + 1; omega)).trans ((Below.heap_setCell _ _ _ _ (by show D ≠ H + 1 + 1 + 1; omega)).trans hK5)))))
      refine ⟨by simp, .inl ⟨_, _, rfl, run_takeDeferred hK7, ?_⟩⟩
      have hv8 : ValueAt (W7.putObj D (.deferred none)) (H + 1 + 1) T ts' te' rs' re' := (World.putObj_heap_other (by omega)).trans hv7
      have hB8 : Below H w (W7.putObj D (.deferred none)) := hB7.trans (belowK_b (w := w) (by omega) W7 D _ _ (by omega) hK7 rfl rfl)
      generalize W7.putObj D (.deferred none) = W8 at hv8 hB8 ⊢
      have n0 : W8.cell? ⟨H + 1 + 1, 0, none⟩ = some (.string T) := by rw [Lib.cell_of_heap hv8]; rfl
      have n1 : W8.cell? ⟨H + 1 + 1, 1, none⟩ = some (.int .u16 ts') := by rw [Lib.cell_of_heap hv8]; rfl
      have n2 : W8.cell? ⟨H + 1 + 1, 2, none⟩ = some (.int .u16 te') := by rw [Lib.cell_of_heap hv8]; rfl
      have n3 : W8.cell? ⟨H + 1 + 1, 3, none⟩ = some (.int .u16 rs') := by rw [Lib.cell_of_heap hv8]; rfl
      have n4 : W8.cell? ⟨H + 1 + 1, 4, none⟩ = some (.int .u16 re') := by rw [Lib.cell_of_heap hv8]; rfl
      refine ⟨valueOf T ts' te' rs' re', by simp [results, Tryd.f15, go_sem, n0, n1, n2, n3, n4], T, ts', te', rs', re', kept, rfl, hTd, hkept, hTs, t1, t2, by rw [hH]; exact hB8⟩
end Go.Proofs.Qxb6603964aDoor
