/-
  (*Value).add at this seat's dump, walked.
-/
import Derived.Test.Qxb6603964aDoorBuilder
import Derived.Test.Qxb6603964aDoorNext
namespace Go.Proofs.Qxb6603964aDoor
open Go.RowKit Go.Proofs Go.Lib

/-- A Value in memory. -/
def ValueAt (w : World) (vb : Nat) (x : ByteArray) (ts te rs re : Int) : Prop := w.heap[vb]? = some (.cells #[.string x, .int .u16 ts, .int .u16 te, .int .u16 rs, .int .u16 re] 31 (0, 0))
/-- The builder in block b holds the bytes l. -/
def Has (b : Nat) (l : List UInt8) (w : World) : Prop := Lib.BuilderAtF 42 5 b b (.pointer (some ⟨b, 0, none⟩)) (Lib.byteCells l) w
theorem Has.lt {b : Nat} {l : List UInt8} {w : World} (h : Has b l w) : b < w.heap.size := Lib.BuilderAtF.lt h
/-- What a write into the builder b keeps. -/
structure Keeps (b : Nat) (w w' : World) : Prop where
  below : Below b w w'
  others : Lib.OthersKept 5 (some b) w w'
theorem Keeps.trans {b : Nat} {x y z : World} (h : Keeps b x y) (k : Keeps b y z) : Keeps b x z := ⟨h.below.trans k.below, h.others.trans k.others⟩
theorem Keeps.refl (b : Nat) (w : World) : Keeps b w w := ⟨Below.refl _ _, Lib.OthersKept.refl _ _ _⟩
theorem Keeps.alloc {b : Nat} {w w' : World} (h : Keeps b w w') (hb : b ≤ w'.heap.size) (o : Obj) : Keeps b w (w'.alloc o) := ⟨h.below.alloc hb _, h.others.alloc _⟩
theorem Keeps.value {b vb : Nat} {w w' : World} {x : ByteArray} {ts te rs re : Int} (h : Keeps b w w') (hlt : vb < b) (hv : ValueAt w vb x ts te rs re) : ValueAt w' vb x ts te rs re :=
  (h.below.block vb hlt).trans hv

theorem wb_any (b : Nat) (l : List UInt8) (c : UInt8) (x : Int) (hx : x = (c.toNat : Int)) (w : World) (h : Has b l w) (hlen : l.length ≤ 67108864) :
    Calls Tryd.prog 28 #[.pointer (some ⟨b, 0, none⟩), .int .u8 x] w fun e w' => e = .returned .nilIface ∧ Has b (l ++ [c]) w' ∧ Keeps b w w' := by
  refine (writeByte_k b b _ x _ (Or.inr h) (by rw [Lib.byteCells_length]; omega) (Nat.le_of_lt h.lt)).mono ?_
  rintro e w' ⟨rfl, h1, h2, h3⟩
  refine ⟨rfl, ?_, h2, h3⟩
  unfold Has
  rw [Lib.byteCells_append]
  subst hx
  exact h1
theorem cells_str (s : ByteArray) : Lib.strCells s = Lib.byteCells s.data.toList := rfl
theorem ws_any (b : Nat) (l : List UInt8) (s : ByteArray) (w : World) (h : Has b l w) (hlen : l.length ≤ 67108864) (hs : s.size ≤ 67108864) :
    Calls Tryd.prog 29 #[.pointer (some ⟨b, 0, none⟩), .string s] w fun e w' => e = .returned (.tuple #[.int .i64 s.size, .nilIface]) ∧ Has b (l ++ s.data.toList) w' ∧ Keeps b w w' := by
  refine (writeString_k b b _ s _ (Or.inr h) (by rw [Lib.byteCells_length]; omega) (Nat.le_of_lt h.lt)).mono ?_
  rintro e w' ⟨rfl, h1, h2, h3⟩
  refine ⟨rfl, ?_, h2, h3⟩
  unfold Has
  rw [Lib.byteCells_append, ← cells_str]
  exact h1
theorem len_any (b : Nat) (l : List UInt8) (w : World) (h : Has b l w) :
    Calls Tryd.prog 27 #[.pointer (some ⟨b, 0, none⟩)] w fun e w' => e = .returned (.int .i64 (l.length : Int)) ∧ w = w' := by
  refine (Tryd.Builder_Len_f b b _ w (Or.inr h)).mono ?_
  rintro e w' ⟨rfl, rfl⟩
  rw [Lib.byteCells_length]
  exact ⟨rfl, rfl⟩

/-- Where a value of n bytes lies behind m bytes. -/
def sp0 (m : Nat) : Int := IntKind.u16.wrap (m : Int)
def sp1 (m n : Nat) : Int := IntKind.u16.wrap ((m : Int) + (n : Int))
/-- What add leaves in the Value. -/
structure Marked (w' : World) (vb m n : Nat) (k : ByteArray) (x : ByteArray) (ts te rs re : Int) : Prop where
  mk :: (at_ : ∃ ts' te' rs' re' : Int, ValueAt w' vb x ts' te' rs' re' ∧
    ((k.toList == [116, 104]) = true → ts' = sp0 m ∧ te' = sp1 m n) ∧ ((k.toList == [116, 104]) = false → ts' = ts ∧ te' = te) ∧
    ((k.toList == [114, 118]) = true → rs' = sp0 m ∧ re' = sp1 m n) ∧ ((k.toList == [114, 118]) = false → rs' = rs ∧ re' = re))
/-- What add keeps. -/
structure Kept2 (b vb : Nat) (w w' : World) : Prop where
  below : Below vb w w'
  others : ∀ j o, w.heap[j]? = some o → j ≠ b → j ≠ vb → (∀ c fz, o ≠ .cells c 5 fz) → w'.heap[j]? = some o

theorem heap_new (w : World) (o : Obj) : (w.alloc o).heap[w.heap.size]? = some o := by
  show (w.heap.push o)[w.heap.size]? = some o
  simp
theorem Keeps.two {b vb : Nat} {w w' : World} (h : Keeps b w w') (hlt : vb < b) : Kept2 b vb w w' :=
  ⟨h.below.mono (Nat.le_of_lt hlt), fun j o hj hb _ ho => h.others j o hj (fun e => hb (Option.some.inj e)) ho⟩
theorem Kept2.set {b vb : Nat} {w w' : World} (h : Kept2 b vb w w') (off : Nat) (v : Value) : Kept2 b vb w (w'.setCell ⟨vb, off, none⟩ v) :=
  ⟨h.below.setCell (p := ⟨vb, off, none⟩) (Nat.le_refl _) _, fun j o hj hb hv ho => (Below.heap_setCell _ _ _ _ hv).trans (h.others j o hj hb hv ho)⟩
theorem ValueAt.th {w : World} {vb : Nat} {x : ByteArray} {ts te rs re : Int} (h : ValueAt w vb x ts te rs re) (p q : Int) :
    ValueAt ((w.setCell ⟨vb, 1, none⟩ (.int .u16 p)).setCell ⟨vb, 2, none⟩ (.int .u16 q)) vb x p q rs re := by
  unfold ValueAt at h ⊢
  simp [World.setCell, Array.getElem?_modify, h]
theorem ValueAt.rv {w : World} {vb : Nat} {x : ByteArray} {ts te rs re : Int} (h : ValueAt w vb x ts te rs re) (p q : Int) :
    ValueAt ((w.setCell ⟨vb, 3, none⟩ (.int .u16 p)).setCell ⟨vb, 4, none⟩ (.int .u16 q)) vb x ts te p q := by
  unfold ValueAt at h ⊢
  simp [World.setCell, Array.getElem?_modify, h]
theorem Has.other {b j : Nat} {l : List UInt8} {w w' : World} (h : Has b l w) (hg : w.grownBy w' (some j)) (hj : j ≠ b) (hn : ∀ c fz, w.heap[j]? ≠ some (.cells c 5 fz)) : Has b l w' := by
  have hlt := h.lt
  obtain ⟨hB, v, hb, hown, hne⟩ := h
  refine ⟨hB, v, (hg.block b hlt (fun e => hj (Option.some.inj e).symm)).trans hb, hown.kept hg (Or.inr ?_), hne⟩
  rcases hown.2 with ⟨rfl, _⟩ | ⟨g, cap, cur, fz, rfl, _, hgc, _⟩
  · simp [Value.ownBlock]
  · intro e
    simp only [Value.ownBlock, Option.some.injEq] at e
    subst e
    exact hn _ _ hgc
theorem grown_set (w : World) (a : Addr) (v : Value) : w.grownBy (w.setCell a v) (some a.block) :=
  ⟨rfl, rfl, rfl, by simp [World.setCell], fun k _ hk => Below.heap_setCell _ _ _ _ (fun e => hk (by simp [e]))⟩
theorem Has.th {b vb : Nat} {l : List UInt8} {w : World} {x : ByteArray} {ts te rs re p q : Int} (h : Has b l w) (hlt : vb < b) (hv : ValueAt w vb x ts te rs re) :
    Has b l ((w.setCell ⟨vb, 1, none⟩ (.int .u16 p)).setCell ⟨vb, 2, none⟩ (.int .u16 q)) := by
  have h1 := h.other (grown_set w ⟨vb, 1, none⟩ (.int .u16 p)) (Nat.ne_of_lt hlt) (fun c fz e => by rw [show w.heap[vb]? = _ from hv] at e; cases e)
  refine h1.other (grown_set _ ⟨vb, 2, none⟩ _) (Nat.ne_of_lt hlt) (fun c fz e => ?_)
  unfold ValueAt at hv
  simp [World.setCell, Array.getElem?_modify, hv] at e
theorem Has.rv {b vb : Nat} {l : List UInt8} {w : World} {x : ByteArray} {ts te rs re p q : Int} (h : Has b l w) (hlt : vb < b) (hv : ValueAt w vb x ts te rs re) :
    Has b l ((w.setCell ⟨vb, 3, none⟩ (.int .u16 p)).setCell ⟨vb, 4, none⟩ (.int .u16 q)) := by
  have h1 := h.other (grown_set w ⟨vb, 3, none⟩ (.int .u16 p)) (Nat.ne_of_lt hlt) (fun c fz e => by rw [show w.heap[vb]? = _ from hv] at e; cases e)
  refine h1.other (grown_set _ ⟨vb, 4, none⟩ _) (Nat.ne_of_lt hlt) (fun c fz e => ?_)
  unfold ValueAt at hv
  simp [World.setCell, Array.getElem?_modify, hv] at e

set_option maxHeartbeats 4000000 in
set_option maxRecDepth 100000 in
theorem add_first (b vb : Nat) (k val x : ByteArray) (ts te rs re : Int) (w : World) (h : Has b [] w) (hv : ValueAt w vb x ts te rs re) (hlt : vb < b) (hsz : k.size + val.size ≤ 33554432) (m : Nat) (hm : ([] ++ k.data.toList ++ [58]).length = m) :
    Calls Tryd.prog 18 #[.pointer (some ⟨vb, 0, none⟩), .pointer (some ⟨b, 0, none⟩), .string k, .string val] w fun e w' => e = .returned (.tuple #[]) ∧ Has b ([] ++ k.data.toList ++ [58] ++ val.data.toList) w' ∧ Marked w' vb m val.size k x ts te rs re ∧ Kept2 b vb w w' := by
  have hlen := len_any b _ w h
  go_enter Tryd.func18, Tryd.ntmps18
  go_wp2_with fail
  refine hlen.mono ?_
  rintro e w1 ⟨rfl, rfl⟩
  have h2 := h
  have hK2 := Keeps.refl b w
  go_wp2_with fail
  refine (ws_any b _ k _ h2 (by simp) (by omega)).mono ?_
  rintro e w3 ⟨rfl, h3, hK3⟩
  go_wp2_with fail
  refine (wb_any b _ 58 _ rfl _ h3 (by simp; omega)).mono ?_
  rintro e w4 ⟨rfl, h4, hK4⟩
  have hlen4 := len_any b _ w4 h4
  rw [hm] at hlen4
  have hm2 : m ≤ 33554434 := by rw [← hm]; simp; omega
  have hK4 := (hK2.trans hK3).trans hK4
  have hb4 := h4.lt
  go_wp2_with fail
  refine hlen4.mono ?_
  rintro e w5 ⟨rfl, rfl⟩
  go_wp2_with fail
  refine hlen4.mono ?_
  rintro e w6 ⟨rfl, rfl⟩
  have h5 : Has b ([] ++ k.data.toList ++ [58]) (w4.alloc (Obj.cells #[Value.int IntKind.u16 (IntKind.u16.wrap (m : Int)), Value.int IntKind.u16 (IntKind.u16.wrap ((m : Int) + (val.size : Int)))] 29)) := Lib.BuilderAtF.alloc h4 _
  go_wp2_with fail
  refine (ws_any b _ val _ h5 (by rw [hm]; omega) (by omega)).mono ?_
  rintro e w7 ⟨rfl, h7, hK7⟩
  have hsp : w7.heap[w4.heap.size]? = some (.cells #[Value.int IntKind.u16 (IntKind.u16.wrap (m : Int)), Value.int IntKind.u16 (IntKind.u16.wrap ((m : Int) + (val.size : Int)))] 29 (0, 0)) :=
    hK7.others _ _ (heap_new w4 _) (fun e => by have := Option.some.inj e; omega) (fun c fz e => by cases e)
  have hAll := (hK4.alloc (Nat.le_of_lt hb4) _).trans hK7
  have hv7 := hAll.value hlt hv
  have s0 : w7.cell? ⟨w4.heap.size, 0, none⟩ = some (.int .u16 (IntKind.u16.wrap (m : Int))) := by rw [Lib.cell_of_heap hsp]; rfl
  have s1 : w7.cell? ⟨w4.heap.size, 1, none⟩ = some (.int .u16 (IntKind.u16.wrap ((m : Int) + (val.size : Int)))) := by rw [Lib.cell_of_heap hsp]; rfl
  have hk2 := hAll.two hlt
  clear hlen hlen4 h5 h4 hK7 hK4 hv
  have c1 : w7.cell? ⟨vb, 1, none⟩ = some (.int .u16 ts) := by rw [Lib.cell_of_heap hv7]; rfl
  have c2 : w7.cell? ⟨vb, 2, none⟩ = some (.int .u16 te) := by rw [Lib.cell_of_heap hv7]; rfl
  have c3 : w7.cell? ⟨vb, 3, none⟩ = some (.int .u16 rs) := by rw [Lib.cell_of_heap hv7]; rfl
  have c4 : w7.cell? ⟨vb, 4, none⟩ = some (.int .u16 re) := by rw [Lib.cell_of_heap hv7]; rfl
  have f1 : w7.frozen? ⟨vb, 1, none⟩ = false := Lib.frozen_of_heap hv7 1
  have f2 : w7.frozen? ⟨vb, 2, none⟩ = false := Lib.frozen_of_heap hv7 2
  have f3 : w7.frozen? ⟨vb, 3, none⟩ = false := Lib.frozen_of_heap hv7 3
  have f4 : w7.frozen? ⟨vb, 4, none⟩ = false := Lib.frozen_of_heap hv7 4
  by_cases e1 : (k.toList == [116, 104]) = true
  · have e2 : (k.toList == [114, 118]) = false := by
      rw [beq_iff_eq] at e1
      rw [e1]; rfl
    go_wp2
    go_end0
    exact ⟨rfl, h7.th hlt hv7, ⟨⟨_, _, _, _, hv7.th _ _, fun _ => ⟨rfl, rfl⟩, fun e => absurd (e1.symm.trans e) (by decide), fun e => absurd (e2.symm.trans e) (by decide), fun _ => ⟨rfl, rfl⟩⟩⟩, (hk2.set _ _).set _ _⟩
  · have e1' : (k.toList == [116, 104]) = false := by simpa using e1
    clear e1
    by_cases e2 : (k.toList == [114, 118]) = true
    · go_wp2
      go_end0
      exact ⟨rfl, h7.rv hlt hv7, ⟨⟨_, _, _, _, hv7.rv _ _, fun e => absurd (e1'.symm.trans e) (by decide), fun _ => ⟨rfl, rfl⟩, fun _ => ⟨rfl, rfl⟩, fun e => absurd (e2.symm.trans e) (by decide)⟩⟩, (hk2.set _ _).set _ _⟩
    · have e2' : (k.toList == [114, 118]) = false := by simpa using e2
      clear e2
      go_wp2
      go_end0
      exact ⟨rfl, h7, ⟨⟨_, _, _, _, hv7, fun e => absurd (e1'.symm.trans e) (by decide), fun _ => ⟨rfl, rfl⟩, fun e => absurd (e2'.symm.trans e) (by decide), fun _ => ⟨rfl, rfl⟩⟩⟩, hk2⟩
set_option maxHeartbeats 4000000 in
set_option maxRecDepth 100000 in
theorem add_more (b vb : Nat) (l : List UInt8) (k val x : ByteArray) (ts te rs re : Int) (w : World) (h : Has b l w) (hv : ValueAt w vb x ts te rs re) (hlt : vb < b) (hne : 0 < l.length) (hsz : l.length + k.size + val.size ≤ 33554432) (m : Nat) (hm : (l ++ [59] ++ k.data.toList ++ [58]).length = m) :
    Calls Tryd.prog 18 #[.pointer (some ⟨vb, 0, none⟩), .pointer (some ⟨b, 0, none⟩), .string k, .string val] w fun e w' => e = .returned (.tuple #[]) ∧ Has b (l ++ [59] ++ k.data.toList ++ [58] ++ val.data.toList) w' ∧ Marked w' vb m val.size k x ts te rs re ∧ Kept2 b vb w w' := by
  have hlen := len_any b _ w h
  have hpos : (0 : Int) < (l.length : Int) := by omega
  go_enter Tryd.func18, Tryd.ntmps18
  go_wp2_with fail
  refine hlen.mono ?_
  rintro e w1 ⟨rfl, rfl⟩
  go_wp2_with fail
  refine (wb_any b _ 59 _ rfl _ h (by omega)).mono ?_
  rintro e w2 ⟨rfl, h2, hK2⟩
  go_wp2_with fail
  refine (ws_any b _ k _ h2 (by simp; omega) (by omega)).mono ?_
  rintro e w3 ⟨rfl, h3, hK3⟩
  go_wp2_with fail
  refine (wb_any b _ 58 _ rfl _ h3 (by simp; omega)).mono ?_
  rintro e w4 ⟨rfl, h4, hK4⟩
  have hlen4 := len_any b _ w4 h4
  rw [hm] at hlen4
  have hm2 : m ≤ 33554434 := by rw [← hm]; simp; omega
  have hK4 := (hK2.trans hK3).trans hK4
  have hb4 := h4.lt
  go_wp2_with fail
  refine hlen4.mono ?_
  rintro e w5 ⟨rfl, rfl⟩
  go_wp2_with fail
  refine hlen4.mono ?_
  rintro e w6 ⟨rfl, rfl⟩
  have h5 : Has b (l ++ [59] ++ k.data.toList ++ [58]) (w4.alloc (Obj.cells #[Value.int IntKind.u16 (IntKind.u16.wrap (m : Int)), Value.int IntKind.u16 (IntKind.u16.wrap ((m : Int) + (val.size : Int)))] 29)) := Lib.BuilderAtF.alloc h4 _
  go_wp2_with fail
  refine (ws_any b _ val _ h5 (by rw [hm]; omega) (by omega)).mono ?_
  rintro e w7 ⟨rfl, h7, hK7⟩
  have hsp : w7.heap[w4.heap.size]? = some (.cells #[Value.int IntKind.u16 (IntKind.u16.wrap (m : Int)), Value.int IntKind.u16 (IntKind.u16.wrap ((m : Int) + (val.size : Int)))] 29 (0, 0)) :=
    hK7.others _ _ (heap_new w4 _) (fun e => by have := Option.some.inj e; omega) (fun c fz e => by cases e)
  have hAll := (hK4.alloc (Nat.le_of_lt hb4) _).trans hK7
  have hv7 := hAll.value hlt hv
  have s0 : w7.cell? ⟨w4.heap.size, 0, none⟩ = some (.int .u16 (IntKind.u16.wrap (m : Int))) := by rw [Lib.cell_of_heap hsp]; rfl
  have s1 : w7.cell? ⟨w4.heap.size, 1, none⟩ = some (.int .u16 (IntKind.u16.wrap ((m : Int) + (val.size : Int)))) := by rw [Lib.cell_of_heap hsp]; rfl
  have hk2 := hAll.two hlt
  clear hlen hlen4 h5 h4 hK7 hK4 hv
  have c1 : w7.cell? ⟨vb, 1, none⟩ = some (.int .u16 ts) := by rw [Lib.cell_of_heap hv7]; rfl
  have c2 : w7.cell? ⟨vb, 2, none⟩ = some (.int .u16 te) := by rw [Lib.cell_of_heap hv7]; rfl
  have c3 : w7.cell? ⟨vb, 3, none⟩ = some (.int .u16 rs) := by rw [Lib.cell_of_heap hv7]; rfl
  have c4 : w7.cell? ⟨vb, 4, none⟩ = some (.int .u16 re) := by rw [Lib.cell_of_heap hv7]; rfl
  have f1 : w7.frozen? ⟨vb, 1, none⟩ = false := Lib.frozen_of_heap hv7 1
  have f2 : w7.frozen? ⟨vb, 2, none⟩ = false := Lib.frozen_of_heap hv7 2
  have f3 : w7.frozen? ⟨vb, 3, none⟩ = false := Lib.frozen_of_heap hv7 3
  have f4 : w7.frozen? ⟨vb, 4, none⟩ = false := Lib.frozen_of_heap hv7 4
  by_cases e1 : (k.toList == [116, 104]) = true
  · have e2 : (k.toList == [114, 118]) = false := by
      rw [beq_iff_eq] at e1
      rw [e1]; rfl
    go_wp2
    go_end0
    exact ⟨rfl, h7.th hlt hv7, ⟨⟨_, _, _, _, hv7.th _ _, fun _ => ⟨rfl, rfl⟩, fun e => absurd (e1.symm.trans e) (by decide), fun e => absurd (e2.symm.trans e) (by decide), fun _ => ⟨rfl, rfl⟩⟩⟩, (hk2.set _ _).set _ _⟩
  · have e1' : (k.toList == [116, 104]) = false := by simpa using e1
    clear e1
    by_cases e2 : (k.toList == [114, 118]) = true
    · go_wp2
      go_end0
      exact ⟨rfl, h7.rv hlt hv7, ⟨⟨_, _, _, _, hv7.rv _ _, fun e => absurd (e1'.symm.trans e) (by decide), fun _ => ⟨rfl, rfl⟩, fun _ => ⟨rfl, rfl⟩, fun e => absurd (e2.symm.trans e) (by decide)⟩⟩, (hk2.set _ _).set _ _⟩
    · have e2' : (k.toList == [114, 118]) = false := by simpa using e2
      clear e2
      go_wp2
      go_end0
      exact ⟨rfl, h7, ⟨⟨_, _, _, _, hv7, fun e => absurd (e1'.symm.trans e) (by decide), fun _ => ⟨rfl, rfl⟩, fun e => absurd (e2'.symm.trans e) (by decide), fun _ => ⟨rfl, rfl⟩⟩⟩, hk2⟩
end Go.Proofs.Qxb6603964aDoor
