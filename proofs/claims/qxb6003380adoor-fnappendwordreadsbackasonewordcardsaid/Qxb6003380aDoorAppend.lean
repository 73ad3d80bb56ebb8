/-
  append of a string's bytes onto a row that the call owns, WITH THE PLACE of what comes back; and appendEscaped at this seat's dump, walked.
-/
import Derived.Test.Qxb6003380aDoorReaders
import Derived.Maps.AppendAt
namespace Go.Proofs.Qxb6003380aDoor
open Go.RowKit Go.Proofs Plain

theorem run_append_string_at {P : Program} (w : World) (base : Nat) (t u ty e : TypeId) (i : TypeInfo) (ht : P.underlying t = some (.slice e)) (hu : P.underlying u = some .string) (hi : P.info? e = some i) (hz : i.zero = some (.int .u8 0))
    (hsize : i.size = 1) (hby : i.bytes = 1) (v : Value) (n : Nat) (xs : List Value) (hown : w.ownsRow base e 1 v n xs) (s : ByteArray)
    (h63 : n + s.size ≤ maxLen) (hbytes : n + s.size ≤ 140737488355328) (hbase : base ≤ w.heap.size) :
    ∃ v' w', (Builtin.append_ #[t, u] ty #[v, .string s]).run P w = .ok v' w' ∧ w'.ownsRow base e 1 v' (n + s.size) (xs ++ Lib.strCells s) ∧ w.grownBy w' v.ownBlock ∧
      ∀ j, v'.ownBlock = some j → v.ownBlock = some j ∨ w.heap.size ≤ j := by
  obtain ⟨v', w', hr, h2, h3, _⟩ := Lib.run_append_own_string (P := P) w base t u ty e i ht hu hi hz hsize hby v n xs hown s h63 hbytes hbase
  refine ⟨v', w', hr, h2, h3, ?_⟩
  rcases hown.2 with ⟨rfl, rfl⟩ | ⟨g, cap, cur, rfl, hbg, hg, hnc, hcm, hcs, htake⟩
  · obtain ⟨v2, w2, hr2, h22, _, _⟩ := Lib.run_append_own_string (P := P) w w.heap.size t u ty e i ht hu hi hz hsize hby (.slice none 0 0) 0 [] (World.ownsRow_nil _ _ _ _) s h63 hbytes (Nat.le_refl _)
    have e2 := hr.symm.trans hr2
    simp only [Result.ok.injEq] at e2
    intro j hj
    rw [e2.1] at hj
    exact Or.inr (h22.lt j hj).1
  · have hxl : xs.length = n := by simpa using hown.1
    have hcs' : cur.size = cap := by simpa using hcs
    by_cases hroom : n + s.size ≤ cap
    · have hr2 := Lib.run_append_room_string (P := P) w t u ty e i ht hu hi hsize g n cap cur hg s hroom (by omega)
      have e2 := hr.symm.trans hr2
      simp only [Result.ok.injEq] at e2
      intro j hj
      rw [e2.1] at hj
      exact Or.inl hj
    · have holds : ∀ j u, xs[j]? = some u → w.cell? ((⟨g, 0, none⟩ : Addr).add j) = some u := hown.cells (g := g) rfl
      have h63' : n + s.size ≤ 9223372036854775807 := by simp only [maxLen] at h63; omega
      have hr2 := Lib.run_append_grow_string (P := P) w t u ty e i (.int .u8 0) ht hu hi hz ⟨g, 0, none⟩ n cap xs (by rw [hsize]; simpa using hxl) holds s (by omega) (by omega) (by rw [hby]; exact growslice_fits (by omega) (by omega))
      have e2 := hr.symm.trans hr2
      simp only [Result.ok.injEq] at e2
      intro j hj
      rw [e2.1] at hj
      simp only [Value.ownBlock, Option.some.injEq] at hj
      exact Or.inr (by omega)

/-- The operation, for the walk. -/
theorem wpList_append_string_at {P : Program} (w : World) {ops : Array Oper} {rest : List Oper} {o : Oper} {a : Act} {Q : Exit → Act → World → Prop} (hgd : o.guard = none) (sl x : Operand) (t u : TypeId)
    (ho : o.op = .call { callee := .builtin .append, args := #[sl, x], argTypes := #[t, u] })
    (base : Nat) (e : TypeId) (i : TypeInfo) (ht : P.underlying t = some (.slice e)) (hu : P.underlying u = some .string) (hi : P.info? e = some i) (hz : i.zero = some (.int .u8 0))
    (hsize : i.size = 1) (hby : i.bytes = 1)
    (v : Value) (n : Nat) (xs : List Value) (hs : a.eval sl = v) (hown : w.ownsRow base e 1 v n xs) (s : ByteArray) (hx : a.eval x = .string s)
    (h63 : n + s.size ≤ maxLen) (hbytes : n + s.size ≤ 140737488355328) (hbase : base ≤ w.heap.size)
    (h : ∀ v' w', w'.ownsRow base e 1 v' (n + s.size) (xs ++ Lib.strCells s) → w.grownBy w' v.ownBlock → (∀ j, v'.ownBlock = some j → v.ownBlock = some j ∨ w.heap.size ≤ j) → wpList P ops Q rest (a.put o.dst v') w') : wpList P ops Q (o :: rest) a w := by
  refine wpList_plain hgd fun K hK => ?_
  obtain ⟨v', w', hr, h2, h3, h4⟩ := run_append_string_at (P := P) w base t u o.type e i ht hu hi hz hsize hby v n xs hown s h63 hbytes hbase
  unfold Oper.wp execOp
  simp only [ho, resolve, invoke, builtin, Sem.run_bind, Sem.run_pure, Result.andThen_ok, List.map_toArray, List.map_cons, List.map_nil, hs, hx, hr]
  exact hK _ _ (h v' w' h2 h3 h4)

/-- What a chain of appends leaves: v' owns l, came of v's own row or of a new one; nothing else that was there has turned. -/
structure Grew (B : Nat) (w : World) (v : Value) (w' : World) (v' : Value) (l : List UInt8) : Prop where
  own : w'.ownsRow B 5 1 v' l.length (Lib.byteCells l)
  grown : w.grownBy w' v.ownBlock
  place : ∀ j, v'.ownBlock = some j → v.ownBlock = some j ∨ w.heap.size ≤ j

theorem Grew.refl {B : Nat} {w : World} {v : Value} {l : List UInt8} (h : w.ownsRow B 5 1 v l.length (Lib.byteCells l)) : Grew B w v w v l := ⟨h, World.grownBy.refl _ _, fun _ h => Or.inl h⟩
theorem Grew.base {B : Nat} {w w' : World} {v v' : Value} {l : List UInt8} (h : Grew B w v w' v' l) (hB : B ≤ w.heap.size) : B ≤ w'.heap.size := Nat.le_trans hB h.grown.size

/-- Behind an append whose operand was laid in one new block. -/
theorem Grew.app {B n : Nat} {w w1 w2 : World} {v v1 v2 : Value} {l m : List UInt8} {cs : List Value} {o : Obj} (h : Grew B w v w1 v1 l) (hm : cs = Lib.byteCells m) (hn : n = l.length + m.length)
    (hown : w2.ownsRow B 5 1 v2 n (Lib.byteCells l ++ cs)) (hg : (w1.alloc o).grownBy w2 v1.ownBlock) (hat : v2.ownBlock = v1.ownBlock ∨ v2.ownBlock = some (w1.heap.size + 1)) : Grew B w v w2 v2 (l ++ m) := by
  have hs := h.grown.size
  refine ⟨own_app hm hn hown, grown_then (grown_then h.grown (World.grownBy_alloc w1 o none) (by simp)) hg (fun j hj => (h.place j hj).symm), fun j hj => ?_⟩
  rcases hat with e | e
  · exact h.place j (e ▸ hj)
  · rw [e] at hj
    simp only [Option.some.injEq] at hj
    omega
/-- Behind an append of a string. -/
theorem Grew.str {B n : Nat} {w w1 w2 : World} {v v1 v2 : Value} {l m : List UInt8} {cs : List Value} (h : Grew B w v w1 v1 l) (hm : cs = Lib.byteCells m) (hn : n = l.length + m.length)
    (hown : w2.ownsRow B 5 1 v2 n (Lib.byteCells l ++ cs)) (hg : w1.grownBy w2 v1.ownBlock) (hat : ∀ j, v2.ownBlock = some j → v1.ownBlock = some j ∨ w1.heap.size ≤ j) : Grew B w v w2 v2 (l ++ m) := by
  have hs := h.grown.size
  refine ⟨own_app hm hn hown, grown_then h.grown hg (fun j hj => (h.place j hj).symm), fun j hj => ?_⟩
  rcases hat j hj with e | e
  · exact h.place j e
  · exact Or.inr (by omega)
end Go.Proofs.Qxb6003380aDoor
