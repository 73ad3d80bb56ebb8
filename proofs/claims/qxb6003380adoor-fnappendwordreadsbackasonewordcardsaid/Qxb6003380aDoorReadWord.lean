/-
  zzl1ReadWord at a bare word made of good tokens, walked: it reads back what the tokens stand for.
-/
import Derived.Test.Qxb6003380aDoorBackslash
namespace Go.Proofs.Qxb6003380aDoor
open Go.RowKit Go.Proofs Plain

theorem ext_one {S : ByteArray} {W : List UInt8} {k : Nat} {d : UInt8} (hS : S.data.toList = W) (h : W[k + 1]? = some d) (g : 1 < (S.extract k S.size).size) : (S.extract k S.size)[1] = d := by
  subst hS
  have h1 := (List.getElem?_eq_some_iff.1 h).1
  rw [ByteArray.getElem_extract]
  have := (List.getElem?_eq_some_iff.1 h).2
  rw [Array.getElem_toList] at this
  exact this
theorem ext_size {S : ByteArray} {W : List UInt8} {k : Nat} (hS : S.data.toList = W) : (S.extract k S.size).size = W.length - k := by
  subst hS
  simp [ByteArray.size_extract]

set_option maxHeartbeats 4000000 in
set_option maxRecDepth 100000 in
theorem read_bare (v : Value) (T : List (List UInt8 × UInt8)) (first : Bool) (c0 : UInt8) (u0 : List UInt8) (w : World) (h : Sees w v (flat T)) (hT : ∀ t ∈ T, good t) (hW : flat T = c0 :: u0)
    (h1 : c0 ≠ 123) (h2 : c0 ≠ 34) (h3 : first = true → c0 ≠ 35) (hl : (flat T).length ≤ 4194304) :
    Calls Tryd.prog 10 #[v, .bool first] w fun e w' => ∃ v', e = .returned (.tuple #[v', .bool true]) ∧ w'.ownsRow w.heap.size 5 1 v' (vals T).length (Lib.byteCells (vals T)) ∧ w.grownBy w' none := by
  obtain ⟨i0, hi, hz0, hz1, hz2⟩ := info_parts infoByte
  have hcv := sees_string h
  obtain ⟨ao, cap, rfl, hc⟩ := h
  obtain ⟨W, hWe⟩ : ∃ W, W = flat T := ⟨_, rfl⟩
  rw [← hWe] at hc hl hW hcv ⊢
  obtain ⟨S, hS⟩ : ∃ S : ByteArray, S = ⟨W.toArray⟩ := ⟨_, rfl⟩
  rw [← hS] at hcv
  have hSl : S.data.toList = W := by rw [hS]
  have hSz1 : S.size ≤ W.length := by rw [← hSl]; simp
  have hSz2 : W.length ≤ S.size := by rw [← hSl]; simp
  have HS : Hid (S.data.toList = W) := hSl
  have HT : Hid (∀ t ∈ T, good t) := hT
  have HW : Hid (W = flat T) := hWe
  obtain ⟨V, hV⟩ : ∃ V, V = vals T := ⟨_, rfl⟩
  rw [← hV]
  have HV : Hid (V = vals T) := hV
  have hpos : 0 < W.length := by rw [hW]; simp
  obtain ⟨b, off, rfl, hcell0⟩ := cell_at hc hpos (by rw [hW]; rfl : W[0]? = some c0)
  have hcell00 : w.cell? ⟨b, off, none⟩ = some (.int .u8 (c0.toNat : Int)) := hcell0
  have HC : Hid (∀ j (h : j < W.length), w.cell? ⟨b, off + j, none⟩ = some (.int .u8 (W[j].toNat : Int))) := by
    intro j hj
    obtain ⟨b', off', e, hh⟩ := hc j hj
    simp only [Option.some.injEq, Addr.mk.injEq, and_true] at e
    obtain ⟨rfl, rfl⟩ := e
    exact hh
  have b1 : ¬ (c0.toNat : Int) = 123 := by simpa using n_ne (n := 123) (by decide) h1
  have b2 : ¬ (c0.toNat : Int) = 34 := by simpa using n_ne (n := 34) (by decide) h2
  have b3 : first = true → ¬ (c0.toNat : Int) = 35 := fun hf => by simpa using n_ne (n := 35) (by decide) (h3 hf)
  have hln : ((W.length : Int) == 0) = false := beq_eq_false_iff_ne.2 (by omega)
  have b4 : ((c0.toNat : Int) == 34) = false := by simpa using b2
  clear hc hS hSl hT hWe hV h1 h2 h3 hW
  cases first with
  | false =>
    clear b3
    go_enter Tryd.func10, Tryd.ntmps10
    go_wp2_with (at_make; refine wpList_make_own _ rfl _ _ 22 rfl w.heap.size 5 i0 (.int .u8 0) 1 Tryd.underlying22 hi hz0 hz1 .i64 .i64 _ W.length rfl rfl (by omega) (by rw [hz2]; omega) (by unfold maxLen; omega) (Nat.le_refl _) ?_)
    intro w1 hown1 hgrow1
    clear hcv hcell0 hcell00
    go_wp2
    go_loopw [10, 11] (fun u i wr => ∃ (k : Nat) (R : List (List UInt8 × UInt8)) (don : List UInt8), k ≤ W.length ∧ i = .int .i64 k ∧ W.drop k = flat R ∧ (∀ t ∈ R, good t) ∧ don ++ vals R = V ∧ don.length ≤ k ∧ wr.ownsRow w.heap.size 5 1 u don.length (Lib.byteCells don) ∧ w.grownBy wr none) (fun _ i _ => W.length - (intOf i).toNat)
    case atStart => exact ⟨0, T, [], Nat.zero_le _, rfl, HW.out, HT.out, HV.out.symm, Nat.zero_le _, hown1, hgrow1⟩
    case round =>
      obtain ⟨k, R, don, hk, rfl, hd, hR, hdon, hdl, hown, hg⟩ := hrel
      clear hown1 hgrow1
      have hsz := hg.size
      rcases R with _ | ⟨t, R⟩
      · have hlt : ¬ k < W.length := by
          intro g
          have : (W.drop k).length = 0 := by rw [hd]; rfl
          simp at this; omega
        have HE : Hid (don = V) := by
          show _ = _
          rw [← hdon]; simp [vals]
        clear hd hR hdon
        go_wp2
        go_ret2
        exact ⟨_, rfl, by rw [← HE.out]; exact hown, hg⟩
      · rw [flat_cons] at hd
        have hR' : Hid (∀ t ∈ R, good t) := fun t ht => hR t (List.mem_cons_of_mem _ ht)
        have hdon' : Hid ((don ++ [t.2]) ++ vals R = V) := by
          show _ = _
          rw [← hdon, vals_cons]; simp
        rcases hR t (List.mem_cons_self) with ⟨ht, hlo⟩ | ⟨d, ht, hbs⟩
        · rw [ht, List.cons_append, List.nil_append] at hd
          obtain ⟨g1, g2, g3⟩ := drop_head hd
          have hcell : wr.cell? ⟨b, off + k, none⟩ = some (.int .u8 (t.2.toNat : Int)) := by
            have := hg.cell (HC.out k g1) (by simp)
            rw [List.getElem?_eq_getElem g1] at g2
            rwa [Option.some.inj g2] at this
          have HD : Hid (W.drop (k + 1) = flat R) := g3
          have hsep := fun W' => sep_lone t.2 W' hlo
          have hlo' := hlo
          simp only [Plain.lone, Bool.not_eq_true', Bool.or_eq_false_iff, beq_eq_false_iff_ne] at hlo'
          obtain ⟨⟨⟨_, a8⟩, a9⟩, a10⟩ := hlo'
          have e1 : ((t.2.toNat : Int) == 36) = false := n_ne (n := 36) (by decide) a8
          have e2 : ((t.2.toNat : Int) == 91) = false := n_ne (n := 91) (by decide) a9
          have e3 : ((t.2.toNat : Int) == 92) = false := n_ne (n := 92) (by decide) a10
          have e4 : ((t.2.toNat : Int) != 92) = true := by simpa using e3
          have e5 : ¬ (t.2.toNat : Int) = 36 := by simpa using e1
          have e6 : ¬ (t.2.toNat : Int) = 91 := by simpa using e2
          obtain ⟨c, hct⟩ : ∃ c, c = t.2 := ⟨_, rfl⟩
          rw [← hct] at hcell hsep e1 e2 e3 e4 e5 e6 hdon'
          clear hd hR hdon ht hlo a8 a9 a10 g2 g3 hct
          go_wp2_with (first
            | (go_at_call 22; refine (hsep _).mono ?_; rintro e w2 ⟨rfl, rfl⟩)
            | (at_builtin; refine wpList_append_own_at _ rfl _ _ 22 rfl w.heap.size 5 i0 (.int .u8 0) 1 1 Tryd.underlying22 hi hz0 hz1 hz2 rfl (by decide) _ _ _ rfl (hown.alloc _) ⟨_, 0, none⟩ 1 1 [.int .u8 (c.toNat : Int)] rfl rfl (new1 _ _ _) (one8 _) (by unfold maxLen; omega) (by omega) (by simp; omega) ?_))
          intro v' w3 hown' hgrow _ _
          have hg3 : w.grownBy w3 none := grown_then (grown_then hg (World.grownBy_alloc _ _ none) (by simp)) hgrow (fun j hj => Or.inl (hown.lt j hj).1)
          clear hgrow
          go_wp2
          go_roundw
          case rel => exact ⟨k + 1, R, don ++ [c], by omega, by go_num, HD.out, hR'.out, hdon'.out, by simp; omega, own_app (m := [c]) rfl rfl hown', hg3⟩
          case measure => simp [intOf]; omega
        · rw [ht, List.cons_append, List.cons_append, List.nil_append] at hd
          obtain ⟨g1, g2, g3⟩ := drop_head hd
          obtain ⟨g4, g5, g6⟩ := drop_head g3
          have hcell : wr.cell? ⟨b, off + k, none⟩ = some (.int .u8 92) := by
            have := hg.cell (HC.out k g1) (by simp)
            rw [List.getElem?_eq_getElem g1] at g2
            rwa [Option.some.inj g2] at this
          have hcell2 : wr.cell? ⟨b, off + (k + 1), none⟩ = some (.int .u8 (d.toNat : Int)) := by
            have := hg.cell (HC.out (k + 1) g4) (by simp)
            rw [List.getElem?_eq_getElem g4] at g5
            rwa [Option.some.inj g5] at this
          have hsize := ext_size (k := k) HS.out
          have hone : 1 < (S.extract k S.size).size := by rw [hsize]; omega
          have hext := ext_one HS.out g5 hone
          have hback := fun W' => zzback_any (S.extract k S.size) t.2 W' hone (by rw [hsize]; omega) (by rw [hext]; exact hbs)
          obtain ⟨hnl, hc128⟩ := bs_nl hbs
          have e1 : ((d.toNat : Int) == 10) = false := n_ne (n := 10) (by decide) hnl
          have hc0 : (0 : Int) ≤ (t.2.toNat : Int) := Int.natCast_nonneg _
          have HD : Hid (W.drop (k + 2) = flat R) := g6
          have hend : ((k : Int) + 1 == (W.length : Int)) = false := beq_eq_false_iff_ne.2 (by omega)
          obtain ⟨c, hct⟩ : ∃ c, c = t.2 := ⟨_, rfl⟩
          rw [← hct] at hback hc128 hc0 hdon'
          have hsep := sep_bs
          clear hd hR hdon ht hbs hnl g2 g3 g5 g6 hct hext hsize hone
          go_wp2_with (first
            | (go_at_call 22; refine (hsep _).mono ?_; rintro e w2 ⟨rfl, rfl⟩)
            | (go_at_call 17; refine (hback _).mono ?_; rintro e w2 ⟨rfl, rfl⟩)
            | (at_builtin; refine wpList_append_own_at _ rfl _ _ 22 rfl w.heap.size 5 i0 (.int .u8 0) 1 1 Tryd.underlying22 hi hz0 hz1 hz2 rfl (by decide) _ _ _ rfl (hown.alloc _) ⟨_, 0, none⟩ 1 1 [.int .u8 (c.toNat : Int)] rfl rfl (new1 _ _ _) (one8 _) (by unfold maxLen; omega) (by omega) (by simp; omega) ?_))
          intro v' w3 hown' hgrow _ _
          have hg3 : w.grownBy w3 none := grown_then (grown_then hg (World.grownBy_alloc _ _ none) (by simp)) hgrow (fun j hj => Or.inl (hown.lt j hj).1)
          clear hgrow
          go_wp2
          go_roundw
          case rel => exact ⟨k + 2, R, don ++ [c], by omega, by go_num, HD.out, hR'.out, hdon'.out, by simp; omega, own_app (m := [c]) rfl rfl hown', hg3⟩
          case measure => simp [intOf]; omega
  | true =>
    have b3' := b3 rfl
    have b5 : ((c0.toNat : Int) == 35) = false := by simpa using b3'
    clear b3
    go_enter Tryd.func10, Tryd.ntmps10
    go_wp2_with (at_make; refine wpList_make_own _ rfl _ _ 22 rfl w.heap.size 5 i0 (.int .u8 0) 1 Tryd.underlying22 hi hz0 hz1 .i64 .i64 _ W.length rfl rfl (by omega) (by rw [hz2]; omega) (by unfold maxLen; omega) (Nat.le_refl _) ?_)
    intro w1 hown1 hgrow1
    clear hcv hcell0 hcell00
    go_wp2
    go_loopw [10, 11] (fun u i wr => ∃ (k : Nat) (R : List (List UInt8 × UInt8)) (don : List UInt8), k ≤ W.length ∧ i = .int .i64 k ∧ W.drop k = flat R ∧ (∀ t ∈ R, good t) ∧ don ++ vals R = V ∧ don.length ≤ k ∧ wr.ownsRow w.heap.size 5 1 u don.length (Lib.byteCells don) ∧ w.grownBy wr none) (fun _ i _ => W.length - (intOf i).toNat)
    case atStart => exact ⟨0, T, [], Nat.zero_le _, rfl, HW.out, HT.out, HV.out.symm, Nat.zero_le _, hown1, hgrow1⟩
    case round =>
      obtain ⟨k, R, don, hk, rfl, hd, hR, hdon, hdl, hown, hg⟩ := hrel
      clear hown1 hgrow1
      have hsz := hg.size
      rcases R with _ | ⟨t, R⟩
      · have hlt : ¬ k < W.length := by
          intro g
          have : (W.drop k).length = 0 := by rw [hd]; rfl
          simp at this; omega
        have HE : Hid (don = V) := by
          show _ = _
          rw [← hdon]; simp [vals]
        clear hd hR hdon
        go_wp2
        go_ret2
        exact ⟨_, rfl, by rw [← HE.out]; exact hown, hg⟩
      · rw [flat_cons] at hd
        have hR' : Hid (∀ t ∈ R, good t) := fun t ht => hR t (List.mem_cons_of_mem _ ht)
        have hdon' : Hid ((don ++ [t.2]) ++ vals R = V) := by
          show _ = _
          rw [← hdon, vals_cons]; simp
        rcases hR t (List.mem_cons_self) with ⟨ht, hlo⟩ | ⟨d, ht, hbs⟩
        · rw [ht, List.cons_append, List.nil_append] at hd
          obtain ⟨g1, g2, g3⟩ := drop_head hd
          have hcell : wr.cell? ⟨b, off + k, none⟩ = some (.int .u8 (t.2.toNat : Int)) := by
            have := hg.cell (HC.out k g1) (by simp)
            rw [List.getElem?_eq_getElem g1] at g2
            rwa [Option.some.inj g2] at this
          have HD : Hid (W.drop (k + 1) = flat R) := g3
          have hsep := fun W' => sep_lone t.2 W' hlo
          have hlo' := hlo
          simp only [Plain.lone, Bool.not_eq_true', Bool.or_eq_false_iff, beq_eq_false_iff_ne] at hlo'
          obtain ⟨⟨⟨_, a8⟩, a9⟩, a10⟩ := hlo'
          have e1 : ((t.2.toNat : Int) == 36) = false := n_ne (n := 36) (by decide) a8
          have e2 : ((t.2.toNat : Int) == 91) = false := n_ne (n := 91) (by decide) a9
          have e3 : ((t.2.toNat : Int) == 92) = false := n_ne (n := 92) (by decide) a10
          have e4 : ((t.2.toNat : Int) != 92) = true := by simpa using e3
          have e5 : ¬ (t.2.toNat : Int) = 36 := by simpa using e1
          have e6 : ¬ (t.2.toNat : Int) = 91 := by simpa using e2
          obtain ⟨c, hct⟩ : ∃ c, c = t.2 := ⟨_, rfl⟩
          rw [← hct] at hcell hsep e1 e2 e3 e4 e5 e6 hdon'
          clear hd hR hdon ht hlo a8 a9 a10 g2 g3 hct
          go_wp2_with (first
            | (go_at_call 22; refine (hsep _).mono ?_; rintro e w2 ⟨rfl, rfl⟩)
            | (at_builtin; refine wpList_append_own_at _ rfl _ _ 22 rfl w.heap.size 5 i0 (.int .u8 0) 1 1 Tryd.underlying22 hi hz0 hz1 hz2 rfl (by decide) _ _ _ rfl (hown.alloc _) ⟨_, 0, none⟩ 1 1 [.int .u8 (c.toNat : Int)] rfl rfl (new1 _ _ _) (one8 _) (by unfold maxLen; omega) (by omega) (by simp; omega) ?_))
          intro v' w3 hown' hgrow _ _
          have hg3 : w.grownBy w3 none := grown_then (grown_then hg (World.grownBy_alloc _ _ none) (by simp)) hgrow (fun j hj => Or.inl (hown.lt j hj).1)
          clear hgrow
          go_wp2
          go_roundw
          case rel => exact ⟨k + 1, R, don ++ [c], by omega, by go_num, HD.out, hR'.out, hdon'.out, by simp; omega, own_app (m := [c]) rfl rfl hown', hg3⟩
          case measure => simp [intOf]; omega
        · rw [ht, List.cons_append, List.cons_append, List.nil_append] at hd
          obtain ⟨g1, g2, g3⟩ := drop_head hd
          obtain ⟨g4, g5, g6⟩ := drop_head g3
          have hcell : wr.cell? ⟨b, off + k, none⟩ = some (.int .u8 92) := by
            have := hg.cell (HC.out k g1) (by simp)
            rw [List.getElem?_eq_getElem g1] at g2
            rwa [Option.some.inj g2] at this
          have hcell2 : wr.cell? ⟨b, off + (k + 1), none⟩ = some (.int .u8 (d.toNat : Int)) := by
            have := hg.cell (HC.out (k + 1) g4) (by simp)
            rw [List.getElem?_eq_getElem g4] at g5
            rwa [Option.some.inj g5] at this
          have hsize := ext_size (k := k) HS.out
          have hone : 1 < (S.extract k S.size).size := by rw [hsize]; omega
          have hext := ext_one HS.out g5 hone
          have hback := fun W' => zzback_any (S.extract k S.size) t.2 W' hone (by rw [hsize]; omega) (by rw [hext]; exact hbs)
          obtain ⟨hnl, hc128⟩ := bs_nl hbs
          have e1 : ((d.toNat : Int) == 10) = false := n_ne (n := 10) (by decide) hnl
          have hc0 : (0 : Int) ≤ (t.2.toNat : Int) := Int.natCast_nonneg _
          have HD : Hid (W.drop (k + 2) = flat R) := g6
          have hend : ((k : Int) + 1 == (W.length : Int)) = false := beq_eq_false_iff_ne.2 (by omega)
          obtain ⟨c, hct⟩ : ∃ c, c = t.2 := ⟨_, rfl⟩
          rw [← hct] at hback hc128 hc0 hdon'
          have hsep := sep_bs
          clear hd hR hdon ht hbs hnl g2 g3 g5 g6 hct hext hsize hone
          go_wp2_with (first
            | (go_at_call 22; refine (hsep _).mono ?_; rintro e w2 ⟨rfl, rfl⟩)
            | (go_at_call 17; refine (hback _).mono ?_; rintro e w2 ⟨rfl, rfl⟩)
            | (at_builtin; refine wpList_append_own_at _ rfl _ _ 22 rfl w.heap.size 5 i0 (.int .u8 0) 1 1 Tryd.underlying22 hi hz0 hz1 hz2 rfl (by decide) _ _ _ rfl (hown.alloc _) ⟨_, 0, none⟩ 1 1 [.int .u8 (c.toNat : Int)] rfl rfl (new1 _ _ _) (one8 _) (by unfold maxLen; omega) (by omega) (by simp; omega) ?_))
          intro v' w3 hown' hgrow _ _
          have hg3 : w.grownBy w3 none := grown_then (grown_then hg (World.grownBy_alloc _ _ none) (by simp)) hgrow (fun j hj => Or.inl (hown.lt j hj).1)
          clear hgrow
          go_wp2
          go_roundw
          case rel => exact ⟨k + 2, R, don ++ [c], by omega, by go_num, HD.out, hR'.out, hdon'.out, by simp; omega, own_app (m := [c]) rfl rfl hown', hg3⟩
          case measure => simp [intOf]; omega
end Go.Proofs.Qxb6003380aDoor
