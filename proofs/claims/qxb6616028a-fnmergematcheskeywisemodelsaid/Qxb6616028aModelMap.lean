/- zzMergeModel of two mappings, walked. -/
import Derived.Test.Qxb6616028aModelWalk
namespace Go.Proofs.Qxb6616028a
open Go.RowKit
attribute [local go_sem ↓] Go.wp_at_zero Go.wp_at_succ

theorem drop_zip {α : Type} {ks : List ByteArray} {kd : List α} {i : Nat} {s : ByteArray} {x : α} (h1 : ks[i]? = some s) (h2 : kd[i]? = some x) : (ks.zip kd).drop i = (s, x) :: (ks.zip kd).drop (i + 1) := by
  have h : (ks.zip kd)[i]? = some (s, x) := by rw [List.getElem?_zip_eq_some]; exact ⟨h1, h2⟩
  have hl := (List.getElem?_eq_some_iff.1 h).1
  rw [List.drop_eq_getElem_cons hl]
  congr 1
  exact (List.getElem?_eq_some_iff.1 h).2
theorem sorted_drop {α : Type} {l : List (ByteArray × α)} (h : SortedK (l.map (·.1))) (i : Nat) : SortedK ((l.drop i).map (·.1)) := by
  rw [List.map_drop]
  exact h.drop
/-- behind the first key all are greater -/
theorem less_all {α : Type} {k : ByteArray} {y : ByteArray × α} {l : List (ByteArray × α)} (hs : SortedK ((y :: l).map (·.1))) (h : sLt k y.1 = true) : ∀ z ∈ y :: l, sLt k z.1 = true := by
  obtain ⟨h1, _⟩ := List.pairwise_cons.1 hs
  intro z hz
  rcases List.mem_cons.1 hz with rfl | hz
  · exact h
  · exact sLt_trans h (h1 z.1 (List.mem_map.2 ⟨z, hz, rfl⟩))

set_option maxRecDepth 100000 in
set_option maxHeartbeats 4000000 in
theorem model_map (N : Nat) (hN : N ≤ 16777216) (n : Nat) (ih : ModelSaid N n) (p : Nat → Prop) (tb to : Tr (n + 1)) (vb vo : Value) (w : World) (hb : TreeAt p w (n + 1) vb tb) (ho : TreeAt p w (n + 1) vo to)
    (hnb : NormT (n + 1) tb) (hno : NormT (n + 1) to) (hsb : Small N (n + 1) tb) (hso : Small N (n + 1) to) (hk1 : Node.kind tb = 4) (hk2 : Node.kind to = 4) :
    Calls Try.prog 12 #[vb, vo] w (Ret5 fun r w' => TreeAt (fun b => p b ∨ w.heap.size ≤ b) w' (n + 1) r
      (⟨4, false, ByteArray.empty, (jn (mergeT n) ((Node.keys tb).zip (Node.kids tb)) ((Node.keys to).zip (Node.kids to))).map (·.1), (jn (mergeT n) ((Node.keys tb).zip (Node.kids tb)) ((Node.keys to).zip (Node.kids to))).map (·.2)⟩ : Node (Tr n)) ∧ Below w.heap.size w w') := by
  have IH := hide ih
  clear ih
  obtain ⟨ks, kd, rfl, ⟨kb, ko, ⟨ka, kc, rfl, hkc, hkm, hka, _⟩, hks⟩, ⟨db, dof, ⟨da, dc, rfl, hdc, hdm, hda, _⟩, hkd⟩⟩ := hb
  obtain ⟨ks', kd', rfl, ⟨kb', ko', ⟨ka', kc', rfl, hkc', hkm', hka', _⟩, hks'⟩, ⟨db', dof', ⟨da', dc', rfl, hdc', hdm', hda', _⟩, hkd'⟩⟩ := ho
  have hlb := (hnb.1 hk1).2
  have hlo := (hno.1 hk2).2
  have HSb := hide (And.intro (hnb.1 hk1).1 (And.intro hlb (And.intro hnb.2 hsb.2.2)))
  have HSo := hide (And.intro (hno.1 hk2).1 (And.intro hlo (And.intro hno.2 hso.2.2)))
  have hb1 : (Node.keys tb).length ≤ N := hsb.1
  have hb2 : (Node.keys to).length ≤ N := hso.1
  rw [hk1, hk2]
  rw [hlb] at hdc hda ⊢
  rw [hlo] at hdc' hda' ⊢
  clear hnb hno hsb hso hk1 hk2 hlb hlo
  generalize hB : (Node.keys tb).zip (Node.kids tb) = B at *
  generalize hO : (Node.keys to).zip (Node.kids to) = O at *
  generalize hn1 : (Node.keys tb).length = n1 at *
  generalize hn2 : (Node.keys to).length = n2 at *
  have HZ := hide (And.intro hB (And.intro hO (And.intro hn1 hn2)))
  have HBS : Hid (SortedK (B.map (·.1)) ∧ SortedK (O.map (·.1)) ∧ B.length = n1 ∧ O.length = n2) := by
    refine hide ⟨?_, ?_, ?_, ?_⟩
    · rw [← hB, List.map_fst_zip (by rw [HSb.out.2.1, hn1]; exact Nat.le_refl _)]; exact HSb.out.1
    · rw [← hO, List.map_fst_zip (by rw [HSo.out.2.1, hn2]; exact Nat.le_refl _)]; exact HSo.out.1
    · rw [← hB, List.length_zip, HSb.out.2.1, hn1, Nat.min_self]
    · rw [← hO, List.length_zip, HSo.out.2.1, hn2, Nat.min_self]
  have HK := hide hks
  have HD := hide hkd
  have HK' := hide hks'
  have HD' := hide hkd'
  have Hka := hide hka
  have Hda := hide hda
  have Hka' := hide hka'
  have Hda' := hide hda'
  generalize Node.flag tb = f1 at *
  generalize Node.text tb = s1 at *
  generalize Node.flag to = f2 at *
  generalize Node.text to = s2 at *
  clear hks hkd hks' hkd' hka hda hka' hda' hB hO hn1 hn2
  obtain ⟨i9, hi9, hi9z, hi9s, hi9b⟩ := info_parts info9
  obtain ⟨i26, hi26, hi26z, hi26s, hi26b⟩ := info_parts info26
  unfold maxLen at hkm hdm hkm' hdm'
  go_enter Try.func12, Try.ntmps12
  go_wp2_with fail
  obtain ⟨W0, hW0⟩ : ∃ W0, W0 = ((w.alloc (.cells #[.int .i8 4, .bool f1, .string s1, .slice ka n1 kc, .slice da n1 dc] 26)).alloc (.cells #[.int .i8 4, .bool f2, .string s2, .slice ka' n2 kc', .slice da' n2 dc'] 26)).alloc (.cells #[.int .i8 0, .bool false, .string { data := #[] }, .slice none 0 0, .slice none 0 0] 26) := ⟨_, rfl⟩
  have HG : Hid (W0.cell? ⟨w.heap.size, 3, none⟩ = some (.slice ka n1 kc) ∧ W0.cell? ⟨w.heap.size, 4, none⟩ = some (.slice da n1 dc) ∧ W0.cell? ⟨w.heap.size + 1, 3, none⟩ = some (.slice ka' n2 kc') ∧ W0.cell? ⟨w.heap.size + 1, 4, none⟩ = some (.slice da' n2 dc')) := by
    refine hide ?_
    rw [hW0]
    refine ⟨cell_later (((Below.refl _ _).alloc (Nat.le_refl _) _).alloc (by simp) _) (by simp), cell_later (((Below.refl _ _).alloc (Nat.le_refl _) _).alloc (by simp) _) (by simp), cell_later ((Below.refl _ _).alloc (Nat.le_refl _) _) ?_, cell_later ((Below.refl _ _).alloc (Nat.le_refl _) _) ?_⟩
    · exact (alloc5_range _ _ _ _ _ _ _ (by simp)) 3 _ rfl
    · exact (alloc5_range _ _ _ _ _ _ _ (by simp)) 4 _ rfl
  have HW0 := hide hW0
  clear hW0
  go_loopw [5, 6, 7, 8] (fun a c i j wr => ∃ (x y gk ck gd cd : Nat) (M : List (ByteArray × Tr n)) (vs : List V5), x ≤ n1 ∧ y ≤ n2 ∧ M.length ≤ x + y ∧ a = .slice (some ⟨gk, 0, none⟩) M.length ck ∧ c = .slice (some ⟨gd, 0, none⟩) M.length cd ∧ i = .int .i64 x ∧ j = .int .i64 y ∧
      PInv (fun b => (p b ∨ w.heap.size ≤ b) ∧ b ≠ w.heap.size + 2) (w.heap.size + 3) wr n gk ck gd cd M M vs ∧ Hid (M ++ jn (mergeT n) (B.drop x) (O.drop y) = jn (mergeT n) B O) ∧ Below (w.heap.size + 3) W0 wr) (fun _ _ i j _ => (n1 - (intOf i).toNat) + (n2 - (intOf j).toNat))
  case atStart =>
    refine ⟨0, 0, w.heap.size + 3, 0, w.heap.size + 4, 0, [], [], Nat.zero_le _, Nat.zero_le _, Nat.le_refl _, rfl, rfl, rfl, rfl, ⟨own_alloc (own_empty _ _ _ _ (by simp) (by omega)) _, own_empty _ _ _ _ (by simp) (by omega), by omega, fun i a v h => by simp at h⟩, hide (by simp), ?_⟩
    rw [HW0.out]
    exact ((Below.refl _ _).alloc (by simp) _).alloc (by simp) _
  case round =>
    obtain ⟨x, y, gk, ck, gd, cd, M, vs, hx, hy, hM, rfl, rfl, rfl, rfl, hI, HE, hBr⟩ := hrel
    have hszr : w.heap.size + 3 ≤ wr.heap.size := by have := hBr.size; rw [HW0.out] at this; simp at this; omega
    have hb0 : Below w.heap.size w wr := by
      have := hBr.mono (Nat.le_add_right w.heap.size 3)
      rw [HW0.out] at this
      exact ((((Below.refl _ _).alloc (Nat.le_refl _) _).alloc (by simp) _).alloc (by simp; omega) _).trans this
    have hK0 := own_caps hI.ownK
    have hD0 := own_caps hI.ownD
    obtain ⟨hgk1, hgk2⟩ : w.heap.size + 3 ≤ gk ∧ gk < wr.heap.size := hK0.2.2
    obtain ⟨hgd1, hgd2⟩ : w.heap.size + 3 ≤ gd ∧ gd < wr.heap.size := hD0.2.2
    have g3 : wr.cell? ⟨w.heap.size, 3, none⟩ = some (.slice ka n1 kc) := by rw [hBr.cell (by simp)]; exact HG.out.1
    have g4 : wr.cell? ⟨w.heap.size, 4, none⟩ = some (.slice da n1 dc) := by rw [hBr.cell (by simp)]; exact HG.out.2.1
    have g3' : wr.cell? ⟨w.heap.size + 1, 3, none⟩ = some (.slice ka' n2 kc') := by rw [hBr.cell (by simp)]; exact HG.out.2.2.1
    have g4' : wr.cell? ⟨w.heap.size + 1, 4, none⟩ = some (.slice da' n2 dc') := by rw [hBr.cell (by simp)]; exact HG.out.2.2.2
    have HI := hide hI
    have HBr := hide hBr
    have HB0 := hide hb0
    clear hI hBr hK0 hD0 hb0
    have hcase : (x < n1 ∧ (y = n2 ∨ ∃ s s', y < n2 ∧ (Node.keys tb)[x]? = some s ∧ (Node.keys to)[y]? = some s' ∧ Op.bytesLess s.toList s'.toList = true)) ∨
        (y < n2 ∧ (x = n1 ∨ ∃ s s', x < n1 ∧ (Node.keys tb)[x]? = some s ∧ (Node.keys to)[y]? = some s' ∧ Op.bytesLess s.toList s'.toList = false ∧ Op.bytesLess s'.toList s.toList = true)) ∨
        (x < n1 ∧ y < n2 ∧ ∃ s, (Node.keys tb)[x]? = some s ∧ (Node.keys to)[y]? = some s) ∨ (x = n1 ∧ y = n2) := by
      by_cases hx1 : x < n1
      · by_cases hy1 : y < n2
        · obtain ⟨s, hs⟩ : ∃ s, (Node.keys tb)[x]? = some s := ⟨(Node.keys tb)[x]'(by rw [HZ.out.2.2.1]; exact hx1), by simp⟩
          obtain ⟨s', hs'⟩ : ∃ s', (Node.keys to)[y]? = some s' := ⟨(Node.keys to)[y]'(by rw [HZ.out.2.2.2]; exact hy1), by simp⟩
          by_cases c1 : Op.bytesLess s.toList s'.toList = true
          · exact .inl ⟨hx1, .inr ⟨s, s', hy1, hs, hs', c1⟩⟩
          · have c1' : Op.bytesLess s.toList s'.toList = false := by simpa using c1
            by_cases e : s = s'
            · subst e
              exact .inr (.inr (.inl ⟨hx1, hy1, s, hs, hs'⟩))
            · exact .inr (.inl ⟨hy1, .inr ⟨s, s', hx1, hs, hs', c1', sLt_tri e c1'⟩⟩)
        · exact .inl ⟨hx1, .inl (by omega)⟩
      · by_cases hy1 : y < n2
        · exact .inr (.inl ⟨hy1, .inl (by omega)⟩)
        · exact .inr (.inr (.inr ⟨by omega, by omega⟩))
    rcases hcase with ⟨hx1, hA⟩ | ⟨hy1, hA⟩ | ⟨hx1, hy1, hA⟩ | ⟨hx1, hy1⟩
    · -- a key of base alone
      obtain ⟨s, hs⟩ : ∃ s, (Node.keys tb)[x]? = some s := ⟨(Node.keys tb)[x]'(by rw [HZ.out.2.2.1]; exact hx1), by simp⟩
      obtain ⟨t, ht⟩ : ∃ t, (Node.kids tb)[x]? = some t := ⟨(Node.kids tb)[x]'(by rw [HSb.out.2.1]; exact hx1), by simp⟩
      obtain ⟨d0, d1, d2, d3, d4, hr, htr⟩ := HD.out x t ht
      obtain ⟨k', b', s', a1, m1, p1, a2, m2, p2, hform⟩ := tree_form htr
      simp only [Value.agg.injEq, Array.mk.injEq, List.cons.injEq, and_true] at hform
      obtain ⟨rfl, rfl, rfl, rfl, rfl⟩ := hform
      have ck' := cell_later HB0.out (HK.out x s hs)
      have hrr := rangeAt_later HB0.out hr
      have x1 := index_strs (cap := kc) Hka.out x hx1
      have x2 := index_trees (cap := dc) Hda.out x hx1
      have hstep : B.drop x = (s, t) :: B.drop (x + 1) := by rw [← HZ.out.1]; exact drop_zip hs ht
      have hless : ∀ z ∈ O.drop y, sLt s z.1 = true := by
        rcases hA with hyn | ⟨sx, sy, hy1, hsx, hsy, hl⟩
        · rw [List.drop_eq_nil_of_le (by rw [HBS.out.2.2.2]; omega)]
          intro z hz; simp at hz
        · rw [hs] at hsx
          cases hsx
          obtain ⟨ty, hty⟩ : ∃ ty, (Node.kids to)[y]? = some ty := ⟨(Node.kids to)[y]'(by rw [HSo.out.2.1]; exact hy1), by simp⟩
          have e : O.drop y = (sy, ty) :: O.drop (y + 1) := by rw [← HZ.out.2.1]; exact drop_zip hsy hty
          have hsd := sorted_drop HBS.out.2.1 y
          rw [e] at hsd ⊢
          exact less_all hsd hl
      have HE1 : Hid ((M ++ [(s, t)]) ++ jn (mergeT n) (B.drop (x + 1)) (O.drop y) = jn (mergeT n) B O) := by
        refine hide ?_
        rw [← HE.out, hstep, jn_left (mergeT n) (by rw [← hstep]; exact sorted_drop HBS.out.1 x) (sorted_drop HBS.out.2.1 y) hless]
        simp
      have HTR := hide htr
      have e0 : wr.cell? ⟨db, dof + x * 5, none⟩ = some (.int .i8 k') := hrr 0 _ rfl
      have e1 : wr.cell? ⟨db, dof + x * 5 + 1, none⟩ = some (.bool b') := hrr 1 _ rfl
      have e2 : wr.cell? ⟨db, dof + x * 5 + 2, none⟩ = some (.string s') := hrr 2 _ rfl
      have e3 : wr.cell? ⟨db, dof + x * 5 + 3, none⟩ = some (.slice a1 m1 p1) := hrr 3 _ rfl
      have e4 : wr.cell? ⟨db, dof + x * 5 + 4, none⟩ = some (.slice a2 m2 p2) := hrr 4 _ rfl
      have hkb : kb < w.heap.size := World.block_lt_of_cell? w _ (HK.out x s hs)
      have hdb : db < w.heap.size := World.block_lt_of_cell? w _ (hr 0 _ rfl)
      clear hstep hless htr hr hrr ht HE
      rcases hA with hyn | ⟨sx, sy, hy1, hsx, hsy, hl⟩
      case' inl =>
        have hd1 : ((y : Int) == (n2 : Int)) = true := by simp [hyn]
        clear hs hyn
        go_wp2_with fail
        go_quiet (fail)
      case' inr =>
        obtain rfl : s = sx := by rw [hs] at hsx; cases hsx; rfl
        have cy := cell_later HB0.out (HK'.out y sy hsy)
        have x3 := index_strs (cap := kc') Hka'.out y hy1
        have hd1 : ((y : Int) == (n2 : Int)) = false := by simp; omega
        have hd2 : decide ((x : Int) < (n1 : Int)) = true := by simp; omega
        clear hs hsx hsy
        go_wp2_with fail
        go_quiet (fail)
      all_goals
        generalize hw3 : wr.drewN _ = w3
        have hq3 : Below wr.heap.size wr w3 := by rw [← hw3]; exact below_drewN (Below.refl _ _) _
        have hsz3 : wr.heap.size ≤ w3.heap.size := hq3.size
        clear hw3
        have r3 := cell_later hq3 g3
        have r4 := cell_later hq3 g4
        have rk := cell_later hq3 ck'
        have f0 := cell_later hq3 e0
        have f1' := cell_later hq3 e1
        have f2' := cell_later hq3 e2
        have f3 := cell_later hq3 e3
        have f4 := cell_later hq3 e4
        have HI3 := hide (HI.out.below hq3)
        have HBr3 := hide (HBr.out.trans (hq3.mono hszr))
        have HB3 := hide (HB0.out.trans (hq3.mono HB0.out.size))
        have l1 : some w.heap.size ≠ some gk := fun e => by cases e; omega
        have l7 : some db ≠ some gk := fun e => by cases e; omega
        clear g3 g4 g3' g4' ck' e0 e1 e2 e3 e4 hq3 HI HBr HB0
        go_wp2_with (first | (at_builtin; refine wpList_append_lies _ (by rfl) _ _ 23 (by rfl) (w.heap.size + 3) 9 i9 _ 1 16 Try.underlying23 hi9 hi9z hi9s hi9b rfl (by omega) (.slice (some ⟨gk, 0, none⟩) M.length ck) M.length _ (by rfl) (HI3.out.ownK.alloc _) ⟨w3.heap.size, 0, none⟩ 1 1 [.string s] (by rfl) (by rfl) (World.news_of_block (cs := #[.string s]) (t := 9) (fr := (0, 0)) (heap_alloc_new w3 _)) (by simp [Value.oneCell']) (by omega) (by unfold maxLen; omega) (by omega) (by simp; omega) (w3.heap.size + 1) (by simp) ?_; intro g1 cap1 w4 hown4 hgrow hat hlt4; have hx4 := (Below.refl w3.heap.size w3).alloc (Nat.le_refl _) (.cells #[.string s] 9); have t4 := hgrow.cell (cell_later hx4 r4) l1; have u0 := hgrow.cell (cell_later hx4 f0) l7; have u1 := hgrow.cell (cell_later hx4 f1') l7; have u2 := hgrow.cell (cell_later hx4 f2') l7; have u3 := hgrow.cell (cell_later hx4 f3) l7; have u4 := hgrow.cell (cell_later hx4 f4) l7; have HI4 := hide (HI3.out.key (q := (s, t)) hx4 hown4 hgrow (by simpa [Value.ownBlock] using hat)); have HBr4 := hide ((HBr3.out.alloc (by omega) (.cells #[.string s] 9)).grown hgrow (by simp; omega) (fun k hk => by cases hk; exact hgk1)); have HB4 := hide ((HB3.out.alloc HB3.out.size (.cells #[.string s] 9)).grown hgrow (by simp; omega) (fun k hk => by cases hk; exact Nat.le_trans (Nat.le_add_right _ 3) hgk1)); have hs4 : w3.heap.size + 1 ≤ w4.heap.size := (by have := hgrow.size; simpa using this); clear hown4 hgrow hat hx4) | (at_builtin; refine wpList_append_lies _ (by rfl) _ _ 24 (by rfl) (w.heap.size + 3) 26 i26 _ 5 72 Try.underlying24 hi26 hi26z hi26s hi26b rfl (by omega) (.slice (some ⟨gd, 0, none⟩) M.length cd) M.length _ (by rfl) (HI4.out.ownD.alloc _) ⟨w4.heap.size, 0, none⟩ 1 1 [.int .i8 k', .bool b', .string s', .slice a1 m1 p1, .slice a2 m2 p2] (by rfl) (by rfl) (World.news_of_block (cs := #[.int .i8 k', .bool b', .string s', .slice a1 m1 p1, .slice a2 m2 p2]) (t := 26) (fr := (0, 0)) (heap_alloc_new w4 _)) (by simp [Value.oneCell']) (by omega) (by unfold maxLen; omega) (by omega) (by simp; omega) (w4.heap.size + 1) (by simp) ?_; intro g2 cap2 w6 hown6 hgrow6 hat6 hlt6))
        have hx6 := (Below.refl w4.heap.size w4).alloc (Nat.le_refl _) (.cells #[.int .i8 k', .bool b', .string s', .slice a1 m1 p1, .slice a2 m2 p2] 26)
        have hg1 := (own_caps HI4.out.ownK).2.2.1
        have hI6 := HI4.out.kid (v := ⟨k', b', s', a1, m1, p1, a2, m2, p2⟩) hx6 hown6 hgrow6 (by simpa [Value.ownBlock] using hat6)
          (HTR.out.old.mono (Stay.of_below HB4.out) (fun c hc => ⟨⟨.inl hc.1, by have := hc.2; omega⟩, by have := hc.2; omega, by have := hc.2; omega⟩))
        have HI6 := hide hI6
        have HBr6 := hide ((HBr4.out.alloc (by omega) (.cells #[.int .i8 k', .bool b', .string s', .slice a1 m1 p1, .slice a2 m2 p2] 26)).grown hgrow6 (by simp; omega) (fun k hk => by cases hk; exact hgd1))
        clear hI6 hown6 hgrow6 hat6 hx6 HI4 HBr4
        go_wp2_with fail
        go_roundw
        case rel => exact ⟨x + 1, y, g1, cap1, g2, cap2, M ++ [(s, t)], _, by omega, by omega, by simp; omega, by simp, by simp, by go_num, by go_num, HI6.out, HE1, HBr6.out⟩
        case measure => simp [intOf]; omega
    · -- a key of over alone
      obtain ⟨s, hs⟩ : ∃ s, (Node.keys to)[y]? = some s := ⟨(Node.keys to)[y]'(by rw [HZ.out.2.2.2]; exact hy1), by simp⟩
      obtain ⟨t, ht⟩ : ∃ t, (Node.kids to)[y]? = some t := ⟨(Node.kids to)[y]'(by rw [HSo.out.2.1]; exact hy1), by simp⟩
      obtain ⟨d0, d1, d2, d3, d4, hr, htr⟩ := HD'.out y t ht
      obtain ⟨k', b', s', a1, m1, p1, a2, m2, p2, hform⟩ := tree_form htr
      simp only [Value.agg.injEq, Array.mk.injEq, List.cons.injEq, and_true] at hform
      obtain ⟨rfl, rfl, rfl, rfl, rfl⟩ := hform
      have ck' := cell_later HB0.out (HK'.out y s hs)
      have hrr := rangeAt_later HB0.out hr
      have x1 := index_strs (cap := kc') Hka'.out y hy1
      have x2 := index_trees (cap := dc') Hda'.out y hy1
      have hstep : O.drop y = (s, t) :: O.drop (y + 1) := by rw [← HZ.out.2.1]; exact drop_zip hs ht
      have hless : ∀ z ∈ B.drop x, sLt s z.1 = true := by
        rcases hA with hyn | ⟨sx, sy, hx1, hsx, hsy, hl, hl2⟩
        · rw [List.drop_eq_nil_of_le (by rw [HBS.out.2.2.1]; omega)]
          intro z hz; simp at hz
        · rw [hs] at hsy
          cases hsy
          obtain ⟨tx, htx⟩ : ∃ tx, (Node.kids tb)[x]? = some tx := ⟨(Node.kids tb)[x]'(by rw [HSb.out.2.1]; exact hx1), by simp⟩
          have e : B.drop x = (sx, tx) :: B.drop (x + 1) := by rw [← HZ.out.1]; exact drop_zip hsx htx
          have hsd := sorted_drop HBS.out.1 x
          rw [e] at hsd ⊢
          exact less_all hsd hl2
      have HE1 : Hid ((M ++ [(s, t)]) ++ jn (mergeT n) (B.drop x) (O.drop (y + 1)) = jn (mergeT n) B O) := by
        refine hide ?_
        rw [← HE.out, hstep, jn_right (mergeT n) (sorted_drop HBS.out.1 x) (by rw [← hstep]; exact sorted_drop HBS.out.2.1 y) hless]
        simp
      have HTR := hide htr
      have e0 : wr.cell? ⟨db', dof' + y * 5, none⟩ = some (.int .i8 k') := hrr 0 _ rfl
      have e1 : wr.cell? ⟨db', dof' + y * 5 + 1, none⟩ = some (.bool b') := hrr 1 _ rfl
      have e2 : wr.cell? ⟨db', dof' + y * 5 + 2, none⟩ = some (.string s') := hrr 2 _ rfl
      have e3 : wr.cell? ⟨db', dof' + y * 5 + 3, none⟩ = some (.slice a1 m1 p1) := hrr 3 _ rfl
      have e4 : wr.cell? ⟨db', dof' + y * 5 + 4, none⟩ = some (.slice a2 m2 p2) := hrr 4 _ rfl
      have hkb : kb' < w.heap.size := World.block_lt_of_cell? w _ (HK'.out y s hs)
      have hdb : db' < w.heap.size := World.block_lt_of_cell? w _ (hr 0 _ rfl)
      have hd1 : ((y : Int) == (n2 : Int)) = false := by simp; omega
      clear hstep hless htr hr hrr ht HE
      rcases hA with hyn | ⟨sx, sy, hx1, hsx, hsy, hl, hl2⟩
      case' inl =>
        have hd2 : ((x : Int) == (n1 : Int)) = true := by simp [hyn]
        have hd3 : decide ((x : Int) < (n1 : Int)) = false := by simp; omega
        have hd4 : decide (x < n1) = false := by simp; omega
        clear hs hyn
        go_wp2_with fail
        go_quiet (fail)
        go_wp2_with fail
        go_quiet (fail)
      case' inr =>
        obtain rfl : s = sy := by rw [hs] at hsy; cases hsy; rfl
        have cy := cell_later HB0.out (HK.out x sx hsx)
        have x3 := index_strs (cap := kc) Hka.out x hx1
        have hd2 : ((x : Int) == (n1 : Int)) = false := by simp; omega
        have hd3 : decide ((x : Int) < (n1 : Int)) = true := by simp; omega
        clear hs hsx hsy
        go_wp2_with fail
        go_quiet (fail)
        go_wp2_with fail
        go_quiet (fail)
      all_goals
        generalize hw3 : (wr.drewN _).drewN _ = w3
        have hq3 : Below wr.heap.size wr w3 := by rw [← hw3]; exact below_drewN (below_drewN (Below.refl _ _) _) _
        have hsz3 : wr.heap.size ≤ w3.heap.size := hq3.size
        clear hw3
        have r3 := cell_later hq3 g3'
        have r4 := cell_later hq3 g4'
        have rk := cell_later hq3 ck'
        have f0 := cell_later hq3 e0
        have f1' := cell_later hq3 e1
        have f2' := cell_later hq3 e2
        have f3 := cell_later hq3 e3
        have f4 := cell_later hq3 e4
        have HI3 := hide (HI.out.below hq3)
        have HBr3 := hide (HBr.out.trans (hq3.mono hszr))
        have HB3 := hide (HB0.out.trans (hq3.mono HB0.out.size))
        have l1 : some (w.heap.size + 1) ≠ some gk := fun e => by cases e; omega
        have l7 : some db' ≠ some gk := fun e => by cases e; omega
        clear g3 g4 g3' g4' ck' e0 e1 e2 e3 e4 hq3 HI HBr HB0
        go_wp2_with (first | (at_builtin; refine wpList_append_lies _ (by rfl) _ _ 23 (by rfl) (w.heap.size + 3) 9 i9 _ 1 16 Try.underlying23 hi9 hi9z hi9s hi9b rfl (by omega) (.slice (some ⟨gk, 0, none⟩) M.length ck) M.length _ (by rfl) (HI3.out.ownK.alloc _) ⟨w3.heap.size, 0, none⟩ 1 1 [.string s] (by rfl) (by rfl) (World.news_of_block (cs := #[.string s]) (t := 9) (fr := (0, 0)) (heap_alloc_new w3 _)) (by simp [Value.oneCell']) (by omega) (by unfold maxLen; omega) (by omega) (by simp; omega) (w3.heap.size + 1) (by simp) ?_; intro g1 cap1 w4 hown4 hgrow hat hlt4; have hx4 := (Below.refl w3.heap.size w3).alloc (Nat.le_refl _) (.cells #[.string s] 9); have t4 := hgrow.cell (cell_later hx4 r4) l1; have u0 := hgrow.cell (cell_later hx4 f0) l7; have u1 := hgrow.cell (cell_later hx4 f1') l7; have u2 := hgrow.cell (cell_later hx4 f2') l7; have u3 := hgrow.cell (cell_later hx4 f3) l7; have u4 := hgrow.cell (cell_later hx4 f4) l7; have HI4 := hide (HI3.out.key (q := (s, t)) hx4 hown4 hgrow (by simpa [Value.ownBlock] using hat)); have HBr4 := hide ((HBr3.out.alloc (by omega) (.cells #[.string s] 9)).grown hgrow (by simp; omega) (fun k hk => by cases hk; exact hgk1)); have HB4 := hide ((HB3.out.alloc HB3.out.size (.cells #[.string s] 9)).grown hgrow (by simp; omega) (fun k hk => by cases hk; exact Nat.le_trans (Nat.le_add_right _ 3) hgk1)); have hs4 : w3.heap.size + 1 ≤ w4.heap.size := (by have := hgrow.size; simpa using this); clear hown4 hgrow hat hx4) | (at_builtin; refine wpList_append_lies _ (by rfl) _ _ 24 (by rfl) (w.heap.size + 3) 26 i26 _ 5 72 Try.underlying24 hi26 hi26z hi26s hi26b rfl (by omega) (.slice (some ⟨gd, 0, none⟩) M.length cd) M.length _ (by rfl) (HI4.out.ownD.alloc _) ⟨w4.heap.size, 0, none⟩ 1 1 [.int .i8 k', .bool b', .string s', .slice a1 m1 p1, .slice a2 m2 p2] (by rfl) (by rfl) (World.news_of_block (cs := #[.int .i8 k', .bool b', .string s', .slice a1 m1 p1, .slice a2 m2 p2]) (t := 26) (fr := (0, 0)) (heap_alloc_new w4 _)) (by simp [Value.oneCell']) (by omega) (by unfold maxLen; omega) (by omega) (by simp; omega) (w4.heap.size + 1) (by simp) ?_; intro g2 cap2 w6 hown6 hgrow6 hat6 hlt6))
        have hx6 := (Below.refl w4.heap.size w4).alloc (Nat.le_refl _) (.cells #[.int .i8 k', .bool b', .string s', .slice a1 m1 p1, .slice a2 m2 p2] 26)
        have hg1 := (own_caps HI4.out.ownK).2.2.1
        have hI6 := HI4.out.kid (v := ⟨k', b', s', a1, m1, p1, a2, m2, p2⟩) hx6 hown6 hgrow6 (by simpa [Value.ownBlock] using hat6)
          (HTR.out.old.mono (Stay.of_below HB4.out) (fun c hc => ⟨⟨.inl hc.1, by have := hc.2; omega⟩, by have := hc.2; omega, by have := hc.2; omega⟩))
        have HI6 := hide hI6
        have HBr6 := hide ((HBr4.out.alloc (by omega) (.cells #[.int .i8 k', .bool b', .string s', .slice a1 m1 p1, .slice a2 m2 p2] 26)).grown hgrow6 (by simp; omega) (fun k hk => by cases hk; exact hgd1))
        clear hI6 hown6 hgrow6 hat6 hx6 HI4 HBr4
        go_wp2_with fail
        go_roundw
        case rel => exact ⟨x, y + 1, g1, cap1, g2, cap2, M ++ [(s, t)], _, by omega, by omega, by simp; omega, by simp, by simp, by go_num, by go_num, HI6.out, HE1, HBr6.out⟩
        case measure => simp [intOf]; omega
    · -- a key of both
      obtain ⟨s, hs, hs'⟩ := hA
      obtain ⟨t, ht⟩ : ∃ t, (Node.kids tb)[x]? = some t := ⟨(Node.kids tb)[x]'(by rw [HSb.out.2.1]; exact hx1), by simp⟩
      obtain ⟨t', ht'⟩ : ∃ t', (Node.kids to)[y]? = some t' := ⟨(Node.kids to)[y]'(by rw [HSo.out.2.1]; exact hy1), by simp⟩
      obtain ⟨d0, d1, d2, d3, d4, hr, htr⟩ := HD.out x t ht
      obtain ⟨k', b', s', a1, m1, p1, a2, m2, p2, hform⟩ := tree_form htr
      simp only [Value.agg.injEq, Array.mk.injEq, List.cons.injEq, and_true] at hform
      obtain ⟨rfl, rfl, rfl, rfl, rfl⟩ := hform
      obtain ⟨d0, d1, d2, d3, d4, hr', htr'⟩ := HD'.out y t' ht'
      obtain ⟨k0, b0, s0, a3, m3, p3, a4, m4, p4, hform⟩ := tree_form htr'
      simp only [Value.agg.injEq, Array.mk.injEq, List.cons.injEq, and_true] at hform
      obtain ⟨rfl, rfl, rfl, rfl, rfl⟩ := hform
      have ck' := cell_later HB0.out (HK.out x s hs)
      have cy := cell_later HB0.out (HK'.out y s hs')
      have hrr := rangeAt_later HB0.out hr
      have hrr' := rangeAt_later HB0.out hr'
      have x1 := index_strs (cap := kc) Hka.out x hx1
      have x2 := index_trees (cap := dc) Hda.out x hx1
      have x3 := index_strs (cap := kc') Hka'.out y hy1
      have x4 := index_trees (cap := dc') Hda'.out y hy1
      have hstep : B.drop x = (s, t) :: B.drop (x + 1) := by rw [← HZ.out.1]; exact drop_zip hs ht
      have hstep' : O.drop y = (s, t') :: O.drop (y + 1) := by rw [← HZ.out.2.1]; exact drop_zip hs' ht'
      have HE1 : Hid ((M ++ [(s, mergeT n t t')]) ++ jn (mergeT n) (B.drop (x + 1)) (O.drop (y + 1)) = jn (mergeT n) B O) := by
        refine hide ?_
        rw [← HE.out, hstep, hstep', jn_both (mergeT n) (by rw [← hstep]; exact sorted_drop HBS.out.1 x) (by rw [← hstep']; exact sorted_drop HBS.out.2.1 y)]
        simp
      have HTR := hide (And.intro htr htr')
      have HNS := hide (And.intro (HSb.out.2.2.1 t (List.mem_of_getElem? ht)) (And.intro (HSo.out.2.2.1 t' (List.mem_of_getElem? ht')) (And.intro (HSb.out.2.2.2 t (List.mem_of_getElem? ht)) (HSo.out.2.2.2 t' (List.mem_of_getElem? ht')))))
      have e0 : wr.cell? ⟨db, dof + x * 5, none⟩ = some (.int .i8 k') := hrr 0 _ rfl
      have e1 : wr.cell? ⟨db, dof + x * 5 + 1, none⟩ = some (.bool b') := hrr 1 _ rfl
      have e2 : wr.cell? ⟨db, dof + x * 5 + 2, none⟩ = some (.string s') := hrr 2 _ rfl
      have e3 : wr.cell? ⟨db, dof + x * 5 + 3, none⟩ = some (.slice a1 m1 p1) := hrr 3 _ rfl
      have e4 : wr.cell? ⟨db, dof + x * 5 + 4, none⟩ = some (.slice a2 m2 p2) := hrr 4 _ rfl
      have o0 : wr.cell? ⟨db', dof' + y * 5, none⟩ = some (.int .i8 k0) := hrr' 0 _ rfl
      have o1 : wr.cell? ⟨db', dof' + y * 5 + 1, none⟩ = some (.bool b0) := hrr' 1 _ rfl
      have o2 : wr.cell? ⟨db', dof' + y * 5 + 2, none⟩ = some (.string s0) := hrr' 2 _ rfl
      have o3 : wr.cell? ⟨db', dof' + y * 5 + 3, none⟩ = some (.slice a3 m3 p3) := hrr' 3 _ rfl
      have o4 : wr.cell? ⟨db', dof' + y * 5 + 4, none⟩ = some (.slice a4 m4 p4) := hrr' 4 _ rfl
      have hdb : db < w.heap.size := World.block_lt_of_cell? w _ (hr 0 _ rfl)
      have hdb' : db' < w.heap.size := World.block_lt_of_cell? w _ (hr' 0 _ rfl)
      have hd1 : ((y : Int) == (n2 : Int)) = false := by simp; omega
      have hd2 : ((x : Int) == (n1 : Int)) = false := by simp; omega
      have hd3 : decide ((x : Int) < (n1 : Int)) = true := by simp; omega
      have hl := bl_irrefl s.toList
      clear hstep hstep' htr hr hrr ht htr' hr' hrr' ht' HE hs hs'
      go_wp2_with fail
      go_quiet (fail)
      go_wp2_with fail
      go_quiet (fail)
      generalize hw3 : (wr.drewN _).drewN _ = w3
      have hq3 : Below wr.heap.size wr w3 := by rw [← hw3]; exact below_drewN (below_drewN (Below.refl _ _) _) _
      have hsz3 : wr.heap.size ≤ w3.heap.size := hq3.size
      clear hw3
      have r3 := cell_later hq3 g3
      have r4 := cell_later hq3 g4
      have r4' := cell_later hq3 g4'
      have rk := cell_later hq3 ck'
      have f0 := cell_later hq3 e0
      have f1' := cell_later hq3 e1
      have f2' := cell_later hq3 e2
      have f3 := cell_later hq3 e3
      have f4 := cell_later hq3 e4
      have h0 := cell_later hq3 o0
      have h1 := cell_later hq3 o1
      have h2 := cell_later hq3 o2
      have h3 := cell_later hq3 o3
      have h4 := cell_later hq3 o4
      have HI3 := hide (HI.out.below hq3)
      have HBr3 := hide (HBr.out.trans (hq3.mono hszr))
      have HB3 := hide (HB0.out.trans (hq3.mono HB0.out.size))
      have l1 : some w.heap.size ≠ some gk := fun e => by cases e; omega
      have l1' : some (w.heap.size + 1) ≠ some gk := fun e => by cases e; omega
      have l7 : some db ≠ some gk := fun e => by cases e; omega
      have l7' : some db' ≠ some gk := fun e => by cases e; omega
      clear g3 g4 g3' g4' ck' cy e0 e1 e2 e3 e4 o0 o1 o2 o3 o4 hq3 HI HBr HB0
      go_wp2_with (first | (at_builtin; refine wpList_append_lies _ (by rfl) _ _ 23 (by rfl) (w.heap.size + 3) 9 i9 _ 1 16 Try.underlying23 hi9 hi9z hi9s hi9b rfl (by omega) (.slice (some ⟨gk, 0, none⟩) M.length ck) M.length _ (by rfl) (HI3.out.ownK.alloc _) ⟨w3.heap.size, 0, none⟩ 1 1 [.string s] (by rfl) (by rfl) (World.news_of_block (cs := #[.string s]) (t := 9) (fr := (0, 0)) (heap_alloc_new w3 _)) (by simp [Value.oneCell']) (by omega) (by unfold maxLen; omega) (by omega) (by simp; omega) (w3.heap.size + 1) (by simp) ?_; intro g1 cap1 w4 hown4 hgrow hat hlt4; have hx4 := (Below.refl w3.heap.size w3).alloc (Nat.le_refl _) (.cells #[.string s] 9); have t4 := hgrow.cell (cell_later hx4 r4) l1; have t4' := hgrow.cell (cell_later hx4 r4') l1'; have UU := hide (And.intro (hgrow.cell (cell_later hx4 f0) l7) (And.intro (hgrow.cell (cell_later hx4 f1') l7) (And.intro (hgrow.cell (cell_later hx4 f2') l7) (And.intro (hgrow.cell (cell_later hx4 f3) l7) (hgrow.cell (cell_later hx4 f4) l7))))); have VV := hide (And.intro (hgrow.cell (cell_later hx4 h0) l7') (And.intro (hgrow.cell (cell_later hx4 h1) l7') (And.intro (hgrow.cell (cell_later hx4 h2) l7') (And.intro (hgrow.cell (cell_later hx4 h3) l7') (hgrow.cell (cell_later hx4 h4) l7'))))); have HI4 := hide (HI3.out.key (q := (s, mergeT n t t')) hx4 hown4 hgrow (by simpa [Value.ownBlock] using hat)); have HBr4 := hide ((HBr3.out.alloc (by omega) (.cells #[.string s] 9)).grown hgrow (by simp; omega) (fun k hk => by cases hk; exact hgk1)); have HB4 := hide ((HB3.out.alloc HB3.out.size (.cells #[.string s] 9)).grown hgrow (by simp; omega) (fun k hk => by cases hk; exact Nat.le_trans (Nat.le_add_right _ 3) hgk1)); have hs4 : w3.heap.size + 1 ≤ w4.heap.size := (by have := hgrow.size; simpa using this); clear hown4 hgrow hat hx4))
      obtain ⟨u0, u1, u2, u3, u4⟩ := UU.out
      obtain ⟨v0, v1, v2, v3, v4⟩ := VV.out
      have l5 : some w.heap.size ≠ some gd := fun e => by cases e; omega
      have l5' : some (w.heap.size + 1) ≠ some gd := fun e => by cases e; omega
      have l6 : some db ≠ some gd := fun e => by cases e; omega
      have l6' : some db' ≠ some gd := fun e => by cases e; omega
      have HCALL := hide (IH.out (fun c => c < w.heap.size ∧ p c) t t' _ _ w4.drew (HTR.out.1.old.mono (Stay.of_below HB4.out.drew) (fun c hc => ⟨hc.2, hc.1⟩)) (HTR.out.2.old.mono (Stay.of_below HB4.out.drew) (fun c hc => ⟨hc.2, hc.1⟩)) HNS.out.1 HNS.out.2.1 HNS.out.2.2.1 HNS.out.2.2.2)
      clear r3 r4 r4' rk f0 f1' f2' f3 f4 h0 h1 h2 h3 h4 UU VV l1 l1' l7 l7' HI3 HBr3 HB3
      go_region_held3 (fun w' => w'.cell? ⟨w.heap.size, 4, none⟩ = some (.slice da n1 dc) ∧ w'.cell? ⟨w.heap.size + 1, 4, none⟩ = some (.slice da' n2 dc') ∧ w'.cell? ⟨db, dof + x * 5, none⟩ = some (.int .i8 k') ∧ w'.cell? ⟨db, dof + x * 5 + 1, none⟩ = some (.bool b') ∧ w'.cell? ⟨db, dof + x * 5 + 2, none⟩ = some (.string s') ∧ w'.cell? ⟨db, dof + x * 5 + 3, none⟩ = some (.slice a1 m1 p1) ∧ w'.cell? ⟨db, dof + x * 5 + 4, none⟩ = some (.slice a2 m2 p2) ∧ w'.cell? ⟨db', dof' + y * 5, none⟩ = some (.int .i8 k0) ∧ w'.cell? ⟨db', dof' + y * 5 + 1, none⟩ = some (.bool b0) ∧ w'.cell? ⟨db', dof' + y * 5 + 2, none⟩ = some (.string s0) ∧ w'.cell? ⟨db', dof' + y * 5 + 3, none⟩ = some (.slice a3 m3 p3) ∧ w'.cell? ⟨db', dof' + y * 5 + 4, none⟩ = some (.slice a4 m4 p4))
        (first | exact ⟨t4, t4', u0, u1, u2, u3, u4, v0, v1, v2, v3, v4⟩ | exact ⟨cell_later hb5 t4, cell_later hb5 t4', cell_later hb5 u0, cell_later hb5 u1, cell_later hb5 u2, cell_later hb5 u3, cell_later hb5 u4, cell_later hb5 v0, cell_later hb5 v1, cell_later hb5 v2, cell_later hb5 v3, cell_later hb5 v4⟩ | exact ⟨cell_later (hb5.alloc hb5.size _) t4, cell_later (hb5.alloc hb5.size _) t4', cell_later (hb5.alloc hb5.size _) u0, cell_later (hb5.alloc hb5.size _) u1, cell_later (hb5.alloc hb5.size _) u2, cell_later (hb5.alloc hb5.size _) u3, cell_later (hb5.alloc hb5.size _) u4, cell_later (hb5.alloc hb5.size _) v0, cell_later (hb5.alloc hb5.size _) v1, cell_later (hb5.alloc hb5.size _) v2, cell_later (hb5.alloc hb5.size _) v3, cell_later (hb5.alloc hb5.size _) v4⟩ | exact ⟨hgrow6.cell (cell_later (hb5.alloc hb5.size _) t4) l5, hgrow6.cell (cell_later (hb5.alloc hb5.size _) t4') l5', hgrow6.cell (cell_later (hb5.alloc hb5.size _) u0) l6, hgrow6.cell (cell_later (hb5.alloc hb5.size _) u1) l6, hgrow6.cell (cell_later (hb5.alloc hb5.size _) u2) l6, hgrow6.cell (cell_later (hb5.alloc hb5.size _) u3) l6, hgrow6.cell (cell_later (hb5.alloc hb5.size _) u4) l6, hgrow6.cell (cell_later (hb5.alloc hb5.size _) v0) l6', hgrow6.cell (cell_later (hb5.alloc hb5.size _) v1) l6', hgrow6.cell (cell_later (hb5.alloc hb5.size _) v2) l6', hgrow6.cell (cell_later (hb5.alloc hb5.size _) v3) l6', hgrow6.cell (cell_later (hb5.alloc hb5.size _) v4) l6'⟩)
        (first | (go_at_call 12; have hcall := HCALL.out; refine hcall.mono ?_; clear hcall; rintro e w5 ⟨k5, b5, s5, a51, n51, p51, a52, n52, p52, rfl, hT5, hb5⟩) | (refine step_append_lies _ (by rfl) _ _ _ (by rfl) (w.heap.size + 3) 26 i26 _ 5 72 Try.underlying24 hi26 hi26z hi26s hi26b rfl (by omega) (.slice (some ⟨gd, 0, none⟩) M.length cd) M.length _ (by rfl) ((HI4.out.below ((Below.refl _ _).drew.trans hb5)).ownD.alloc _) ⟨w5.heap.size, 0, none⟩ 1 1 [.int .i8 k5, .bool b5, .string s5, .slice a51 n51 p51, .slice a52 n52 p52] (by rfl) (by rfl) (World.news_of_block (cs := #[.int .i8 k5, .bool b5, .string s5, .slice a51 n51 p51, .slice a52 n52 p52]) (t := 26) (fr := (0, 0)) (heap_alloc_new w5 _)) (by simp [Value.oneCell']) (by omega) (by unfold maxLen; omega) (by omega) (by have := hb5.size; simp at *; omega) (w5.heap.size + 1) (by simp) ?_; intro g2 cap2 w6 hown6 hgrow6 hat6 hlt6))
      have hb5' : Below w4.heap.size w4 w5 := (Below.refl _ _).drew.trans hb5
      have hs5 : w4.heap.size ≤ w5.heap.size := hb5'.size
      have hI5 := HI4.out.below hb5'
      have hg1 := (own_caps HI4.out.ownK).2.2
      have hx6 := (Below.refl w5.heap.size w5).alloc (Nat.le_refl _) (.cells #[.int .i8 k5, .bool b5, .string s5, .slice a51 n51 p51, .slice a52 n52 p52] 26)
      have hgd4 := (own_caps HI4.out.ownD).2.2.2
      have hI6 := hI5.kid (v := ⟨k5, b5, s5, a51, n51, p51, a52, n52, p52⟩) hx6 hown6 hgrow6 (by simpa [Value.ownBlock] using hat6)
        (hT5.mono (fun _ _ _ => rfl) (fun c hc => by
          rcases hc with hc | hc
          · exact ⟨⟨.inl hc.2, by have := hc.1; omega⟩, by have := hc.1; omega, by have := hc.1; omega⟩
          · have hc' : w4.heap.size ≤ c := hc
            exact ⟨⟨.inr (by omega), by omega⟩, by omega, by omega⟩))
      have HI6 := hide hI6
      have HBr6 := hide (((HBr4.out.trans (hb5'.mono (by omega))).alloc (by omega) (.cells #[.int .i8 k5, .bool b5, .string s5, .slice a51 n51 p51, .slice a52 n52 p52] 26)).grown hgrow6 (by simp; omega) (fun k hk => by cases hk; exact hgd1))
      clear hI5 hI6 hown6 hgrow6 hat6 hx6 HI4 HBr4 hT5 hb5 hb5' HCALL t4 t4' u0 u1 u2 u3 u4 v0 v1 v2 v3 v4
      go_wp2_with fail
      go_roundw
      case rel => exact ⟨x + 1, y + 1, g1, cap1, g2, cap2, M ++ [(s, mergeT n t t')], _, by omega, by omega, by simp; omega, by simp, by simp, by go_num, by go_num, HI6.out, HE1, HBr6.out⟩
      case measure => simp [intOf]; omega
    · -- both lists at their end
      have hMe : M = jn (mergeT n) B O := by
        have := HE.out
        rw [List.drop_eq_nil_of_le (by rw [HBS.out.2.2.1]; omega), List.drop_eq_nil_of_le (by rw [HBS.out.2.2.2]; omega), jn_nil, List.append_nil] at this
        exact this
      have hR1 : RowF wr (w.heap.size + 2) 26 5 0 (fun _ _ => True) := by
        refine RowF.kept (w := W0) ?_ (HBr.out.block _ (by omega))
        rw [HW0.out]
        exact RowF.make _ _ _ _ (by simp) rfl
      obtain ⟨q0, hf0⟩ := hR1.old (j := 0) (by omega)
      obtain ⟨q1, hf1⟩ := hR1.old (j := 1) (by omega)
      obtain ⟨q2, hf2⟩ := hR1.old (j := 2) (by omega)
      obtain ⟨q3, hf3⟩ := hR1.old (j := 3) (by omega)
      obtain ⟨q4, hf4⟩ := hR1.old (j := 4) (by omega)
      have hz0 := hR1.frozen 0
      have hz1 := hR1.frozen 1
      have hz2 := hR1.frozen 2
      have hz3 := hR1.frozen 3
      have hz4 := hR1.frozen 4
      have HMe := hide hMe
      have hd3 : decide (x < n1) = false := by simp; omega
      have hd4 : decide (y < n2) = false := by simp; omega
      clear hR1 hMe HE
      go_wp2_with fail
      refine ret_cell5 Try.results12 (.inl rfl) rfl (set5_range hf0 hf1 hf2 hf3 hf4) rfl ⟨_, _, _, _, _, _, _, _, _, rfl, ?_, HB0.out.trans (set5_below (by omega))⟩
      have hfin := HI.out.done (fun b hb => ⟨.inr (by omega), by omega⟩)
      rw [← HMe.out]
      exact hfin.mono (set5_stay (fun h => h.2 rfl)) (fun b hb => hb.1)
end Go.Proofs.Qxb6616028a
