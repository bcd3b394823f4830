/- zzUnion: two sorted slices of strings, joined. -/
import Derived.Test.Qxb6616028aModelWalk
import Derived.Test.Qxb6616028aNF
namespace Go.Proofs.Qxb6616028a
open Go.RowKit
attribute [local go_sem ↓] Go.wp_at_zero Go.wp_at_succ

/-- the keys of both, sorted -/
def un (a b : List ByteArray) : List ByteArray := (jn (fun (u _ : Unit) => u) (a.map fun k => (k, ())) (b.map fun k => (k, ()))).map (·.1)
theorem units (a : List ByteArray) : (a.map fun k => (k, ())).map (·.1) = a := by rw [List.map_map]; exact List.map_id' a
theorem sorted_un {a : List ByteArray} (ha : SortedK a) (b : List ByteArray) : SortedK (un a b) := sorted_jn _ (by rw [units]; exact ha) _
theorem mem_un {a b : List ByteArray} (ha : SortedK a) (hb : SortedK b) (k : ByteArray) : k ∈ un a b ↔ k ∈ a ∨ k ∈ b := by
  have := jn_keys (fun (u _ : Unit) => u) (b := a.map fun k => (k, ())) (o := b.map fun k => (k, ())) (by rw [units]; exact ha) (by rw [units]; exact hb) k
  rw [units, units] at this
  exact this
theorem un_nil {a : List ByteArray} (ha : SortedK a) : un a [] = a := sorted_ext (sorted_un ha []) ha fun x => by rw [mem_un ha List.Pairwise.nil]; simp
theorem un_left {s : ByteArray} {a b : List ByteArray} (ha : SortedK (s :: a)) (hb : SortedK b) (h : ∀ z ∈ b, sLt s z = true) : un (s :: a) b = s :: un a b := by
  obtain ⟨h1, h2⟩ := List.pairwise_cons.1 ha
  refine sorted_ext (sorted_un ha b) (List.pairwise_cons.2 ⟨fun x hx => ?_, sorted_un h2 b⟩) fun x => ?_
  · rcases (mem_un h2 hb x).1 hx with g | g
    · exact h1 x g
    · exact h x g
  · rw [mem_un ha hb, List.mem_cons, List.mem_cons, mem_un h2 hb, or_assoc]
theorem un_right {s : ByteArray} {a b : List ByteArray} (ha : SortedK a) (hb : SortedK (s :: b)) (h : ∀ z ∈ a, sLt s z = true) : un a (s :: b) = s :: un a b := by
  obtain ⟨h1, h2⟩ := List.pairwise_cons.1 hb
  refine sorted_ext (sorted_un ha _) (List.pairwise_cons.2 ⟨fun x hx => ?_, sorted_un ha b⟩) fun x => ?_
  · rcases (mem_un ha h2 x).1 hx with g | g
    · exact h x g
    · exact h1 x g
  · rw [mem_un ha hb, List.mem_cons, List.mem_cons, mem_un ha h2]
    exact or_left_comm
theorem un_both {s : ByteArray} {a b : List ByteArray} (ha : SortedK (s :: a)) (hb : SortedK (s :: b)) : un (s :: a) (s :: b) = s :: un a b := by
  obtain ⟨h1, h2⟩ := List.pairwise_cons.1 ha
  obtain ⟨g1, g2⟩ := List.pairwise_cons.1 hb
  refine sorted_ext (sorted_un ha _) (List.pairwise_cons.2 ⟨fun x hx => ?_, sorted_un h2 b⟩) fun x => ?_
  · rcases (mem_un h2 g2 x).1 hx with g | g
    · exact h1 x g
    · exact g1 x g
  · rw [mem_un ha hb, List.mem_cons, List.mem_cons, List.mem_cons, mem_un h2 g2]
    constructor
    · rintro ((h | h) | (h | h))
      · exact .inl h
      · exact .inr (.inl h)
      · exact .inl h
      · exact .inr (.inr h)
    · rintro (h | h | h)
      · exact .inl (.inl h)
      · exact .inl (.inr h)
      · exact .inr (.inr h)
theorem keys_jn {α : Type} (f : α → α → α) {b o : List (ByteArray × α)} (hb : SortedK (b.map (·.1))) (ho : SortedK (o.map (·.1))) : (jn f b o).map (·.1) = un (b.map (·.1)) (o.map (·.1)) :=
  sorted_ext (sorted_jn f hb o) (sorted_un hb _) fun x => by rw [jn_keys f hb ho, mem_un hb ho]

theorem drop_of {l : List ByteArray} {i : Nat} {s : ByteArray} (h : l[i]? = some s) : l.drop i = s :: l.drop (i + 1) := by
  have hl := (List.getElem?_eq_some_iff.1 h).1
  rw [List.drop_eq_getElem_cons hl]
  congr 1
  exact (List.getElem?_eq_some_iff.1 h).2
theorem less_keys {k y : ByteArray} {l : List ByteArray} (hs : SortedK (y :: l)) (h : sLt k y = true) : ∀ z ∈ y :: l, sLt k z = true := by
  obtain ⟨h1, _⟩ := List.pairwise_cons.1 hs
  intro z hz
  rcases List.mem_cons.1 hz with rfl | hz
  · exact h
  · exact sLt_trans h (h1 z hz)

set_option maxRecDepth 100000 in
set_option maxHeartbeats 4000000 in
theorem union_calls (N : Nat) (hN : N ≤ 16777216) (K K' : List ByteArray) (v v' : Value) (w : World) (h : StrsAt Whole w v K) (h' : StrsAt Whole w v' K') (hs : SortedK K) (hs' : SortedK K') (hl : K.length ≤ N) (hl' : K'.length ≤ N) :
    Calls Try.prog 14 #[v, v'] w (fun e w' => ∃ a c, e = .returned (.slice (some ⟨a, 0, none⟩) (un K K').length c) ∧ StrsAt Whole w' (.slice (some ⟨a, 0, none⟩) (un K K').length c) (un K K') ∧ Below w.heap.size w w') := by
  obtain ⟨kb, ko, ⟨ka, kc, rfl, hkc, hkm, hka, _⟩, hks⟩ := h
  obtain ⟨kb', ko', ⟨ka', kc', rfl, hkc', hkm', hka', _⟩, hks'⟩ := h'
  generalize hn1 : K.length = n1 at *
  generalize hn2 : K'.length = n2 at *
  have HZ := hide (And.intro hn1 hn2)
  have HS := hide (And.intro hs hs')
  have HK := hide hks
  have HK' := hide hks'
  have Hka := hide hka
  have Hka' := hide hka'
  clear hks hks' hka hka' hn1 hn2 hs hs'
  obtain ⟨i9, hi9, hi9z, hi9s, hi9b⟩ := info_parts info9
  unfold maxLen at hkm hkm'
  go_enter Try.func14, Try.ntmps14
  go_wp2_with fail
  go_loopw [5, 6, 7] (fun a i j wr => ∃ (x y gk ck : Nat) (M : List ByteArray), x ≤ n1 ∧ y ≤ n2 ∧ M.length ≤ x + y ∧ a = .slice (some ⟨gk, 0, none⟩) M.length ck ∧ i = .int .i64 x ∧ j = .int .i64 y ∧
      wr.ownsRow w.heap.size 9 1 (.slice (some ⟨gk, 0, none⟩) M.length ck) M.length (strVs M) ∧ Hid (M ++ un (K.drop x) (K'.drop y) = un K K') ∧ Below w.heap.size w wr) (fun _ i j _ => (n1 - (intOf i).toNat) + (n2 - (intOf j).toNat))
  case atStart => exact ⟨0, 0, w.heap.size, 0, [], Nat.zero_le _, Nat.zero_le _, Nat.le_refl _, rfl, rfl, rfl, own_empty _ _ _ _ rfl (Nat.le_refl _), hide (by simp), (Below.refl _ _).alloc (Nat.le_refl _) _⟩
  case round =>
    obtain ⟨x, y, gk, ck, M, hx, hy, hM, rfl, rfl, rfl, hI, HE, hBr⟩ := hrel
    obtain ⟨hgk1, hgk2⟩ : w.heap.size ≤ gk ∧ gk < wr.heap.size := (own_caps hI).2.2
    have hszr : w.heap.size ≤ wr.heap.size := hBr.size
    have HI := hide hI
    have HBr := hide hBr
    clear hI hBr
    have hcase : (x < n1 ∧ (y = n2 ∨ ∃ s s', y < n2 ∧ K[x]? = some s ∧ K'[y]? = some s' ∧ Op.bytesLess s.toList s'.toList = true)) ∨
        (y < n2 ∧ (x = n1 ∨ ∃ s s', x < n1 ∧ K[x]? = some s ∧ K'[y]? = some s' ∧ Op.bytesLess s.toList s'.toList = false ∧ Op.bytesLess s'.toList s.toList = true)) ∨
        (x < n1 ∧ y < n2 ∧ ∃ s, K[x]? = some s ∧ K'[y]? = some s) ∨ (x = n1 ∧ y = n2) := by
      by_cases hx1 : x < n1
      · by_cases hy1 : y < n2
        · obtain ⟨s, hs⟩ : ∃ s, K[x]? = some s := ⟨K[x]'(by rw [HZ.out.1]; exact hx1), by simp⟩
          obtain ⟨s', hs'⟩ : ∃ s', K'[y]? = some s' := ⟨K'[y]'(by rw [HZ.out.2]; exact hy1), by simp⟩
          by_cases c1 : Op.bytesLess s.toList s'.toList = true
          · exact .inl ⟨hx1, .inr ⟨s, s', hy1, hs, hs', c1⟩⟩
          · have c1' : Op.bytesLess s.toList s'.toList = false := by simpa using c1
            by_cases e : s = s'
            · subst e
              exact .inr (.inr (.inl ⟨hx1, hy1, s, hs, hs'⟩))
            · exact .inr (.inl ⟨hy1, .inr ⟨s, s', hx1, hs, hs', c1', sLt_tri e c1'⟩⟩)
        · exact .inl ⟨hx1, .inl (by omega)⟩
      · by_cases hy1 : y < n2
        · exact .inr (.inl ⟨hy1, .inl (by omega)⟩)
        · exact .inr (.inr (.inr ⟨by omega, by omega⟩))
    rcases hcase with ⟨hx1, hA⟩ | ⟨hy1, hA⟩ | ⟨hx1, hy1, hA⟩ | ⟨hx1, hy1⟩
    · -- a key of the first alone
      obtain ⟨s, hs⟩ : ∃ s, K[x]? = some s := ⟨K[x]'(by rw [HZ.out.1]; exact hx1), by simp⟩
      have ck' := cell_later HBr.out (HK.out x s hs)
      have x1 := index_strs (cap := kc) Hka.out x hx1
      have hstep := drop_of hs
      have hless : ∀ z ∈ K'.drop y, sLt s z = true := by
        rcases hA with hyn | ⟨sx, sy, hy1, hsx, hsy, hl⟩
        · rw [List.drop_eq_nil_of_le (by rw [HZ.out.2]; omega)]
          intro z hz; simp at hz
        · rw [hs] at hsx
          cases hsx
          have e := drop_of hsy
          have hsd : SortedK (K'.drop y) := HS.out.2.drop
          rw [e] at hsd ⊢
          exact less_keys hsd hl
      have HE1 : Hid ((M ++ [s]) ++ un (K.drop (x + 1)) (K'.drop y) = un K K') := by
        refine hide ?_
        rw [← HE.out, hstep, un_left (by rw [← hstep]; exact HS.out.1.drop) HS.out.2.drop hless]
        simp
      have hkb : kb < w.heap.size := World.block_lt_of_cell? w _ (HK.out x s hs)
      clear hstep hless HE
      rcases hA with hyn | ⟨sx, sy, hy1, hsx, hsy, hl⟩
      case' inl =>
        have hd1 : ((y : Int) == (n2 : Int)) = true := by simp [hyn]
        clear hs hyn
        go_wp2_with fail
        go_quiet (fail)
      case' inr =>
        obtain rfl : s = sx := by rw [hs] at hsx; cases hsx; rfl
        have cy := cell_later HBr.out (HK'.out y sy hsy)
        have x3 := index_strs (cap := kc') Hka'.out y hy1
        have hd1 : ((y : Int) == (n2 : Int)) = false := by simp; omega
        have hd2 : decide ((x : Int) < (n1 : Int)) = true := by simp; omega
        clear hs hsx hsy
        go_wp2_with fail
        go_quiet (fail)
      all_goals
        generalize hw3 : wr.drewN _ = w3
        have hq3 : Below wr.heap.size wr w3 := by rw [← hw3]; exact below_drewN (Below.refl _ _) _
        have hsz3 : wr.heap.size ≤ w3.heap.size := hq3.size
        clear hw3
        have rk := cell_later hq3 ck'
        have HI3 := hide (own_stay HI.out (hq3.block _ hgk2))
        have HBr3 := hide (HBr.out.trans (hq3.mono HBr.out.size))
        clear ck' hq3 HI HBr
        go_wp2_with (first | (at_builtin; refine wpList_append_lies _ (by rfl) _ _ 23 (by rfl) w.heap.size 9 i9 _ 1 16 Try.underlying23 hi9 hi9z hi9s hi9b rfl (by omega) (.slice (some ⟨gk, 0, none⟩) M.length ck) M.length _ (by rfl) (HI3.out.alloc _) ⟨w3.heap.size, 0, none⟩ 1 1 [.string s] (by rfl) (by rfl) (World.news_of_block (cs := #[.string s]) (t := 9) (fr := (0, 0)) (heap_alloc_new w3 _)) (by simp [Value.oneCell']) (by omega) (by unfold maxLen; omega) (by omega) (by simp; omega) (w3.heap.size + 1) (by simp) ?_; intro g1 cap1 w4 hown4 hgrow hat hlt4))
        have HBr4 := hide ((HBr3.out.alloc HBr3.out.size (.cells #[.string s] 9)).grown hgrow (by simp; omega) (fun k hk => by cases hk; exact hgk1))
        have HI4 := hide hown4
        clear hown4 hgrow hat
        go_wp2_with fail
        go_roundw
        case rel => exact ⟨x + 1, y, g1, cap1, M ++ [s], by omega, by omega, by simp; omega, by simp, by go_num, by go_num, by rw [List.length_append, strVs, List.map_append]; exact HI4.out, HE1, HBr4.out⟩
        case measure => simp [intOf]; omega
    · -- a key of the second alone
      obtain ⟨s, hs⟩ : ∃ s, K'[y]? = some s := ⟨K'[y]'(by rw [HZ.out.2]; exact hy1), by simp⟩
      have ck' := cell_later HBr.out (HK'.out y s hs)
      have x1 := index_strs (cap := kc') Hka'.out y hy1
      have hstep := drop_of hs
      have hless : ∀ z ∈ K.drop x, sLt s z = true := by
        rcases hA with hyn | ⟨sx, sy, hx1, hsx, hsy, hl, hl2⟩
        · rw [List.drop_eq_nil_of_le (by rw [HZ.out.1]; omega)]
          intro z hz; simp at hz
        · rw [hs] at hsy
          cases hsy
          have e := drop_of hsx
          have hsd : SortedK (K.drop x) := HS.out.1.drop
          rw [e] at hsd ⊢
          exact less_keys hsd hl2
      have HE1 : Hid ((M ++ [s]) ++ un (K.drop x) (K'.drop (y + 1)) = un K K') := by
        refine hide ?_
        rw [← HE.out, hstep, un_right HS.out.1.drop (by rw [← hstep]; exact HS.out.2.drop) hless]
        simp
      have hkb : kb' < w.heap.size := World.block_lt_of_cell? w _ (HK'.out y s hs)
      have hd1 : ((y : Int) == (n2 : Int)) = false := by simp; omega
      clear hstep hless HE
      rcases hA with hyn | ⟨sx, sy, hx1, hsx, hsy, hl, hl2⟩
      case' inl =>
        have hd2 : ((x : Int) == (n1 : Int)) = true := by simp [hyn]
        have hd3 : decide ((x : Int) < (n1 : Int)) = false := by simp; omega
        have hd4 : decide (x < n1) = false := by simp; omega
        clear hs hyn
        go_wp2_with fail
        go_quiet (fail)
        go_wp2_with fail
        go_quiet (fail)
      case' inr =>
        obtain rfl : s = sy := by rw [hs] at hsy; cases hsy; rfl
        have cy := cell_later HBr.out (HK.out x sx hsx)
        have x3 := index_strs (cap := kc) Hka.out x hx1
        have hd2 : ((x : Int) == (n1 : Int)) = false := by simp; omega
        have hd3 : decide ((x : Int) < (n1 : Int)) = true := by simp; omega
        clear hs hsx hsy
        go_wp2_with fail
        go_quiet (fail)
        go_wp2_with fail
        go_quiet (fail)
      all_goals
        generalize hw3 : (wr.drewN _).drewN _ = w3
        have hq3 : Below wr.heap.size wr w3 := by rw [← hw3]; exact below_drewN (below_drewN (Below.refl _ _) _) _
        have hsz3 : wr.heap.size ≤ w3.heap.size := hq3.size
        clear hw3
        have rk := cell_later hq3 ck'
        have HI3 := hide (own_stay HI.out (hq3.block _ hgk2))
        have HBr3 := hide (HBr.out.trans (hq3.mono HBr.out.size))
        clear ck' hq3 HI HBr
        go_wp2_with (first | (at_builtin; refine wpList_append_lies _ (by rfl) _ _ 23 (by rfl) w.heap.size 9 i9 _ 1 16 Try.underlying23 hi9 hi9z hi9s hi9b rfl (by omega) (.slice (some ⟨gk, 0, none⟩) M.length ck) M.length _ (by rfl) (HI3.out.alloc _) ⟨w3.heap.size, 0, none⟩ 1 1 [.string s] (by rfl) (by rfl) (World.news_of_block (cs := #[.string s]) (t := 9) (fr := (0, 0)) (heap_alloc_new w3 _)) (by simp [Value.oneCell']) (by omega) (by unfold maxLen; omega) (by omega) (by simp; omega) (w3.heap.size + 1) (by simp) ?_; intro g1 cap1 w4 hown4 hgrow hat hlt4))
        have HBr4 := hide ((HBr3.out.alloc HBr3.out.size (.cells #[.string s] 9)).grown hgrow (by simp; omega) (fun k hk => by cases hk; exact hgk1))
        have HI4 := hide hown4
        clear hown4 hgrow hat
        go_wp2_with fail
        go_roundw
        case rel => exact ⟨x, y + 1, g1, cap1, M ++ [s], by omega, by omega, by simp; omega, by simp, by go_num, by go_num, by rw [List.length_append, strVs, List.map_append]; exact HI4.out, HE1, HBr4.out⟩
        case measure => simp [intOf]; omega
    · -- a key of both
      obtain ⟨s, hs, hs'⟩ := hA
      have ck' := cell_later HBr.out (HK.out x s hs)
      have cy := cell_later HBr.out (HK'.out y s hs')
      have x1 := index_strs (cap := kc) Hka.out x hx1
      have x3 := index_strs (cap := kc') Hka'.out y hy1
      have HE1 : Hid ((M ++ [s]) ++ un (K.drop (x + 1)) (K'.drop (y + 1)) = un K K') := by
        refine hide ?_
        have hstep := drop_of hs
        have hstep' := drop_of hs'
        rw [← HE.out, hstep, hstep', un_both (by rw [← hstep]; exact HS.out.1.drop) (by rw [← hstep']; exact HS.out.2.drop)]
        simp
      have hd1 : ((y : Int) == (n2 : Int)) = false := by simp; omega
      have hd2 : ((x : Int) == (n1 : Int)) = false := by simp; omega
      have hd3 : decide ((x : Int) < (n1 : Int)) = true := by simp; omega
      have hl := bl_irrefl s.toList
      clear HE hs hs'
      go_wp2_with fail
      go_quiet (fail)
      go_wp2_with fail
      go_quiet (fail)
      generalize hw3 : (wr.drewN _).drewN _ = w3
      have hq3 : Below wr.heap.size wr w3 := by rw [← hw3]; exact below_drewN (below_drewN (Below.refl _ _) _) _
      have hsz3 : wr.heap.size ≤ w3.heap.size := hq3.size
      clear hw3
      have rk := cell_later hq3 ck'
      have HI3 := hide (own_stay HI.out (hq3.block _ hgk2))
      have HBr3 := hide (HBr.out.trans (hq3.mono HBr.out.size))
      clear ck' hq3 HI HBr
      go_wp2_with (first | (at_builtin; refine wpList_append_lies _ (by rfl) _ _ 23 (by rfl) w.heap.size 9 i9 _ 1 16 Try.underlying23 hi9 hi9z hi9s hi9b rfl (by omega) (.slice (some ⟨gk, 0, none⟩) M.length ck) M.length _ (by rfl) (HI3.out.alloc _) ⟨w3.heap.size, 0, none⟩ 1 1 [.string s] (by rfl) (by rfl) (World.news_of_block (cs := #[.string s]) (t := 9) (fr := (0, 0)) (heap_alloc_new w3 _)) (by simp [Value.oneCell']) (by omega) (by unfold maxLen; omega) (by omega) (by simp; omega) (w3.heap.size + 1) (by simp) ?_; intro g1 cap1 w4 hown4 hgrow hat hlt4))
      have HBr4 := hide ((HBr3.out.alloc HBr3.out.size (.cells #[.string s] 9)).grown hgrow (by simp; omega) (fun k hk => by cases hk; exact hgk1))
      have HI4 := hide hown4
      clear hown4 hgrow hat
      go_wp2_with fail
      go_roundw
      case rel => exact ⟨x + 1, y + 1, g1, cap1, M ++ [s], by omega, by omega, by simp; omega, by simp, by go_num, by go_num, by rw [List.length_append, strVs, List.map_append]; exact HI4.out, HE1, HBr4.out⟩
      case measure => simp [intOf]; omega
    · -- both at their end
      have hMe : M = un K K' := by
        have := HE.out
        rw [List.drop_eq_nil_of_le (by rw [HZ.out.1]; omega), List.drop_eq_nil_of_le (by rw [HZ.out.2]; omega), un_nil List.Pairwise.nil, List.append_nil] at this
        exact this
      subst hMe
      have hd3 : decide (x < n1) = false := by simp; omega
      have hd4 : decide (y < n2) = false := by simp; omega
      clear HE
      go_wp2_with fail
      go_ret
      exact ⟨gk, ck, rfl, StrsAt.of_own HI.out trivial, HBr.out⟩
end Go.Proofs.Qxb6616028a
