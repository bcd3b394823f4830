/- ZZMerge: both trees built, merged, all three read out. -/
import Derived.Test.Qxb6616028aSwapTop
import Derived.Test.Qxb6616028aMergeMap
import Derived.Test.Qxb6616028aTooBig
namespace Go.Proofs.Qxb6616028a
open Go.RowKit

section
variable {α : Type}
theorem mem_ins_weak {k : ByteArray} {v : α} : ∀ {l : List (ByteArray × α)} {p}, p ∈ ins k v l → p = (k, v) ∨ p ∈ l
  | [], p, h => by simp [ins] at h; exact .inl h
  | q :: r, p, h => by
    unfold ins at h
    split at h
    · exact List.mem_cons.1 h
    · split at h
      · rcases List.mem_cons.1 h with rfl | h
        · exact .inr List.mem_cons_self
        · exact or_turn (mem_ins_weak h) id (List.mem_cons_of_mem _)
      · exact or_turn (List.mem_cons.1 h) id (List.mem_cons_of_mem _)
theorem mem_fo_weak (g : ByteArray × α → α) : ∀ {o m : List (ByteArray × α)} {p}, p ∈ fo g o m → p ∈ m ∨ ∃ q ∈ o, p = (q.1, g q)
  | [], _, _, h => .inl h
  | q :: o, m, p, h => by
    rw [fo_cons] at h
    rcases mem_fo_weak g h with h | ⟨r, hr, rfl⟩
    · rcases mem_ins_weak h with rfl | h
      · exact .inr ⟨q, List.mem_cons_self, rfl⟩
      · exact .inl h
    · exact .inr ⟨r, List.mem_cons_of_mem _ hr, rfl⟩
theorem length_fo (g : ByteArray × α → α) : ∀ (o m : List (ByteArray × α)), (fo g o m).length ≤ m.length + o.length
  | [], m => by simp [fo_nil]
  | q :: o, m => by
    rw [fo_cons]
    have h1 := length_fo g o (ins q.1 (g q) m)
    have h2 := length_ins_le q.1 (g q) m
    simp only [List.length_cons]
    omega
theorem length_jn (f : α → α → α) (b o : List (ByteArray × α)) : (jn f b o).length ≤ b.length + o.length := length_fo _ o b
theorem mem_jn_weak (f : α → α → α) {b o : List (ByteArray × α)} {p : ByteArray × α} (h : p ∈ jn f b o) : p ∈ b ∨ p ∈ o ∨ ∃ k u v, (k, u) ∈ b ∧ (k, v) ∈ o ∧ p.2 = f u v := by
  unfold jn at h
  rcases mem_fo_weak _ h with h | ⟨q, hq, rfl⟩
  · exact .inl h
  · cases e : look q.1 b with
    | none => exact .inr (.inl hq)
    | some u => exact .inr (.inr ⟨q.1, u, q.2, look_mem e, hq, rfl⟩)
end

theorem small_mono {N M : Nat} (h : N ≤ M) : ∀ (n : Nat) (t : Tr n), Small N n t → Small M n t
  | 0, _, _ => trivial
  | n + 1, _, hs => ⟨Nat.le_trans hs.1 h, Nat.le_trans hs.2.1 h, fun k hk => small_mono h n k (hs.2.2 k hk)⟩

theorem small_merge (N : Nat) : ∀ (n : Nat) (tb to : Tr n), Small N n tb → Small N n to → Small (N + N) n (mergeT n tb to)
  | 0, _, _, _, _ => trivial
  | n + 1, tb, to, hb, ho => by
    have ih := small_merge N n
    by_cases hk : Node.kind tb = 4 ∧ Node.kind to = 4
    · refine ((mergeT_succ n tb to).trans (if_pos hk)) ▸ ?_
      have hl' : (jn (mergeT n) ((Node.keys tb).zip (Node.kids tb)) ((Node.keys to).zip (Node.kids to))).length ≤ N + N := by
        refine Nat.le_trans (length_jn _ _ _) ?_
        rw [List.length_zip, List.length_zip]
        have h1 := hb.1
        have h2 := ho.1
        have h3 : min (Node.keys tb).length (Node.kids tb).length ≤ (Node.keys tb).length := Nat.min_le_left _ _
        have h4 : min (Node.keys to).length (Node.kids to).length ≤ (Node.keys to).length := Nat.min_le_left _ _
        exact Nat.add_le_add (Nat.le_trans h3 h1) (Nat.le_trans h4 h2)
      refine ⟨by rw [List.length_map]; exact hl', by rw [List.length_map]; exact hl', fun x hx => ?_⟩
      obtain ⟨q, hq, rfl⟩ := List.mem_map.1 hx
      rcases mem_jn_weak _ hq with h | h | ⟨k, u, v, h1, h2, h3⟩
      · exact small_mono (Nat.le_add_right N N) n _ (hb.2.2 _ (List.of_mem_zip h).2)
      · exact small_mono (Nat.le_add_right N N) n _ (ho.2.2 _ (List.of_mem_zip h).2)
      · rw [h3]
        exact ih _ _ (hb.2.2 _ (List.of_mem_zip h1).2) (ho.2.2 _ (List.of_mem_zip h2).2)
    · have e : mergeT (n + 1) tb to = to := (mergeT_succ n tb to).trans (if_neg hk)
      rw [e]
      exact small_mono (Nat.le_add_right N N) (n + 1) to ho

/-- three results in boxes of five cells -/
theorem ret_cells3 {fn : Func} {p q s : Tmp} {ty : TypeId} (h : fn.results = #[.cell p ty, .cell q ty, .cell s ty]) (hty : ty = 26 ∨ ty = 31) {a : Act} {w : World} {b o b' o' b'' o'' : Nat} {c0 c1 c2 c3 c4 d0 d1 d2 d3 d4 e0 e1 e2 e3 e4 : Value} {R : Ending → World → Prop}
    (hp : a.tmps.getD p undef = .pointer (some ⟨b, o, none⟩)) (hq : a.tmps.getD q undef = .pointer (some ⟨b', o', none⟩)) (hs : a.tmps.getD s undef = .pointer (some ⟨b'', o'', none⟩))
    (hr : w.rangeAt b o [c0, c1, c2, c3, c4]) (hr' : w.rangeAt b' o' [d0, d1, d2, d3, d4]) (hr'' : w.rangeAt b'' o'' [e0, e1, e2, e3, e4]) (hd : a.defers = [])
    (hR : R (.returned (.tuple #[.agg #[c0, c1, c2, c3, c4], .agg #[d0, d1, d2, d3, d4], .agg #[e0, e1, e2, e3, e4]])) w) : bodyPost Try.prog fn R .ret a w := by
  refine bodyPost_ret (v := .tuple #[.agg #[c0, c1, c2, c3, c4], .agg #[d0, d1, d2, d3, d4], .agg #[e0, e1, e2, e3, e4]]) ?_ hd hR
  simp only [Array.getD_eq_getD_getElem?] at hp hq hs
  simp [results, h, hp, hq, hs, asAddr, load5v ty hty hr, load5v ty hty hr', load5v ty hty hr'']

def Ret555 (R : Value → Value → Value → World → Prop) (e : Ending) (w' : World) : Prop :=
  ∃ k b s a1 n1 p1 a2 n2 p2 k' b' s' a1' n1' p1' a2' n2' p2' k'' b'' s'' a1'' n1'' p1'' a2'' n2'' p2'',
    e = .returned (.tuple #[.agg #[.int .i8 k, .bool b, .string s, .slice a1 n1 p1, .slice a2 n2 p2], .agg #[.int .i8 k', .bool b', .string s', .slice a1' n1' p1', .slice a2' n2' p2'], .agg #[.int .i8 k'', .bool b'', .string s'', .slice a1'' n1'' p1'', .slice a2'' n2'' p2'']]) ∧
    R (.agg #[.int .i8 k, .bool b, .string s, .slice a1 n1 p1, .slice a2 n2 p2]) (.agg #[.int .i8 k', .bool b', .string s', .slice a1' n1' p1', .slice a2' n2' p2']) (.agg #[.int .i8 k'', .bool b'', .string s'', .slice a1'' n1'' p1'', .slice a2'' n2'' p2'']) w'

/-- the block of a box is not touched by a store into another -/
theorem stay_set5 {B : Nat} {w : World} {b o : Nat} {c0 c1 c2 c3 c4 : Value} (h : b < B) : Stay (From B) w (set5 w b o c0 c1 c2 c3 c4) := set5_stay (by show ¬ (B ≤ b); omega)

set_option maxRecDepth 100000 in
set_option maxHeartbeats 4000000 in
theorem zzmerge_calls (N : Nat) (hN : N ≤ 536870912) (n : Nat) (tb to : Tr n) (vb vo : Value) (w : World) (hb : TreeAt Whole w n vb tb) (ho : TreeAt Whole w n vo to) (hsb : Small N n tb) (hso : Small N n to) :
    Calls Try.prog 9 #[vb, vo] w (Ret555 fun r r' r'' w' => TreeAt (From w.heap.size) w' n r (mergeT n (norm n tb) (norm n to)) ∧ TreeAt (From w.heap.size) w' n r' (norm n tb) ∧ TreeAt (From w.heap.size) w' n r'' (norm n to) ∧ Below w.heap.size w w') := by
  obtain ⟨k, b, s, a1, n1, p1, a2, n2, p2, rfl⟩ := tree_form hb
  obtain ⟨k', b', s', a1', n1', p1', a2', n2', p2', rfl⟩ := tree_form ho
  have HT := hide (And.intro hb ho)
  have HS := hide (And.intro (small_norm N n tb hsb) (small_norm N n to hso))
  have HSS := hide (And.intro hsb hso)
  clear hb ho hsb hso
  go_enter Try.func9, Try.ntmps9
  go_wp2_with fail
  have hbW := (((((Below.refl w.heap.size w).alloc (Nat.le_refl _) (.cells #[.int .i8 k, .bool b, .string s, .slice a1 n1 p1, .slice a2 n2 p2] 31)).alloc (by simp) (.cells #[.int .i8 k', .bool b', .string s', .slice a1' n1' p1', .slice a2' n2' p2'] 31)).alloc (by simp; omega) (.cells #[.int .i8 0, .bool false, .string { data := #[] }, .slice none 0 0, .slice none 0 0] 31)).alloc (by simp; omega) (.cells #[.int .i8 0, .bool false, .string { data := #[] }, .slice none 0 0, .slice none 0 0] 31)).alloc (by simp; omega) (.cells #[.int .i8 0, .bool false, .string { data := #[] }, .slice none 0 0, .slice none 0 0] 31)
  generalize hW1 : ((((w.alloc (.cells #[.int .i8 k, .bool b, .string s, .slice a1 n1 p1, .slice a2 n2 p2] 31)).alloc (.cells #[.int .i8 k', .bool b', .string s', .slice a1' n1' p1', .slice a2' n2' p2'] 31)).alloc (.cells #[.int .i8 0, .bool false, .string { data := #[] }, .slice none 0 0, .slice none 0 0] 31)).alloc (.cells #[.int .i8 0, .bool false, .string { data := #[] }, .slice none 0 0, .slice none 0 0] 31)).alloc (.cells #[.int .i8 0, .bool false, .string { data := #[] }, .slice none 0 0, .slice none 0 0] 31) = w1 at *
  have hsz1 : w1.heap.size = w.heap.size + 5 := by rw [← hW1]; simp
  have hR1 : RowF w1 (w.heap.size + 2) 31 5 0 (fun _ _ => True) := by rw [← hW1]; exact ((RowF.make _ _ _ _ (by simp) rfl).alloc _).alloc _
  have hR2 : RowF w1 (w.heap.size + 3) 31 5 0 (fun _ _ => True) := by rw [← hW1]; exact (RowF.make _ _ _ _ (by simp) rfl).alloc _
  have hR3 : RowF w1 (w.heap.size + 4) 31 5 0 (fun _ _ => True) := by rw [← hW1]; exact RowF.make _ _ _ _ (by simp) rfl
  have x0 : w1.cell? ⟨w.heap.size + 1, 0, none⟩ = some (.int .i8 k') := by rw [← hW1, World.cell?_alloc_past _ _ _ (by simp), World.cell?_alloc_past _ _ _ (by simp), World.cell?_alloc_past _ _ _ (by simp)]; simp
  have x1 : w1.cell? ⟨w.heap.size + 1, 1, none⟩ = some (.bool b') := by rw [← hW1, World.cell?_alloc_past _ _ _ (by simp), World.cell?_alloc_past _ _ _ (by simp), World.cell?_alloc_past _ _ _ (by simp)]; simp
  have x2 : w1.cell? ⟨w.heap.size + 1, 2, none⟩ = some (.string s') := by rw [← hW1, World.cell?_alloc_past _ _ _ (by simp), World.cell?_alloc_past _ _ _ (by simp), World.cell?_alloc_past _ _ _ (by simp)]; simp
  have x3 : w1.cell? ⟨w.heap.size + 1, 3, none⟩ = some (.slice a1' n1' p1') := by rw [← hW1, World.cell?_alloc_past _ _ _ (by simp), World.cell?_alloc_past _ _ _ (by simp), World.cell?_alloc_past _ _ _ (by simp)]; simp
  have x4 : w1.cell? ⟨w.heap.size + 1, 4, none⟩ = some (.slice a2' n2' p2') := by rw [← hW1, World.cell?_alloc_past _ _ _ (by simp), World.cell?_alloc_past _ _ _ (by simp), World.cell?_alloc_past _ _ _ (by simp)]; simp
  clear hW1
  have hT1 := And.intro (HT.out.1.below hbW) (HT.out.2.below hbW)
  refine (build_calls N (by omega) n tb _ _ hT1.1 HSS.out.1).mono ?_
  rintro e w2 ⟨r, rfl, hA, hb2⟩
  have hsz2 : w.heap.size + 5 ≤ w2.heap.size := by have := hb2.size; omega
  have HR := hide (And.intro (hR1.kept (hb2.block _ (by omega))) (And.intro (hR2.kept (hb2.block _ (by omega))) (hR3.kept (hb2.block _ (by omega)))))
  have y0 := cell_later hb2 x0
  have y1 := cell_later hb2 x1
  have y2 := cell_later hb2 x2
  have y3 := cell_later hb2 x3
  have y4 := cell_later hb2 x4
  have HA := hide hA.whole
  have HO := hide (hT1.2.below hb2)
  have HB := hide (hbW.trans (hb2.mono (by omega)))
  clear hT1 hA hb2 hbW hR1 hR2 hR3 x0 x1 x2 x3 x4 HT hsz1
  go_wp2_with fail
  refine (build_calls N (by omega) n to _ _ HO.out HSS.out.2).mono ?_
  rintro e w3 ⟨r3, rfl, hA3, hb3⟩
  have hsz3 : w.heap.size + 5 ≤ w3.heap.size := by have := hb3.size; omega
  have HR3 := hide (And.intro (HR.out.1.kept (hb3.block _ (by omega))) (And.intro (HR.out.2.1.kept (hb3.block _ (by omega))) (HR.out.2.2.kept (hb3.block _ (by omega)))))
  have HA3 := hide (And.intro (HA.out.below hb3) hA3.whole)
  have HB3 := hide (HB.out.trans (hb3.mono (by omega)))
  clear hA3 hb3 y0 y1 y2 y3 y4 HR HA HO HB
  go_wp2_with fail
  refine (merge_calls N (by omega) n _ _ _ _ _ HA3.out.1 HA3.out.2 HS.out.1 HS.out.2).mono ?_
  rintro e w4 ⟨r4, rfl, hA4, hb4⟩
  have hsz4 : w.heap.size + 5 ≤ w4.heap.size := by have := hb4.size; omega
  have HR4 := hide (And.intro (HR3.out.1.kept (hb4.block _ (by omega))) (And.intro (HR3.out.2.1.kept (hb4.block _ (by omega))) (HR3.out.2.2.kept (hb4.block _ (by omega)))))
  have HA4 := hide (And.intro hA4.whole (And.intro (HA3.out.1.below hb4) (HA3.out.2.below hb4)))
  have HB4 := hide (HB3.out.trans (hb4.mono (by omega)))
  clear hA4 hb4 HR3 HA3 HB3
  go_wp2_with fail
  refine (read_calls (N + N) (by omega) n _ _ _ HA4.out.1 (small_merge N n _ _ HS.out.1 HS.out.2)).mono ?_
  rintro e w5 ⟨k1, b1, s1, f1, g1, z1, f2, g2, z2, rfl, hT5, hb5⟩
  have hsz5 : w4.heap.size ≤ w5.heap.size := hb5.size
  have HR5 := hide (And.intro (HR4.out.1.kept (hb5.block _ (by omega))) (And.intro (HR4.out.2.1.kept (hb5.block _ (by omega))) (HR4.out.2.2.kept (hb5.block _ (by omega)))))
  have HT5 := hide hT5
  have HA5 := hide (And.intro (HA4.out.2.1.below hb5) (HA4.out.2.2.below hb5))
  have HB5 := hide (HB4.out.trans (hb5.mono (by omega)))
  clear hT5 hb5 HR4 HA4 HB4
  go_wp2_with fail
  refine (read_calls N (by omega) n _ _ _ HA5.out.1 HS.out.1).mono ?_
  rintro e w6 ⟨k2, b2, s2, l1, m1, t1, l2, m2, t2, rfl, hT6, hb6⟩
  have hsz6 : w5.heap.size ≤ w6.heap.size := hb6.size
  have HR6 := hide (And.intro (HR5.out.1.kept (hb6.block _ (by omega))) (And.intro (HR5.out.2.1.kept (hb6.block _ (by omega))) (HR5.out.2.2.kept (hb6.block _ (by omega)))))
  have HT6 := hide (And.intro (HT5.out.below hb6) hT6)
  have HA6 := hide (HA5.out.2.below hb6)
  have HB6 := hide (HB5.out.trans (hb6.mono (by omega)))
  clear hT6 hb6 HR5 HA5 HB5 HT5
  go_wp2_with fail
  refine (read_calls N (by omega) n _ _ _ HA6.out HS.out.2).mono ?_
  rintro e w7 ⟨k3, b3, s3, u1, v1, q1, u2, v2, q2, rfl, hT7, hb7⟩
  have hsz7 : w6.heap.size ≤ w7.heap.size := hb7.size
  have hr1 := HR6.out.1.kept (hb7.block _ (by omega))
  have hr2 := HR6.out.2.1.kept (hb7.block _ (by omega))
  have hr3 := HR6.out.2.2.kept (hb7.block _ (by omega))
  obtain ⟨f0, hf0⟩ := hr1.old (j := 0) (by omega)
  obtain ⟨f1, hf1⟩ := hr1.old (j := 1) (by omega)
  obtain ⟨f2, hf2⟩ := hr1.old (j := 2) (by omega)
  obtain ⟨f3, hf3⟩ := hr1.old (j := 3) (by omega)
  obtain ⟨f4, hf4⟩ := hr1.old (j := 4) (by omega)
  obtain ⟨g0, hg0⟩ := hr2.old (j := 0) (by omega)
  obtain ⟨g1, hg1⟩ := hr2.old (j := 1) (by omega)
  obtain ⟨g2, hg2⟩ := hr2.old (j := 2) (by omega)
  obtain ⟨g3, hg3⟩ := hr2.old (j := 3) (by omega)
  obtain ⟨g4, hg4⟩ := hr2.old (j := 4) (by omega)
  obtain ⟨j0, hj0⟩ := hr3.old (j := 0) (by omega)
  obtain ⟨j1, hj1⟩ := hr3.old (j := 1) (by omega)
  obtain ⟨j2, hj2⟩ := hr3.old (j := 2) (by omega)
  obtain ⟨j3, hj3⟩ := hr3.old (j := 3) (by omega)
  obtain ⟨j4, hj4⟩ := hr3.old (j := 4) (by omega)
  have hz0 := hr1.frozen 0
  have hz1 := hr1.frozen 1
  have hz2 := hr1.frozen 2
  have hz3 := hr1.frozen 3
  have hz4 := hr1.frozen 4
  have hy0 := hr2.frozen 0
  have hy1 := hr2.frozen 1
  have hy2 := hr2.frozen 2
  have hy3 := hr2.frozen 3
  have hy4 := hr2.frozen 4
  have hx0 := hr3.frozen 0
  have hx1 := hr3.frozen 1
  have hx2 := hr3.frozen 2
  have hx3 := hr3.frozen 3
  have hx4 := hr3.frozen 4
  have HT7 := hide (And.intro (HT6.out.1.below hb7) (And.intro (HT6.out.2.below hb7) hT7))
  have HB7 := hide (HB6.out.trans (hb7.mono (by omega)))
  clear hr1 hr2 hr3 hT7 hb7 HR6 HT6 HA6 HB6
  go_wp2_with fail
  have hne : w.heap.size + 2 ≠ w.heap.size + 3 := by omega
  have hne' : w.heap.size + 2 ≠ w.heap.size + 4 := by omega
  have hne2 : w.heap.size + 3 ≠ w.heap.size + 2 := by omega
  have hne2' : w.heap.size + 3 ≠ w.heap.size + 4 := by omega
  have hne3 : w.heap.size + 4 ≠ w.heap.size + 2 := by omega
  have hne3' : w.heap.size + 4 ≠ w.heap.size + 3 := by omega
  refine ret_cells3 Try.results9 (.inr rfl) rfl rfl rfl (range_set5_other (range_set5_other (set5_range hf0 hf1 hf2 hf3 hf4) hne) hne')
    (range_set5_other (set5_range (cell_set5_other hg0 hne2) (cell_set5_other hg1 hne2) (cell_set5_other hg2 hne2) (cell_set5_other hg3 hne2) (cell_set5_other hg4 hne2)) hne2')
    (set5_range (cell_set5_other (cell_set5_other hj0 hne3) hne3') (cell_set5_other (cell_set5_other hj1 hne3) hne3') (cell_set5_other (cell_set5_other hj2 hne3) hne3') (cell_set5_other (cell_set5_other hj3 hne3) hne3') (cell_set5_other (cell_set5_other hj4 hne3) hne3')) rfl
    ⟨_, _, _, _, _, _, _, _, _, _, _, _, _, _, _, _, _, _, _, _, _, _, _, _, _, _, _, rfl, ?_, ?_, ?_, ((HB7.out.trans (set5_below (by omega))).trans (set5_below (by omega))).trans (set5_below (by omega))⟩
  · exact ((HT7.out.1.mono (stay_set5 (by omega)) (fun _ h => h)).mono (stay_set5 (by omega)) (fun _ h => h)).mono (stay_set5 (by omega)) (fun c hc => Nat.le_trans (by omega) hc)
  · exact ((HT7.out.2.1.mono (stay_set5 (by omega)) (fun _ h => h)).mono (stay_set5 (by omega)) (fun _ h => h)).mono (stay_set5 (by omega)) (fun c hc => Nat.le_trans (by omega) hc)
  · exact ((HT7.out.2.2.mono (stay_set5 (by omega)) (fun _ h => h)).mono (stay_set5 (by omega)) (fun _ h => h)).mono (stay_set5 (by omega)) (fun c hc => Nat.le_trans (by omega) hc)
end Go.Proofs.Qxb6616028a
