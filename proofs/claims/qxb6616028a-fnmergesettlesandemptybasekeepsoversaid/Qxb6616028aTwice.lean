/- ZZClone; the law FnMapScalarsTwiceIsClone. -/
import Derived.Test.Qxb6616028aSwapTop
import Derived.Test.Qxb6616028aClone
import Derived.Test.Qxb6616028aEqZZ
import Derived.Test.Qxb6616028aCounts
import Derived.Test.Qxb6616028aTooBig
namespace Go.Proofs.Qxb6616028a
open Go.RowKit

abbrev Five (w : World) (b : Nat) (c0 c1 c2 c3 c4 : Value) : Prop := w.cell? ⟨b, 0, none⟩ = some c0 ∧ w.cell? ⟨b, 1, none⟩ = some c1 ∧ w.cell? ⟨b, 2, none⟩ = some c2 ∧ w.cell? ⟨b, 3, none⟩ = some c3 ∧ w.cell? ⟨b, 4, none⟩ = some c4
theorem five_later {w w' : World} (hb : Below w.heap.size w w') {b : Nat} {c0 c1 c2 c3 c4 : Value} (h : Five w b c0 c1 c2 c3 c4) : Five w' b c0 c1 c2 c3 c4 :=
  ⟨cell_later hb h.1, cell_later hb h.2.1, cell_later hb h.2.2.1, cell_later hb h.2.2.2.1, cell_later hb h.2.2.2.2⟩
theorem five_alloc {w : World} {b : Nat} {c0 c1 c2 c3 c4 : Value} (h : Five w b c0 c1 c2 c3 c4) (o : Obj) : Five (w.alloc o) b c0 c1 c2 c3 c4 := five_later ((Below.refl _ _).alloc (Nat.le_refl _) o) h
theorem five_new {w : World} {b : Nat} {c0 c1 c2 c3 c4 : Value} {ty : TypeId} (hb : b = w.heap.size) : Five (w.alloc (.cells #[c0, c1, c2, c3, c4] ty)) b c0 c1 c2 c3 c4 := by
  subst hb
  refine ⟨?_, ?_, ?_, ?_, ?_⟩ <;> simp

/-- the counts of a swapped tree are the tree's, swapped -/
def C4.swap (c : C4) : C4 := ⟨c.n, c.s, c.f, c.t⟩
theorem C4.swap_add (a b : C4) : (a.add b).swap = a.swap.add b.swap := rfl
theorem foldl_swap : ∀ (l : List C4) (c : C4), (l.map C4.swap).foldl C4.add c.swap = (l.foldl C4.add c).swap
  | [], _ => rfl
  | x :: l, c => by
    rw [List.map_cons, List.foldl_cons, List.foldl_cons, ← C4.swap_add]
    exact foldl_swap l _
theorem cnt_swap : ∀ (n : Nat) (t : Tr n), NF n t → cnt n (swapM n t) = (cnt n t).swap
  | 0, _, h => h.elim
  | n + 1, t, h => by
    have kids : ∀ l : List (Tr n), (∀ x ∈ l, NF n x) → ((l.map (swapM n)).map (cnt n)).foldl C4.add C4.zero = ((l.map (cnt n)).foldl C4.add C4.zero).swap := by
      intro l hl
      have e : (l.map (swapM n)).map (cnt n) = (l.map (cnt n)).map C4.swap := by
        rw [List.map_map, List.map_map]
        exact List.map_congr_left fun x hx => cnt_swap n x (hl x hx)
      rw [e]
      exact foldl_swap _ C4.zero
    rcases h with h | ⟨b, h⟩ | ⟨s, h⟩ | ⟨s, h⟩ | ⟨kvs, hs, h, hk⟩ | ⟨ks, h, hk⟩ <;> obtain rfl := h
    · rfl
    · cases b <;> rfl
    · rfl
    · rfl
    · exact kids (kvs.map (·.2)) (fun x hx => by
        obtain ⟨q, hq, rfl⟩ := List.mem_map.1 hx
        exact hk q hq)
    · exact kids ks hk

set_option maxRecDepth 100000 in
set_option maxHeartbeats 2000000 in
theorem zzclone_calls (N : Nat) (hN : N ≤ 1073741824) (n : Nat) (t : Tr n) (v : Value) (w : World) (hT : TreeAt Whole w n v t) (hS : Small N n t) :
    Calls Try.prog 18 #[v] w (Ret5 fun r w' => TreeAt Whole w' n r (norm n t) ∧ Below w.heap.size w w') := by
  obtain ⟨k, b, s, a1, n1, p1, a2, n2, p2, rfl⟩ := tree_form hT
  have HT := hide (And.intro hT hS)
  clear hT hS
  go_enter Try.func18, Try.ntmps18
  go_wp2_with fail
  have hbW := ((Below.refl w.heap.size w).alloc (Nat.le_refl _) (.cells #[.int .i8 k, .bool b, .string s, .slice a1 n1 p1, .slice a2 n2 p2] 31)).alloc (by simp) (.cells #[.int .i8 0, .bool false, .string { data := #[] }, .slice none 0 0, .slice none 0 0] 31)
  have hR1 : RowF ((w.alloc (.cells #[.int .i8 k, .bool b, .string s, .slice a1 n1 p1, .slice a2 n2 p2] 31)).alloc (.cells #[.int .i8 0, .bool false, .string { data := #[] }, .slice none 0 0, .slice none 0 0] 31)) (w.heap.size + 1) 31 5 0 (fun _ _ => True) := RowF.make _ _ _ _ (by simp) rfl
  refine (build_calls N hN n t _ _ (HT.out.1.below hbW) HT.out.2).mono ?_
  rintro e w2 ⟨r, rfl, hA, hb2⟩
  have hsz2 : w.heap.size + 2 ≤ w2.heap.size := by have := hb2.size; simp at this; omega
  have HR := hide (hR1.kept (hb2.block _ (by simp)))
  have HB := hide (hbW.trans (hb2.mono (by simp; omega)))
  have HA := hide hA.whole
  clear hA hb2 hbW hR1
  go_wp2_with fail
  refine (clone_calls N hN n _ _ _ HA.out (small_norm N n t HT.out.2)).mono ?_
  rintro e w3 ⟨r3, rfl, hA3, hb3⟩
  have hsz3 : w.heap.size + 2 ≤ w3.heap.size := by have := hb3.size; omega
  have HR3 := hide (HR.out.kept (hb3.block _ (by omega)))
  have HB3 := hide (HB.out.trans (hb3.mono (by omega)))
  have HA3 := hide hA3.whole
  clear hA3 hb3
  go_wp2_with fail
  refine (read_calls N hN n _ _ _ HA3.out (small_norm N n t HT.out.2)).mono ?_
  rintro e w4 ⟨k1, b1, s1, x1, y1, z1, x2, y2, z2, rfl, hT4, hb4⟩
  have hsz4 : w3.heap.size ≤ w4.heap.size := hb4.size
  have hr1 := HR3.out.kept (hb4.block _ (by omega))
  obtain ⟨f0, hf0⟩ := hr1.old (j := 0) (by omega)
  obtain ⟨f1, hf1⟩ := hr1.old (j := 1) (by omega)
  obtain ⟨f2, hf2⟩ := hr1.old (j := 2) (by omega)
  obtain ⟨f3, hf3⟩ := hr1.old (j := 3) (by omega)
  obtain ⟨f4, hf4⟩ := hr1.old (j := 4) (by omega)
  have hz0 := hr1.frozen 0
  have hz1 := hr1.frozen 1
  have hz2 := hr1.frozen 2
  have hz3 := hr1.frozen 3
  have hz4 := hr1.frozen 4
  have HT4 := hide hT4
  have HB4 := hide (HB3.out.trans (hb4.mono (by omega)))
  clear hr1 hT4 hb4
  go_wp2_with fail
  refine ret_cell5 Try.results18 (.inr rfl) rfl (set5_range hf0 hf1 hf2 hf3 hf4) rfl ⟨_, _, _, _, _, _, _, _, _, rfl, ?_, HB4.out.trans (set5_below (by omega))⟩
  exact (HT4.out.mono (set5_stay (by show ¬ (w3.heap.size ≤ _); omega)) (fun _ h => h)).whole

set_option maxRecDepth 100000 in
set_option maxHeartbeats 4000000 in
theorem twice_calls (n : Nat) (t : Tr n) (v : Value) (w : World) (hT : TreeAt Whole w n v t) :
    Calls Try.prog 6 #[v] w (fun e w' => e = .returned (.bool true) ∧ Below w.heap.size w w') := by
  obtain ⟨k, b, s, a1, n1, p1, a2, n2, p2, rfl⟩ := tree_form hT
  have HNF := hide (norm_nf n t hT.deep)
  have HT := hide hT
  clear hT
  go_enter Try.func6, Try.ntmps6
  go_wp2_with fail
  have hbW := (Below.refl w.heap.size w).alloc (Nat.le_refl _) (.cells #[.int .i8 k, .bool b, .string s, .slice a1 n1 p1, .slice a2 n2 p2] 26)
  have hF := five_new (w := w) (b := w.heap.size) (c0 := .int .i8 k) (c1 := .bool b) (c2 := .string s) (c3 := .slice a1 n1 p1) (c4 := .slice a2 n2 p2) (ty := 26) rfl
  refine (bytes_calls n t _ _ _ (HT.out.below hbW) (by omega) (by omega)).mono ?_
  rintro e w1 ⟨r, rfl, hr0, hr1, hrS, hb1⟩
  have HS := hide hrS
  have HB1 := hide (hbW.trans (hb1.mono (by simp)))
  have hs1 : w.heap.size + 1 ≤ w1.heap.size := by have := hb1.size; simp at this; omega
  have HF1 := hide (five_later hb1 hF)
  clear hrS hb1 hbW hF
  by_cases hbig : 1048576 < r
  · go_wp2_with fail
    go_ret
    exact ⟨rfl, HB1.out⟩
  · have HSM := hide (HS.out (by omega))
    obtain ⟨b0, b1, b2, b3, b4⟩ := HF1.out
    go_wp2_with fail
    refine (norm_calls 1048576 (by omega) n t _ _ (HT.out.below HB1.out) HSM.out).mono ?_
    rintro e w2 ⟨kn, bn, sn, an1, nn1, pn1, an2, nn2, pn2, rfl, hTn, hb2⟩
    have HB2 := hide (HB1.out.trans (hb2.mono (by omega)))
    have HF2 := hide (five_later hb2 HF1.out)
    obtain ⟨d0, d1, d2, d3, d4⟩ := HF2.out
    have hs2 : w.heap.size < w2.heap.size := by have := hb2.size; omega
    have HTn := hide hTn.whole
    clear hTn hb2 b0 b1 b2 b3 b4
    go_wp2_with fail
    have hbx := (Below.refl w2.heap.size w2).alloc (Nat.le_refl _) (.cells #[.int .i8 kn, .bool bn, .string sn, .slice an1 nn1 pn1, .slice an2 nn2 pn2] 26)
    have hFn := five_new (w := w2) (b := w2.heap.size) (c0 := .int .i8 kn) (c1 := .bool bn) (c2 := .string sn) (c3 := .slice an1 nn1 pn1) (c4 := .slice an2 nn2 pn2) (ty := 26) rfl
    refine (tozz_calls 1048576 (by omega) n t _ _ (HT.out.below (HB2.out.trans (hbx.mono (by omega)))) HSM.out).mono ?_
    rintro e w3 ⟨kz, bz, sz, az1, nz1, pz1, az2, nz2, pz2, rfl, hTz, hb3⟩
    have hbx3 := hbx.trans (hb3.mono (by simp))
    have HB3 := hide (HB2.out.trans (hbx3.mono (by omega)))
    have HF3 := hide (And.intro (five_later hbx3 HF2.out) (five_later hb3 hFn))
    have HTn3 := hide (HTn.out.below hbx3)
    have HTz := hide hTz.whole
    have hs3 : w2.heap.size + 1 ≤ w3.heap.size := by have := hb3.size; simp at this; omega
    clear hTz hb3 hbx hbx3 d0 d1 d2 d3 d4 HTn hFn
    go_wp2_with fail
    refine (zzswap_calls 1048576 (by omega) n t _ _ HTz.out HSM.out).mono ?_
    rintro e w4 ⟨kg, bg, sg, ag1, ng1, pg1, ag2, ng2, pg2, kf, bf, sf, af1, nf1, pf1, af2, nf2, pf2, rfl, hTg, hTf, hb4⟩
    have HB4 := hide (HB3.out.trans (hb4.mono HB3.out.size))
    have HT4 := hide (And.intro (HTn3.out.below hb4) hTg)
    have HF4 := hide (And.intro (five_later hb4 HF3.out.1) (five_later hb4 HF3.out.2))
    have hs4 : w2.heap.size + 1 ≤ w4.heap.size := by have := hb4.size; omega
    clear hTg hTf hb4 HTn3
    go_wp2_with fail
    -- once lies in a box; it is swapped again
    have hbx4 := ((Below.refl w4.heap.size w4).alloc (Nat.le_refl _) (.cells #[.int .i8 kg, .bool bg, .string sg, .slice ag1 ng1 pg1, .slice ag2 ng2 pg2] 31)).alloc (by simp) (.cells #[.int .i8 kf, .bool bf, .string sf, .slice af1 nf1 pf1, .slice af2 nf2 pf2] 31)
    have hFg := five_alloc (five_new (w := w4) (b := w4.heap.size) (c0 := .int .i8 kg) (c1 := .bool bg) (c2 := .string sg) (c3 := .slice ag1 ng1 pg1) (c4 := .slice ag2 ng2 pg2) (ty := 31) rfl) (.cells #[.int .i8 kf, .bool bf, .string sf, .slice af1 nf1 pf1, .slice af2 nf2 pf2] 31)
    have HSW := hide (small_swap 1048576 n _ (small_norm 1048576 n t HSM.out))
    refine (zzswap_calls 1048576 (by omega) n _ _ _ (HT4.out.2.below hbx4) HSW.out).mono ?_
    rintro e w5 ⟨ku, bu, su, au1, nu1, pu1, au2, nu2, pu2, ky, yb, ys, ay1, ny1, py1, ay2, ny2, py2, rfl, hTu, hTy, hb5⟩
    have e1 : swapM n (norm n (swapM n (norm n t))) = norm n t := by
      rw [nf_norm n _ (nf_swap n _ HNF.out)]; exact swap_swap n _ HNF.out
    rw [e1] at hTu
    have hbx5 := hbx4.trans (hb5.mono (by simp; omega))
    have HB5 := hide (HB4.out.trans (hbx5.mono HB4.out.size))
    have HT5 := hide (And.intro (HT4.out.1.below hbx5) (And.intro (HT4.out.2.below hbx5) hTu))
    have HF5 := hide (And.intro (five_later hbx5 HF4.out.1) (And.intro (five_later hbx5 HF4.out.2) (five_later hb5 hFg)))
    obtain ⟨f0, f1, f2, f3, f4⟩ := HF5.out.1
    have hs5 : w4.heap.size + 2 ≤ w5.heap.size := by have := hb5.size; simp at this; omega
    have hs5' : w.heap.size < w5.heap.size := by omega
    clear hTu hTy hb5 hbx4 hbx5 hFg e1
    go_wp2_with fail
    have hbx5 := ((Below.refl w5.heap.size w5).alloc (Nat.le_refl _) (.cells #[.int .i8 ku, .bool bu, .string su, .slice au1 nu1 pu1, .slice au2 nu2 pu2] 31)).alloc (by simp) (.cells #[.int .i8 ky, .bool yb, .string ys, .slice ay1 ny1 py1, .slice ay2 ny2 py2] 31)
    have hFu := five_alloc (five_new (w := w5) (b := w5.heap.size) (c0 := .int .i8 ku) (c1 := .bool bu) (c2 := .string su) (c3 := .slice au1 nu1 pu1) (c4 := .slice au2 nu2 pu2) (ty := 31) rfl) (.cells #[.int .i8 ky, .bool yb, .string ys, .slice ay1 ny1 py1, .slice ay2 ny2 py2] 31)
    refine (tozz_calls 1048576 (by omega) n t _ _ (HT.out.below (HB5.out.trans (hbx5.mono (by omega)))) HSM.out).mono ?_
    rintro e w6 ⟨kq, bq, sq, aq1, nq1, pq1, aq2, nq2, pq2, rfl, hTq, hb6⟩
    have hbx6 := hbx5.trans (hb6.mono (by simp; omega))
    have HB6 := hide (HB5.out.trans (hbx6.mono HB5.out.size))
    have HT6 := hide (And.intro (HT5.out.1.below hbx6) (And.intro (HT5.out.2.1.below hbx6) (HT5.out.2.2.below hbx6)))
    have HF6 := hide (And.intro (five_later hbx6 HF5.out.2.1) (And.intro (five_later hbx6 HF5.out.2.2) (five_later hb6 hFu)))
    have HTq := hide hTq.whole
    have hs6 : w5.heap.size + 2 ≤ w6.heap.size := by have := hb6.size; simp at this; omega
    clear hTq hb6 hbx5 hbx6 hFu f0 f1 f2 f3 f4
    go_wp2_with fail
    refine (zzclone_calls 1048576 (by omega) n t _ _ HTq.out HSM.out).mono ?_
    rintro e w7 ⟨kc, bc, sc, ac1, nc1, pc1, ac2, nc2, pc2, rfl, hTc, hb7⟩
    have HB7 := hide (HB6.out.trans (hb7.mono HB6.out.size))
    have HT7 := hide (And.intro (HT6.out.1.below hb7) (And.intro (HT6.out.2.1.below hb7) (And.intro (HT6.out.2.2.below hb7) hTc)))
    have HF7 := hide (And.intro (five_later hb7 HF6.out.1) (And.intro (five_later hb7 HF6.out.2.1) (five_later hb7 HF6.out.2.2)))
    have hs7 : w6.heap.size ≤ w7.heap.size := hb7.size
    clear hTc hb7
    obtain ⟨g0, g1, g2, g3, g4⟩ := HF7.out.2.1
    have hl7 : w4.heap.size < w7.heap.size := by omega
    go_wp2_with fail
    have hbx7 := (Below.refl w7.heap.size w7).alloc (Nat.le_refl _) (.cells #[.int .i8 kc, .bool bc, .string sc, .slice ac1 nc1 pc1, .slice ac2 nc2 pc2] 31)
    have hFc := five_new (w := w7) (b := w7.heap.size) (c0 := .int .i8 kc) (c1 := .bool bc) (c2 := .string sc) (c3 := .slice ac1 nc1 pc1) (c4 := .slice ac2 nc2 pc2) (ty := 31) rfl
    refine (countsZZ_calls n _ _ _ (HT7.out.2.1.below hbx7)).mono ?_
    rintro e w8 ⟨rfl, hb8⟩
    have hbx8 := hbx7.trans (hb8.mono (by simp))
    have HB8 := hide (HB7.out.trans (hbx8.mono HB7.out.size))
    have HT8 := hide (And.intro (HT7.out.1.below hbx8) (And.intro (HT7.out.2.2.1.below hbx8) (HT7.out.2.2.2.below hbx8)))
    have HF8 := hide (And.intro (five_later hbx8 HF7.out.1) (And.intro (five_later hbx8 HF7.out.2.2) (five_later hb8 hFc)))
    have HCS := hide (cnt_swap n _ HNF.out)
    clear hb8 hbx7 hbx8 hFc g0 g1 g2 g3 g4
    obtain ⟨h0, h1, h2, h3, h4⟩ := HF8.out.1
    obtain ⟨c, hc⟩ : ∃ c, c = cnt n (norm n t) := ⟨_, rfl⟩
    rw [HCS.out, ← hc]
    obtain ⟨cs, cn, ct, cf⟩ := c
    have HC := hide hc
    clear hc HCS
    dsimp only [c4V, C4.swap]
    go_wp2_with fail
    refine (countsT_calls n (norm n t) _ _ HT8.out.1).mono ?_
    rintro e w9 ⟨rfl, hb9⟩
    rw [← HC.out]
    have HB9 := hide (HB8.out.trans (hb9.mono HB8.out.size))
    have HT9 := hide (And.intro (HT8.out.1.below hb9) (And.intro (HT8.out.2.1.below hb9) (HT8.out.2.2.below hb9)))
    obtain ⟨⟨i0, i1, i2, i3, i4⟩, ⟨j0, j1, j2, j3, j4⟩, l0, l1, l2, l3, l4⟩ : (Five w9 w2.heap.size (.int .i8 kn) (.bool bn) (.string sn) (.slice an1 nn1 pn1) (.slice an2 nn2 pn2)) ∧ (Five w9 w5.heap.size (.int .i8 ku) (.bool bu) (.string su) (.slice au1 nu1 pu1) (.slice au2 nu2 pu2)) ∧ Five w9 w7.heap.size (.int .i8 kc) (.bool bc) (.string sc) (.slice ac1 nc1 pc1) (.slice ac2 nc2 pc2) := ⟨five_later hb9 HF8.out.1, five_later hb9 HF8.out.2.1, five_later hb9 HF8.out.2.2⟩
    clear hb9 h0 h1 h2 h3 h4
    dsimp only [c4V]
    go_wp2_with fail
    refine (eqZZ_calls n _ _ _ w9 HT9.out.2.1 HT9.out.2.2).mono ?_
    rintro e w10 ⟨rfl, hb10⟩
    have HB10 := hide (HB9.out.trans (hb10.mono HB9.out.size))
    have HT10 := hide (And.intro (HT9.out.1.below hb10) (HT9.out.2.2.below hb10))
    obtain ⟨u0, u1, u2, u3, u4⟩ := five_later hb10 ⟨i0, i1, i2, i3, i4⟩
    obtain ⟨v0, v1, v2, v3, v4⟩ := five_later hb10 ⟨l0, l1, l2, l3, l4⟩
    clear hb10 i0 i1 i2 i3 i4 j0 j1 j2 j3 j4 l0 l1 l2 l3 l4
    go_wp2_with fail
    refine (eqTZ_calls n _ _ _ w10 HT10.out.1 HT10.out.2).mono ?_
    rintro e w11 ⟨rfl, hb11⟩
    have HB11 := hide (HB10.out.trans (hb11.mono HB10.out.size))
    clear hb11
    go_wp2_with fail
    go_ret
    exact ⟨rfl, HB11.out⟩
end Go.Proofs.Qxb6616028a
