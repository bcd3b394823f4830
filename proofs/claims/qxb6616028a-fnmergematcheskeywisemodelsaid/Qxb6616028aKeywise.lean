/- FnMergeMatchesKeywiseModel, walked. -/
import Derived.Test.Qxb6616028aDraw
import Derived.Test.Qxb6616028aModelMap
namespace Go.Proofs.Qxb6616028a
open Go.RowKit

theorem model_calls (N : Nat) (hN : N ≤ 16777216) : ∀ n, ModelSaid N n
  | 0 => fun _ _ _ _ _ _ h => h.elim
  | n + 1 => fun p tb to vb vo w hb ho hnb hno hsb hso => by
    by_cases hk : Node.kind tb = 4 ∧ Node.kind to = 4
    · have := model_map N hN n (model_calls N hN n) p tb to vb vo w hb ho hnb hno hsb hso hk.1 hk.2
      exact ((mergeT_succ n tb to).trans (if_pos hk)) ▸ this
    · have := model_over n p tb to vb vo w hb ho hk
      have e : mergeT (n + 1) tb to = to := (mergeT_succ n tb to).trans (if_neg hk)
      rw [e]
      exact this

set_option maxRecDepth 100000 in
set_option maxHeartbeats 4000000 in
theorem keywise_calls (n : Nat) (ta tb : Tr n) (va vb : Value) (w : World) (ha : TreeAt Whole w n va ta) (hb : TreeAt Whole w n vb tb) :
    Calls Try.prog 3 #[va, vb] w (fun e w' => e = .returned (.bool true) ∧ Below w.heap.size w w') := by
  obtain ⟨k, b, s, v1, n1, z1, v2, n2, z2, rfl⟩ := tree_form ha
  obtain ⟨k', b', s', v1', n1', z1', v2', n2', z2', rfl⟩ := tree_form hb
  have HA := hide ha
  have HB := hide hb
  clear ha hb
  go_enter Try.func3, Try.ntmps3
  go_wp2_with fail
  have hbW := ((Below.refl w.heap.size w).alloc (Nat.le_refl _) (.cells #[.int .i8 k, .bool b, .string s, .slice v1 n1 z1, .slice v2 n2 z2] 26)).alloc (by simp) (.cells #[.int .i8 k', .bool b', .string s', .slice v1' n1' z1', .slice v2' n2' z2'] 26)
  have HF := hide (And.intro (five_later ((Below.refl _ _).alloc (Nat.le_refl _) (.cells #[.int .i8 k', .bool b', .string s', .slice v1' n1' z1', .slice v2' n2' z2'] 26)) (five_new (w := w) (b := w.heap.size) (c0 := .int .i8 k) (c1 := .bool b) (c2 := .string s) (c3 := .slice v1 n1 z1) (c4 := .slice v2 n2 z2) (ty := 26) rfl))
    (five_new (w := w.alloc (.cells #[.int .i8 k, .bool b, .string s, .slice v1 n1 z1, .slice v2 n2 z2] 26)) (b := w.heap.size + 1) (c0 := .int .i8 k') (c1 := .bool b') (c2 := .string s') (c3 := .slice v1' n1' z1') (c4 := .slice v2' n2' z2') (ty := 26) (by simp)))
  refine (toobig_calls n ta tb _ _ _ (HA.out.below hbW) (HB.out.below hbW)).mono ?_
  rintro e w1 ⟨hE, hb1⟩
  have HB1 := hide (hbW.trans (hb1.mono (by simp; omega)))
  have hF1 := And.intro (five_later hb1 HF.out.1) (five_later hb1 HF.out.2)
  have hs1 : w.heap.size + 2 ≤ w1.heap.size := by have := hb1.size; simp at this; omega
  clear hb1 hbW HF
  rcases hE with rfl | ⟨rfl, hS⟩
  · go_wp2_with fail
    go_ret
    exact ⟨rfl, HB1.out⟩
  · have HS := hide hS
    clear hS
    obtain ⟨⟨i0, i1, i2, i3, i4⟩, j0, j1, j2, j3, j4⟩ := hF1
    go_wp2_with fail
    refine (norm_calls 1048576 (by omega) n ta _ _ (HA.out.below HB1.out) HS.out.1).mono ?_
    rintro e w2 ⟨ka, ba, sa, xa1, na1, pa1, xa2, na2, pa2, rfl, hTa, hb2⟩
    have HB2 := hide (HB1.out.trans (hb2.mono (by omega)))
    have HFi := hide (five_later hb2 ⟨i0, i1, i2, i3, i4⟩)
    obtain ⟨l0, l1, l2, l3, l4⟩ := five_later hb2 ⟨j0, j1, j2, j3, j4⟩
    have hs2 : w.heap.size + 1 < w2.heap.size := by have := hb2.size; omega
    have hs2' : w.heap.size < w2.heap.size := by omega
    have HTa := hide hTa.whole
    clear hTa hb2 i0 i1 i2 i3 i4 j0 j1 j2 j3 j4
    go_wp2_with fail
    have hbx := (Below.refl w2.heap.size w2).alloc (Nat.le_refl _) (.cells #[.int .i8 ka, .bool ba, .string sa, .slice xa1 na1 pa1, .slice xa2 na2 pa2] 26)
    have HFa := hide (five_new (w := w2) (b := w2.heap.size) (c0 := .int .i8 ka) (c1 := .bool ba) (c2 := .string sa) (c3 := .slice xa1 na1 pa1) (c4 := .slice xa2 na2 pa2) (ty := 26) rfl)
    refine (norm_calls 1048576 (by omega) n tb _ _ (HB.out.below (HB2.out.trans (hbx.mono (by omega)))) HS.out.2).mono ?_
    rintro e w3 ⟨kb, bb, sb, xb1, nb1, pb1, xb2, nb2, pb2, rfl, hTb, hb3⟩
    have hbx3 := hbx.trans (hb3.mono (by simp))
    have HB3 := hide (HB2.out.trans (hbx3.mono (by omega)))
    have HFi3 := hide (five_later hbx3 HFi.out)
    have HFj3 := hide (five_later hbx3 ⟨l0, l1, l2, l3, l4⟩)
    have HFa3 := hide (five_later hb3 HFa.out)
    have HTa3 := hide (HTa.out.below hbx3)
    have HTb3 := hide hTb.whole
    have hs3 : w2.heap.size + 1 ≤ w3.heap.size := by have := hb3.size; simp at this; omega
    clear hTb hb3 hbx hbx3 l0 l1 l2 l3 l4 HFi HFa HTa
    go_wp2_with fail
    have hbx4 := (Below.refl w3.heap.size w3).alloc (Nat.le_refl _) (.cells #[.int .i8 kb, .bool bb, .string sb, .slice xb1 nb1 pb1, .slice xb2 nb2 pb2] 26)
    have HFb := hide (five_new (w := w3) (b := w3.heap.size) (c0 := .int .i8 kb) (c1 := .bool bb) (c2 := .string sb) (c3 := .slice xb1 nb1 pb1) (c4 := .slice xb2 nb2 pb2) (ty := 26) rfl)
    generalize hW4 : w3.alloc (.cells #[.int .i8 kb, .bool bb, .string sb, .slice xb1 nb1 pb1, .slice xb2 nb2 pb2] 26) = w4 at *
    have HB4 := hide (HB3.out.trans (hbx4.mono HB3.out.size))
    have HFi4 := hide (five_later hbx4 HFi3.out)
    have HFj4 := hide (five_later hbx4 HFj3.out)
    have HFa4 := hide (five_later hbx4 HFa3.out)
    have HT4 := hide (And.intro (HTa3.out.below hbx4) (HTb3.out.below hbx4))
    have HAB := hide (And.intro (HA.out.below HB4.out) (HB.out.below HB4.out))
    have hs4 : w.heap.size + 2 ≤ w4.heap.size ∧ w2.heap.size < w4.heap.size ∧ w3.heap.size < w4.heap.size := by rw [← hW4]; simp; omega
    have HS4 := hide hs4
    clear hW4 hbx4 HFi3 HFj3 HFa3 HTa3 HTb3 hs4
    generalize w2.heap.size = Ba at *
    generalize w3.heap.size = Bb at *
    refine wp_region_any (by kernel_rfl) (wpAny_inv (I := fun listed a w5 => ∃ (la ca lb cb cm mv e1 e2 e3 a1 a2 a3 s1 s2 s3 : Bool) (xa xA xb xB xm xt y1 y2 y3 p1 p2 p3 : Value), listed = #[la, ca, lb, cb, cm, mv, e1, e2, e3, a1, a2, a3, s1, s2, s3] ∧ a = ⟨#[.agg #[.int .i8 k, .bool b, .string s, .slice v1 n1 z1, .slice v2 n2 z2], .agg #[.int .i8 k', .bool b', .string s', .slice v1' n1' z1', .slice v2' n2' z2'], .pointer (some ⟨w.heap.size, 0, none⟩), .pointer (some ⟨w.heap.size + 1, 0, none⟩), .bool false, .pointer (some ⟨Ba, 0, none⟩), .pointer (some ⟨Bb, 0, none⟩), p1, p2, p3, .agg #[.int .i8 k, .bool b, .string s, .slice v1 n1 z1, .slice v2 n2 z2], .agg #[.int .i8 k', .bool b', .string s', .slice v1' n1' z1', .slice v2' n2' z2'], .bool false, .agg #[.int .i8 k, .bool b, .string s, .slice v1 n1 z1, .slice v2 n2 z2], .agg #[.int .i8 ka, .bool ba, .string sa, .slice xa1 na1 pa1, .slice xa2 na2 pa2], .agg #[.int .i8 k', .bool b', .string s', .slice v1' n1' z1', .slice v2' n2' z2'], .agg #[.int .i8 kb, .bool bb, .string sb, .slice xb1 nb1 pb1, .slice xb2 nb2 pb2], xt, xa, xA, xb, xB, xm, y1, y2, y3, undef, undef, undef, undef, undef, undef, undef, undef, undef, undef, undef, undef, undef, undef, undef], []⟩ ∧ RI n (.agg #[.int .i8 k, .bool b, .string s, .slice v1 n1 z1, .slice v2 n2 z2]) (.agg #[.int .i8 k', .bool b', .string s', .slice v1' n1' z1', .slice v2' n2' z2']) ta tb (mergeT n (norm n ta) (norm n tb)) (norm n ta) (norm n tb) w4 la ca lb cb cm mv e1 e2 e3 a1 a2 a3 s1 s2 s3 xa xA xb xB xm xt y1 y2 y3 p1 p2 p3 w5) ?step ?fin _ _ _ _ (by decide) ?start)
    case start => exact ⟨false, false, false, false, false, false, false, false, false, false, false, false, false, false, false, undef, undef, undef, undef, undef, undef, undef, undef, undef, undef, undef, undef, rfl, rfl, RI.start (Below.refl _ _).drew⟩
    case step =>
      rintro listed i a w5 ⟨la, ca, lb, cb, cm, mv, e1, e2, e3, a1, a2, a3, s1, s2, s3, xa, xA, xb, xB, xm, xt, y1, y2, y3, p1, p2, p3, rfl, rfl, hI⟩ hi
      have HI := hide hI
      obtain ⟨hun, o, ho, hall⟩ := mem_ready.1 hi
      have hlt : i < 15 := (Array.getElem?_eq_some_iff.1 ho).1
      clear hi hI
      have hcs : i = 0 ∨ i = 1 ∨ i = 2 ∨ i = 3 ∨ i = 4 ∨ i = 5 ∨ i = 6 ∨ i = 7 ∨ i = 8 ∨ i = 9 ∨ i = 10 ∨ i = 11 ∨ i = 12 ∨ i = 13 ∨ i = 14 := by omega
      clear hlt
      rcases hcs with rfl | rfl | rfl | rfl | rfl | rfl | rfl | rfl | rfl | rfl | rfl | rfl | rfl | rfl | rfl
      · have ho2 := ho
        simp only [List.getElem?_toArray, List.getElem?_cons_zero, Option.some.injEq] at ho
        subst ho
        have hun0 : la = false := hun
        clear hun
        obtain ⟨i0, i1, i2, i3, i4⟩ := five_later HI.out.below HFi4.out
        clear hall
        refine wpOp_step ho2 (fun K hK => ?_)
        clear ho2
        have HK := hide hK
        clear hK
        go_simp
        exact HK.out _ _ ⟨true, ca, lb, cb, cm, mv, e1, e2, e3, a1, a2, a3, s1, s2, s3, .agg #[.int .i8 k, .bool b, .string s, .slice v1 n1 z1, .slice v2 n2 z2], xA, xb, xB, xm, xt, y1, y2, y3, p1, p2, p3, rfl, rfl, HI.out.loadA⟩
      · have ho2 := ho
        simp only [List.getElem?_toArray, List.getElem?_cons_zero, List.getElem?_cons_succ, Option.some.injEq] at ho
        subst ho
        have hun0 : ca = false := hun
        clear hun
        have d0 : la = true := hall ⟨0, .data⟩ (by simp) rfl
        have ex := HI.out.hla d0
        subst ex
        clear hall
        refine wpOp_step ho2 (fun K hK => ?_)
        clear ho2
        have HK := hide hK
        clear hK
        go_simp
        refine (tozz_calls 1048576 (by omega) n ta _ w5 (HAB.out.1.below HI.out.below) HS.out.1).mono ?_
        rintro e wA ⟨kA, bA, sA, xA1, nA1, zA1, xA2, nA2, zA2, rfl, hTA, hbA⟩
        exact HK.out _ _ ⟨la, true, lb, cb, cm, mv, e1, e2, e3, a1, a2, a3, s1, s2, s3, .agg #[.int .i8 k, .bool b, .string s, .slice v1 n1 z1, .slice v2 n2 z2], .agg #[.int .i8 kA, .bool bA, .string sA, .slice xA1 nA1 zA1, .slice xA2 nA2 zA2], xb, xB, xm, xt, y1, y2, y3, p1, p2, p3, rfl, rfl, (HI.out.later hbA).setA hTA.whole⟩
      · have ho2 := ho
        simp only [List.getElem?_toArray, List.getElem?_cons_zero, List.getElem?_cons_succ, Option.some.injEq] at ho
        subst ho
        have hun0 : lb = false := hun
        clear hun
        obtain ⟨i0, i1, i2, i3, i4⟩ := five_later HI.out.below HFj4.out
        clear hall
        refine wpOp_step ho2 (fun K hK => ?_)
        clear ho2
        have HK := hide hK
        clear hK
        go_simp
        exact HK.out _ _ ⟨la, ca, true, cb, cm, mv, e1, e2, e3, a1, a2, a3, s1, s2, s3, xa, xA, .agg #[.int .i8 k', .bool b', .string s', .slice v1' n1' z1', .slice v2' n2' z2'], xB, xm, xt, y1, y2, y3, p1, p2, p3, rfl, rfl, HI.out.loadB⟩
      · have ho2 := ho
        simp only [List.getElem?_toArray, List.getElem?_cons_zero, List.getElem?_cons_succ, Option.some.injEq] at ho
        subst ho
        have hun0 : cb = false := hun
        clear hun
        have d2 : lb = true := hall ⟨2, .data⟩ (by simp) rfl
        have ex := HI.out.hlb d2
        subst ex
        clear hall
        refine wpOp_step ho2 (fun K hK => ?_)
        clear ho2
        have HK := hide hK
        clear hK
        go_simp
        refine (tozz_calls 1048576 (by omega) n tb _ w5 (HAB.out.2.below HI.out.below) HS.out.2).mono ?_
        rintro e wA ⟨kA, bA, sA, xA1, nA1, zA1, xA2, nA2, zA2, rfl, hTA, hbA⟩
        exact HK.out _ _ ⟨la, ca, lb, true, cm, mv, e1, e2, e3, a1, a2, a3, s1, s2, s3, xa, xA, .agg #[.int .i8 k', .bool b', .string s', .slice v1' n1' z1', .slice v2' n2' z2'], .agg #[.int .i8 kA, .bool bA, .string sA, .slice xA1 nA1 zA1, .slice xA2 nA2 zA2], xm, xt, y1, y2, y3, p1, p2, p3, rfl, rfl, (HI.out.later hbA).setB hTA.whole⟩
      · have ho2 := ho
        simp only [List.getElem?_toArray, List.getElem?_cons_zero, List.getElem?_cons_succ, Option.some.injEq] at ho
        subst ho
        have hun0 : cm = false := hun
        clear hun
        have d1 : ca = true := hall ⟨1, .data⟩ (by simp) rfl
        have d3 : cb = true := hall ⟨3, .data⟩ (by simp) rfl
        clear hall
        refine wpOp_step ho2 (fun K hK => ?_)
        clear ho2
        have HK := hide hK
        clear hK
        go_simp
        refine (zzmerge_calls 1048576 (by omega) n ta tb _ _ w5 (HI.out.hca d1 hun0) (HI.out.hcb d3 hun0) HS.out.1 HS.out.2).mono ?_
        rintro e wA ⟨km, bm, sm, xm1, nm1, zm1, xm2, nm2, zm2, kf, bf, sf, xf1, nf1, zf1, xf2, nf2, zf2, kg, bg, sg, xg1, ng1, zg1, xg2, ng2, zg2, rfl, hTm, hTf, hTg, hbA⟩
        exact HK.out _ _ ⟨la, ca, lb, cb, true, mv, e1, e2, e3, a1, a2, a3, s1, s2, s3, xa, xA, xb, xB, .tuple #[.agg #[.int .i8 km, .bool bm, .string sm, .slice xm1 nm1 zm1, .slice xm2 nm2 zm2], .agg #[.int .i8 kf, .bool bf, .string sf, .slice xf1 nf1 zf1, .slice xf2 nf2 zf2], .agg #[.int .i8 kg, .bool bg, .string sg, .slice xg1 ng1 zg1, .slice xg2 ng2 zg2]], xt, y1, y2, y3, p1, p2, p3, rfl, rfl, HI.out.merged hun0 hbA hTm hTf hTg⟩
      · have ho2 := ho
        simp only [List.getElem?_toArray, List.getElem?_cons_zero, List.getElem?_cons_succ, Option.some.injEq] at ho
        subst ho
        have hun0 : mv = false := hun
        clear hun
        have d4 : cm = true := hall ⟨4, .data⟩ (by simp) rfl
        clear hall
        refine wpOp_step ho2 (fun K hK => ?_)
        clear ho2
        have HK := hide hK
        clear hK
        go_simp
        exact HK.out _ _ ⟨la, ca, lb, cb, cm, true, e1, e2, e3, a1, a2, a3, s1, s2, s3, xa, xA, xb, xB, xm, xm, y1, y2, y3, p1, p2, p3, rfl, rfl, HI.out.move d4⟩
      · have ho2 := ho
        simp only [List.getElem?_toArray, List.getElem?_cons_zero, List.getElem?_cons_succ, Option.some.injEq] at ho
        subst ho
        have hun0 : e1 = false := hun
        clear hun
        have d5 : mv = true := hall ⟨5, .data⟩ (by simp) rfl
        have d4 : cm = true := HI.out.cmOf d5
        obtain ⟨m, f, g, ex, hI2⟩ := HI.out.ext1 d4 d5
        have HI2 := hide hI2
        subst ex
        clear hI2
        clear hall
        refine wpOp_step ho2 (fun K hK => ?_)
        clear ho2
        have HK := hide hK
        clear hK
        go_simp
        exact HK.out _ _ ⟨la, ca, lb, cb, cm, mv, true, e2, e3, a1, a2, a3, s1, s2, s3, xa, xA, xb, xB, xm, .tuple #[m, f, g], m, y2, y3, p1, p2, p3, rfl, rfl, HI2.out⟩
      · have ho2 := ho
        simp only [List.getElem?_toArray, List.getElem?_cons_zero, List.getElem?_cons_succ, Option.some.injEq] at ho
        subst ho
        have hun0 : e2 = false := hun
        clear hun
        have d5 : mv = true := hall ⟨5, .data⟩ (by simp) rfl
        have d4 : cm = true := HI.out.cmOf d5
        obtain ⟨m, f, g, ex, hI2⟩ := HI.out.ext2 d4 d5
        have HI2 := hide hI2
        subst ex
        clear hI2
        clear hall
        refine wpOp_step ho2 (fun K hK => ?_)
        clear ho2
        have HK := hide hK
        clear hK
        go_simp
        exact HK.out _ _ ⟨la, ca, lb, cb, cm, mv, e1, true, e3, a1, a2, a3, s1, s2, s3, xa, xA, xb, xB, xm, .tuple #[m, f, g], y1, f, y3, p1, p2, p3, rfl, rfl, HI2.out⟩
      · have ho2 := ho
        simp only [List.getElem?_toArray, List.getElem?_cons_zero, List.getElem?_cons_succ, Option.some.injEq] at ho
        subst ho
        have hun0 : e3 = false := hun
        clear hun
        have d5 : mv = true := hall ⟨5, .data⟩ (by simp) rfl
        have d4 : cm = true := HI.out.cmOf d5
        obtain ⟨m, f, g, ex, hI2⟩ := HI.out.ext3 d4 d5
        have HI2 := hide hI2
        subst ex
        clear hI2
        clear hall
        refine wpOp_step ho2 (fun K hK => ?_)
        clear ho2
        have HK := hide hK
        clear hK
        go_simp
        exact HK.out _ _ ⟨la, ca, lb, cb, cm, mv, e1, e2, true, a1, a2, a3, s1, s2, s3, xa, xA, xb, xB, xm, .tuple #[m, f, g], y1, y2, g, p1, p2, p3, rfl, rfl, HI2.out⟩
      · have ho2 := ho
        simp only [List.getElem?_toArray, List.getElem?_cons_zero, List.getElem?_cons_succ, Option.some.injEq] at ho
        subst ho
        have hun0 : a1 = false := hun
        clear hun
        clear hall
        refine wpOp_step ho2 (fun K hK => ?_)
        clear ho2
        have HK := hide hK
        clear hK
        go_simp
        exact HK.out _ _ ⟨la, ca, lb, cb, cm, mv, e1, e2, e3, true, a2, a3, s1, s2, s3, xa, xA, xb, xB, xm, xt, y1, y2, y3, .pointer (some ⟨w5.heap.size, 0, none⟩), p2, p3, rfl, rfl, HI.out.alloc1 hun0⟩
      · have ho2 := ho
        simp only [List.getElem?_toArray, List.getElem?_cons_zero, List.getElem?_cons_succ, Option.some.injEq] at ho
        subst ho
        have hun0 : a2 = false := hun
        clear hun
        clear hall
        refine wpOp_step ho2 (fun K hK => ?_)
        clear ho2
        have HK := hide hK
        clear hK
        go_simp
        exact HK.out _ _ ⟨la, ca, lb, cb, cm, mv, e1, e2, e3, a1, true, a3, s1, s2, s3, xa, xA, xb, xB, xm, xt, y1, y2, y3, p1, .pointer (some ⟨w5.heap.size, 0, none⟩), p3, rfl, rfl, HI.out.alloc2 hun0⟩
      · have ho2 := ho
        simp only [List.getElem?_toArray, List.getElem?_cons_zero, List.getElem?_cons_succ, Option.some.injEq] at ho
        subst ho
        have hun0 : a3 = false := hun
        clear hun
        clear hall
        refine wpOp_step ho2 (fun K hK => ?_)
        clear ho2
        have HK := hide hK
        clear hK
        go_simp
        exact HK.out _ _ ⟨la, ca, lb, cb, cm, mv, e1, e2, e3, a1, a2, true, s1, s2, s3, xa, xA, xb, xB, xm, xt, y1, y2, y3, p1, p2, .pointer (some ⟨w5.heap.size, 0, none⟩), rfl, rfl, HI.out.alloc3 hun0⟩
      · have ho2 := ho
        simp only [List.getElem?_toArray, List.getElem?_cons_zero, List.getElem?_cons_succ, Option.some.injEq] at ho
        subst ho
        have hun0 : s1 = false := hun
        clear hun
        have d9 : a1 = true := hall ⟨9, .phase⟩ (by simp) rfl
        have d10 : a2 = true := hall ⟨10, .phase⟩ (by simp) rfl
        have d11 : a3 = true := hall ⟨11, .phase⟩ (by simp) rfl
        have d6 : e1 = true := hall ⟨6, .data⟩ (by simp) rfl
        have d4 : cm = true := hall ⟨4, .phase⟩ (by simp) rfl
        obtain ⟨c, kq, bq, sq, xq1, nq1, zq1, xq2, nq2, zq2, ex1, ex2, hR, hI2⟩ := HI.out.store1 d4 d6 d9 d10 d11
        have HI2 := hide hI2
        subst ex1
        subst ex2
        clear hI2
        obtain ⟨g0, hg0⟩ := hR.old (j := 0) (by omega)
        have hz0 := hR.frozen 0
        obtain ⟨g1, hg1⟩ := hR.old (j := 1) (by omega)
        have hz1 := hR.frozen 1
        obtain ⟨g2, hg2⟩ := hR.old (j := 2) (by omega)
        have hz2 := hR.frozen 2
        obtain ⟨g3, hg3⟩ := hR.old (j := 3) (by omega)
        have hz3 := hR.frozen 3
        obtain ⟨g4, hg4⟩ := hR.old (j := 4) (by omega)
        have hz4 := hR.frozen 4
        clear hR
        clear hall
        refine wpOp_step ho2 (fun K hK => ?_)
        clear ho2
        have HK := hide hK
        clear hK
        go_simp
        exact HK.out _ _ ⟨la, ca, lb, cb, cm, mv, e1, e2, e3, a1, a2, a3, true, s2, s3, xa, xA, xb, xB, xm, xt, .agg #[.int .i8 kq, .bool bq, .string sq, .slice xq1 nq1 zq1, .slice xq2 nq2 zq2], y2, y3, .pointer (some ⟨c, 0, none⟩), p2, p3, rfl, rfl, HI2.out⟩
      · have ho2 := ho
        simp only [List.getElem?_toArray, List.getElem?_cons_zero, List.getElem?_cons_succ, Option.some.injEq] at ho
        subst ho
        have hun0 : s2 = false := hun
        clear hun
        have d9 : a1 = true := hall ⟨9, .phase⟩ (by simp) rfl
        have d10 : a2 = true := hall ⟨10, .phase⟩ (by simp) rfl
        have d11 : a3 = true := hall ⟨11, .phase⟩ (by simp) rfl
        have d7 : e2 = true := hall ⟨7, .data⟩ (by simp) rfl
        have d4 : cm = true := hall ⟨4, .phase⟩ (by simp) rfl
        obtain ⟨c, kq, bq, sq, xq1, nq1, zq1, xq2, nq2, zq2, ex1, ex2, hR, hI2⟩ := HI.out.store2 d4 d7 d9 d10 d11
        have HI2 := hide hI2
        subst ex1
        subst ex2
        clear hI2
        obtain ⟨g0, hg0⟩ := hR.old (j := 0) (by omega)
        have hz0 := hR.frozen 0
        obtain ⟨g1, hg1⟩ := hR.old (j := 1) (by omega)
        have hz1 := hR.frozen 1
        obtain ⟨g2, hg2⟩ := hR.old (j := 2) (by omega)
        have hz2 := hR.frozen 2
        obtain ⟨g3, hg3⟩ := hR.old (j := 3) (by omega)
        have hz3 := hR.frozen 3
        obtain ⟨g4, hg4⟩ := hR.old (j := 4) (by omega)
        have hz4 := hR.frozen 4
        clear hR
        clear hall
        refine wpOp_step ho2 (fun K hK => ?_)
        clear ho2
        have HK := hide hK
        clear hK
        go_simp
        exact HK.out _ _ ⟨la, ca, lb, cb, cm, mv, e1, e2, e3, a1, a2, a3, s1, true, s3, xa, xA, xb, xB, xm, xt, y1, .agg #[.int .i8 kq, .bool bq, .string sq, .slice xq1 nq1 zq1, .slice xq2 nq2 zq2], y3, p1, .pointer (some ⟨c, 0, none⟩), p3, rfl, rfl, HI2.out⟩
      · have ho2 := ho
        simp only [List.getElem?_toArray, List.getElem?_cons_zero, List.getElem?_cons_succ, Option.some.injEq] at ho
        subst ho
        have hun0 : s3 = false := hun
        clear hun
        have d9 : a1 = true := hall ⟨9, .phase⟩ (by simp) rfl
        have d10 : a2 = true := hall ⟨10, .phase⟩ (by simp) rfl
        have d11 : a3 = true := hall ⟨11, .phase⟩ (by simp) rfl
        have d8 : e3 = true := hall ⟨8, .data⟩ (by simp) rfl
        have d4 : cm = true := hall ⟨4, .phase⟩ (by simp) rfl
        obtain ⟨c, kq, bq, sq, xq1, nq1, zq1, xq2, nq2, zq2, ex1, ex2, hR, hI2⟩ := HI.out.store3 d4 d8 d9 d10 d11
        have HI2 := hide hI2
        subst ex1
        subst ex2
        clear hI2
        obtain ⟨g0, hg0⟩ := hR.old (j := 0) (by omega)
        have hz0 := hR.frozen 0
        obtain ⟨g1, hg1⟩ := hR.old (j := 1) (by omega)
        have hz1 := hR.frozen 1
        obtain ⟨g2, hg2⟩ := hR.old (j := 2) (by omega)
        have hz2 := hR.frozen 2
        obtain ⟨g3, hg3⟩ := hR.old (j := 3) (by omega)
        have hz3 := hR.frozen 3
        obtain ⟨g4, hg4⟩ := hR.old (j := 4) (by omega)
        have hz4 := hR.frozen 4
        clear hR
        clear hall
        refine wpOp_step ho2 (fun K hK => ?_)
        clear ho2
        have HK := hide hK
        clear hK
        go_simp
        exact HK.out _ _ ⟨la, ca, lb, cb, cm, mv, e1, e2, e3, a1, a2, a3, s1, s2, true, xa, xA, xb, xB, xm, xt, y1, y2, .agg #[.int .i8 kq, .bool bq, .string sq, .slice xq1 nq1 zq1, .slice xq2 nq2 zq2], p1, p2, .pointer (some ⟨c, 0, none⟩), rfl, rfl, HI2.out⟩
    case fin =>
      rintro listed a w5 ⟨la, ca, lb, cb, cm, mv, e1, e2, e3, a1, a2, a3, s1, s2, s3, xa, xA, xb, xB, xm, xt, y1, y2, y3, p1, p2, p3, rfl, rfl, hI⟩ hr
      have hall := all_listed hr rfl (by kernel_rfl)
      obtain rfl : la = true := hall 0 (by decide)
      obtain rfl : ca = true := hall 1 (by decide)
      obtain rfl : lb = true := hall 2 (by decide)
      obtain rfl : cb = true := hall 3 (by decide)
      obtain rfl : cm = true := hall 4 (by decide)
      obtain rfl : mv = true := hall 5 (by decide)
      obtain rfl : e1 = true := hall 6 (by decide)
      obtain rfl : e2 = true := hall 7 (by decide)
      obtain rfl : e3 = true := hall 8 (by decide)
      obtain rfl : a1 = true := hall 9 (by decide)
      obtain rfl : a2 = true := hall 10 (by decide)
      obtain rfl : a3 = true := hall 11 (by decide)
      obtain rfl : s1 = true := hall 12 (by decide)
      obtain rfl : s2 = true := hall 13 (by decide)
      obtain rfl : s3 = true := hall 14 (by decide)
      clear hall hr
      obtain ⟨m, f, g, hxm, hTm, hTf, hTg, _, _, _, _, H1, H2, H3⟩ := hI.hcm rfl
      subst hxm
      have hb5 := hI.below
      obtain ⟨Cm, km, bm, sm, xm1, nm1, zm1, xm2, nm2, zm2, rfl, rfl, hFm⟩ := (H1 rfl).five hTm
      obtain ⟨Cf, kf, bf, sf, xf1, nf1, zf1, xf2, nf2, zf2, rfl, rfl, hFf⟩ := (H2 rfl).five hTf
      obtain ⟨Cg, kg, bg, sg, xg1, ng1, zg1, xg2, ng2, zg2, rfl, rfl, hFg⟩ := (H3 rfl).five hTg
      obtain ⟨fa0, fa1, fa2, fa3, fa4⟩ := five_later hb5 HFa4.out
      obtain ⟨fb0, fb1, fb2, fb3, fb4⟩ := five_later hb5 HFb.out
      obtain ⟨fm0, fm1, fm2, fm3, fm4⟩ := hFm
      obtain ⟨ff0, ff1, ff2, ff3, ff4⟩ := hFf
      obtain ⟨fg0, fg1, fg2, fg3, fg4⟩ := hFg
      have HB5 := hide (HB4.out.trans (hb5.mono HB4.out.size))
      have HT5 := hide (And.intro (HT4.out.1.below hb5) (And.intro (HT4.out.2.below hb5) (And.intro hTm.whole (And.intro hTf.whole hTg.whole))))
      have HNN := hide (And.intro (norm_normT n ta HA.out.deep) (norm_normT n tb HB.out.deep))
      have HSN := hide (And.intro (small_norm 1048576 n ta HS.out.1) (small_norm 1048576 n tb HS.out.2))
      have HCALL := hide (model_calls 1048576 (by omega) n Whole _ _ _ _ w5.drew (HT5.out.1.below (Below.refl _ _).drew) (HT5.out.2.1.below (Below.refl _ _).drew) HNN.out.1 HNN.out.2 HSN.out.1 HSN.out.2)
      clear hI hb5 hTm hTf hTg H1 H2 H3 HFa4 HFb HT4 HAB HB4 HFi4 HFj4
      go_wp2_with fail
      go_region_held3 (fun w' => (w'.cell? ⟨Ba, 0, none⟩ = some (.int .i8 ka) ∧ w'.cell? ⟨Ba, 1, none⟩ = some (.bool ba) ∧ w'.cell? ⟨Ba, 2, none⟩ = some (.string sa) ∧ w'.cell? ⟨Ba, 3, none⟩ = some (.slice xa1 na1 pa1) ∧ w'.cell? ⟨Ba, 4, none⟩ = some (.slice xa2 na2 pa2)) ∧ (w'.cell? ⟨Bb, 0, none⟩ = some (.int .i8 kb) ∧ w'.cell? ⟨Bb, 1, none⟩ = some (.bool bb) ∧ w'.cell? ⟨Bb, 2, none⟩ = some (.string sb) ∧ w'.cell? ⟨Bb, 3, none⟩ = some (.slice xb1 nb1 pb1) ∧ w'.cell? ⟨Bb, 4, none⟩ = some (.slice xb2 nb2 pb2)) ∧ (w'.cell? ⟨Cm, 0, none⟩ = some (.int .i8 km) ∧ w'.cell? ⟨Cm, 1, none⟩ = some (.bool bm) ∧ w'.cell? ⟨Cm, 2, none⟩ = some (.string sm) ∧ w'.cell? ⟨Cm, 3, none⟩ = some (.slice xm1 nm1 zm1) ∧ w'.cell? ⟨Cm, 4, none⟩ = some (.slice xm2 nm2 zm2)) ∧ (w'.cell? ⟨Cf, 0, none⟩ = some (.int .i8 kf) ∧ w'.cell? ⟨Cf, 1, none⟩ = some (.bool bf) ∧ w'.cell? ⟨Cf, 2, none⟩ = some (.string sf) ∧ w'.cell? ⟨Cf, 3, none⟩ = some (.slice xf1 nf1 zf1) ∧ w'.cell? ⟨Cf, 4, none⟩ = some (.slice xf2 nf2 zf2)) ∧ (w'.cell? ⟨Cg, 0, none⟩ = some (.int .i8 kg) ∧ w'.cell? ⟨Cg, 1, none⟩ = some (.bool bg) ∧ w'.cell? ⟨Cg, 2, none⟩ = some (.string sg) ∧ w'.cell? ⟨Cg, 3, none⟩ = some (.slice xg1 ng1 zg1) ∧ w'.cell? ⟨Cg, 4, none⟩ = some (.slice xg2 ng2 zg2)))
        (first | exact ⟨⟨fa0, fa1, fa2, fa3, fa4⟩, ⟨fb0, fb1, fb2, fb3, fb4⟩, ⟨fm0, fm1, fm2, fm3, fm4⟩, ⟨ff0, ff1, ff2, ff3, ff4⟩, ⟨fg0, fg1, fg2, fg3, fg4⟩⟩ | exact ⟨five_later hbD ⟨fa0, fa1, fa2, fa3, fa4⟩, five_later hbD ⟨fb0, fb1, fb2, fb3, fb4⟩, five_later hbD ⟨fm0, fm1, fm2, fm3, fm4⟩, five_later hbD ⟨ff0, ff1, ff2, ff3, ff4⟩, five_later hbD ⟨fg0, fg1, fg2, fg3, fg4⟩⟩ | exact ⟨five_later hbE (five_later hbD ⟨fa0, fa1, fa2, fa3, fa4⟩), five_later hbE (five_later hbD ⟨fb0, fb1, fb2, fb3, fb4⟩), five_later hbE (five_later hbD ⟨fm0, fm1, fm2, fm3, fm4⟩), five_later hbE (five_later hbD ⟨ff0, ff1, ff2, ff3, ff4⟩), five_later hbE (five_later hbD ⟨fg0, fg1, fg2, fg3, fg4⟩)⟩ | exact ⟨five_later hbF (five_later hbE (five_later hbD ⟨fa0, fa1, fa2, fa3, fa4⟩)), five_later hbF (five_later hbE (five_later hbD ⟨fb0, fb1, fb2, fb3, fb4⟩)), five_later hbF (five_later hbE (five_later hbD ⟨fm0, fm1, fm2, fm3, fm4⟩)), five_later hbF (five_later hbE (five_later hbD ⟨ff0, ff1, ff2, ff3, ff4⟩)), five_later hbF (five_later hbE (five_later hbD ⟨fg0, fg1, fg2, fg3, fg4⟩))⟩ | exact ⟨five_later hbG (five_later hbF (five_later hbE (five_later hbD ⟨fa0, fa1, fa2, fa3, fa4⟩))), five_later hbG (five_later hbF (five_later hbE (five_later hbD ⟨fb0, fb1, fb2, fb3, fb4⟩))), five_later hbG (five_later hbF (five_later hbE (five_later hbD ⟨fm0, fm1, fm2, fm3, fm4⟩))), five_later hbG (five_later hbF (five_later hbE (five_later hbD ⟨ff0, ff1, ff2, ff3, ff4⟩))), five_later hbG (five_later hbF (five_later hbE (five_later hbD ⟨fg0, fg1, fg2, fg3, fg4⟩)))⟩)
        (first | (go_at_call 12; have hcall := HCALL.out; refine hcall.mono ?_; clear hcall; rintro e wD ⟨kD, bD, sD, xD1, nD1, pD1, xD2, nD2, pD2, rfl, hTD, hbD⟩) | (go_at_call_of 11 (Value.string sm); have hcall := eqTZ_calls n _ _ _ wD hTD.whole ((HT5.out.2.2.1.below (Below.refl _ _).drew).below hbD); refine hcall.mono ?_; clear hcall; rintro e wE ⟨rfl, hbE⟩) | (go_at_call_of 11 (Value.string sf); have hcall := eqTZ_calls n _ _ _ wE (((HT5.out.1.below (Below.refl _ _).drew).below hbD).below hbE) (((HT5.out.2.2.2.1.below (Below.refl _ _).drew).below hbD).below hbE); refine hcall.mono ?_; clear hcall; rintro e wF ⟨rfl, hbF⟩) | (go_at_call_of 11 (Value.string sg); have hcall := eqTZ_calls n _ _ _ wF ((((HT5.out.2.1.below (Below.refl _ _).drew).below hbD).below hbE).below hbF) ((((HT5.out.2.2.2.2.below (Below.refl _ _).drew).below hbD).below hbE).below hbF); refine hcall.mono ?_; clear hcall; rintro e wG ⟨rfl, hbG⟩))
      have hD' : Below w5.heap.size w5 wD := (Below.refl _ _).drew.trans hbD
      have hE' := hD'.trans (hbE.mono hD'.size)
      have hF' := hE'.trans (hbF.mono hE'.size)
      have hG' := hF'.trans (hbG.mono hF'.size)
      have HG := hide (HB5.out.trans (hG'.mono HB5.out.size))
      clear hD' hE' hF' hG' hTD
      go_wp2_with fail
      go_ret
      exact ⟨rfl, HG.out⟩
end Go.Proofs.Qxb6616028a
