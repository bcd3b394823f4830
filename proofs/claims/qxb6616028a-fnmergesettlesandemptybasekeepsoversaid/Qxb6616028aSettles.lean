/- FnMergeSettlesAndEmptyBaseKeepsOver, walked. -/
import Derived.Test.Qxb6616028aDraw
import Derived.Test.Qxb6616028aUnion
namespace Go.Proofs.Qxb6616028a
open Go.RowKit

theorem tree_parts {p : Nat → Prop} {w : World} {n : Nat} {k : Int} {b : Bool} {s : ByteArray} {a1 a2 : Option Addr} {n1 p1 n2 p2 : Nat} {t : Tr (n + 1)} (h : TreeAt p w (n + 1) (.agg #[.int .i8 k, .bool b, .string s, .slice a1 n1 p1, .slice a2 n2 p2]) t) :
    k = Node.kind t ∧ StrsAt p w (.slice a1 n1 p1) (Node.keys t) := by
  obtain ⟨ks, kd, e, h1, h2⟩ := h
  simp only [Value.agg.injEq, Array.mk.injEq, List.cons.injEq, Value.int.injEq, true_and] at e
  exact ⟨e.1, e.2.2.2.1 ▸ h1⟩

set_option maxRecDepth 100000 in
set_option maxHeartbeats 4000000 in
theorem settles_calls (N : Nat) (ta tb : Tr (N + 1)) (va vb : Value) (w : World) (ha : TreeAt Whole w (N + 1) va ta) (hb : TreeAt Whole w (N + 1) vb tb) :
    Calls Try.prog 4 #[va, vb] w (fun e w' => e = .returned (.bool true) ∧ Below w.heap.size w w') := by
  obtain ⟨k, b, s, v1, n1, z1, v2, n2, z2, rfl⟩ := tree_form ha
  obtain ⟨k', b', s', v1', n1', z1', v2', n2', z2', rfl⟩ := tree_form hb
  have HA := hide ha
  have HB := hide hb
  clear ha hb
  go_enter Try.func4, Try.ntmps4
  go_wp2_with fail
  have hbW := ((Below.refl w.heap.size w).alloc (Nat.le_refl _) (.cells #[.int .i8 k, .bool b, .string s, .slice v1 n1 z1, .slice v2 n2 z2] 26)).alloc (by simp) (.cells #[.int .i8 k', .bool b', .string s', .slice v1' n1' z1', .slice v2' n2' z2'] 26)
  have HF := hide (And.intro (five_later ((Below.refl _ _).alloc (Nat.le_refl _) (.cells #[.int .i8 k', .bool b', .string s', .slice v1' n1' z1', .slice v2' n2' z2'] 26)) (five_new (w := w) (b := w.heap.size) (c0 := .int .i8 k) (c1 := .bool b) (c2 := .string s) (c3 := .slice v1 n1 z1) (c4 := .slice v2 n2 z2) (ty := 26) rfl))
    (five_new (w := w.alloc (.cells #[.int .i8 k, .bool b, .string s, .slice v1 n1 z1, .slice v2 n2 z2] 26)) (b := w.heap.size + 1) (c0 := .int .i8 k') (c1 := .bool b') (c2 := .string s') (c3 := .slice v1' n1' z1') (c4 := .slice v2' n2' z2') (ty := 26) (by simp)))
  refine (toobig_calls (N + 1) ta tb _ _ _ (HA.out.below hbW) (HB.out.below hbW)).mono ?_
  rintro e w1 ⟨hE, hb1⟩
  have HB1 := hide (hbW.trans (hb1.mono (by simp; omega)))
  have hF1 := And.intro (five_later hb1 HF.out.1) (five_later hb1 HF.out.2)
  have hs1 : w.heap.size + 2 ≤ w1.heap.size := by have := hb1.size; simp at this; omega
  clear hb1 hbW HF
  rcases hE with rfl | ⟨rfl, hS⟩
  · go_wp2_with fail
    go_ret
    exact ⟨rfl, HB1.out⟩
  · have HS := hide hS
    clear hS
    obtain ⟨⟨i0, i1, i2, i3, i4⟩, j0, j1, j2, j3, j4⟩ := hF1
    go_wp2_with fail
    refine (norm_calls 1048576 (by omega) (N + 1) ta _ _ (HA.out.below HB1.out) HS.out.1).mono ?_
    rintro e w2 ⟨ka, ba, sa, xa1, na1, pa1, xa2, na2, pa2, rfl, hTa, hb2⟩
    have HB2 := hide (HB1.out.trans (hb2.mono (by omega)))
    have HFi := hide (five_later hb2 ⟨i0, i1, i2, i3, i4⟩)
    obtain ⟨l0, l1, l2, l3, l4⟩ := five_later hb2 ⟨j0, j1, j2, j3, j4⟩
    have hs2 : w.heap.size + 1 < w2.heap.size := by have := hb2.size; omega
    have hs2' : w.heap.size < w2.heap.size := by omega
    have HTa := hide hTa.whole
    clear hTa hb2 i0 i1 i2 i3 i4 j0 j1 j2 j3 j4
    go_wp2_with fail
    have hbx := (Below.refl w2.heap.size w2).alloc (Nat.le_refl _) (.cells #[.int .i8 ka, .bool ba, .string sa, .slice xa1 na1 pa1, .slice xa2 na2 pa2] 26)
    have HFa := hide (five_new (w := w2) (b := w2.heap.size) (c0 := .int .i8 ka) (c1 := .bool ba) (c2 := .string sa) (c3 := .slice xa1 na1 pa1) (c4 := .slice xa2 na2 pa2) (ty := 26) rfl)
    refine (norm_calls 1048576 (by omega) (N + 1) tb _ _ (HB.out.below (HB2.out.trans (hbx.mono (by omega)))) HS.out.2).mono ?_
    rintro e w3 ⟨kb, bb, sb, xb1, nb1, pb1, xb2, nb2, pb2, rfl, hTb, hb3⟩
    have hbx3 := hbx.trans (hb3.mono (by simp))
    have HB3 := hide (HB2.out.trans (hbx3.mono (by omega)))
    have HFi3 := hide (five_later hbx3 HFi.out)
    have HFj3 := hide (five_later hbx3 ⟨l0, l1, l2, l3, l4⟩)
    have HFa3 := hide (five_later hb3 HFa.out)
    have HTa3 := hide (HTa.out.below hbx3)
    have HTb3 := hide hTb.whole
    have hs3 : w2.heap.size + 1 ≤ w3.heap.size := by have := hb3.size; simp at this; omega
    clear hTb hb3 hbx hbx3 l0 l1 l2 l3 l4 HFi HFa HTa
    go_wp2_with fail
    have hbx4 := (Below.refl w3.heap.size w3).alloc (Nat.le_refl _) (.cells #[.int .i8 kb, .bool bb, .string sb, .slice xb1 nb1 pb1, .slice xb2 nb2 pb2] 26)
    have HFb := hide (five_new (w := w3) (b := w3.heap.size) (c0 := .int .i8 kb) (c1 := .bool bb) (c2 := .string sb) (c3 := .slice xb1 nb1 pb1) (c4 := .slice xb2 nb2 pb2) (ty := 26) rfl)
    generalize hW4 : w3.alloc (.cells #[.int .i8 kb, .bool bb, .string sb, .slice xb1 nb1 pb1, .slice xb2 nb2 pb2] 26) = w4 at *
    have HB4 := hide (HB3.out.trans (hbx4.mono HB3.out.size))
    have HFi4 := hide (five_later hbx4 HFi3.out)
    have HFj4 := hide (five_later hbx4 HFj3.out)
    have HFa4 := hide (five_later hbx4 HFa3.out)
    have HT4 := hide (And.intro (HTa3.out.below hbx4) (HTb3.out.below hbx4))
    have HAB := hide (And.intro (HA.out.below HB4.out) (HB.out.below HB4.out))
    have hs4 : w.heap.size + 2 ≤ w4.heap.size ∧ w2.heap.size < w4.heap.size ∧ w3.heap.size < w4.heap.size := by rw [← hW4]; simp; omega
    have HS4 := hide hs4
    clear hW4 hbx4 HFi3 HFj3 HFa3 HTa3 HTb3 hs4
    generalize w2.heap.size = Ba at *
    generalize w3.heap.size = Bb at *
    refine wp_region_any (by kernel_rfl) (wpAny_inv (I := fun listed a w5 => ∃ (la ca lb cb cm mv e1 e2 e3 a1 a2 a3 s1 s2 s3 : Bool) (xa xA xb xB xm xt y1 y2 y3 p1 p2 p3 : Value), listed = #[la, ca, lb, cb, cm, mv, e1, e2, e3, a1, a2, a3, s1, s2, s3] ∧ a = ⟨#[.agg #[.int .i8 k, .bool b, .string s, .slice v1 n1 z1, .slice v2 n2 z2], .agg #[.int .i8 k', .bool b', .string s', .slice v1' n1' z1', .slice v2' n2' z2'], .pointer (some ⟨w.heap.size, 0, none⟩), .pointer (some ⟨w.heap.size + 1, 0, none⟩), .bool false, .pointer (some ⟨Ba, 0, none⟩), .pointer (some ⟨Bb, 0, none⟩), p1, p2, p3, undef, undef, undef, undef, undef, undef, undef, undef, undef, .agg #[.int .i8 k, .bool b, .string s, .slice v1 n1 z1, .slice v2 n2 z2], .agg #[.int .i8 k', .bool b', .string s', .slice v1' n1' z1', .slice v2' n2' z2'], .bool false, .agg #[.int .i8 k, .bool b, .string s, .slice v1 n1 z1, .slice v2 n2 z2], .agg #[.int .i8 ka, .bool ba, .string sa, .slice xa1 na1 pa1, .slice xa2 na2 pa2], .agg #[.int .i8 k', .bool b', .string s', .slice v1' n1' z1', .slice v2' n2' z2'], .agg #[.int .i8 kb, .bool bb, .string sb, .slice xb1 nb1 pb1, .slice xb2 nb2 pb2], xt, xa, xA, xb, xB, xm, y1, y2, y3, undef, undef, undef, undef, undef, undef, undef, undef, undef, undef, undef, undef, undef, undef, undef, undef, undef, undef, undef, undef, undef, undef, undef, undef, undef, undef, undef, undef, undef, undef, undef, undef, undef, undef, undef, undef, undef, undef, undef, undef, undef, undef, undef, undef, undef, undef, undef, undef, undef, undef, undef, undef, undef, undef, undef, undef, undef, undef, undef, undef, undef, undef, undef, undef, undef, undef, undef, undef, undef, undef, undef, undef, undef, undef, undef, undef, undef], []⟩ ∧ RI (N + 1) (.agg #[.int .i8 k, .bool b, .string s, .slice v1 n1 z1, .slice v2 n2 z2]) (.agg #[.int .i8 k', .bool b', .string s', .slice v1' n1' z1', .slice v2' n2' z2']) ta tb (mergeT (N + 1) (norm (N + 1) ta) (norm (N + 1) tb)) (norm (N + 1) ta) (norm (N + 1) tb) w4 la ca lb cb cm mv e1 e2 e3 a1 a2 a3 s1 s2 s3 xa xA xb xB xm xt y1 y2 y3 p1 p2 p3 w5) ?step ?fin _ _ _ _ (by decide) ?start)
    case start => exact ⟨false, false, false, false, false, false, false, false, false, false, false, false, false, false, false, undef, undef, undef, undef, undef, undef, undef, undef, undef, undef, undef, undef, rfl, rfl, RI.start (Below.refl _ _).drew⟩
    case step =>
      rintro listed i a w5 ⟨la, ca, lb, cb, cm, mv, e1, e2, e3, a1, a2, a3, s1, s2, s3, xa, xA, xb, xB, xm, xt, y1, y2, y3, p1, p2, p3, rfl, rfl, hI⟩ hi
      have HI := hide hI
      obtain ⟨hun, o, ho, hall⟩ := mem_ready.1 hi
      have hlt : i < 15 := (Array.getElem?_eq_some_iff.1 ho).1
      clear hi hI
      have hcs : i = 0 ∨ i = 1 ∨ i = 2 ∨ i = 3 ∨ i = 4 ∨ i = 5 ∨ i = 6 ∨ i = 7 ∨ i = 8 ∨ i = 9 ∨ i = 10 ∨ i = 11 ∨ i = 12 ∨ i = 13 ∨ i = 14 := by omega
      clear hlt
      rcases hcs with rfl | rfl | rfl | rfl | rfl | rfl | rfl | rfl | rfl | rfl | rfl | rfl | rfl | rfl | rfl
      · have ho2 := ho
        simp only [List.getElem?_toArray, List.getElem?_cons_zero, Option.some.injEq] at ho
        subst ho
        have hun0 : la = false := hun
        clear hun
        obtain ⟨i0, i1, i2, i3, i4⟩ := five_later HI.out.below HFi4.out
        clear hall
        refine wpOp_step ho2 (fun K hK => ?_)
        clear ho2
        have HK := hide hK
        clear hK
        go_simp
        exact HK.out _ _ ⟨true, ca, lb, cb, cm, mv, e1, e2, e3, a1, a2, a3, s1, s2, s3, .agg #[.int .i8 k, .bool b, .string s, .slice v1 n1 z1, .slice v2 n2 z2], xA, xb, xB, xm, xt, y1, y2, y3, p1, p2, p3, rfl, rfl, HI.out.loadA⟩
      · have ho2 := ho
        simp only [List.getElem?_toArray, List.getElem?_cons_zero, List.getElem?_cons_succ, Option.some.injEq] at ho
        subst ho
        have hun0 : ca = false := hun
        clear hun
        have d0 : la = true := hall ⟨0, .data⟩ (by simp) rfl
        have ex := HI.out.hla d0
        subst ex
        clear hall
        refine wpOp_step ho2 (fun K hK => ?_)
        clear ho2
        have HK := hide hK
        clear hK
        go_simp
        refine (tozz_calls 1048576 (by omega) (N + 1) ta _ w5 (HAB.out.1.below HI.out.below) HS.out.1).mono ?_
        rintro e wA ⟨kA, bA, sA, xA1, nA1, zA1, xA2, nA2, zA2, rfl, hTA, hbA⟩
        exact HK.out _ _ ⟨la, true, lb, cb, cm, mv, e1, e2, e3, a1, a2, a3, s1, s2, s3, .agg #[.int .i8 k, .bool b, .string s, .slice v1 n1 z1, .slice v2 n2 z2], .agg #[.int .i8 kA, .bool bA, .string sA, .slice xA1 nA1 zA1, .slice xA2 nA2 zA2], xb, xB, xm, xt, y1, y2, y3, p1, p2, p3, rfl, rfl, (HI.out.later hbA).setA hTA.whole⟩
      · have ho2 := ho
        simp only [List.getElem?_toArray, List.getElem?_cons_zero, List.getElem?_cons_succ, Option.some.injEq] at ho
        subst ho
        have hun0 : lb = false := hun
        clear hun
        obtain ⟨i0, i1, i2, i3, i4⟩ := five_later HI.out.below HFj4.out
        clear hall
        refine wpOp_step ho2 (fun K hK => ?_)
        clear ho2
        have HK := hide hK
        clear hK
        go_simp
        exact HK.out _ _ ⟨la, ca, true, cb, cm, mv, e1, e2, e3, a1, a2, a3, s1, s2, s3, xa, xA, .agg #[.int .i8 k', .bool b', .string s', .slice v1' n1' z1', .slice v2' n2' z2'], xB, xm, xt, y1, y2, y3, p1, p2, p3, rfl, rfl, HI.out.loadB⟩
      · have ho2 := ho
        simp only [List.getElem?_toArray, List.getElem?_cons_zero, List.getElem?_cons_succ, Option.some.injEq] at ho
        subst ho
        have hun0 : cb = false := hun
        clear hun
        have d2 : lb = true := hall ⟨2, .data⟩ (by simp) rfl
        have ex := HI.out.hlb d2
        subst ex
        clear hall
        refine wpOp_step ho2 (fun K hK => ?_)
        clear ho2
        have HK := hide hK
        clear hK
        go_simp
        refine (tozz_calls 1048576 (by omega) (N + 1) tb _ w5 (HAB.out.2.below HI.out.below) HS.out.2).mono ?_
        rintro e wA ⟨kA, bA, sA, xA1, nA1, zA1, xA2, nA2, zA2, rfl, hTA, hbA⟩
        exact HK.out _ _ ⟨la, ca, lb, true, cm, mv, e1, e2, e3, a1, a2, a3, s1, s2, s3, xa, xA, .agg #[.int .i8 k', .bool b', .string s', .slice v1' n1' z1', .slice v2' n2' z2'], .agg #[.int .i8 kA, .bool bA, .string sA, .slice xA1 nA1 zA1, .slice xA2 nA2 zA2], xm, xt, y1, y2, y3, p1, p2, p3, rfl, rfl, (HI.out.later hbA).setB hTA.whole⟩
      · have ho2 := ho
        simp only [List.getElem?_toArray, List.getElem?_cons_zero, List.getElem?_cons_succ, Option.some.injEq] at ho
        subst ho
        have hun0 : cm = false := hun
        clear hun
        have d1 : ca = true := hall ⟨1, .data⟩ (by simp) rfl
        have d3 : cb = true := hall ⟨3, .data⟩ (by simp) rfl
        clear hall
        refine wpOp_step ho2 (fun K hK => ?_)
        clear ho2
        have HK := hide hK
        clear hK
        go_simp
        refine (zzmerge_calls 1048576 (by omega) (N + 1) _ _ _ _ w5 (HI.out.hca d1 hun0) (HI.out.hcb d3 hun0) HS.out.1 HS.out.2).mono ?_
        rintro e wA ⟨km, bm, sm, xm1, nm1, zm1, xm2, nm2, zm2, kf, bf, sf, xf1, nf1, zf1, xf2, nf2, zf2, kg, bg, sg, xg1, ng1, zg1, xg2, ng2, zg2, rfl, hTm, hTf, hTg, hbA⟩
        exact HK.out _ _ ⟨la, ca, lb, cb, true, mv, e1, e2, e3, a1, a2, a3, s1, s2, s3, xa, xA, xb, xB, .tuple #[.agg #[.int .i8 km, .bool bm, .string sm, .slice xm1 nm1 zm1, .slice xm2 nm2 zm2], .agg #[.int .i8 kf, .bool bf, .string sf, .slice xf1 nf1 zf1, .slice xf2 nf2 zf2], .agg #[.int .i8 kg, .bool bg, .string sg, .slice xg1 ng1 zg1, .slice xg2 ng2 zg2]], xt, y1, y2, y3, p1, p2, p3, rfl, rfl, HI.out.merged hun0 hbA hTm hTf hTg⟩
      · have ho2 := ho
        simp only [List.getElem?_toArray, List.getElem?_cons_zero, List.getElem?_cons_succ, Option.some.injEq] at ho
        subst ho
        have hun0 : mv = false := hun
        clear hun
        have d4 : cm = true := hall ⟨4, .data⟩ (by simp) rfl
        clear hall
        refine wpOp_step ho2 (fun K hK => ?_)
        clear ho2
        have HK := hide hK
        clear hK
        go_simp
        exact HK.out _ _ ⟨la, ca, lb, cb, cm, true, e1, e2, e3, a1, a2, a3, s1, s2, s3, xa, xA, xb, xB, xm, xm, y1, y2, y3, p1, p2, p3, rfl, rfl, HI.out.move d4⟩
      · have ho2 := ho
        simp only [List.getElem?_toArray, List.getElem?_cons_zero, List.getElem?_cons_succ, Option.some.injEq] at ho
        subst ho
        have hun0 : e1 = false := hun
        clear hun
        have d5 : mv = true := hall ⟨5, .data⟩ (by simp) rfl
        have d4c : cm = true := HI.out.cmOf d5
        obtain ⟨m, f, g, ex, hI2⟩ := HI.out.ext1 d4c d5
        have HI2 := hide hI2
        subst ex
        clear hI2
        clear hall
        refine wpOp_step ho2 (fun K hK => ?_)
        clear ho2
        have HK := hide hK
        clear hK
        go_simp
        exact HK.out _ _ ⟨la, ca, lb, cb, cm, mv, true, e2, e3, a1, a2, a3, s1, s2, s3, xa, xA, xb, xB, xm, .tuple #[m, f, g], m, y2, y3, p1, p2, p3, rfl, rfl, HI2.out⟩
      · have ho2 := ho
        simp only [List.getElem?_toArray, List.getElem?_cons_zero, List.getElem?_cons_succ, Option.some.injEq] at ho
        subst ho
        have hun0 : e2 = false := hun
        clear hun
        have d5 : mv = true := hall ⟨5, .data⟩ (by simp) rfl
        have d4c : cm = true := HI.out.cmOf d5
        obtain ⟨m, f, g, ex, hI2⟩ := HI.out.ext2 d4c d5
        have HI2 := hide hI2
        subst ex
        clear hI2
        clear hall
        refine wpOp_step ho2 (fun K hK => ?_)
        clear ho2
        have HK := hide hK
        clear hK
        go_simp
        exact HK.out _ _ ⟨la, ca, lb, cb, cm, mv, e1, true, e3, a1, a2, a3, s1, s2, s3, xa, xA, xb, xB, xm, .tuple #[m, f, g], y1, f, y3, p1, p2, p3, rfl, rfl, HI2.out⟩
      · have ho2 := ho
        simp only [List.getElem?_toArray, List.getElem?_cons_zero, List.getElem?_cons_succ, Option.some.injEq] at ho
        subst ho
        have hun0 : e3 = false := hun
        clear hun
        have d5 : mv = true := hall ⟨5, .data⟩ (by simp) rfl
        have d4c : cm = true := HI.out.cmOf d5
        obtain ⟨m, f, g, ex, hI2⟩ := HI.out.ext3 d4c d5
        have HI2 := hide hI2
        subst ex
        clear hI2
        clear hall
        refine wpOp_step ho2 (fun K hK => ?_)
        clear ho2
        have HK := hide hK
        clear hK
        go_simp
        exact HK.out _ _ ⟨la, ca, lb, cb, cm, mv, e1, e2, true, a1, a2, a3, s1, s2, s3, xa, xA, xb, xB, xm, .tuple #[m, f, g], y1, y2, g, p1, p2, p3, rfl, rfl, HI2.out⟩
      · have ho2 := ho
        simp only [List.getElem?_toArray, List.getElem?_cons_zero, List.getElem?_cons_succ, Option.some.injEq] at ho
        subst ho
        have hun0 : a1 = false := hun
        clear hun
        clear hall
        refine wpOp_step ho2 (fun K hK => ?_)
        clear ho2
        have HK := hide hK
        clear hK
        go_simp
        exact HK.out _ _ ⟨la, ca, lb, cb, cm, mv, e1, e2, e3, true, a2, a3, s1, s2, s3, xa, xA, xb, xB, xm, xt, y1, y2, y3, .pointer (some ⟨w5.heap.size, 0, none⟩), p2, p3, rfl, rfl, HI.out.alloc1 hun0⟩
      · have ho2 := ho
        simp only [List.getElem?_toArray, List.getElem?_cons_zero, List.getElem?_cons_succ, Option.some.injEq] at ho
        subst ho
        have hun0 : a2 = false := hun
        clear hun
        clear hall
        refine wpOp_step ho2 (fun K hK => ?_)
        clear ho2
        have HK := hide hK
        clear hK
        go_simp
        exact HK.out _ _ ⟨la, ca, lb, cb, cm, mv, e1, e2, e3, a1, true, a3, s1, s2, s3, xa, xA, xb, xB, xm, xt, y1, y2, y3, p1, .pointer (some ⟨w5.heap.size, 0, none⟩), p3, rfl, rfl, HI.out.alloc2 hun0⟩
      · have ho2 := ho
        simp only [List.getElem?_toArray, List.getElem?_cons_zero, List.getElem?_cons_succ, Option.some.injEq] at ho
        subst ho
        have hun0 : a3 = false := hun
        clear hun
        clear hall
        refine wpOp_step ho2 (fun K hK => ?_)
        clear ho2
        have HK := hide hK
        clear hK
        go_simp
        exact HK.out _ _ ⟨la, ca, lb, cb, cm, mv, e1, e2, e3, a1, a2, true, s1, s2, s3, xa, xA, xb, xB, xm, xt, y1, y2, y3, p1, p2, .pointer (some ⟨w5.heap.size, 0, none⟩), rfl, rfl, HI.out.alloc3 hun0⟩
      · have ho2 := ho
        simp only [List.getElem?_toArray, List.getElem?_cons_zero, List.getElem?_cons_succ, Option.some.injEq] at ho
        subst ho
        have hun0 : s1 = false := hun
        clear hun
        have d9 : a1 = true := hall ⟨9, .phase⟩ (by simp) rfl
        have d10 : a2 = true := hall ⟨10, .phase⟩ (by simp) rfl
        have d11 : a3 = true := hall ⟨11, .phase⟩ (by simp) rfl
        have d6 : e1 = true := hall ⟨6, .data⟩ (by simp) rfl
        have d4 : cm = true := hall ⟨4, .phase⟩ (by simp) rfl
        obtain ⟨c, kq, bq, sq, xq1, nq1, zq1, xq2, nq2, zq2, ex1, ex2, hR, hI2⟩ := HI.out.store1 d4 d6 d9 d10 d11
        have HI2 := hide hI2
        subst ex1
        subst ex2
        clear hI2
        obtain ⟨g0, hg0⟩ := hR.old (j := 0) (by omega)
        have hz0 := hR.frozen 0
        obtain ⟨g1, hg1⟩ := hR.old (j := 1) (by omega)
        have hz1 := hR.frozen 1
        obtain ⟨g2, hg2⟩ := hR.old (j := 2) (by omega)
        have hz2 := hR.frozen 2
        obtain ⟨g3, hg3⟩ := hR.old (j := 3) (by omega)
        have hz3 := hR.frozen 3
        obtain ⟨g4, hg4⟩ := hR.old (j := 4) (by omega)
        have hz4 := hR.frozen 4
        clear hR
        clear hall
        refine wpOp_step ho2 (fun K hK => ?_)
        clear ho2
        have HK := hide hK
        clear hK
        go_simp
        exact HK.out _ _ ⟨la, ca, lb, cb, cm, mv, e1, e2, e3, a1, a2, a3, true, s2, s3, xa, xA, xb, xB, xm, xt, .agg #[.int .i8 kq, .bool bq, .string sq, .slice xq1 nq1 zq1, .slice xq2 nq2 zq2], y2, y3, .pointer (some ⟨c, 0, none⟩), p2, p3, rfl, rfl, HI2.out⟩
      · have ho2 := ho
        simp only [List.getElem?_toArray, List.getElem?_cons_zero, List.getElem?_cons_succ, Option.some.injEq] at ho
        subst ho
        have hun0 : s2 = false := hun
        clear hun
        have d9 : a1 = true := hall ⟨9, .phase⟩ (by simp) rfl
        have d10 : a2 = true := hall ⟨10, .phase⟩ (by simp) rfl
        have d11 : a3 = true := hall ⟨11, .phase⟩ (by simp) rfl
        have d7 : e2 = true := hall ⟨7, .data⟩ (by simp) rfl
        have d4 : cm = true := hall ⟨4, .phase⟩ (by simp) rfl
        obtain ⟨c, kq, bq, sq, xq1, nq1, zq1, xq2, nq2, zq2, ex1, ex2, hR, hI2⟩ := HI.out.store2 d4 d7 d9 d10 d11
        have HI2 := hide hI2
        subst ex1
        subst ex2
        clear hI2
        obtain ⟨g0, hg0⟩ := hR.old (j := 0) (by omega)
        have hz0 := hR.frozen 0
        obtain ⟨g1, hg1⟩ := hR.old (j := 1) (by omega)
        have hz1 := hR.frozen 1
        obtain ⟨g2, hg2⟩ := hR.old (j := 2) (by omega)
        have hz2 := hR.frozen 2
        obtain ⟨g3, hg3⟩ := hR.old (j := 3) (by omega)
        have hz3 := hR.frozen 3
        obtain ⟨g4, hg4⟩ := hR.old (j := 4) (by omega)
        have hz4 := hR.frozen 4
        clear hR
        clear hall
        refine wpOp_step ho2 (fun K hK => ?_)
        clear ho2
        have HK := hide hK
        clear hK
        go_simp
        exact HK.out _ _ ⟨la, ca, lb, cb, cm, mv, e1, e2, e3, a1, a2, a3, s1, true, s3, xa, xA, xb, xB, xm, xt, y1, .agg #[.int .i8 kq, .bool bq, .string sq, .slice xq1 nq1 zq1, .slice xq2 nq2 zq2], y3, p1, .pointer (some ⟨c, 0, none⟩), p3, rfl, rfl, HI2.out⟩
      · have ho2 := ho
        simp only [List.getElem?_toArray, List.getElem?_cons_zero, List.getElem?_cons_succ, Option.some.injEq] at ho
        subst ho
        have hun0 : s3 = false := hun
        clear hun
        have d9 : a1 = true := hall ⟨9, .phase⟩ (by simp) rfl
        have d10 : a2 = true := hall ⟨10, .phase⟩ (by simp) rfl
        have d11 : a3 = true := hall ⟨11, .phase⟩ (by simp) rfl
        have d8 : e3 = true := hall ⟨8, .data⟩ (by simp) rfl
        have d4 : cm = true := hall ⟨4, .phase⟩ (by simp) rfl
        obtain ⟨c, kq, bq, sq, xq1, nq1, zq1, xq2, nq2, zq2, ex1, ex2, hR, hI2⟩ := HI.out.store3 d4 d8 d9 d10 d11
        have HI2 := hide hI2
        subst ex1
        subst ex2
        clear hI2
        obtain ⟨g0, hg0⟩ := hR.old (j := 0) (by omega)
        have hz0 := hR.frozen 0
        obtain ⟨g1, hg1⟩ := hR.old (j := 1) (by omega)
        have hz1 := hR.frozen 1
        obtain ⟨g2, hg2⟩ := hR.old (j := 2) (by omega)
        have hz2 := hR.frozen 2
        obtain ⟨g3, hg3⟩ := hR.old (j := 3) (by omega)
        have hz3 := hR.frozen 3
        obtain ⟨g4, hg4⟩ := hR.old (j := 4) (by omega)
        have hz4 := hR.frozen 4
        clear hR
        clear hall
        refine wpOp_step ho2 (fun K hK => ?_)
        clear ho2
        have HK := hide hK
        clear hK
        go_simp
        exact HK.out _ _ ⟨la, ca, lb, cb, cm, mv, e1, e2, e3, a1, a2, a3, s1, s2, true, xa, xA, xb, xB, xm, xt, y1, y2, .agg #[.int .i8 kq, .bool bq, .string sq, .slice xq1 nq1 zq1, .slice xq2 nq2 zq2], p1, p2, .pointer (some ⟨c, 0, none⟩), rfl, rfl, HI2.out⟩
    case fin =>
      rintro listed a w5 ⟨la, ca, lb, cb, cm, mv, e1, e2, e3, a1, a2, a3, s1, s2, s3, xa, xA, xb, xB, xm, xt, y1, y2, y3, p1, p2, p3, rfl, rfl, hI⟩ hr
      have hall := all_listed hr rfl (by kernel_rfl)
      obtain rfl : la = true := hall 0 (by decide)
      obtain rfl : ca = true := hall 1 (by decide)
      obtain rfl : lb = true := hall 2 (by decide)
      obtain rfl : cb = true := hall 3 (by decide)
      obtain rfl : cm = true := hall 4 (by decide)
      obtain rfl : mv = true := hall 5 (by decide)
      obtain rfl : e1 = true := hall 6 (by decide)
      obtain rfl : e2 = true := hall 7 (by decide)
      obtain rfl : e3 = true := hall 8 (by decide)
      obtain rfl : a1 = true := hall 9 (by decide)
      obtain rfl : a2 = true := hall 10 (by decide)
      obtain rfl : a3 = true := hall 11 (by decide)
      obtain rfl : s1 = true := hall 12 (by decide)
      obtain rfl : s2 = true := hall 13 (by decide)
      obtain rfl : s3 = true := hall 14 (by decide)
      clear hall hr
      obtain ⟨m, f, g, hxm, hTm, hTf, hTg, hy1, hy2, hy3, hy4, H1, H2, H3⟩ := hI.hcm rfl
      have hb5 := hI.below
      obtain ⟨Cm, km, bm, sm, xm1, nm1, zm1, xm2, nm2, zm2, rfl, rfl, hFm⟩ := (H1 rfl).five hTm
      obtain ⟨Cf, kf, bf, sf, xf1, nf1, zf1, xf2, nf2, zf2, rfl, rfl, hFf⟩ := (H2 rfl).five hTf
      obtain ⟨Cg, kg, bg, sg, xg1, ng1, zg1, xg2, ng2, zg2, rfl, rfl, hFg⟩ := (H3 rfl).five hTg
      have HFa5 := hide (five_later hb5 HFa4.out)
      have HFb5 := hide (five_later hb5 HFb.out)
      have HFj5 := hide (five_later hb5 HFj4.out)
      have HFm5 := hide hFm
      have HB5 := hide (HB4.out.trans (hb5.mono HB4.out.size))
      have HT5 := hide (And.intro (HT4.out.1.below hb5) (And.intro (HT4.out.2.below hb5) hTm.whole))
      have HBT5 := hide (HAB.out.2.below hb5)
      have HNF := hide (And.intro (norm_nf (N + 1) ta HA.out.deep) (norm_nf (N + 1) tb HB.out.deep))
      have HEQ : Hid (mergeT (N + 1) (norm (N + 1) (mergeT (N + 1) (norm (N + 1) ta) (norm (N + 1) tb))) (norm (N + 1) tb) = mergeT (N + 1) (norm (N + 1) ta) (norm (N + 1) tb) ∧ norm (N + 1) (mergeT (N + 1) (norm (N + 1) ta) (norm (N + 1) tb)) = mergeT (N + 1) (norm (N + 1) ta) (norm (N + 1) tb)) := by
        have e := nf_norm (N + 1) _ (nf_merge (N + 1) _ _ HNF.out.1 HNF.out.2)
        exact hide ⟨by rw [e]; exact merge_settles (N + 1) _ _ HNF.out.1 HNF.out.2, e⟩
      have HSM := hide (small_merge 1048576 (N + 1) _ _ (small_norm 1048576 (N + 1) ta HS.out.1) (small_norm 1048576 (N + 1) tb HS.out.2))
      have HSB := hide (small_mono (by omega : 1048576 ≤ 1048576 + 1048576) (N + 1) tb HS.out.2)
      clear hI hy1 hy2 hy3 hy4 hb5 hTm hTf hTg H1 H2 H3 HFa4 HFb HT4 HAB HB4 HFi4 HFj4 hFm hFf hFg hxm
      go_wp2_with fail
      refine wp_region_any (by kernel_rfl) (wpAny_inv (I := fun listed a w6 => ∃ (ca lb cb cm mv e1 e2 e3 a1 a2 a3 s1 s2 s3 : Bool) (xAq xbq xBq xmq xtq y1q y2q y3q p1q p2q p3q : Value), listed = #[ca, lb, cb, cm, mv, e1, e2, e3, a1, a2, a3, s1, s2, s3] ∧ a = ⟨#[.agg #[.int .i8 k, .bool b, .string s, .slice v1 n1 z1, .slice v2 n2 z2], .agg #[.int .i8 k', .bool b', .string s', .slice v1' n1' z1', .slice v2' n2' z2'], .pointer (some ⟨w.heap.size, 0, none⟩), .pointer (some ⟨w.heap.size + 1, 0, none⟩), .bool false, .pointer (some ⟨Ba, 0, none⟩), .pointer (some ⟨Bb, 0, none⟩), .pointer (some ⟨Cm, 0, none⟩), .pointer (some ⟨Cf, 0, none⟩), .pointer (some ⟨Cg, 0, none⟩), p1q, p2q, p3q, undef, undef, undef, undef, undef, undef, .agg #[.int .i8 k, .bool b, .string s, .slice v1 n1 z1, .slice v2 n2 z2], .agg #[.int .i8 k', .bool b', .string s', .slice v1' n1' z1', .slice v2' n2' z2'], .bool false, .agg #[.int .i8 k, .bool b, .string s, .slice v1 n1 z1, .slice v2 n2 z2], .agg #[.int .i8 ka, .bool ba, .string sa, .slice xa1 na1 pa1, .slice xa2 na2 pa2], .agg #[.int .i8 k', .bool b', .string s', .slice v1' n1' z1', .slice v2' n2' z2'], .agg #[.int .i8 kb, .bool bb, .string sb, .slice xb1 nb1 pb1, .slice xb2 nb2 pb2], xt, xa, xA, xb, xB, xm, y1, y2, y3, xtq, xAq, xbq, xBq, xmq, y1q, y2q, y3q, undef, undef, undef, undef, undef, undef, undef, undef, undef, undef, undef, undef, undef, undef, undef, undef, undef, undef, undef, undef, undef, undef, undef, undef, undef, undef, undef, undef, undef, undef, undef, undef, undef, undef, undef, undef, undef, undef, undef, undef, undef, undef, undef, undef, undef, undef, undef, undef, undef, undef, undef, undef, undef, undef, undef, undef, undef, undef, undef, undef, undef, undef, undef, undef, undef, undef, undef, undef, undef], []⟩ ∧ RI (N + 1) (.agg #[.int .i8 k, .bool b, .string s, .slice v1 n1 z1, .slice v2 n2 z2]) (.agg #[.int .i8 k', .bool b', .string s', .slice v1' n1' z1', .slice v2' n2' z2']) (mergeT (N + 1) (norm (N + 1) ta) (norm (N + 1) tb)) tb (mergeT (N + 1) (norm (N + 1) ta) (norm (N + 1) tb)) (mergeT (N + 1) (norm (N + 1) ta) (norm (N + 1) tb)) (norm (N + 1) tb) w5 true ca lb cb cm mv e1 e2 e3 a1 a2 a3 s1 s2 s3 (.agg #[.int .i8 k, .bool b, .string s, .slice v1 n1 z1, .slice v2 n2 z2]) xAq xbq xBq xmq xtq y1q y2q y3q p1q p2q p3q w6) ?step ?fin _ _ _ _ (by decide) ?start)
      case start => exact ⟨false, false, false, false, false, false, false, false, false, false, false, false, false, false, undef, undef, undef, undef, undef, undef, undef, undef, undef, undef, undef, rfl, rfl, (RI.start (Below.refl _ _).drew).loadA⟩
      case step =>
        rintro listed i a w6 ⟨ca, lb, cb, cm, mv, e1, e2, e3, a1, a2, a3, s1, s2, s3, xAq, xbq, xBq, xmq, xtq, y1q, y2q, y3q, p1q, p2q, p3q, rfl, rfl, hI⟩ hi
        have HI := hide hI
        obtain ⟨hun, o, ho, hall⟩ := mem_ready.1 hi
        have hlt : i < 14 := (Array.getElem?_eq_some_iff.1 ho).1
        clear hi hI
        have hcs : i = 0 ∨ i = 1 ∨ i = 2 ∨ i = 3 ∨ i = 4 ∨ i = 5 ∨ i = 6 ∨ i = 7 ∨ i = 8 ∨ i = 9 ∨ i = 10 ∨ i = 11 ∨ i = 12 ∨ i = 13 := by omega
        clear hlt
        rcases hcs with rfl | rfl | rfl | rfl | rfl | rfl | rfl | rfl | rfl | rfl | rfl | rfl | rfl | rfl
        · have ho2 := ho
          simp only [List.getElem?_toArray, List.getElem?_cons_zero, Option.some.injEq] at ho
          subst ho
          have hun0 : ca = false := hun
          clear hun
          obtain ⟨i0, i1, i2, i3, i4⟩ := five_later HI.out.below HFm5.out
          clear hall
          refine wpOp_step ho2 (fun K hK => ?_)
          clear ho2
          have HK := hide hK
          clear hK
          go_simp
          exact HK.out _ _ ⟨true, lb, cb, cm, mv, e1, e2, e3, a1, a2, a3, s1, s2, s3, .agg #[.int .i8 km, .bool bm, .string sm, .slice xm1 nm1 zm1, .slice xm2 nm2 zm2], xbq, xBq, xmq, xtq, y1q, y2q, y3q, p1q, p2q, p3q, rfl, rfl, HI.out.setA (HT5.out.2.2.below HI.out.below)⟩
        · have ho2 := ho
          simp only [List.getElem?_toArray, List.getElem?_cons_zero, List.getElem?_cons_succ, Option.some.injEq] at ho
          subst ho
          have hun0 : lb = false := hun
          clear hun
          obtain ⟨i0, i1, i2, i3, i4⟩ := five_later HI.out.below HFj5.out
          clear hall
          refine wpOp_step ho2 (fun K hK => ?_)
          clear ho2
          have HK := hide hK
          clear hK
          go_simp
          exact HK.out _ _ ⟨ca, true, cb, cm, mv, e1, e2, e3, a1, a2, a3, s1, s2, s3, xAq, .agg #[.int .i8 k', .bool b', .string s', .slice v1' n1' z1', .slice v2' n2' z2'], xBq, xmq, xtq, y1q, y2q, y3q, p1q, p2q, p3q, rfl, rfl, HI.out.loadB⟩
        · have ho2 := ho
          simp only [List.getElem?_toArray, List.getElem?_cons_zero, List.getElem?_cons_succ, Option.some.injEq] at ho
          subst ho
          have hun0 : cb = false := hun
          clear hun
          have d1 : lb = true := hall ⟨1, .data⟩ (by simp) rfl
          have ex := HI.out.hlb d1
          subst ex
          clear hall
          refine wpOp_step ho2 (fun K hK => ?_)
          clear ho2
          have HK := hide hK
          clear hK
          go_simp
          refine (tozz_calls 1048576 (by omega) (N + 1) tb _ w6 (HBT5.out.below HI.out.below) HS.out.2).mono ?_
          rintro e wA ⟨kA, bA, sA, xA1, nA1, zA1, xA2, nA2, zA2, rfl, hTA, hbA⟩
          exact HK.out _ _ ⟨ca, lb, true, cm, mv, e1, e2, e3, a1, a2, a3, s1, s2, s3, xAq, .agg #[.int .i8 k', .bool b', .string s', .slice v1' n1' z1', .slice v2' n2' z2'], .agg #[.int .i8 kA, .bool bA, .string sA, .slice xA1 nA1 zA1, .slice xA2 nA2 zA2], xmq, xtq, y1q, y2q, y3q, p1q, p2q, p3q, rfl, rfl, (HI.out.later hbA).setB hTA.whole⟩
        · have ho2 := ho
          simp only [List.getElem?_toArray, List.getElem?_cons_zero, List.getElem?_cons_succ, Option.some.injEq] at ho
          subst ho
          have hun0 : cm = false := hun
          clear hun
          have d0 : ca = true := hall ⟨0, .data⟩ (by simp) rfl
          have d2 : cb = true := hall ⟨2, .data⟩ (by simp) rfl
          clear hall
          refine wpOp_step ho2 (fun K hK => ?_)
          clear ho2
          have HK := hide hK
          clear hK
          go_simp
          refine (zzmerge_calls (1048576 + 1048576) (by omega) (N + 1) _ _ _ _ w6 (HI.out.hca d0 hun0) (HI.out.hcb d2 hun0) HSM.out HSB.out).mono ?_
          rintro e wA ⟨km, bm, sm, xm1, nm1, zm1, xm2, nm2, zm2, kf, bf, sf, xf1, nf1, zf1, xf2, nf2, zf2, kg, bg, sg, xg1, ng1, zg1, xg2, ng2, zg2, rfl, hTm, hTf, hTg, hbA⟩
          rw [HEQ.out.1] at hTm
          rw [HEQ.out.2] at hTf
          exact HK.out _ _ ⟨ca, lb, cb, true, mv, e1, e2, e3, a1, a2, a3, s1, s2, s3, xAq, xbq, xBq, .tuple #[.agg #[.int .i8 km, .bool bm, .string sm, .slice xm1 nm1 zm1, .slice xm2 nm2 zm2], .agg #[.int .i8 kf, .bool bf, .string sf, .slice xf1 nf1 zf1, .slice xf2 nf2 zf2], .agg #[.int .i8 kg, .bool bg, .string sg, .slice xg1 ng1 zg1, .slice xg2 ng2 zg2]], xtq, y1q, y2q, y3q, p1q, p2q, p3q, rfl, rfl, HI.out.merged hun0 hbA hTm hTf hTg⟩
        · have ho2 := ho
          simp only [List.getElem?_toArray, List.getElem?_cons_zero, List.getElem?_cons_succ, Option.some.injEq] at ho
          subst ho
          have hun0 : mv = false := hun
          clear hun
          have d3 : cm = true := hall ⟨3, .data⟩ (by simp) rfl
          clear hall
          refine wpOp_step ho2 (fun K hK => ?_)
          clear ho2
          have HK := hide hK
          clear hK
          go_simp
          exact HK.out _ _ ⟨ca, lb, cb, cm, true, e1, e2, e3, a1, a2, a3, s1, s2, s3, xAq, xbq, xBq, xmq, xmq, y1q, y2q, y3q, p1q, p2q, p3q, rfl, rfl, HI.out.move d3⟩
        · have ho2 := ho
          simp only [List.getElem?_toArray, List.getElem?_cons_zero, List.getElem?_cons_succ, Option.some.injEq] at ho
          subst ho
          have hun0 : e1 = false := hun
          clear hun
          have d4 : mv = true := hall ⟨4, .data⟩ (by simp) rfl
          have d4c : cm = true := HI.out.cmOf d4
          obtain ⟨m, f, g, ex, hI2⟩ := HI.out.ext1 d4c d4
          have HI2 := hide hI2
          subst ex
          clear hI2
          clear hall
          refine wpOp_step ho2 (fun K hK => ?_)
          clear ho2
          have HK := hide hK
          clear hK
          go_simp
          exact HK.out _ _ ⟨ca, lb, cb, cm, mv, true, e2, e3, a1, a2, a3, s1, s2, s3, xAq, xbq, xBq, xmq, .tuple #[m, f, g], m, y2q, y3q, p1q, p2q, p3q, rfl, rfl, HI2.out⟩
        · have ho2 := ho
          simp only [List.getElem?_toArray, List.getElem?_cons_zero, List.getElem?_cons_succ, Option.some.injEq] at ho
          subst ho
          have hun0 : e2 = false := hun
          clear hun
          have d4 : mv = true := hall ⟨4, .data⟩ (by simp) rfl
          have d4c : cm = true := HI.out.cmOf d4
          obtain ⟨m, f, g, ex, hI2⟩ := HI.out.ext2 d4c d4
          have HI2 := hide hI2
          subst ex
          clear hI2
          clear hall
          refine wpOp_step ho2 (fun K hK => ?_)
          clear ho2
          have HK := hide hK
          clear hK
          go_simp
          exact HK.out _ _ ⟨ca, lb, cb, cm, mv, e1, true, e3, a1, a2, a3, s1, s2, s3, xAq, xbq, xBq, xmq, .tuple #[m, f, g], y1q, f, y3q, p1q, p2q, p3q, rfl, rfl, HI2.out⟩
        · have ho2 := ho
          simp only [List.getElem?_toArray, List.getElem?_cons_zero, List.getElem?_cons_succ, Option.some.injEq] at ho
          subst ho
          have hun0 : e3 = false := hun
          clear hun
          have d4 : mv = true := hall ⟨4, .data⟩ (by simp) rfl
          have d4c : cm = true := HI.out.cmOf d4
          obtain ⟨m, f, g, ex, hI2⟩ := HI.out.ext3 d4c d4
          have HI2 := hide hI2
          subst ex
          clear hI2
          clear hall
          refine wpOp_step ho2 (fun K hK => ?_)
          clear ho2
          have HK := hide hK
          clear hK
          go_simp
          exact HK.out _ _ ⟨ca, lb, cb, cm, mv, e1, e2, true, a1, a2, a3, s1, s2, s3, xAq, xbq, xBq, xmq, .tuple #[m, f, g], y1q, y2q, g, p1q, p2q, p3q, rfl, rfl, HI2.out⟩
        · have ho2 := ho
          simp only [List.getElem?_toArray, List.getElem?_cons_zero, List.getElem?_cons_succ, Option.some.injEq] at ho
          subst ho
          have hun0 : a1 = false := hun
          clear hun
          clear hall
          refine wpOp_step ho2 (fun K hK => ?_)
          clear ho2
          have HK := hide hK
          clear hK
          go_simp
          exact HK.out _ _ ⟨ca, lb, cb, cm, mv, e1, e2, e3, true, a2, a3, s1, s2, s3, xAq, xbq, xBq, xmq, xtq, y1q, y2q, y3q, .pointer (some ⟨w6.heap.size, 0, none⟩), p2q, p3q, rfl, rfl, HI.out.alloc1 hun0⟩
        · have ho2 := ho
          simp only [List.getElem?_toArray, List.getElem?_cons_zero, List.getElem?_cons_succ, Option.some.injEq] at ho
          subst ho
          have hun0 : a2 = false := hun
          clear hun
          clear hall
          refine wpOp_step ho2 (fun K hK => ?_)
          clear ho2
          have HK := hide hK
          clear hK
          go_simp
          exact HK.out _ _ ⟨ca, lb, cb, cm, mv, e1, e2, e3, a1, true, a3, s1, s2, s3, xAq, xbq, xBq, xmq, xtq, y1q, y2q, y3q, p1q, .pointer (some ⟨w6.heap.size, 0, none⟩), p3q, rfl, rfl, HI.out.alloc2 hun0⟩
        · have ho2 := ho
          simp only [List.getElem?_toArray, List.getElem?_cons_zero, List.getElem?_cons_succ, Option.some.injEq] at ho
          subst ho
          have hun0 : a3 = false := hun
          clear hun
          clear hall
          refine wpOp_step ho2 (fun K hK => ?_)
          clear ho2
          have HK := hide hK
          clear hK
          go_simp
          exact HK.out _ _ ⟨ca, lb, cb, cm, mv, e1, e2, e3, a1, a2, true, s1, s2, s3, xAq, xbq, xBq, xmq, xtq, y1q, y2q, y3q, p1q, p2q, .pointer (some ⟨w6.heap.size, 0, none⟩), rfl, rfl, HI.out.alloc3 hun0⟩
        · have ho2 := ho
          simp only [List.getElem?_toArray, List.getElem?_cons_zero, List.getElem?_cons_succ, Option.some.injEq] at ho
          subst ho
          have hun0 : s1 = false := hun
          clear hun
          have d8 : a1 = true := hall ⟨8, .phase⟩ (by simp) rfl
          have d9 : a2 = true := hall ⟨9, .phase⟩ (by simp) rfl
          have d10 : a3 = true := hall ⟨10, .phase⟩ (by simp) rfl
          have d5 : e1 = true := hall ⟨5, .data⟩ (by simp) rfl
          have d3 : cm = true := hall ⟨3, .phase⟩ (by simp) rfl
          obtain ⟨c, kq, bq, sq, xq1, nq1, zq1, xq2, nq2, zq2, ex1, ex2, hR, hI2⟩ := HI.out.store1 d3 d5 d8 d9 d10
          have HI2 := hide hI2
          subst ex1
          subst ex2
          clear hI2
          obtain ⟨g0, hg0⟩ := hR.old (j := 0) (by omega)
          have hz0 := hR.frozen 0
          obtain ⟨g1, hg1⟩ := hR.old (j := 1) (by omega)
          have hz1 := hR.frozen 1
          obtain ⟨g2, hg2⟩ := hR.old (j := 2) (by omega)
          have hz2 := hR.frozen 2
          obtain ⟨g3, hg3⟩ := hR.old (j := 3) (by omega)
          have hz3 := hR.frozen 3
          obtain ⟨g4, hg4⟩ := hR.old (j := 4) (by omega)
          have hz4 := hR.frozen 4
          clear hR
          clear hall
          refine wpOp_step ho2 (fun K hK => ?_)
          clear ho2
          have HK := hide hK
          clear hK
          go_simp
          exact HK.out _ _ ⟨ca, lb, cb, cm, mv, e1, e2, e3, a1, a2, a3, true, s2, s3, xAq, xbq, xBq, xmq, xtq, .agg #[.int .i8 kq, .bool bq, .string sq, .slice xq1 nq1 zq1, .slice xq2 nq2 zq2], y2q, y3q, .pointer (some ⟨c, 0, none⟩), p2q, p3q, rfl, rfl, HI2.out⟩
        · have ho2 := ho
          simp only [List.getElem?_toArray, List.getElem?_cons_zero, List.getElem?_cons_succ, Option.some.injEq] at ho
          subst ho
          have hun0 : s2 = false := hun
          clear hun
          have d8 : a1 = true := hall ⟨8, .phase⟩ (by simp) rfl
          have d9 : a2 = true := hall ⟨9, .phase⟩ (by simp) rfl
          have d10 : a3 = true := hall ⟨10, .phase⟩ (by simp) rfl
          have d6 : e2 = true := hall ⟨6, .data⟩ (by simp) rfl
          have d3 : cm = true := hall ⟨3, .phase⟩ (by simp) rfl
          obtain ⟨c, kq, bq, sq, xq1, nq1, zq1, xq2, nq2, zq2, ex1, ex2, hR, hI2⟩ := HI.out.store2 d3 d6 d8 d9 d10
          have HI2 := hide hI2
          subst ex1
          subst ex2
          clear hI2
          obtain ⟨g0, hg0⟩ := hR.old (j := 0) (by omega)
          have hz0 := hR.frozen 0
          obtain ⟨g1, hg1⟩ := hR.old (j := 1) (by omega)
          have hz1 := hR.frozen 1
          obtain ⟨g2, hg2⟩ := hR.old (j := 2) (by omega)
          have hz2 := hR.frozen 2
          obtain ⟨g3, hg3⟩ := hR.old (j := 3) (by omega)
          have hz3 := hR.frozen 3
          obtain ⟨g4, hg4⟩ := hR.old (j := 4) (by omega)
          have hz4 := hR.frozen 4
          clear hR
          clear hall
          refine wpOp_step ho2 (fun K hK => ?_)
          clear ho2
          have HK := hide hK
          clear hK
          go_simp
          exact HK.out _ _ ⟨ca, lb, cb, cm, mv, e1, e2, e3, a1, a2, a3, s1, true, s3, xAq, xbq, xBq, xmq, xtq, y1q, .agg #[.int .i8 kq, .bool bq, .string sq, .slice xq1 nq1 zq1, .slice xq2 nq2 zq2], y3q, p1q, .pointer (some ⟨c, 0, none⟩), p3q, rfl, rfl, HI2.out⟩
        · have ho2 := ho
          simp only [List.getElem?_toArray, List.getElem?_cons_zero, List.getElem?_cons_succ, Option.some.injEq] at ho
          subst ho
          have hun0 : s3 = false := hun
          clear hun
          have d8 : a1 = true := hall ⟨8, .phase⟩ (by simp) rfl
          have d9 : a2 = true := hall ⟨9, .phase⟩ (by simp) rfl
          have d10 : a3 = true := hall ⟨10, .phase⟩ (by simp) rfl
          have d7 : e3 = true := hall ⟨7, .data⟩ (by simp) rfl
          have d3 : cm = true := hall ⟨3, .phase⟩ (by simp) rfl
          obtain ⟨c, kq, bq, sq, xq1, nq1, zq1, xq2, nq2, zq2, ex1, ex2, hR, hI2⟩ := HI.out.store3 d3 d7 d8 d9 d10
          have HI2 := hide hI2
          subst ex1
          subst ex2
          clear hI2
          obtain ⟨g0, hg0⟩ := hR.old (j := 0) (by omega)
          have hz0 := hR.frozen 0
          obtain ⟨g1, hg1⟩ := hR.old (j := 1) (by omega)
          have hz1 := hR.frozen 1
          obtain ⟨g2, hg2⟩ := hR.old (j := 2) (by omega)
          have hz2 := hR.frozen 2
          obtain ⟨g3, hg3⟩ := hR.old (j := 3) (by omega)
          have hz3 := hR.frozen 3
          obtain ⟨g4, hg4⟩ := hR.old (j := 4) (by omega)
          have hz4 := hR.frozen 4
          clear hR
          clear hall
          refine wpOp_step ho2 (fun K hK => ?_)
          clear ho2
          have HK := hide hK
          clear hK
          go_simp
          exact HK.out _ _ ⟨ca, lb, cb, cm, mv, e1, e2, e3, a1, a2, a3, s1, s2, true, xAq, xbq, xBq, xmq, xtq, y1q, y2q, .agg #[.int .i8 kq, .bool bq, .string sq, .slice xq1 nq1 zq1, .slice xq2 nq2 zq2], p1q, p2q, .pointer (some ⟨c, 0, none⟩), rfl, rfl, HI2.out⟩
      case fin =>
        rintro listed a w6 ⟨ca, lb, cb, cm, mv, e1, e2, e3, a1, a2, a3, s1, s2, s3, xAq, xbq, xBq, xmq, xtq, y1q, y2q, y3q, p1q, p2q, p3q, rfl, rfl, hI⟩ hr
        have hall := all_listed hr rfl (by kernel_rfl)
        obtain rfl : ca = true := hall 0 (by decide)
        obtain rfl : lb = true := hall 1 (by decide)
        obtain rfl : cb = true := hall 2 (by decide)
        obtain rfl : cm = true := hall 3 (by decide)
        obtain rfl : mv = true := hall 4 (by decide)
        obtain rfl : e1 = true := hall 5 (by decide)
        obtain rfl : e2 = true := hall 6 (by decide)
        obtain rfl : e3 = true := hall 7 (by decide)
        obtain rfl : a1 = true := hall 8 (by decide)
        obtain rfl : a2 = true := hall 9 (by decide)
        obtain rfl : a3 = true := hall 10 (by decide)
        obtain rfl : s1 = true := hall 11 (by decide)
        obtain rfl : s2 = true := hall 12 (by decide)
        obtain rfl : s3 = true := hall 13 (by decide)
        clear hall hr
        obtain ⟨m', f', g', hxm, hTm, hTf, hTg, hy1, hy2, hy3, hy4, H1, H2, H3⟩ := hI.hcm rfl
        have hb6 := hI.below
        obtain ⟨Dm, kM, bM, sM, xM1, nM1, zM1, xM2, nM2, zM2, rfl, rfl, hFm⟩ := (H1 rfl).five hTm
        obtain ⟨Df, kF, bF, sF, xF1, nF1, zF1, xF2, nF2, zF2, rfl, rfl, hFf⟩ := (H2 rfl).five hTf
        obtain ⟨Dg, kG, bG, sG, xG1, nG1, zG1, xG2, nG2, zG2, rfl, rfl, hFg⟩ := (H3 rfl).five hTg
        have HFa6 := hide (five_later hb6 HFa5.out)
        have HFb6 := hide (five_later hb6 HFb5.out)
        have HFj6 := hide (five_later hb6 HFj5.out)
        have HFm6 := hide (five_later hb6 HFm5.out)
        have HFd6 := hide hFm
        have HB6 := hide (HB5.out.trans (hb6.mono HB5.out.size))
        have HT6 := hide (And.intro (HT5.out.1.below hb6) (And.intro (HT5.out.2.1.below hb6) (And.intro (HT5.out.2.2.below hb6) hTm.whole)))
        have HBT6 := hide (HBT5.out.below hb6)
        clear hI hy1 hy2 hy3 hy4 hb6 hTm hTf hTg H1 H2 H3 HFa5 HFb5 HT5 HBT5 HB5 HFj5 HFm5 hFm hFf hFg hxm HEQ HSM HSB
        obtain ⟨j0, j1, j2, j3, j4⟩ := HFj6.out
        go_wp2_with fail
        refine (tozz_calls 1048576 (by omega) (N + 1) tb _ _ HBT6.out HS.out.2).mono ?_
        rintro e w7 ⟨kZ, bZ, sZ, xZ1, nZ1, zZ1, xZ2, nZ2, zZ2, rfl, hTz, hb7⟩
        have HB7 := hide (HB6.out.trans (hb7.mono HB6.out.size))
        have HT7 := hide (And.intro (HT6.out.1.below hb7) (And.intro (HT6.out.2.1.below hb7) (And.intro (HT6.out.2.2.1.below hb7) (HT6.out.2.2.2.below hb7))))
        have HF7 := hide (And.intro (five_later hb7 HFa6.out) (And.intro (five_later hb7 HFb6.out) (And.intro (five_later hb7 HFm6.out) (five_later hb7 HFd6.out))))
        have HTz := hide hTz.whole
        clear hTz hb7 j0 j1 j2 j3 j4 HB6 HT6 HFa6 HFb6 HFj6 HFm6 HFd6 HBT6
        go_wp2_with fail
        refine (zzmerge_calls 1048576 (by omega) (N + 1) (mapping []) tb _ _ w7 (leafAt Whole w7 N 4 false ByteArray.empty) HTz.out ⟨Nat.zero_le _, Nat.zero_le _, fun x hx => by simp [mapping] at hx⟩ HS.out.2).mono ?_
        rintro e w8 ⟨kE, bE, sE, xE1, nE1, zE1, xE2, nE2, zE2, kU, bU, sU, xU1, nU1, zU1, xU2, nU2, zU2, kV, bV, sV, xV1, nV1, zV1, xV2, nV2, zV2, rfl, hTe, hTu, hTv, hb8⟩
        have ee : mergeT (N + 1) (norm (N + 1) (mapping [])) (norm (N + 1) tb) = norm (N + 1) tb := merge_empty HNF.out.2
        rw [ee] at hTe
        have HB8 := hide (HB7.out.trans (hb8.mono HB7.out.size))
        have HT8 := hide (And.intro (HT7.out.1.below hb8) (And.intro (HT7.out.2.1.below hb8) (And.intro (HT7.out.2.2.1.below hb8) (And.intro (HT7.out.2.2.2.below hb8) hTe.whole))))
        have HF8 := hide (And.intro (five_later hb8 HF7.out.1) (And.intro (five_later hb8 HF7.out.2.1) (And.intro (five_later hb8 HF7.out.2.2.1) (five_later hb8 HF7.out.2.2.2))))
        obtain ⟨i0, i1, i2, i3, i4⟩ := HF8.out.2.2.1
        obtain ⟨j0, j1, j2, j3, j4⟩ := HF8.out.2.2.2
        have lm : Cm < w8.heap.size := World.block_lt_of_cell? _ _ i0
        have ld : Dm < w8.heap.size := World.block_lt_of_cell? _ _ j0
        have lm1 : Cm < w8.heap.size + 1 := by omega
        have lm2 : Cm < w8.heap.size + 1 + 1 := by omega
        have ld1 : Dm < w8.heap.size + 1 := by omega
        have ld2 : Dm < w8.heap.size + 1 + 1 := by omega
        clear hTe hTu hTv hb8 ee HT7 HF7 HB7 HTz
        go_wp2_with fail
        have hbx := (((Below.refl w8.heap.size w8).alloc (Nat.le_refl _) (.cells #[.int .i8 kE, .bool bE, .string sE, .slice xE1 nE1 zE1, .slice xE2 nE2 zE2] 31)).alloc (by simp) (.cells #[.int .i8 kU, .bool bU, .string sU, .slice xU1 nU1 zU1, .slice xU2 nU2 zU2] 31)).alloc (by simp; omega) (.cells #[.int .i8 kV, .bool bV, .string sV, .slice xV1 nV1 zV1, .slice xV2 nV2 zV2] 31)
        have HFe := hide (five_alloc (five_alloc (five_new (w := w8) (b := w8.heap.size) (c0 := .int .i8 kE) (c1 := .bool bE) (c2 := .string sE) (c3 := .slice xE1 nE1 zE1) (c4 := .slice xE2 nE2 zE2) (ty := 31) rfl) (.cells #[.int .i8 kU, .bool bU, .string sU, .slice xU1 nU1 zU1, .slice xU2 nU2 zU2] 31)) (.cells #[.int .i8 kV, .bool bV, .string sV, .slice xV1 nV1 zV1, .slice xV2 nV2 zV2] 31))
        refine (eqZZ_calls (N + 1) _ _ _ _ (HT8.out.2.2.2.1.below hbx) (HT8.out.2.2.1.below hbx)).mono ?_
        rintro e w9 ⟨rfl, hb9⟩
        have hbx9 := hbx.trans (hb9.mono (by simp; omega))
        have HB9 := hide (HB8.out.trans (hbx9.mono HB8.out.size))
        have HT9 := hide (And.intro (HT8.out.1.below hbx9) (And.intro (HT8.out.2.1.below hbx9) (And.intro (HT8.out.2.2.1.below hbx9) (HT8.out.2.2.2.2.below hbx9))))
        have HF9 := hide (And.intro (five_later hbx9 HF8.out.1) (And.intro (five_later hbx9 HF8.out.2.1) (five_later hbx9 HF8.out.2.2.1)))
        obtain ⟨e0, e1, e2, e3, e4⟩ := five_later hb9 HFe.out
        obtain ⟨f0, f1, f2, f3, f4⟩ := HF9.out.2.1
        clear i0 i1 i2 i3 i4 j0 j1 j2 j3 j4 hbx hbx9 hb9 HFe HT8 HF8 HB8 lm ld lm1 lm2 ld1 ld2
        go_wp2_with fail
        refine (eqTZ_calls (N + 1) _ _ _ _ HT9.out.2.1 HT9.out.2.2.2).mono ?_
        rintro e w10 ⟨rfl, hb10⟩
        have HB10 := hide (HB9.out.trans (hb10.mono HB9.out.size))
        have HT10 := hide (And.intro (HT9.out.1.below hb10) (And.intro (HT9.out.2.1.below hb10) (HT9.out.2.2.1.below hb10)))
        have HF10 := hide (And.intro (five_later hb10 HF9.out.1) (And.intro (five_later hb10 HF9.out.2.1) (five_later hb10 HF9.out.2.2)))
        clear e0 e1 e2 e3 e4 f0 f1 f2 f3 f4 hb10 HT9 HF9 HB9
        obtain ⟨hpa1, hpa2⟩ := tree_parts HT10.out.1
        obtain ⟨hpb1, hpb2⟩ := tree_parts HT10.out.2.1
        obtain ⟨hpm1, hpm2⟩ := tree_parts HT10.out.2.2
        have HPA := hide hpa2
        have HPB := hide hpb2
        have HPM := hide hpm2
        have HPK := hide (And.intro hpa1 (And.intro hpb1 hpm1))
        clear hpa1 hpa2 hpb1 hpb2 hpm1 hpm2
        obtain ⟨i0, i1, i2, i3, i4⟩ := HF10.out.1
        obtain ⟨j0, j1, j2, j3, j4⟩ := HF10.out.2.1
        obtain ⟨l0, l1, l2, l3, l4⟩ := HF10.out.2.2
        by_cases hk : ka = 4 ∧ kb = 4
        · -- two mappings
          obtain ⟨rfl, rfl⟩ := hk
          obtain ⟨kva, sva, hNA, hva⟩ := (nf_cases HNF.out.1).resolve_left (fun h => h HPK.out.1.symm)
          obtain ⟨kvb, svb, hNB, hvb⟩ := (nf_cases HNF.out.2).resolve_left (fun h => h HPK.out.2.1.symm)
          have hM : mergeT (N + 1) (norm (N + 1) ta) (norm (N + 1) tb) = mapping (jn (mergeT N) kva kvb) := by rw [hNA, hNB]; exact merge_mappings kva kvb
          have hkA : Node.keys (norm (N + 1) ta) = kva.map (·.1) := by rw [hNA]; rfl
          have hkB : Node.keys (norm (N + 1) tb) = kvb.map (·.1) := by rw [hNB]; rfl
          have hkM : Node.keys (mergeT (N + 1) (norm (N + 1) ta) (norm (N + 1) tb)) = un (kva.map (·.1)) (kvb.map (·.1)) := by rw [hM]; exact keys_jn (mergeT N) sva svb
          have hmm : km = 4 := by rw [HPK.out.2.2, hM]; rfl
          have hPA := HPA.out
          have hPB := HPB.out
          have hPM := HPM.out
          have hlA := (small_norm 1048576 (N + 1) ta HS.out.1).1
          have hlB := (small_norm 1048576 (N + 1) tb HS.out.2).1
          rw [hkA] at hPA hlA
          rw [hkB] at hPB hlB
          rw [hkM] at hPM
          have HU := hide (union_calls 1048576 (by omega) _ _ _ _ w10 hPA hPB sva svb hlA hlB)
          clear hPA hPB hlA hlB hkA hkB hkM hM hNA hNB hva hvb sva svb
          generalize un (kva.map (·.1)) (kvb.map (·.1)) = L at *
          subst hmm
          obtain ⟨mb, mo, ⟨ma, mc, hsl, _, hmc, hma, _⟩, hmcell⟩ := hPM
          simp only [Value.slice.injEq] at hsl
          obtain ⟨rfl, rfl, rfl⟩ := hsl
          have HM := hide (And.intro hma hmcell)
          clear hma hmcell HPA HPB HPM HPK HNF HT10
          have hdl : L.length ≤ maxLen := by omega
          unfold maxLen at hdl
          clear hmc
          go_wp2_with fail
          have hU := HU.out
          refine hU.mono ?_
          clear hU
          rintro e w11 ⟨U, c, rfl, hL, hb11⟩
          obtain ⟨ub, uo, ⟨ua, uc, hsl, _, _, hua, _⟩, hucell⟩ := hL
          simp only [Value.slice.injEq] at hsl
          obtain ⟨rfl, _, rfl⟩ := hsl
          have HUC := hide (And.intro hua hucell)
          have HB11 := hide (HB10.out.trans (hb11.mono HB10.out.size))
          have HM11 := hide hb11
          obtain ⟨m0, m1, m2, m3, m4⟩ := five_later hb11 HF10.out.2.2
          generalize hdn : L.length = d at *
          have HDN := hide hdn
          clear hdn hua hucell hb11 i0 i1 i2 i3 i4 j0 j1 j2 j3 j4 l0 l1 l2 l3 l4 HU HB10
          go_wp2_with fail
          go_loopw [16, 18] (fun o i wr => ∃ k : Nat, k ≤ d ∧ o = .bool true ∧ i = .int .i64 k ∧ Below w11.heap.size w11 wr) (fun _ i _ => d - (intOf i).toNat)
          case atStart => exact ⟨0, Nat.zero_le _, rfl, rfl, Below.refl _ _⟩
          case round =>
            obtain ⟨kk, hkk, rfl, rfl, hbr⟩ := hrel
            have q3 := cell_later hbr m3
            have HBR := hide hbr
            clear hbr
            by_cases hlt : kk < d
            · obtain ⟨x, hx⟩ : ∃ x, L[kk]? = some x := ⟨L[kk]'(by rw [HDN.out]; exact hlt), by simp⟩
              have c1 := cell_later (HM11.out.trans (HBR.out.mono HM11.out.size)) (HM.out.2 kk x hx)
              have c2 := cell_later HBR.out (HUC.out.2 kk x hx)
              have x1 := index_strs (cap := zm1) HM.out.1 kk hlt
              have x2 := index_strs (cap := c) HUC.out.1 kk hlt
              have hd1 : decide ((kk : Int) < (d : Int)) = true := by simp; omega
              clear hx
              go_wp2_with fail
              go_quiet (fail)
              go_wp2_with fail
              go_roundw
              case rel => exact ⟨kk + 1, by omega, rfl, by go_num, below_drewN HBR.out _⟩
              case measure => simp [intOf]; omega
            · have hd1 : decide ((kk : Int) < (d : Int)) = false := by simp; omega
              have hd2 : decide (kk < d) = false := by simp; omega
              go_wp2_with fail
              go_ret
              exact ⟨rfl, HB11.out.trans (HBR.out.mono HB11.out.size)⟩
        · -- one is none
          have hME : mergeT (N + 1) (norm (N + 1) ta) (norm (N + 1) tb) = norm (N + 1) tb := merge_over (by rw [← HPK.out.1, ← HPK.out.2.1]; exact hk)
          have HTT := HT10.out.2.2
          rw [hME] at HTT
          have HTM := hide HTT
          clear HTT hME
          have hcs : (ka == 4) = false ∨ (ka = 4 ∧ (kb == 4) = false) := by
            by_cases h1 : ka = 4
            · exact .inr ⟨h1, by simp; exact fun h2 => hk ⟨h1, h2⟩⟩
            · exact .inl (by simpa using h1)
          clear hk
          rcases hcs with h1 | ⟨rfl, h2⟩
          all_goals
            go_wp2_with fail
            refine (eqTZ_calls (N + 1) _ _ _ _ HT10.out.2.1 HTM.out).mono ?_
            rintro e w11 ⟨rfl, hb11⟩
            have HB11 := hide (HB10.out.trans (hb11.mono HB10.out.size))
            clear hb11
            go_wp2_with fail
            go_ret
            exact ⟨rfl, HB11.out⟩
end Go.Proofs.Qxb6616028a
