/- ZZMapScalarsSwap; the law FnMapScalarsSwapsEveryLeaf. -/
import Derived.Test.Qxb6616028aReadMap
import Derived.Test.Qxb6616028aNorm
import Derived.Test.Qxb6616028aBytes
import Derived.Test.Qxb6616028aToZZ
import Derived.Test.Qxb6616028aEq
import Derived.Deep.RegionWith
import Derived.Deep.RegionHeld3
import Derived.Deep.DrawnRows
namespace Go.Proofs.Qxb6616028a
open Go.RowKit

theorem small_norm (N : Nat) : ∀ (n : Nat) (t : Tr n), Small N n t → Small N n (norm n t)
  | 0, _, _ => trivial
  | n + 1, t, h => by
    obtain ⟨h1, h2, h3⟩ := h
    have leaf_ok : ∀ (k : Int) (b : Bool) (s : ByteArray), Small N (n + 1) (leaf k b s : Node (Tr n)) := fun k b s => ⟨Nat.zero_le _, Nat.zero_le _, fun x hx => by simp [leaf] at hx⟩
    show Small N (n + 1) (if Node.kind t = 1 then leaf 1 (Node.flag t) ByteArray.empty
      else if Node.kind t = 2 ∨ Node.kind t = 3 then leaf (Node.kind t) false (Node.text t)
      else if Node.kind t = 4 then
        ⟨4, false, ByteArray.empty, (toMap ((Node.keys t).zip ((Node.kids t).map (norm n)))).map (·.1), (toMap ((Node.keys t).zip ((Node.kids t).map (norm n)))).map (·.2)⟩
      else if Node.kind t = 5 then ⟨5, false, ByteArray.empty, [], (Node.kids t).map (norm n)⟩
      else leaf 0 false ByteArray.empty : Node (Tr n))
    split
    · exact leaf_ok _ _ _
    split
    · exact leaf_ok _ _ _
    split
    · have hl := length_toMap ((Node.keys t).zip ((Node.kids t).map (norm n)))
      rw [List.length_zip] at hl
      refine ⟨?_, ?_, fun x hx => ?_⟩
      · rw [List.length_map]; have : min (Node.keys t).length ((Node.kids t).map (norm n)).length ≤ (Node.keys t).length := Nat.min_le_left _ _; omega
      · rw [List.length_map]; have : min (Node.keys t).length ((Node.kids t).map (norm n)).length ≤ (Node.keys t).length := Nat.min_le_left _ _; omega
      · obtain ⟨q, hq, rfl⟩ := List.mem_map.1 hx
        have := (List.of_mem_zip (mem_toMap hq)).2
        obtain ⟨y, hy, hy2⟩ := List.mem_map.1 this
        rw [← hy2]
        exact small_norm N n y (h3 y hy)
    split
    · refine ⟨Nat.zero_le _, by rw [List.length_map]; exact h2, fun x hx => ?_⟩
      obtain ⟨y, hy, rfl⟩ := List.mem_map.1 hx
      exact small_norm N n y (h3 y hy)
    · exact leaf_ok _ _ _
theorem small_swap (N : Nat) : ∀ (n : Nat) (t : Tr n), Small N n t → Small N n (swapM n t)
  | 0, _, _ => trivial
  | n + 1, t, h => by
    obtain ⟨h1, h2, h3⟩ := h
    have leaf_ok : ∀ (k : Int) (b : Bool) (s : ByteArray), Small N (n + 1) (leaf k b s : Node (Tr n)) := fun k b s => ⟨Nat.zero_le _, Nat.zero_le _, fun x hx => by simp [leaf] at hx⟩
    show Small N (n + 1) (if Node.kind t = 1 then leaf 1 (!(Node.flag t)) ByteArray.empty
      else if Node.kind t = 2 then leaf 3 false (Node.text t)
      else if Node.kind t = 3 then leaf 2 false (Node.text t)
      else if Node.kind t = 4 ∨ Node.kind t = 5 then ⟨Node.kind t, false, ByteArray.empty, Node.keys t, (Node.kids t).map (swapM n)⟩
      else leaf 0 false ByteArray.empty : Node (Tr n))
    split
    · exact leaf_ok _ _ _
    split
    · exact leaf_ok _ _ _
    split
    · exact leaf_ok _ _ _
    split
    · refine ⟨h1, by rw [List.length_map]; exact h2, fun x hx => ?_⟩
      obtain ⟨y, hy, rfl⟩ := List.mem_map.1 hx
      exact small_swap N n y (h3 y hy)
    · exact leaf_ok _ _ _

/-- two results in boxes of five cells -/
theorem ret_cells2 {fn : Func} {p q : Tmp} {ty : TypeId} (h : fn.results = #[.cell p ty, .cell q ty]) (hty : ty = 26 ∨ ty = 31) {a : Act} {w : World} {b o b' o' : Nat} {c0 c1 c2 c3 c4 d0 d1 d2 d3 d4 : Value} {R : Ending → World → Prop}
    (hp : a.tmps.getD p undef = .pointer (some ⟨b, o, none⟩)) (hq : a.tmps.getD q undef = .pointer (some ⟨b', o', none⟩)) (hr : w.rangeAt b o [c0, c1, c2, c3, c4]) (hr' : w.rangeAt b' o' [d0, d1, d2, d3, d4]) (hd : a.defers = [])
    (hR : R (.returned (.tuple #[.agg #[c0, c1, c2, c3, c4], .agg #[d0, d1, d2, d3, d4]])) w) : bodyPost Try.prog fn R .ret a w := by
  refine bodyPost_ret (v := .tuple #[.agg #[c0, c1, c2, c3, c4], .agg #[d0, d1, d2, d3, d4]]) ?_ hd hR
  simp only [Array.getD_eq_getD_getElem?] at hp hq
  simp [results, h, hp, hq, asAddr, load5v ty hty hr, load5v ty hty hr']

def Ret55 (R : Value → Value → World → Prop) (e : Ending) (w' : World) : Prop :=
  ∃ k b s a1 n1 p1 a2 n2 p2 k' b' s' a1' n1' p1' a2' n2' p2',
    e = .returned (.tuple #[.agg #[.int .i8 k, .bool b, .string s, .slice a1 n1 p1, .slice a2 n2 p2], .agg #[.int .i8 k', .bool b', .string s', .slice a1' n1' p1', .slice a2' n2' p2']]) ∧
    R (.agg #[.int .i8 k, .bool b, .string s, .slice a1 n1 p1, .slice a2 n2 p2]) (.agg #[.int .i8 k', .bool b', .string s', .slice a1' n1' p1', .slice a2' n2' p2']) w'

theorem range_set5_other {w : World} {b o b' o' : Nat} {cs : List Value} {c0 c1 c2 c3 c4 : Value} (h : w.rangeAt b o cs) (hne : b ≠ b') : (set5 w b' o' c0 c1 c2 c3 c4).rangeAt b o cs :=
  fun j v hv => (World.cell?_of_block (w := w) (a := ⟨b, o + j, none⟩) (set5_other hne)).trans (h j v hv)
theorem cell_set5_other {w : World} {b o b' o' : Nat} {c0 c1 c2 c3 c4 u : Value} (h : w.cell? ⟨b, o, none⟩ = some u) (hne : b ≠ b') : (set5 w b' o' c0 c1 c2 c3 c4).cell? ⟨b, o, none⟩ = some u :=
  (World.cell?_of_block (w := w) (a := ⟨b, o, none⟩) (set5_other hne)).trans h
theorem alloc5_later {w w' : World} {b : Nat} {cs : List Value} (hb : Below (b + 1) w w') (h : w.rangeAt b 0 cs) : w'.rangeAt b 0 cs :=
  fun j v hv => (hb.cell (p := ⟨b, 0 + j, none⟩) (Nat.lt_succ_self b)).trans (h j v hv)

set_option maxRecDepth 100000 in
set_option maxHeartbeats 2000000 in
theorem zzswap_calls (N : Nat) (hN : N ≤ 1073741824) (n : Nat) (t : Tr n) (v : Value) (w : World) (hT : TreeAt Whole w n v t) (hS : Small N n t) :
    Calls Try.prog 16 #[v] w (Ret55 fun r r' w' => TreeAt Whole w' n r (swapM n (norm n t)) ∧ TreeAt Whole w' n r' (norm n t) ∧ Below w.heap.size w w') := by
  have hform : ∃ k b s a1 n1 p1 a2 n2 p2, v = .agg #[.int .i8 k, .bool b, .string s, .slice a1 n1 p1, .slice a2 n2 p2] := by
    cases n with
    | zero => exact hT.elim
    | succ n =>
      obtain ⟨ks, kd, rfl, ⟨kb, ko, ⟨ka, kc, rfl, _⟩, _⟩, ⟨db, dof, ⟨da, dc, rfl, _⟩, _⟩⟩ := hT
      exact ⟨_, _, _, _, _, _, _, _, _, rfl⟩
  obtain ⟨k, b, s, a1, n1, p1, a2, n2, p2, rfl⟩ := hform
  have HT := hide (And.intro hT hS)
  clear hT hS
  go_enter Try.func16, Try.ntmps16
  go_wp2_with fail
  have hbW := (((Below.refl w.heap.size w).alloc (Nat.le_refl _) (.cells #[.int .i8 k, .bool b, .string s, .slice a1 n1 p1, .slice a2 n2 p2] 31)).alloc (by simp) (.cells #[.int .i8 0, .bool false, .string { data := #[] }, .slice none 0 0, .slice none 0 0] 31)).alloc (by simp; omega) (.cells #[.int .i8 0, .bool false, .string { data := #[] }, .slice none 0 0, .slice none 0 0] 31)
  have hR1 : RowF (((w.alloc (.cells #[.int .i8 k, .bool b, .string s, .slice a1 n1 p1, .slice a2 n2 p2] 31)).alloc (.cells #[.int .i8 0, .bool false, .string { data := #[] }, .slice none 0 0, .slice none 0 0] 31)).alloc (.cells #[.int .i8 0, .bool false, .string { data := #[] }, .slice none 0 0, .slice none 0 0] 31)) (w.heap.size + 1) 31 5 0 (fun _ _ => True) := (RowF.make _ _ _ _ (by simp) rfl).alloc _
  have hR2 : RowF (((w.alloc (.cells #[.int .i8 k, .bool b, .string s, .slice a1 n1 p1, .slice a2 n2 p2] 31)).alloc (.cells #[.int .i8 0, .bool false, .string { data := #[] }, .slice none 0 0, .slice none 0 0] 31)).alloc (.cells #[.int .i8 0, .bool false, .string { data := #[] }, .slice none 0 0, .slice none 0 0] 31)) (w.heap.size + 2) 31 5 0 (fun _ _ => True) := RowF.make _ _ _ _ (by simp) rfl
  refine (build_calls N hN n t _ _ (HT.out.1.below hbW) HT.out.2).mono ?_
  rintro e w2 ⟨r, rfl, hA, hb2⟩
  have hsz2 : w.heap.size + 3 ≤ w2.heap.size := by have := hb2.size; simp at this; omega
  have hbw2 := hbW.trans (hb2.mono (by simp; omega))
  have hR1 := hR1.kept (hb2.block _ (by simp))
  have hR2 := hR2.kept (hb2.block _ (by simp))
  have HA := hide hA
  have HB := hide hbw2
  have HR := hide (And.intro hR1 hR2)
  clear hA hb2 hbw2 hR1 hR2 hbW
  go_wp2_with fail
  have hcall := maps_calls true N hN n (norm n t) r w2 HA.out.whole (small_norm N n t HT.out.2)
  unfold fVal fId at hcall
  simp only [if_true] at hcall
  refine hcall.mono ?_
  clear hcall
  rintro e w3 ⟨r3, rfl, hA3, hb3⟩
  have hA2 := HA.out.whole.below hb3
  have hA3' : AnyAt Whole w3 n r3 (swapM n (norm n t)) := hA3.whole
  have hsz3 : w.heap.size + 3 ≤ w3.heap.size := by have := hb3.size; omega
  have HR3 := hide (And.intro (HR.out.1.kept (hb3.block _ (by omega))) (HR.out.2.kept (hb3.block _ (by omega))))
  have HA3 := hide (And.intro hA3' hA2)
  have HB3 := hide (HB.out.trans (hb3.mono (by omega)))
  clear hA2 hA3 hA3' hb3
  go_wp2_with fail
  refine (read_calls N hN n _ _ _ HA3.out.1 (small_swap N n _ (small_norm N n t HT.out.2))).mono ?_
  rintro e w4 ⟨k1, b1, s1, x1, y1, z1, x2, y2, z2, rfl, hT4, hb4⟩
  have hsz4 : w.heap.size + 3 ≤ w4.heap.size := by have := hb4.size; omega
  have HR4 := hide (And.intro (HR3.out.1.kept (hb4.block _ (by omega))) (HR3.out.2.kept (hb4.block _ (by omega))))
  have HT4 := hide hT4
  have HA4 := hide (HA3.out.2.below hb4)
  have HB4 := hide (HB3.out.trans (hb4.mono (by omega)))
  have HS4 := hide hsz3
  clear hT4 hb4
  go_wp2_with fail
  refine (read_calls N hN n _ _ _ HA4.out (small_norm N n t HT.out.2)).mono ?_
  rintro e w5 ⟨k2, b2, s2, u1, v1, t1, u2, v2, t2, rfl, hT5, hb5⟩
  have hsz5 : w4.heap.size ≤ w5.heap.size := hb5.size
  have hr1 := HR4.out.1.kept (hb5.block _ (by omega))
  have hr2 := HR4.out.2.kept (hb5.block _ (by omega))
  obtain ⟨f0, hf0⟩ := hr1.old (j := 0) (by omega)
  obtain ⟨f1, hf1⟩ := hr1.old (j := 1) (by omega)
  obtain ⟨f2, hf2⟩ := hr1.old (j := 2) (by omega)
  obtain ⟨f3, hf3⟩ := hr1.old (j := 3) (by omega)
  obtain ⟨f4, hf4⟩ := hr1.old (j := 4) (by omega)
  obtain ⟨g0, hg0⟩ := hr2.old (j := 0) (by omega)
  obtain ⟨g1, hg1⟩ := hr2.old (j := 1) (by omega)
  obtain ⟨g2, hg2⟩ := hr2.old (j := 2) (by omega)
  obtain ⟨g3, hg3⟩ := hr2.old (j := 3) (by omega)
  obtain ⟨g4, hg4⟩ := hr2.old (j := 4) (by omega)
  have hz0 := hr1.frozen 0
  have hz1 := hr1.frozen 1
  have hz2 := hr1.frozen 2
  have hz3 := hr1.frozen 3
  have hz4 := hr1.frozen 4
  have hy0 := hr2.frozen 0
  have hy1 := hr2.frozen 1
  have hy2 := hr2.frozen 2
  have hy3 := hr2.frozen 3
  have hy4 := hr2.frozen 4
  have HT5 := hide (And.intro (HT4.out.below hb5) hT5)
  have HB5 := hide (HB4.out.trans (hb5.mono (by omega)))
  clear hr1 hr2 hT5 hb5
  go_wp2_with fail
  have hne : w.heap.size + 1 ≠ w.heap.size + 2 := by omega
  have hne' : w.heap.size + 2 ≠ w.heap.size + 1 := by omega
  refine ret_cells2 Try.results16 (.inr rfl) rfl rfl (range_set5_other (set5_range hf0 hf1 hf2 hf3 hf4) hne) (set5_range (cell_set5_other hg0 hne') (cell_set5_other hg1 hne') (cell_set5_other hg2 hne') (cell_set5_other hg3 hne') (cell_set5_other hg4 hne')) rfl
    ⟨_, _, _, _, _, _, _, _, _, _, _, _, _, _, _, _, _, _, rfl, ?_, ?_, (HB5.out.trans (set5_below (by omega))).trans (set5_below (by omega))⟩
  · exact ((HT5.out.1.mono (set5_stay (by show ¬ (w3.heap.size ≤ _); omega)) (fun _ h => h)).mono (set5_stay (by show ¬ (w3.heap.size ≤ _); omega)) (fun _ h => h)).whole
  · exact ((HT5.out.2.mono (set5_stay (by show ¬ (w4.heap.size ≤ _); omega)) (fun _ h => h)).mono (set5_stay (by show ¬ (w4.heap.size ≤ _); omega)) (fun _ h => h)).whole

set_option maxRecDepth 100000 in
set_option maxHeartbeats 2000000 in
theorem swaps_calls (n : Nat) (t : Tr n) (v : Value) (w : World) (hT : TreeAt Whole w n v t) :
    Calls Try.prog 5 #[v] w (fun e w' => e = .returned (.bool true) ∧ Below w.heap.size w w') := by
  have hform : ∃ k b s a1 n1 p1 a2 n2 p2, v = .agg #[.int .i8 k, .bool b, .string s, .slice a1 n1 p1, .slice a2 n2 p2] := by
    cases n with
    | zero => exact hT.elim
    | succ n =>
      obtain ⟨ks, kd, rfl, ⟨kb, ko, ⟨ka, kc, rfl, _⟩, _⟩, ⟨db, dof, ⟨da, dc, rfl, _⟩, _⟩⟩ := hT
      exact ⟨_, _, _, _, _, _, _, _, _, rfl⟩
  obtain ⟨k, b, s, a1, n1, p1, a2, n2, p2, rfl⟩ := hform
  have HT := hide hT
  clear hT
  go_enter Try.func5, Try.ntmps5
  go_wp2_with fail
  have hbW := (Below.refl w.heap.size w).alloc (Nat.le_refl _) (.cells #[.int .i8 k, .bool b, .string s, .slice a1 n1 p1, .slice a2 n2 p2] 26)
  refine (bytes_calls n t _ _ _ (HT.out.below hbW) (by omega) (by omega)).mono ?_
  rintro e w1 ⟨r, rfl, hr0, hr1, hrS, hb1⟩
  have HS := hide hrS
  have HB1 := hide (hbW.trans (hb1.mono (by simp)))
  have b0 : w1.cell? ⟨w.heap.size, 0, none⟩ = some (.int .i8 k) := by rw [hb1.cell (by simp)]; simp
  have b1 : w1.cell? ⟨w.heap.size, 1, none⟩ = some (.bool b) := by rw [hb1.cell (by simp)]; simp
  have b2 : w1.cell? ⟨w.heap.size, 2, none⟩ = some (.string s) := by rw [hb1.cell (by simp)]; simp
  have b3 : w1.cell? ⟨w.heap.size, 3, none⟩ = some (.slice a1 n1 p1) := by rw [hb1.cell (by simp)]; simp
  have b4 : w1.cell? ⟨w.heap.size, 4, none⟩ = some (.slice a2 n2 p2) := by rw [hb1.cell (by simp)]; simp
  have hs1 : w.heap.size + 1 ≤ w1.heap.size := by have := hb1.size; simp at this; omega
  clear hrS hb1 hbW
  by_cases hbig : 1048576 < r
  · go_wp2_with fail
    go_ret
    exact ⟨rfl, HB1.out⟩
  · have hsm := HS.out (by omega)
    have HSM := hide hsm
    clear hsm
    go_wp2_with fail
    refine (norm_calls 1048576 (by omega) n t _ _ (HT.out.below HB1.out) HSM.out).mono ?_
    rintro e w2 ⟨kn, bn, sn, an1, nn1, pn1, an2, nn2, pn2, rfl, hTn, hb2⟩
    have HB2 := hide (HB1.out.trans (hb2.mono (by omega)))
    have d0 := cell_later hb2 b0
    have d1 := cell_later hb2 b1
    have d2 := cell_later hb2 b2
    have d3 := cell_later hb2 b3
    have d4 := cell_later hb2 b4
    have hs2 : w.heap.size < w2.heap.size := by have := hb2.size; omega
    have HTn := hide hTn.whole
    clear hTn hb2 b0 b1 b2 b3 b4
    go_wp2_with fail
    have hbx := (Below.refl w2.heap.size w2).alloc (Nat.le_refl _) (.cells #[.int .i8 kn, .bool bn, .string sn, .slice an1 nn1 pn1, .slice an2 nn2 pn2] 26)
    refine (tozz_calls 1048576 (by omega) n t _ _ (HT.out.below (HB2.out.trans (hbx.mono (by omega)))) HSM.out).mono ?_
    rintro e w3 ⟨kz, bz, sz, az1, nz1, pz1, az2, nz2, pz2, rfl, hTz, hb3⟩
    have e0 : w3.cell? ⟨w2.heap.size, 0, none⟩ = some (.int .i8 kn) := by rw [hb3.cell (by simp)]; simp
    have e1 : w3.cell? ⟨w2.heap.size, 1, none⟩ = some (.bool bn) := by rw [hb3.cell (by simp)]; simp
    have e2 : w3.cell? ⟨w2.heap.size, 2, none⟩ = some (.string sn) := by rw [hb3.cell (by simp)]; simp
    have e3 : w3.cell? ⟨w2.heap.size, 3, none⟩ = some (.slice an1 nn1 pn1) := by rw [hb3.cell (by simp)]; simp
    have e4 : w3.cell? ⟨w2.heap.size, 4, none⟩ = some (.slice an2 nn2 pn2) := by rw [hb3.cell (by simp)]; simp
    have hbx3 := hbx.trans (hb3.mono (by simp))
    have HB3 := hide (HB2.out.trans (hbx3.mono (by omega)))
    have HTn3 := hide (HTn.out.below hbx3)
    have HTz := hide hTz.whole
    have hs3 : w2.heap.size + 1 ≤ w3.heap.size := by have := hb3.size; simp at this; omega
    clear hTz hb3 hbx hbx3 d0 d1 d2 d3 d4 HTn
    go_wp2_with fail
    refine (zzswap_calls 1048576 (by omega) n t _ _ HTz.out HSM.out).mono ?_
    rintro e w4 ⟨kg, bg, sg, ag1, ng1, pg1, ag2, ng2, pg2, kf, bf, sf, af1, nf1, pf1, af2, nf2, pf2, rfl, hTg, hTf, hb4⟩
    have q0 := cell_later hb4 e0
    have q1 := cell_later hb4 e1
    have q2 := cell_later hb4 e2
    have q3 := cell_later hb4 e3
    have q4 := cell_later hb4 e4
    have HB4 := hide (HB3.out.trans (hb4.mono HB3.out.size))
    have HT4 := hide (And.intro (HTn3.out.below hb4) (And.intro hTg hTf))
    have hs4 : w2.heap.size + 1 ≤ w4.heap.size := by have := hb4.size; omega
    clear hTg hTf hb4 e0 e1 e2 e3 e4 HTn3
    go_wp2_with fail
    have hbx4 := ((Below.refl w4.heap.size w4).alloc (Nat.le_refl _) (.cells #[.int .i8 kg, .bool bg, .string sg, .slice ag1 ng1 pg1, .slice ag2 ng2 pg2] 31)).alloc (by simp) (.cells #[.int .i8 kf, .bool bf, .string sf, .slice af1 nf1 pf1, .slice af2 nf2 pf2] 31)
    generalize hW5 : (w4.alloc (.cells #[.int .i8 kg, .bool bg, .string sg, .slice ag1 ng1 pg1, .slice ag2 ng2 pg2] 31)).alloc (.cells #[.int .i8 kf, .bool bf, .string sf, .slice af1 nf1 pf1, .slice af2 nf2 pf2] 31) = w5 at *
    have cn0 := cell_later hbx4 q0
    have cn1 := cell_later hbx4 q1
    have cn2 := cell_later hbx4 q2
    have cn3 := cell_later hbx4 q3
    have cn4 := cell_later hbx4 q4
    have cg0 : w5.cell? ⟨w4.heap.size, 0, none⟩ = some (.int .i8 kg) := by rw [← hW5, World.cell?_alloc_past _ _ _ (by simp)]; simp
    have cg1 : w5.cell? ⟨w4.heap.size, 1, none⟩ = some (.bool bg) := by rw [← hW5, World.cell?_alloc_past _ _ _ (by simp)]; simp
    have cg2 : w5.cell? ⟨w4.heap.size, 2, none⟩ = some (.string sg) := by rw [← hW5, World.cell?_alloc_past _ _ _ (by simp)]; simp
    have cg3 : w5.cell? ⟨w4.heap.size, 3, none⟩ = some (.slice ag1 ng1 pg1) := by rw [← hW5, World.cell?_alloc_past _ _ _ (by simp)]; simp
    have cg4 : w5.cell? ⟨w4.heap.size, 4, none⟩ = some (.slice ag2 ng2 pg2) := by rw [← hW5, World.cell?_alloc_past _ _ _ (by simp)]; simp
    have cf0 : w5.cell? ⟨w4.heap.size + 1, 0, none⟩ = some (.int .i8 kf) := by rw [← hW5, World.cell?_alloc_at _ _ _ _ (by simp)]; simp
    have cf1 : w5.cell? ⟨w4.heap.size + 1, 1, none⟩ = some (.bool bf) := by rw [← hW5, World.cell?_alloc_at _ _ _ _ (by simp)]; simp
    have cf2 : w5.cell? ⟨w4.heap.size + 1, 2, none⟩ = some (.string sf) := by rw [← hW5, World.cell?_alloc_at _ _ _ _ (by simp)]; simp
    have cf3 : w5.cell? ⟨w4.heap.size + 1, 3, none⟩ = some (.slice af1 nf1 pf1) := by rw [← hW5, World.cell?_alloc_at _ _ _ _ (by simp)]; simp
    have cf4 : w5.cell? ⟨w4.heap.size + 1, 4, none⟩ = some (.slice af2 nf2 pf2) := by rw [← hW5, World.cell?_alloc_at _ _ _ _ (by simp)]; simp
    have HB5 := hide (HB4.out.trans (hbx4.mono HB4.out.size))
    have HT5 := hide (And.intro (HT4.out.1.below hbx4) (And.intro (HT4.out.2.1.below hbx4) (HT4.out.2.2.below hbx4)))
    have HSN := hide (small_norm 1048576 n t HSM.out)
    clear hW5 q0 q1 q2 q3 q4 hbx4 HT4
    generalize w2.heap.size = B1 at *
    generalize w4.heap.size = B2 at *
    go_region_held3 (fun w' => w'.cell? ⟨B1, 0, none⟩ = some (.int .i8 kn) ∧ w'.cell? ⟨B1, 1, none⟩ = some (.bool bn) ∧ w'.cell? ⟨B1, 2, none⟩ = some (.string sn) ∧ w'.cell? ⟨B1, 3, none⟩ = some (.slice an1 nn1 pn1) ∧ w'.cell? ⟨B1, 4, none⟩ = some (.slice an2 nn2 pn2) ∧ w'.cell? ⟨B2, 0, none⟩ = some (.int .i8 kg) ∧ w'.cell? ⟨B2, 1, none⟩ = some (.bool bg) ∧ w'.cell? ⟨B2, 2, none⟩ = some (.string sg) ∧ w'.cell? ⟨B2, 3, none⟩ = some (.slice ag1 ng1 pg1) ∧ w'.cell? ⟨B2, 4, none⟩ = some (.slice ag2 ng2 pg2) ∧ w'.cell? ⟨B2 + 1, 0, none⟩ = some (.int .i8 kf) ∧ w'.cell? ⟨B2 + 1, 1, none⟩ = some (.bool bf) ∧ w'.cell? ⟨B2 + 1, 2, none⟩ = some (.string sf) ∧ w'.cell? ⟨B2 + 1, 3, none⟩ = some (.slice af1 nf1 pf1) ∧ w'.cell? ⟨B2 + 1, 4, none⟩ = some (.slice af2 nf2 pf2))
      (first | exact ⟨cn0, cn1, cn2, cn3, cn4, cg0, cg1, cg2, cg3, cg4, cf0, cf1, cf2, cf3, cf4⟩ | exact ⟨cell_later hbA cn0, cell_later hbA cn1, cell_later hbA cn2, cell_later hbA cn3, cell_later hbA cn4, cell_later hbA cg0, cell_later hbA cg1, cell_later hbA cg2, cell_later hbA cg3, cell_later hbA cg4, cell_later hbA cf0, cell_later hbA cf1, cell_later hbA cf2, cell_later hbA cf3, cell_later hbA cf4⟩ | exact ⟨cell_later hbB (cell_later hbA cn0), cell_later hbB (cell_later hbA cn1), cell_later hbB (cell_later hbA cn2), cell_later hbB (cell_later hbA cn3), cell_later hbB (cell_later hbA cn4), cell_later hbB (cell_later hbA cg0), cell_later hbB (cell_later hbA cg1), cell_later hbB (cell_later hbA cg2), cell_later hbB (cell_later hbA cg3), cell_later hbB (cell_later hbA cg4), cell_later hbB (cell_later hbA cf0), cell_later hbB (cell_later hbA cf1), cell_later hbB (cell_later hbA cf2), cell_later hbB (cell_later hbA cf3), cell_later hbB (cell_later hbA cf4)⟩ | exact ⟨cell_later hbC (cell_later hbB (cell_later hbA cn0)), cell_later hbC (cell_later hbB (cell_later hbA cn1)), cell_later hbC (cell_later hbB (cell_later hbA cn2)), cell_later hbC (cell_later hbB (cell_later hbA cn3)), cell_later hbC (cell_later hbB (cell_later hbA cn4)), cell_later hbC (cell_later hbB (cell_later hbA cg0)), cell_later hbC (cell_later hbB (cell_later hbA cg1)), cell_later hbC (cell_later hbB (cell_later hbA cg2)), cell_later hbC (cell_later hbB (cell_later hbA cg3)), cell_later hbC (cell_later hbB (cell_later hbA cg4)), cell_later hbC (cell_later hbB (cell_later hbA cf0)), cell_later hbC (cell_later hbB (cell_later hbA cf1)), cell_later hbC (cell_later hbB (cell_later hbA cf2)), cell_later hbC (cell_later hbB (cell_later hbA cf3)), cell_later hbC (cell_later hbB (cell_later hbA cf4))⟩)
      (first | (go_at_call 17; have hcall := swapModel_calls 1048576 (by omega) n Whole _ _ w5.drew (HT5.out.1.below (Below.refl _ _).drew) HSN.out; refine hcall.mono ?_; clear hcall; rintro e wA ⟨km, bm, sm, am1, nm1, pm1, am2, nm2, pm2, rfl, hTm, hbA⟩) | (go_at_call_of 11 (Value.string sg); have hcall := eqTZ_calls n _ _ _ wA hTm.whole ((HT5.out.2.1.below (Below.refl _ _).drew).below hbA); refine hcall.mono ?_; clear hcall; rintro e wB ⟨rfl, hbB⟩) | (go_at_call_of 11 (Value.string sf); have hcall := eqTZ_calls n _ _ _ wB (((HT5.out.1.below (Below.refl _ _).drew).below hbA).below hbB) (((HT5.out.2.2.below (Below.refl _ _).drew).below hbA).below hbB); refine hcall.mono ?_; clear hcall; rintro e wC ⟨rfl, hbC⟩))
    have hA' : Below w5.heap.size w5 wA := (Below.refl _ _).drew.trans hbA
    have hB' := hA'.trans (hbB.mono hA'.size)
    have hC' := hB'.trans (hbC.mono hB'.size)
    have HC := hide (HB5.out.trans (hC'.mono HB5.out.size))
    clear hA' hB' hC' hTm
    go_wp2_with fail
    go_ret
    exact ⟨rfl, HC.out⟩
end Go.Proofs.Qxb6616028a
