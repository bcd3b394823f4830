/- zzNorm: the value that a tree stands for. -/
import Derived.Test.Qxb6616028aNormMap
namespace Go.Proofs.Qxb6616028a
open Go.RowKit

set_option maxHeartbeats 2000000 in
theorem norm_other (N : Nat) (hN : N ≤ 1073741824) (n : Nat) (ih : NormSaid N n) (t : Tr (n + 1)) (ht : Node.kind t ≠ 4) (v : Value) (w : World) (hT : TreeAt Whole w (n + 1) v t) (hS : Small N (n + 1) t) :
    Calls Try.prog 8 #[v] w (Ret5 fun r w' => TreeAt (From w.heap.size) w' (n + 1) r (norm (n + 1) t) ∧ Below w.heap.size w w') := by
  have IH := hide ih
  clear ih
  obtain ⟨ks, kd, rfl, ⟨kb, ko, ⟨ka, kc, rfl, hkc, hkm, hka, _⟩, hks⟩, ⟨db, dof, ⟨da, dc, rfl, hdc, hdm, hda, _⟩, hkd⟩⟩ := hT
  obtain ⟨hs1, hs2, hs3⟩ := hS
  generalize hkn : t.keys.length = kn at *
  generalize hdn : t.kids.length = dn at *
  generalize hkind : t.kind = kind at *
  generalize hflag : t.flag = flag at *
  generalize htext : t.text = text at *
  have HT := hide (And.intro hkn (And.intro hdn (And.intro hkind (And.intro hflag htext))))
  have H2 := hide hkd
  have H3 := hide hs3
  have Hda := hide hda
  clear hkn hdn hkind hflag htext hks hkd hs3 hka hda
  have hmz := make_trees dn (by omega)
  by_cases h1 : kind = 1
  · subst h1
    have hsw : Hid (norm (n + 1) t = leaf 1 flag ByteArray.empty) := hide (by simp [norm, HT.out]; rfl)
    go_enter Try.func8, Try.ntmps8
    go_wp2_with fail
    exact ret_cell5 Try.results8 (.inl rfl) rfl (alloc5_range _ _ _ _ _ _ _ (by simp)) rfl ⟨_, _, _, _, _, _, _, _, _, rfl, by rw [hsw.out]; exact leafAt _ _ _ _ _ _, ((Below.refl _ _).alloc (Nat.le_refl _) _).alloc (by simp) _⟩
  by_cases h23 : kind = 2 ∨ kind = 3
  · have hsw : Hid (norm (n + 1) t = leaf kind false text) := hide (by simp [norm, HT.out, h1, h23]; rfl)
    clear h1 ht
    rcases h23 with rfl | rfl
    all_goals
      go_enter Try.func8, Try.ntmps8
      go_wp2_with fail
      exact ret_cell5 Try.results8 (.inl rfl) rfl (alloc5_range _ _ _ _ _ _ _ (by simp)) rfl ⟨_, _, _, _, _, _, _, _, _, rfl, by rw [hsw.out]; exact leafAt _ _ _ _ _ _, ((Below.refl _ _).alloc (Nat.le_refl _) _).alloc (by simp) _⟩
  by_cases h5 : kind = 5
  · subst h5
    have hsw : Hid (norm (n + 1) t = (⟨5, false, ByteArray.empty, [], t.kids.map (norm n)⟩ : Node (Tr n))) := hide (by simp [norm, HT.out]; rfl)
    clear h1 h23 ht
    go_enter Try.func8, Try.ntmps8
    go_wp2_with fail
    go_loopw [121] (fun i wr => ∃ j : Nat, j ≤ dn ∧ i = .int .i64 j ∧ w.heap.size + 3 ≤ wr.heap.size ∧
      Below (w.heap.size + 2) ((w.alloc (.cells #[.int .i8 5, .bool flag, .string text, .slice ka kn kc, .slice da dn dc] 26)).alloc (.cells #[.int .i8 0, .bool false, .string { data := #[] }, .slice none 0 0, .slice none 0 0] 26)) wr ∧
      RowF5 wr (w.heap.size + 2) 26 dn j (fun i u => ∀ x, (t.kids.map (norm n))[i]? = some x → TreeAt (From (w.heap.size + 3)) wr n u x)) (fun i _ => dn - (intOf i).toNat)
    case atStart => exact ⟨0, Nat.zero_le _, rfl, by simp, (Below.refl _ _).alloc (by simp) _, RowF5.make _ _ _ _ _ (by simp) (size_zeros5 dn)⟩
    case round =>
      obtain ⟨j, hj, rfl, hsz2, hB2, hR2⟩ := hrel
      have hb2 : Below w.heap.size w wr := (((Below.refl _ _).alloc (Nat.le_refl _) _).alloc (by simp) _).trans (hB2.mono (by omega))
      have hbox : wr.cell? ⟨w.heap.size, 4, none⟩ = some (.slice da dn dc) := by rw [hB2.cell (by simp)]; simp
      by_cases hlt2 : j < dn
      · obtain ⟨x, hx⟩ : ∃ x, t.kids[j]? = some x := ⟨t.kids[j]'(by rw [HT.out.2.1]; exact hlt2), by simp⟩
        obtain ⟨c0, c1, c2, c3, c4, hr, htr⟩ := H2.out j x hx
        have hix := index_trees (cap := dc) Hda.out j hlt2
        have hrr := rangeAt_later hb2 hr
        have e0 : wr.cell? ⟨db, dof + j * 5, none⟩ = some c0 := hrr 0 c0 rfl
        have e1 : wr.cell? ⟨db, dof + j * 5 + 1, none⟩ = some c1 := hrr 1 c1 rfl
        have e2 : wr.cell? ⟨db, dof + j * 5 + 2, none⟩ = some c2 := hrr 2 c2 rfl
        have e3 : wr.cell? ⟨db, dof + j * 5 + 3, none⟩ = some c3 := hrr 3 c3 rfl
        have e4 : wr.cell? ⟨db, dof + j * 5 + 4, none⟩ = some c4 := hrr 4 c4 rfl
        have HX := hide hx
        have HTR := hide htr
        have HR2 := hide hR2
        have HB2 := hide hB2
        clear hx htr hr hrr hR2 hB2
        go_wp2_with fail
        refine (IH.out x _ _ (HTR.out.below hb2) (H3.out x (List.mem_of_getElem? HX.out))).mono ?_
        rintro e w3 ⟨k', b', s', a1, n1, p1, a2, n2, p2, rfl, hT3, hb3⟩
        have hR3 : RowF5 w3 (w.heap.size + 2) 26 dn j (fun i u => ∀ x, (t.kids.map (norm n))[i]? = some x → TreeAt (From (w.heap.size + 3)) w3 n u x) :=
          (HR2.out.kept (hb3.block _ (by omega))).turn (fun i u _ h x hx => (h x hx).below hb3)
        obtain ⟨f0, hf0⟩ := hR3.old (j := j * 5) (by omega)
        obtain ⟨f1, hf1⟩ := hR3.old (j := j * 5 + 1) (by omega)
        obtain ⟨f2, hf2⟩ := hR3.old (j := j * 5 + 2) (by omega)
        obtain ⟨f3, hf3⟩ := hR3.old (j := j * 5 + 3) (by omega)
        obtain ⟨f4, hf4⟩ := hR3.old (j := j * 5 + 4) (by omega)
        have hz0 := hR3.frozen (j * 5)
        have hz1 := hR3.frozen (j * 5 + 1)
        have hz2 := hR3.frozen (j * 5 + 2)
        have hz3 := hR3.frozen (j * 5 + 3)
        have hz4 := hR3.frozen (j * 5 + 4)
        have HR3 := hide hR3
        have HT3 := hide hT3
        clear hR3 hT3
        go_wp2_with fail
        refine ⟨⟨j + 1, by omega, by go_num, by have := hb3.size; rw [set5_size]; omega, HB2.out.trans ((hb3.mono (by omega)).trans (set5_below (by omega))), ?_⟩, by simp [intOf]; omega⟩
        have hno : ¬ (From (w.heap.size + 3)) (w.heap.size + 2) := by show ¬ (w.heap.size + 3 ≤ w.heap.size + 2); omega
        refine RowF5.step (w := w3) (HR3.out.turn (fun i u _ h x hx => (h x hx).mono (set5_stay hno) (fun _ h => h))) hlt2 (fun y hy => ?_)
        rw [List.getElem?_map, HX.out] at hy
        cases hy
        exact (HT3.out.mono (fun _ _ _ => rfl) (fun b h => Nat.le_trans hsz2 h) : TreeAt (From (w.heap.size + 3)) w3 n _ _).mono (set5_stay hno) (fun _ h => h)
      · have hje : j = dn := by omega
        have hR1 : RowF wr (w.heap.size + 1) 26 5 0 (fun _ _ => True) := (RowF.make _ _ _ _ (by simp) rfl).kept (hB2.block _ (by omega))
        obtain ⟨f0, hf0⟩ := hR1.old (j := 0) (by omega)
        obtain ⟨f1, hf1⟩ := hR1.old (j := 1) (by omega)
        obtain ⟨f2, hf2⟩ := hR1.old (j := 2) (by omega)
        obtain ⟨f3, hf3⟩ := hR1.old (j := 3) (by omega)
        obtain ⟨f4, hf4⟩ := hR1.old (j := 4) (by omega)
        have hz0 := hR1.frozen 0
        have hz1 := hR1.frozen 1
        have hz2 := hR1.frozen 2
        have hz3 := hR1.frozen 3
        have hz4 := hR1.frozen 4
        have HR2 := hide hR2
        have HB2 := hide hB2
        clear hR2 hB2 hR1
        go_wp2_with fail
        refine ret_cell5 Try.results8 (.inl rfl) rfl (set5_range hf0 hf1 hf2 hf3 hf4) rfl ⟨_, _, _, _, _, _, _, _, _, rfl, ?_, hb2.trans (set5_below (by omega))⟩
        subst hje
        rw [hsw.out]
        refine ⟨_, _, rfl, StrsAt.nil _ _, KidsAt.of_row (by rw [List.length_map]; exact HT.out.2.1) (by show w.heap.size ≤ _; omega) (by omega) ((HR2.out.kept (set5_other (by omega))).turn (fun i u _ h x hx => (h x hx).mono (set5_stay (by show ¬ (w.heap.size + 3 ≤ w.heap.size + 1); omega)) (fun b hb => by have hb' : w.heap.size + 3 ≤ b := hb; show w.heap.size ≤ b; omega)))⟩
  · have hsw : Hid (norm (n + 1) t = leaf 0 false ByteArray.empty) := hide (by simp [norm, HT.out, h1, h23, h5, ht]; rfl)
    have k1 : (kind == 1) = false := by simp [h1]
    have k2 : (kind == 2) = false := by simp; omega
    have k3 : (kind == 3) = false := by simp; omega
    have k4 : (kind == 4) = false := by simp [ht]
    have k5 : (kind == 5) = false := by simp [h5]
    clear h1 h23 h5 ht
    go_enter Try.func8, Try.ntmps8
    go_wp2_with fail
    exact ret_cell5 Try.results8 (.inl rfl) rfl (alloc5_range _ _ _ _ _ _ _ (by simp)) rfl ⟨_, _, _, _, _, _, _, _, _, rfl, by rw [hsw.out]; exact leafAt _ _ _ _ _ _, ((Below.refl _ _).alloc (Nat.le_refl _) _).alloc (by simp) _⟩

theorem norm_calls (N : Nat) (hN : N ≤ 1073741824) : ∀ n, NormSaid N n
  | 0 => fun _ _ _ h => h.elim
  | n + 1 => fun t v w hT hS => by
    have ih := norm_calls N hN n
    by_cases h : Node.kind t = 4
    · exact norm_map N hN n ih t h v w hT hS
    · exact norm_other N hN n ih t h v w hT hS
end Go.Proofs.Qxb6616028a
