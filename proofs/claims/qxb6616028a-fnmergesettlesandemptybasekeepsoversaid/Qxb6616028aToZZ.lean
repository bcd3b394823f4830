/- zzToZZ: a copy of the tree, in new blocks. -/
import Derived.Test.Qxb6616028aHeap
namespace Go.Proofs.Qxb6616028a
open Go.RowKit

set_option maxHeartbeats 1000000 in
theorem tozz_calls (N : Nat) (hN : N ≤ 1073741824) (n : Nat) : ∀ (t : Tr n) (v : Value) (w : World), TreeAt Whole w n v t → Small N n t →
    Calls Try.prog 10 #[v] w (Ret5 fun r w' => TreeAt (From w.heap.size) w' n r t ∧ Below w.heap.size w w') := by
  induction n with
  | zero => intro t v w h; exact h.elim
  | succ n ih =>
    intro t v w hT hS
    have IH := hide ih
    clear ih
    obtain ⟨ks, kd, rfl, ⟨kb, ko, ⟨ka, kc, rfl, hkc, hkm, hka, _⟩, hks⟩, ⟨db, dof, ⟨da, dc, rfl, hdc, hdm, hda, _⟩, hkd⟩⟩ := hT
    obtain ⟨hs1, hs2, hs3⟩ := hS
    generalize hkn : t.keys.length = kn at *
    generalize hdn : t.kids.length = dn at *
    generalize hkind : t.kind = kind at *
    generalize hflag : t.flag = flag at *
    generalize htext : t.text = text at *
    have HT := hide (And.intro hkn (And.intro hdn (And.intro hkind (And.intro hflag htext))))
    have H1 := hide hks
    have H2 := hide hkd
    have H3 := hide hs3
    have Hka := hide hka
    have Hda := hide hda
    clear hkn hdn hkind hflag htext hks hkd hs3 hka hda
    have hmk := make_strs kn (by omega)
    have hmz := make_zz dn (by omega)
    go_enter Try.func10, Try.ntmps10
    go_wp2_with fail
    go_loopw [14] (fun i wr => ∃ k : Nat, k ≤ kn ∧ i = .int .i64 k ∧ wr.heap.size = w.heap.size + 3 ∧ Below (w.heap.size + 1) (w.alloc (.cells #[.int .i8 kind, .bool flag, .string text, .slice ka kn kc, .slice da dn dc] 26)) wr ∧
      RowF wr (w.heap.size + 1) 31 5 0 (fun _ _ => True) ∧
      RowF wr (w.heap.size + 2) 9 kn k (fun j u => ∀ s, t.keys[j]? = some s → u = .string s)) (fun i _ => kn - (intOf i).toNat)
    case atStart => exact ⟨0, Nat.zero_le _, rfl, by simp, ((Below.refl _ _).alloc (by simp) _).alloc (by simp) _, (RowF.make _ _ _ _ (by simp) rfl).alloc _, RowF.make _ _ _ _ (by simp) (size_madeCells _ _)⟩
    case round =>
      obtain ⟨k, hk, rfl, hsz, hB, hR1, hR⟩ := hrel
      have hb0 : Below w.heap.size w wr := ((Below.refl _ _).alloc (Nat.le_refl _) _).trans (hB.mono (Nat.le_succ w.heap.size))
      have hbox3 : wr.cell? ⟨w.heap.size, 3, none⟩ = some (.slice ka kn kc) := by rw [hB.cell (by simp)]; simp
      have hbox4 : wr.cell? ⟨w.heap.size, 4, none⟩ = some (.slice da dn dc) := by rw [hB.cell (by simp)]; simp
      by_cases hlt : k < kn
      · obtain ⟨s, hs⟩ : ∃ s, t.keys[k]? = some s := ⟨t.keys[k]'(by rw [HT.out.1]; exact hlt), by simp⟩
        have hc := cell_later hb0 (H1.out k s hs)
        have hix := index_strs (cap := kc) Hka.out k hlt
        obtain ⟨u, hu⟩ := hR.old hlt
        have hfz := hR.frozen k
        have HS := hide hs
        have HR := hide hR
        have HR1 := hide hR1
        clear hs hR hR1
        go_wp2_with fail
        refine ⟨⟨k + 1, by omega, by go_num, by simp [hsz], hB.setCell (by simp) _, HR1.out.kept (heap_setCell_other (by simp) _), ?_⟩, by simp [intOf]; omega⟩
        refine HR.out.step hlt (fun s' hs' => ?_)
        rw [HS.out] at hs'; cases hs'; rfl
      · have hke : k = kn := by omega
        subst hke
        go_wp2_with fail
        have HR := hide hR
        have HR1 := hide hR1
        have HB := hide hB
        clear hR hR1 hB
        rename World => w1
        go_loopw [33] (fun i w2 => ∃ j : Nat, j ≤ dn ∧ i = .int .i64 j ∧ w.heap.size + 4 ≤ w2.heap.size ∧ Below (w.heap.size + 3) w1 w2 ∧
          RowF5 w2 (w.heap.size + 3) 31 dn j (fun i u => ∀ x, t.kids[i]? = some x → TreeAt (From (w.heap.size + 4)) w2 n u x)) (fun i _ => dn - (intOf i).toNat)
        case atStart =>
          refine ⟨0, Nat.zero_le _, rfl, by simp [hsz], (Below.refl _ _).alloc (by omega) _, ?_⟩
          exact RowF5.make _ _ _ _ _ (by omega) (size_zeros5 dn)
        case round =>
          obtain ⟨j, hj, rfl, hsz2, hB2, hR2⟩ := hrel
          have hb2 : Below w.heap.size w wr := hb0.trans (hB2.mono (by omega))
          have hbox : wr.cell? ⟨w.heap.size, 4, none⟩ = some (.slice da dn dc) := by rw [hB2.cell (by simp)]; exact hbox4
          by_cases hlt2 : j < dn
          · obtain ⟨x, hx⟩ : ∃ x, t.kids[j]? = some x := ⟨t.kids[j]'(by rw [HT.out.2.1]; exact hlt2), by simp⟩
            obtain ⟨c0, c1, c2, c3, c4, hr, htr⟩ := H2.out j x hx
            have hix := index_trees (cap := dc) Hda.out j hlt2
            have hrr := rangeAt_later hb2 hr
            have e0 : wr.cell? ⟨db, dof + j * 5, none⟩ = some c0 := hrr 0 c0 rfl
            have e1 : wr.cell? ⟨db, dof + j * 5 + 1, none⟩ = some c1 := hrr 1 c1 rfl
            have e2 : wr.cell? ⟨db, dof + j * 5 + 2, none⟩ = some c2 := hrr 2 c2 rfl
            have e3 : wr.cell? ⟨db, dof + j * 5 + 3, none⟩ = some c3 := hrr 3 c3 rfl
            have e4 : wr.cell? ⟨db, dof + j * 5 + 4, none⟩ = some c4 := hrr 4 c4 rfl
            have HX := hide hx
            have HTR := hide htr
            have HR2 := hide hR2
            have HB2 := hide hB2
            clear hx htr hr hrr hR2 hB2
            go_wp2_with fail
            refine (IH.out x _ _ (HTR.out.below hb2) (H3.out x (List.mem_of_getElem? HX.out))).mono ?_
            rintro e w3 ⟨k', b', s', a1, n1, p1, a2, n2, p2, rfl, hT3, hb3⟩
            have hR3 : RowF5 w3 (w.heap.size + 3) 31 dn j (fun i u => ∀ x, t.kids[i]? = some x → TreeAt (From (w.heap.size + 4)) w3 n u x) :=
              (HR2.out.kept (hb3.block _ (by omega))).turn (fun i u _ h x hx => (h x hx).below hb3)
            obtain ⟨f0, hf0⟩ := hR3.old (j := j * 5) (by omega)
            obtain ⟨f1, hf1⟩ := hR3.old (j := j * 5 + 1) (by omega)
            obtain ⟨f2, hf2⟩ := hR3.old (j := j * 5 + 2) (by omega)
            obtain ⟨f3, hf3⟩ := hR3.old (j := j * 5 + 3) (by omega)
            obtain ⟨f4, hf4⟩ := hR3.old (j := j * 5 + 4) (by omega)
            have hz0 := hR3.frozen (j * 5)
            have hz1 := hR3.frozen (j * 5 + 1)
            have hz2 := hR3.frozen (j * 5 + 2)
            have hz3 := hR3.frozen (j * 5 + 3)
            have hz4 := hR3.frozen (j * 5 + 4)
            have HR3 := hide hR3
            have HT3 := hide hT3
            clear hR3 hT3
            go_wp2_with fail
            refine ⟨⟨j + 1, by omega, by go_num, by have := hb3.size; rw [set5_size]; omega, HB2.out.trans ((hb3.mono (by omega)).trans (set5_below (by omega))), ?_⟩, by simp [intOf]; omega⟩
            refine RowF5.step (w := w3) (HR3.out.turn (fun i u _ h x hx => (h x hx).mono (set5_stay (by simp only [From]; omega)) (fun _ h => h))) hlt2 (fun y hy => ?_)
            rw [HX.out] at hy
            cases hy
            exact HT3.out.mono (set5_stay (by show ¬ (wr.heap.size ≤ w.heap.size + 3); omega)) (fun b h => Nat.le_trans hsz2 h)
          · have hje : j = dn := by omega
            have hw1 := hsz
            have g0 : wr.cell? ⟨w.heap.size, 0, none⟩ = some (.int .i8 kind) := by rw [hB2.cell (by simp), HB.out.cell (by simp)]; simp
            have g1 : wr.cell? ⟨w.heap.size, 1, none⟩ = some (.bool flag) := by rw [hB2.cell (by simp), HB.out.cell (by simp)]; simp
            have g2 : wr.cell? ⟨w.heap.size, 2, none⟩ = some (.string text) := by rw [hB2.cell (by simp), HB.out.cell (by simp)]; simp
            have hR1 := HR1.out.kept (hB2.block (w.heap.size + 1) (by omega))
            have hRk := HR.out.kept (hB2.block (w.heap.size + 2) (by omega))
            obtain ⟨f0, hf0⟩ := hR1.old (j := 0) (by omega)
            obtain ⟨f1, hf1⟩ := hR1.old (j := 1) (by omega)
            obtain ⟨f2, hf2⟩ := hR1.old (j := 2) (by omega)
            obtain ⟨f3, hf3⟩ := hR1.old (j := 3) (by omega)
            obtain ⟨f4, hf4⟩ := hR1.old (j := 4) (by omega)
            have hz0 := hR1.frozen 0
            have hz1 := hR1.frozen 1
            have hz2 := hR1.frozen 2
            have hz3 := hR1.frozen 3
            have hz4 := hR1.frozen 4
            have HR2 := hide hR2
            have HB2 := hide hB2
            have HRk := hide hRk
            clear hR2 hB2 hRk hR1
            go_wp2_with fail
            refine ret_cell5 Try.results10 (.inr rfl) rfl (set5_range hf0 hf1 hf2 hf3 hf4) rfl ⟨_, _, _, _, _, _, _, _, _, rfl, ?_, ?_⟩
            · subst hje
              obtain ⟨q1, q2, q3, q4, q5⟩ := HT.out
              refine ⟨_, _, by rw [q3, q4, q5], StrsAt.of_row q1 (by show w.heap.size ≤ _; omega) (by omega) (HRk.out.kept (set5_other (by omega))), KidsAt.of_row q2 (by show w.heap.size ≤ _; omega) (by omega) ((HR2.out.kept (set5_other (by omega))).turn (fun i u _ h x hx => (h x hx).mono (set5_stay (by show ¬ (w.heap.size + 4 ≤ w.heap.size + 1); omega)) (fun b hb => by have : w.heap.size + 4 ≤ b := hb; show w.heap.size ≤ b; omega)))⟩
            · exact hb2.trans (set5_below (by omega))
end Go.Proofs.Qxb6616028a
