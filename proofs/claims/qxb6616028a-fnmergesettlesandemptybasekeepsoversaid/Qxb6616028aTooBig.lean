/- zzTwoTreesTooBig, walked. -/
import Derived.Test.Qxb6616028aBytes
namespace Go.Proofs.Qxb6616028a
open Go.RowKit

theorem tree_form {p : Nat → Prop} {w : World} {n : Nat} {v : Value} {t : Tr n} (h : TreeAt p w n v t) : ∃ k b s a1 n1 p1 a2 n2 p2, v = .agg #[.int .i8 k, .bool b, .string s, .slice a1 n1 p1, .slice a2 n2 p2] := by
  cases n with
  | zero => exact h.elim
  | succ n =>
    obtain ⟨ks, kd, rfl, ⟨kb, ko, ⟨ka, kc, rfl, _⟩, _⟩, ⟨db, dof, ⟨da, dc, rfl, _⟩, _⟩⟩ := h
    exact ⟨_, _, _, _, _, _, _, _, _, rfl⟩

/-- the answer of zzTwoTreesTooBig -/
def TooBig (P : Prop) (e : Ending) : Prop := e = .returned (.bool true) ∨ (e = .returned (.bool false) ∧ P)

set_option maxHeartbeats 1000000 in
theorem toobig_calls (n : Nat) (ta tb : Tr n) (va vb : Value) (w : World) (ha : TreeAt Whole w n va ta) (hb : TreeAt Whole w n vb tb) :
    Calls Try.prog 7 #[va, vb] w (fun e w' => TooBig (Small 1048576 n ta ∧ Small 1048576 n tb) e ∧ Below w.heap.size w w') := by
  obtain ⟨k, b, s, a1, n1, p1, a2, n2, p2, rfl⟩ := tree_form ha
  obtain ⟨k', b', s', a1', n1', p1', a2', n2', p2', rfl⟩ := tree_form hb
  have HA := hide ha
  have HB := hide hb
  clear ha hb
  go_enter Try.func7, Try.ntmps7
  go_wp2_with fail
  have hbW := ((Below.refl w.heap.size w).alloc (Nat.le_refl _) (.cells #[.int .i8 k, .bool b, .string s, .slice a1 n1 p1, .slice a2 n2 p2] 26)).alloc (by simp) (.cells #[.int .i8 k', .bool b', .string s', .slice a1' n1' p1', .slice a2' n2' p2'] 26)
  refine (bytes_calls n ta _ _ _ (HA.out.below hbW) (by omega) (by omega)).mono ?_
  rintro e w1 ⟨r, rfl, hr0, hr1, hrS, hb1⟩
  have HS := hide hrS
  have HB1 := hide (hbW.trans (hb1.mono (by simp; omega)))
  have b0 : w1.cell? ⟨w.heap.size + 1, 0, none⟩ = some (.int .i8 k') := by rw [hb1.cell (by simp)]; simp
  have b1 : w1.cell? ⟨w.heap.size + 1, 1, none⟩ = some (.bool b') := by rw [hb1.cell (by simp)]; simp
  have b2 : w1.cell? ⟨w.heap.size + 1, 2, none⟩ = some (.string s') := by rw [hb1.cell (by simp)]; simp
  have b3 : w1.cell? ⟨w.heap.size + 1, 3, none⟩ = some (.slice a1' n1' p1') := by rw [hb1.cell (by simp)]; simp
  have b4 : w1.cell? ⟨w.heap.size + 1, 4, none⟩ = some (.slice a2' n2' p2') := by rw [hb1.cell (by simp)]; simp
  clear hrS hb1 hbW
  by_cases hbig : 1048576 < r
  · go_wp2_with fail
    go_ret
    exact ⟨.inl rfl, HB1.out⟩
  · have hsm := hide (HS.out (by omega))
    go_wp2_with fail
    refine (bytes_calls n tb _ _ _ (HB.out.below HB1.out) (by omega) (by omega)).mono ?_
    rintro e w2 ⟨r2, rfl, hq0, hq1, hqS, hb2⟩
    have HS2 := hide hqS
    have HB2 := hide (HB1.out.trans (hb2.mono HB1.out.size))
    clear hqS hb2
    by_cases hbig2 : 1048576 - r < r2
    · have hd : decide (1048576 - r < r2) = true := decide_eq_true hbig2
      go_wp2_with fail
      go_ret
      exact ⟨.inl rfl, HB2.out⟩
    · have hd : decide (1048576 - r < r2) = false := decide_eq_false hbig2
      go_wp2_with fail
      go_ret
      exact ⟨.inr ⟨rfl, hsm.out, HS2.out (by omega)⟩, HB2.out⟩
end Go.Proofs.Qxb6616028a
