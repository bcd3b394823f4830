/- zzRead: the tree in normal form that a value behind 'any' stands for, in new blocks. -/
import Derived.Test.Qxb6616028aMapS
import Derived.Test.Qxb6616028aOwn
import Derived.WideLaws
namespace Go.Proofs.Qxb6616028a
open Go.RowKit
open Go.ChangeMaps (setBlock)

def ReadSaid (N n : Nat) : Prop := ∀ (t : Tr n) (v : Value) (w : World), AnyAt Whole w n v t → Small N n t →
    Calls Try.prog 24 #[v] w (Ret5 fun r w' => TreeAt (From w.heap.size) w' n r t ∧ Below w.heap.size w w')

theorem eql_nil (w : World) : (binOp .eql 20 .nilIface .nilIface).run Try.prog w = .ok (.bool true) w := by kernel_rfl
theorem eql_held (u : TypeId) (x : Value) (w : World) : (binOp .eql 20 (.iface u x) .nilIface).run Try.prog w = .ok (.bool false) w := by kernel_rfl

set_option maxRecDepth 100000 in
set_option maxHeartbeats 2000000 in
theorem read_nil (n : Nat) (w : World) : Calls Try.prog 24 #[.nilIface] w (Ret5 fun r w' => TreeAt (From w.heap.size) w' (n + 1) r (leaf 0 false ByteArray.empty) ∧ Below w.heap.size w w') := by
  have h0 := eql_nil
  go_enter Try.func24, Try.ntmps24
  go_wp2_with fail
  exact ret_cell5 Try.results24 (.inr rfl) rfl (alloc5_range _ _ _ _ _ _ _ rfl) rfl ⟨_, _, _, _, _, _, _, _, _, rfl, leafAt _ _ _ _ _ _, (Below.refl _ _).alloc (Nat.le_refl _) _⟩
set_option maxHeartbeats 2000000 in
theorem read_bool (n : Nat) (b : Bool) (w : World) : Calls Try.prog 24 #[.iface 4 (.bool b)] w (Ret5 fun r w' => TreeAt (From w.heap.size) w' (n + 1) r (leaf 1 b ByteArray.empty) ∧ Below w.heap.size w w') := by
  have h0 := eql_held 4 (.bool b)
  have h1 := fun w => assert_hit 4 _ Try.underlying4 (by simp) (.bool b) w
  go_enter Try.func24, Try.ntmps24
  go_wp2_with fail
  exact ret_cell5 Try.results24 (.inr rfl) rfl (alloc5_range _ _ _ _ _ _ _ rfl) rfl ⟨_, _, _, _, _, _, _, _, _, rfl, leafAt _ _ _ _ _ _, (Below.refl _ _).alloc (Nat.le_refl _) _⟩
set_option maxHeartbeats 2000000 in
theorem read_str (n : Nat) (s : ByteArray) (w : World) : Calls Try.prog 24 #[.iface 9 (.string s)] w (Ret5 fun r w' => TreeAt (From w.heap.size) w' (n + 1) r (leaf 2 false s) ∧ Below w.heap.size w w') := by
  have h0 := eql_held 9 (.string s)
  have h1 := fun w => assert_miss 4 9 _ Try.underlying4 (by simp) (by decide) (.string s) _ w (zero4 w)
  have h2 := fun w => assert_hit 9 _ Try.underlying9 (by simp) (.string s) w
  go_enter Try.func24, Try.ntmps24
  go_wp2_with fail
  exact ret_cell5 Try.results24 (.inr rfl) rfl (alloc5_range _ _ _ _ _ _ _ rfl) rfl ⟨_, _, _, _, _, _, _, _, _, rfl, leafAt _ _ _ _ _ _, (Below.refl _ _).alloc (Nat.le_refl _) _⟩
set_option maxHeartbeats 2000000 in
theorem read_num (n : Nat) (s : ByteArray) (w : World) : Calls Try.prog 24 #[.iface 54 (.string s)] w (Ret5 fun r w' => TreeAt (From w.heap.size) w' (n + 1) r (leaf 3 false s) ∧ Below w.heap.size w w') := by
  have h0 := eql_held 54 (.string s)
  have h1 := fun w => assert_miss 4 54 _ Try.underlying4 (by simp) (by decide) (.string s) _ w (zero4 w)
  have h2 := fun w => assert_miss 9 54 _ Try.underlying9 (by simp) (by decide) (.string s) _ w (zero9 w)
  have h3 := fun w => assert_hit 54 _ Try.underlying54 (by simp) (.string s) w
  go_enter Try.func24, Try.ntmps24
  go_wp2_with fail
  exact ret_cell5 Try.results24 (.inr rfl) rfl (alloc5_range _ _ _ _ _ _ _ rfl) rfl ⟨_, _, _, _, _, _, _, _, _, rfl, leafAt _ _ _ _ _ _, (Below.refl _ _).alloc (Nat.le_refl _) _⟩

set_option maxHeartbeats 2000000 in
theorem read_list (N : Nat) (hN : N ≤ 1073741824) (n : Nat) (ih : ReadSaid N n) (s : Value) (b o : Nat) (kids : List (Tr n)) (w : World) (hsl : SlAt Whole s kids.length b o)
    (hv : ∀ (i : Nat) x, kids[i]? = some x → ∃ y, w.cell? ⟨b, o + i, none⟩ = some y ∧ AnyAt Whole w n y x) (hn : kids.length ≤ N) (hsm : ∀ k ∈ kids, Small N n k) :
    Calls Try.prog 24 #[.iface 56 s] w (Ret5 fun r w' => TreeAt (From w.heap.size) w' (n + 1) r (⟨5, false, ByteArray.empty, [], kids⟩ : Node (Tr n)) ∧ Below w.heap.size w w') := by
  have IH := hide ih
  clear ih
  obtain ⟨da, dc, rfl, hdc, hdm, hda, hz⟩ := hsl
  clear hz
  generalize hdn : kids.length = dn at *
  have HT := hide hdn
  have HV := hide hv
  have HS := hide hsm
  have Hda := hide hda
  clear hdn hv hsm hda
  have h0 := eql_held 56 (.slice da dn dc)
  have h1 := fun w => assert_miss 4 56 _ Try.underlying4 (by simp) (by decide) (.slice da dn dc) _ w (zero4 w)
  have h2 := fun w => assert_miss 9 56 _ Try.underlying9 (by simp) (by decide) (.slice da dn dc) _ w (zero9 w)
  have h3 := fun w => assert_miss 54 56 _ Try.underlying54 (by simp) (by decide) (.slice da dn dc) _ w (zero54 w)
  have h4 := fun w => assert_miss 55 56 _ Try.underlying55 (by simp) (by decide) (.slice da dn dc) _ w (zero55 w)
  have h5 := fun w => assert_hit 56 _ Try.underlying56 (by simp) (.slice da dn dc) w
  have hmz := make_zz dn (by omega)
  go_enter Try.func24, Try.ntmps24
  go_wp2_with fail
  go_loopw [122] (fun i wr => ∃ j : Nat, j ≤ dn ∧ i = .int .i64 j ∧ w.heap.size + 2 ≤ wr.heap.size ∧
      Below (w.heap.size + 1) (w.alloc (.cells #[.int .i8 0, .bool false, .string { data := #[] }, .slice none 0 0, .slice none 0 0] 31)) wr ∧
      RowF5 wr (w.heap.size + 1) 31 dn j (fun i u => ∀ x, kids[i]? = some x → TreeAt (From (w.heap.size + 2)) wr n u x)) (fun i _ => dn - (intOf i).toNat)
  case atStart => exact ⟨0, Nat.zero_le _, rfl, by simp, (Below.refl _ _).alloc (by simp) _, RowF5.make _ _ _ _ _ (by simp) (size_zeros5 dn)⟩
  case round =>
    obtain ⟨j, hj, rfl, hsz2, hB2, hR2⟩ := hrel
    have hb2 : Below w.heap.size w wr := ((Below.refl _ _).alloc (Nat.le_refl _) _).trans (hB2.mono (by omega))
    by_cases hlt2 : j < dn
    · obtain ⟨x, hx⟩ : ∃ x, kids[j]? = some x := ⟨kids[j]'(by rw [HT.out]; exact hlt2), by simp⟩
      obtain ⟨y, hy, hyx⟩ := HV.out j x hx
      have hix := index_anys (cap := dc) Hda.out j hlt2
      have e0 := cell_later hb2 hy
      have HX := hide (And.intro hx hyx)
      have HR2 := hide hR2
      have HB2 := hide hB2
      clear hx hy hyx hR2 hB2
      go_wp2_with fail
      refine (IH.out x _ _ (HX.out.2.below hb2) (HS.out x (List.mem_of_getElem? HX.out.1))).mono ?_
      rintro e w3 ⟨k', b', s', a1, n1, p1, a2, n2, p2, rfl, hT3, hb3⟩
      have hR3 : RowF5 w3 (w.heap.size + 1) 31 dn j (fun i u => ∀ x, kids[i]? = some x → TreeAt (From (w.heap.size + 2)) w3 n u x) :=
        (HR2.out.kept (hb3.block _ (by omega))).turn (fun i u _ h x hx => (h x hx).below hb3)
      obtain ⟨f0, hf0⟩ := hR3.old (j := j * 5) (by omega)
      obtain ⟨f1, hf1⟩ := hR3.old (j := j * 5 + 1) (by omega)
      obtain ⟨f2, hf2⟩ := hR3.old (j := j * 5 + 2) (by omega)
      obtain ⟨f3, hf3⟩ := hR3.old (j := j * 5 + 3) (by omega)
      obtain ⟨f4, hf4⟩ := hR3.old (j := j * 5 + 4) (by omega)
      have hz0 := hR3.frozen (j * 5)
      have hz1 := hR3.frozen (j * 5 + 1)
      have hz2 := hR3.frozen (j * 5 + 2)
      have hz3 := hR3.frozen (j * 5 + 3)
      have hz4 := hR3.frozen (j * 5 + 4)
      have HR3 := hide hR3
      have HT3 := hide hT3
      clear hR3 hT3
      go_wp2_with fail
      refine ⟨⟨j + 1, by omega, by go_num, by have := hb3.size; rw [set5_size]; omega, HB2.out.trans ((hb3.mono (by omega)).trans (set5_below (by omega))), ?_⟩, by simp [intOf]; omega⟩
      have hno : ¬ (From (w.heap.size + 2)) (w.heap.size + 1) := by show ¬ (w.heap.size + 2 ≤ w.heap.size + 1); omega
      refine RowF5.step (w := w3) (HR3.out.turn (fun i u _ h x hx => (h x hx).mono (set5_stay hno) (fun _ h => h))) hlt2 (fun y hy => ?_)
      rw [HX.out.1] at hy
      cases hy
      exact (HT3.out.mono (fun _ _ _ => rfl) (fun b h => Nat.le_trans hsz2 h) : TreeAt (From (w.heap.size + 2)) w3 n _ _).mono (set5_stay hno) (fun _ h => h)
    · have hje : j = dn := by omega
      have hR1 : RowF wr w.heap.size 31 5 0 (fun _ _ => True) := (RowF.make _ _ _ _ rfl rfl).kept (hB2.block _ (by omega))
      obtain ⟨f0, hf0⟩ := hR1.old (j := 0) (by omega)
      obtain ⟨f1, hf1⟩ := hR1.old (j := 1) (by omega)
      obtain ⟨f2, hf2⟩ := hR1.old (j := 2) (by omega)
      obtain ⟨f3, hf3⟩ := hR1.old (j := 3) (by omega)
      obtain ⟨f4, hf4⟩ := hR1.old (j := 4) (by omega)
      have hz0 := hR1.frozen 0
      have hz1 := hR1.frozen 1
      have hz2 := hR1.frozen 2
      have hz3 := hR1.frozen 3
      have hz4 := hR1.frozen 4
      have HR2 := hide hR2
      have HB2 := hide hB2
      clear hR2 hB2 hR1
      go_wp2_with fail
      refine ret_cell5 Try.results24 (.inr rfl) rfl (set5_range hf0 hf1 hf2 hf3 hf4) rfl ⟨_, _, _, _, _, _, _, _, _, rfl, ?_, hb2.trans (set5_below (Nat.le_refl _))⟩
      subst hje
      refine ⟨_, _, rfl, StrsAt.nil _ _, KidsAt.of_row HT.out (by show w.heap.size ≤ _; omega) (by omega) ((HR2.out.kept (set5_other (by omega))).turn (fun i u _ h x hx => (h x hx).mono (set5_stay (by show ¬ (w.heap.size + 2 ≤ w.heap.size); omega)) (fun b hb => by have hb' : w.heap.size + 2 ≤ b := hb; show w.heap.size ≤ b; omega)))⟩
end Go.Proofs.Qxb6616028a
