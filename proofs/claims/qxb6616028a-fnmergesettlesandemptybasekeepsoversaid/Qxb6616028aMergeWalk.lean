/- Merge, walked. -/
import Derived.Test.Qxb6616028aMerge
namespace Go.Proofs.Qxb6616028a
open Go.RowKit
open Go.ChangeMaps (setBlock)

def MergeSaid (N n : Nat) : Prop := ∀ (tb to : Tr n) (vb vo : Value) (w : World), AnyAt Whole w n vb tb → AnyAt Whole w n vo to → Small N n tb → Small N n to →
    Calls Try.prog 23 #[vb, vo] w (fun e w' => ∃ r, e = .returned r ∧ AnyAt (From w.heap.size) w' n r (mergeT n tb to) ∧ Below w.heap.size w w')

/-- no map on one side: the upper value, cloned -/
theorem notMap {p : Nat → Prop} {w : World} {n : Nat} {v : Value} {t : Tr n} (h : AnyAt p w n v t) (hv : ∀ m, v ≠ .iface 55 (.map m)) : ∀ w, (Instr.typeAssert v 20 55 true).run Try.prog w = .ok (.tuple #[.map none, .bool false]) w := by
  cases n with
  | zero => exact h.elim
  | succ n =>
    rcases h with ⟨rfl, _⟩ | ⟨b, rfl, _⟩ | ⟨s, rfl, _⟩ | ⟨s, rfl, _⟩ | ⟨m, kvs, kids, rfl, _⟩ | ⟨s, b, o, kids, rfl, _⟩
    · exact fun w => assert_nil 55 _ Try.underlying55 (by simp) _ w (zero55 w)
    · exact fun w => assert_miss 55 _ _ Try.underlying55 (by simp) (by decide) _ _ w (zero55 w)
    · exact fun w => assert_miss 55 _ _ Try.underlying55 (by simp) (by decide) _ _ w (zero55 w)
    · exact fun w => assert_miss 55 _ _ Try.underlying55 (by simp) (by decide) _ _ w (zero55 w)
    · exact absurd rfl (hv (some m))
    · exact fun w => assert_miss 55 _ _ Try.underlying55 (by simp) (by decide) _ _ w (zero55 w)

set_option maxHeartbeats 1000000 in
theorem merge_left (N : Nat) (hN : N ≤ 1073741824) (n : Nat) (tb to : Tr n) (vb vo : Value) (w : World) (hb : AnyAt Whole w n vb tb) (ho : AnyAt Whole w n vo to) (hs : Small N n to) (hv : ∀ m, vb ≠ .iface 55 (.map m)) :
    Calls Try.prog 23 #[vb, vo] w (fun e w' => ∃ r, e = .returned r ∧ AnyAt (From w.heap.size) w' n r to ∧ Below w.heap.size w w') := by
  have H := hide (clone_calls N hN n to vo w ho hs)
  have h1 := notMap hb hv
  have hf1 := hb.form
  have hf2 : (∃ m, vo = .iface 55 (.map (some m))) ∨ ∀ m, vo ≠ .iface 55 (.map m) := by
    cases n with
    | zero => exact ho.elim
    | succ n =>
      rcases ho with ⟨rfl, _⟩ | ⟨b, rfl, _⟩ | ⟨s, rfl, _⟩ | ⟨s, rfl, _⟩ | ⟨m, kvs, kids, rfl, _⟩ | ⟨s, b, o, kids, rfl, _⟩
      · right; intro m e; cases e
      · right; intro m e; cases e
      · right; intro m e; cases e
      · right; intro m e; cases e
      · exact .inl ⟨m, rfl⟩
      · right; intro m e; cases e
  clear hv hb hs
  rcases hf2 with ⟨m, rfl⟩ | hv2
  · have h2 := fun w => assert_hit 55 _ Try.underlying55 (by simp) (.map (some m)) w
    clear ho
    rcases hf1 with rfl | ⟨u, x, rfl⟩
    all_goals
      go_enter Try.func23, Try.ntmps23
      go_wp2_with (first | (go_at_call 27; have hcall := H.out; refine hcall.mono ?_; clear hcall; rintro e w1 ⟨r, rfl, hr, hb⟩; have HR := hide hr; clear hr))
      go_ret
      exact ⟨_, rfl, HR.out, hb⟩
  · have h2 := notMap ho hv2
    have hf3 := ho.form
    clear ho hv2
    rcases hf1 with rfl | ⟨u, x, rfl⟩
    all_goals
      rcases hf3 with rfl | ⟨u', x', rfl⟩
      all_goals
        go_enter Try.func23, Try.ntmps23
        go_wp2_with (first | (go_at_call 27; have hcall := H.out; refine hcall.mono ?_; clear hcall; rintro e w1 ⟨r, rfl, hr, hb⟩; have HR := hide hr; clear hr))
        go_ret
        exact ⟨_, rfl, HR.out, hb⟩

set_option maxHeartbeats 1000000 in
theorem merge_right (N : Nat) (hN : N ≤ 1073741824) (n : Nat) (to : Tr n) (mb : Nat) (vo : Value) (w : World) (ho : AnyAt Whole w n vo to) (hs : Small N n to) (hv : ∀ m, vo ≠ .iface 55 (.map m)) :
    Calls Try.prog 23 #[.iface 55 (.map (some mb)), vo] w (fun e w' => ∃ r, e = .returned r ∧ AnyAt (From w.heap.size) w' n r to ∧ Below w.heap.size w w') := by
  have H := hide (clone_calls N hN n to vo w ho hs)
  have h1 := fun w => assert_hit 55 _ Try.underlying55 (by simp) (.map (some mb)) w
  have h2 := notMap ho hv
  have hf3 := ho.form
  clear ho hv hs
  rcases hf3 with rfl | ⟨u', x', rfl⟩
  all_goals
    go_enter Try.func23, Try.ntmps23
    go_wp2_with (first | (go_at_call 27; have hcall := H.out; refine hcall.mono ?_; clear hcall; rintro e w1 ⟨r, rfl, hr, hb⟩; have HR := hide hr; clear hr))
    go_ret
    exact ⟨_, rfl, HR.out, hb⟩
end Go.Proofs.Qxb6616028a
