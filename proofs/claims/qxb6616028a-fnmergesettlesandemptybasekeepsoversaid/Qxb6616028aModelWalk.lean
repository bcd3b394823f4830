/- zzMergeModel, walked. -/
import Derived.Test.Qxb6616028aModel
import Derived.Test.Qxb6616028aTooBig
import Derived.Deep.RegionHeld3
import Derived.Deep.DrawnRows
import Derived.Deep.QuietTactic
import Derived.Deep.AppendLies
import Derived.BigQuiet
import Derived.WalkSmall
namespace Go.Proofs.Qxb6616028a
open Go.RowKit
attribute [local go_sem ↓] Go.wp_at_zero Go.wp_at_succ

def ModelSaid (N n : Nat) : Prop := ∀ (p : Nat → Prop) (tb to : Tr n) (vb vo : Value) (w : World), TreeAt p w n vb tb → TreeAt p w n vo to → NormT n tb → NormT n to → Small N n tb → Small N n to →
    Calls Try.prog 12 #[vb, vo] w (Ret5 fun r w' => TreeAt (fun b => p b ∨ w.heap.size ≤ b) w' n r (mergeT n tb to) ∧ Below w.heap.size w w')

set_option maxHeartbeats 1000000 in
theorem model_over (n : Nat) (p : Nat → Prop) (tb to : Tr (n + 1)) (vb vo : Value) (w : World) (hb : TreeAt p w (n + 1) vb tb) (ho : TreeAt p w (n + 1) vo to) (hk : ¬ (Node.kind tb = 4 ∧ Node.kind to = 4)) :
    Calls Try.prog 12 #[vb, vo] w (Ret5 fun r w' => TreeAt (fun b => p b ∨ w.heap.size ≤ b) w' (n + 1) r to ∧ Below w.heap.size w w') := by
  have HO := hide ho
  obtain ⟨ks, kd, rfl, ⟨kb, ko, ⟨ka, kc, rfl, _⟩, _⟩, ⟨db, dof, ⟨da, dc, rfl, _⟩, _⟩⟩ := hb
  obtain ⟨ks', kd', rfl, ⟨kb', ko', ⟨ka', kc', rfl, _⟩, _⟩, ⟨db', dof', ⟨da', dc', rfl, _⟩, _⟩⟩ := ho
  generalize Node.kind tb = k1 at *
  generalize Node.kind to = k2 at *
  have hcs : (k1 == 4) = false ∨ (k1 = 4 ∧ (k2 == 4) = false) := by
    by_cases h1 : k1 = 4
    · right
      exact ⟨h1, by simp; exact fun h2 => hk ⟨h1, h2⟩⟩
    · left; simpa using h1
  clear hk
  rcases hcs with h1 | ⟨rfl, h2⟩
  · go_enter Try.func12, Try.ntmps12
    go_wp2_with fail
    refine ret_cell5 Try.results12 (.inl rfl) rfl (alloc5_range _ _ _ _ _ _ _ (by simp)) rfl ⟨_, _, _, _, _, _, _, _, _, rfl, ?_, ?_⟩
    · exact HO.out.mono (Stay.of_below ((((Below.refl _ _).alloc (Nat.le_refl _) _).alloc (by simp) _).alloc (by simp; omega) _)) (fun _ h => .inl h)
    · exact (((Below.refl _ _).alloc (Nat.le_refl _) _).alloc (by simp) _).alloc (by simp; omega) _
  · go_enter Try.func12, Try.ntmps12
    go_wp2_with fail
    refine ret_cell5 Try.results12 (.inl rfl) rfl (alloc5_range _ _ _ _ _ _ _ (by simp)) rfl ⟨_, _, _, _, _, _, _, _, _, rfl, ?_, ?_⟩
    · exact HO.out.mono (Stay.of_below ((((Below.refl _ _).alloc (Nat.le_refl _) _).alloc (by simp) _).alloc (by simp; omega) _)) (fun _ h => .inl h)
    · exact (((Below.refl _ _).alloc (Nat.le_refl _) _).alloc (by simp) _).alloc (by simp; omega) _
end Go.Proofs.Qxb6616028a
