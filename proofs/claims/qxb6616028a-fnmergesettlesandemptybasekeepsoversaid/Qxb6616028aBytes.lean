/- zzTreeBytes: where the count stays within its limit, the tree is small. -/
import Derived.Test.Qxb6616028aHeap
import Derived.Deep.LoopGhost
import Derived.Deep.RegionHeld3
namespace Go.Proofs.Qxb6616028a
open Go.RowKit

set_option maxHeartbeats 1000000 in
theorem bytes_calls (n : Nat) : ∀ (t : Tr n) (v : Value) (limit : Int) (w : World), TreeAt Whole w n v t → 0 ≤ limit → limit ≤ 1048576 →
    Calls Try.prog 15 #[v, .int .i64 limit] w fun e w' => ∃ r : Int, e = .returned (.int .i64 r) ∧ 0 ≤ r ∧ r ≤ limit + 1 ∧ (r ≤ limit → Small 1048576 n t) ∧ Below w.heap.size w w' := by
  induction n with
  | zero => intro t v limit w h; exact h.elim
  | succ n ih =>
    intro t v limit w hT h0 h1
    have IH := hide ih
    clear ih
    obtain ⟨ks, kd, rfl, ⟨kb, ko, ⟨ka, kc, rfl, hkc, hkm, hka, _⟩, hks⟩, ⟨db, dof, ⟨da, dc, rfl, hdc, hdm, hda, _⟩, hkd⟩⟩ := hT
    generalize hkn : t.keys.length = kn at *
    generalize hdn : t.kids.length = dn at *
    generalize t.kind = kind
    generalize t.flag = flag
    generalize t.text = text
    have Hkn := hide hkn
    have Hdn := hide hdn
    clear hkn hdn
    have hid1 := hide hks
    have hid2 := hide hkd
    clear hks hkd
    have hka' := hide hka
    have hda' := hide hda
    clear hka hda
    go_enter Try.func15, Try.ntmps15
    go_wp2_with fail
    all_goals (try (go_ret; exact ⟨_, rfl, by omega, by omega, fun h => by omega, (Below.refl _ _).alloc (Nat.le_refl _) _⟩))
    go_loop [5, 6] (fun a i => ∃ (N : Int) (k : Nat), 0 ≤ N ∧ N ≤ limit ∧ k ≤ kn ∧ a = .int .i64 N ∧ i = .int .i64 k) (fun _ i => kn - (intOf i).toNat)
    case atStart => exact ⟨_, 0, by omega, by omega, by omega, rfl, rfl⟩
    case round =>
      obtain ⟨N, k, hN0, hN1, hk, rfl, rfl⟩ := hrel
      by_cases hlt : k < kn
      · obtain ⟨s, hs⟩ : ∃ s, t.keys[k]? = some s := ⟨t.keys[k]'(by rw [Hkn.out]; exact hlt), by simp⟩
        have hc := hid1.out k s hs
        have hkb := World.block_lt_of_cell? w _ hc
        have hix := index_strs (cap := kc) hka'.out k hlt
        have HS := hide hs
        clear hs
        go_wp2_with fail
        · go_ret
          exact ⟨_, rfl, by omega, by omega, fun h => by omega, (Below.refl _ _).alloc (Nat.le_refl _) _⟩
        · exact ⟨⟨_, k + 1, by omega, by omega, by omega, rfl, by go_num⟩, by simp [intOf]; omega⟩
      · go_wp2_with fail
        obtain ⟨W1, hW1⟩ : ∃ W1, W1 = w.alloc (.cells #[.int .i8 kind, .bool flag, .string text, .slice ka kn kc, .slice da dn dc] 26) := ⟨_, rfl⟩
        have HW1 := hide hW1
        clear hW1
        have hsm : Hid (kn ≤ 1048576 ∧ dn ≤ 1048576) := hide (by omega)
        go_loopw [5, 7] (fun a i wr => ∃ (N : Int) (k : Nat), 0 ≤ N ∧ N ≤ limit ∧ k ≤ dn ∧ a = .int .i64 N ∧ i = .int .i64 k ∧ Below (w.heap.size + 1) W1 wr ∧ Hid (∀ j x, j < k → t.kids[j]? = some x → Small 1048576 n x)) (fun _ i _ => dn - (intOf i).toNat)
        case atStart => exact ⟨_, 0, by omega, by omega, by omega, rfl, rfl, by rw [HW1.out]; exact Below.refl _ _, hide (fun j x hj => by omega)⟩
        case round =>
          obtain ⟨N, k, hN0, hN1, hk, rfl, rfl, hB, hS⟩ := hrel
          have hb0 : Below w.heap.size w wr := by
            have := hB.mono (Nat.le_succ w.heap.size)
            rw [HW1.out] at this
            exact ((Below.refl _ _).alloc (Nat.le_refl _) _).trans this
          have hbox : wr.cell? ⟨w.heap.size, 4, none⟩ = some (.slice da dn dc) := by
            rw [hB.cell (by simp), HW1.out]; simp
          by_cases hlt : k < dn
          · obtain ⟨x, hx⟩ : ∃ x, t.kids[k]? = some x := ⟨t.kids[k]'(by rw [Hdn.out]; exact hlt), by simp⟩
            obtain ⟨c0, c1, c2, c3, c4, hr, htr⟩ := hid2.out k x hx
            have hix := index_trees (cap := dc) hda'.out k hlt
            have hrr := rangeAt_later hb0 hr
            have e0 : wr.cell? ⟨db, dof + k * 5, none⟩ = some c0 := hrr 0 c0 rfl
            have e1 : wr.cell? ⟨db, dof + k * 5 + 1, none⟩ = some c1 := hrr 1 c1 rfl
            have e2 : wr.cell? ⟨db, dof + k * 5 + 2, none⟩ = some c2 := hrr 2 c2 rfl
            have e3 : wr.cell? ⟨db, dof + k * 5 + 3, none⟩ = some c3 := hrr 3 c3 rfl
            have e4 : wr.cell? ⟨db, dof + k * 5 + 4, none⟩ = some c4 := hrr 4 c4 rfl
            clear hrr
            have HX := hide hx
            have HR := hide htr
            clear hx htr hr
            go_wp2_with fail
            refine (IH.out x _ _ _ (HR.out.below hb0) (by omega) (by omega)).mono ?_
            rintro e w1 ⟨r, rfl, hr0, hr1, hrS, hb1⟩
            have HrS := hide hrS
            clear hrS
            have hB1 : Below (w.heap.size + 1) W1 w1 := hB.trans (hb1.mono (by have := hB.size; rw [HW1.out] at this; simpa using this))
            go_wp2_with fail
            · go_ret
              exact ⟨_, rfl, by omega, by omega, fun h => by omega, hb0.trans (hb1.mono hb0.size)⟩
            · go_roundw
              case rel =>
                refine ⟨_, k + 1, by omega, by omega, by omega, rfl, by go_num, hB1, hide (fun j y hj hy => ?_)⟩
                rcases Nat.lt_succ_iff_lt_or_eq.1 hj with h | rfl
                · exact hS.out j y h hy
                · rw [HX.out] at hy
                  cases hy
                  exact HrS.out (by omega)
              case measure => simp [intOf]; omega
          · go_wp2_with fail
            go_ret
            refine ⟨_, rfl, by omega, by omega, fun _ => ⟨by rw [Hkn.out]; exact hsm.out.1, by rw [Hdn.out]; exact hsm.out.2, fun x hx => ?_⟩, hb0⟩
            obtain ⟨j, hj⟩ := List.getElem?_of_mem hx
            refine hS.out j x ?_ hj
            have := (List.getElem?_eq_some_iff.1 hj).1
            rw [Hdn.out] at this
            omega
end Go.Proofs.Qxb6616028a
