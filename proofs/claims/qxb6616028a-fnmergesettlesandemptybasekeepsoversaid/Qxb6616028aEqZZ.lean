/- zzEqZZ: of two trees that stand for one it says true. -/
import Derived.Test.Qxb6616028aHeap
import Derived.Deep.QuietTactic
import Derived.BigQuiet
import Derived.Deep.RegionHeld3
import Derived.Deep.DrawnRows
import Derived.WalkSmall
namespace Go.Proofs.Qxb6616028a
open Go.RowKit
attribute [local go_sem ↓] Go.wp_at_zero Go.wp_at_succ

set_option maxHeartbeats 2000000 in
theorem eqZZ_calls (n : Nat) : ∀ (t : Tr n) (v u : Value) (w : World), TreeAt Whole w n v t → TreeAt Whole w n u t →
    Calls Try.prog 13 #[v, u] w (fun e w' => e = .returned (.bool true) ∧ Below w.heap.size w w') := by
  induction n with
  | zero => intro t v u w h; exact h.elim
  | succ n ih =>
    intro t v u w hT hU
    have IH := hide ih
    clear ih
    obtain ⟨ks, kd, rfl, ⟨kb, ko, ⟨ka, kc, rfl, hkc, hkm, hka, hz1⟩, hks⟩, ⟨db, dof, ⟨da, dc, rfl, hdc, hdm, hda, hz2⟩, hkd⟩⟩ := hT
    obtain ⟨ks', kd', rfl, ⟨kb', ko', ⟨ka', kc', rfl, hkc', hkm', hka', hz3⟩, hks'⟩, ⟨db', dof', ⟨da', dc', rfl, hdc', hdm', hda', hz4⟩, hkd'⟩⟩ := hU
    clear hz1 hz2 hz3 hz4
    generalize hkn : t.keys.length = kn at *
    generalize hdn : t.kids.length = dn at *
    generalize hkind : t.kind = kind at *
    generalize hflag : t.flag = flag at *
    generalize htext : t.text = text at *
    have HT := hide (And.intro hkn hdn)
    have H1 := hide hks
    have H2 := hide hkd
    have Hka := hide hka
    have Hda := hide hda
    have H1' := hide hks'
    have H2' := hide hkd'
    have Hka' := hide hka'
    have Hda' := hide hda'
    have hbd : kn ≤ 9223372036854775807 ∧ dn ≤ 9223372036854775807 := by unfold maxLen at hkm hdm; omega
    obtain ⟨hb1, hb2⟩ := hbd
    clear hkn hdn hkind hflag htext hks hkd hka hda hks' hkd' hka' hda' hkc hkm hdc hdm hkc' hkm' hdc' hdm'
    by_cases h45 : kind = 4 ∨ kind = 5
    case neg =>
      have k4 : (kind == 4) = false := by simp; omega
      have k5 : (kind == 5) = false := by simp; omega
      clear h45
      go_enter Try.func13, Try.ntmps13
      go_wp2_with fail
      all_goals (go_ret; exact ⟨by simp, ((Below.refl _ _).alloc (Nat.le_refl _) _).alloc (by simp) _⟩)
    case pos =>
     have hK : kind = 4 ∨ kind = 5 := h45
     clear h45
     obtain ⟨W, hW⟩ : ∃ W, W = (w.alloc (.cells #[.int .i8 kind, .bool flag, .string text, .slice ka kn kc, .slice da dn dc] 31)).alloc (.cells #[.int .i8 kind, .bool flag, .string text, .slice ka' kn kc', .slice da' dn dc'] 31) := ⟨_, rfl⟩
     have HW := hide hW
     clear hW
     rcases hK with rfl | rfl
     all_goals
      go_enter Try.func13, Try.ntmps13
      go_wp2_with fail
      go_loopw [51] (fun i wr => ∃ k : Nat, k ≤ kn ∧ i = .int .i64 k ∧ Below (w.heap.size + 2) W wr) (fun i _ => kn - (intOf i).toNat)
      case atStart => exact ⟨0, Nat.zero_le _, rfl, by rw [HW.out]; exact Below.refl _ _⟩
      case round =>
        obtain ⟨k, hk, rfl, hB⟩ := hrel
        have hb0 : Below w.heap.size w wr := by
          have := hB.mono (Nat.le_add_right w.heap.size 2)
          rw [HW.out] at this
          exact (((Below.refl _ _).alloc (Nat.le_refl _) _).alloc (by simp) _).trans this
        have hWs : W.heap.size = w.heap.size + 2 := by rw [HW.out]; simp
        have g3 : wr.cell? ⟨w.heap.size, 3, none⟩ = some (.slice ka kn kc) := by rw [hB.cell (by simp), HW.out, World.cell?_alloc_past _ _ _ (by simp)]; simp
        have g3' : wr.cell? ⟨w.heap.size + 1, 3, none⟩ = some (.slice ka' kn kc') := by rw [hB.cell (by simp), HW.out, World.cell?_alloc_at _ _ _ _ (by simp)]; simp
        have g4 : wr.cell? ⟨w.heap.size, 4, none⟩ = some (.slice da dn dc) := by rw [hB.cell (by simp), HW.out, World.cell?_alloc_past _ _ _ (by simp)]; simp
        have g4' : wr.cell? ⟨w.heap.size + 1, 4, none⟩ = some (.slice da' dn dc') := by rw [hB.cell (by simp), HW.out, World.cell?_alloc_at _ _ _ _ (by simp)]; simp
        have HWs := hide hWs
        clear hWs
        by_cases hlt : k < kn
        · obtain ⟨s, hs⟩ : ∃ s, t.keys[k]? = some s := ⟨t.keys[k]'(by rw [HT.out.1]; exact hlt), by simp⟩
          have hc := cell_later hb0 (H1.out k s hs)
          have hc' := cell_later hb0 (H1'.out k s hs)
          have hix := index_strs (cap := kc) Hka.out k hlt
          have hix' := index_strs (cap := kc') Hka'.out k hlt
          clear hs
          go_wp2_with fail
          go_quiet (fail)
          go_wp2_with fail
          go_roundw
          case rel => exact ⟨k + 1, by omega, by go_num, below_drewN hB _⟩
          case measure => simp [intOf]; omega
        · go_wp2_with fail
          have HB := hide hB
          clear hB
          rename World => w1
          go_loopw [69] (fun i w2 => ∃ j : Nat, j ≤ dn ∧ i = .int .i64 j ∧ Below (w.heap.size + 2) w1 w2) (fun i _ => dn - (intOf i).toNat)
          case atStart => exact ⟨0, Nat.zero_le _, rfl, Below.refl _ _⟩
          case round =>
            obtain ⟨j, hj, rfl, hB2⟩ := hrel
            have hs2 : w.heap.size + 2 ≤ wr.heap.size := by have h1 := HB.out.size; have h2 := hB2.size; have h3 := HWs.out; omega
            have hb2' : Below w.heap.size w wr := hb0.trans (hB2.mono (by omega))
            have q4 : wr.cell? ⟨w.heap.size, 4, none⟩ = some (.slice da dn dc) := by rw [hB2.cell (by simp)]; exact g4
            have q4' : wr.cell? ⟨w.heap.size + 1, 4, none⟩ = some (.slice da' dn dc') := by rw [hB2.cell (by simp)]; exact g4'
            by_cases hlt2 : j < dn
            · obtain ⟨x, hx⟩ : ∃ x, t.kids[j]? = some x := ⟨t.kids[j]'(by rw [HT.out.2]; exact hlt2), by simp⟩
              obtain ⟨c0, c1, c2, c3, c4, hr, htr⟩ := H2.out j x hx
              obtain ⟨d0, d1, d2, d3, d4, hr', htr'⟩ := H2'.out j x hx
              have hix := index_zz (cap := dc) Hda.out j hlt2
              have hix' := index_zz (cap := dc') Hda'.out j hlt2
              have hrr := rangeAt_later hb2' hr
              have e0 : wr.cell? ⟨db, dof + j * 5, none⟩ = some c0 := hrr 0 c0 rfl
              have e1 : wr.cell? ⟨db, dof + j * 5 + 1, none⟩ = some c1 := hrr 1 c1 rfl
              have e2 : wr.cell? ⟨db, dof + j * 5 + 2, none⟩ = some c2 := hrr 2 c2 rfl
              have e3 : wr.cell? ⟨db, dof + j * 5 + 3, none⟩ = some c3 := hrr 3 c3 rfl
              have e4 : wr.cell? ⟨db, dof + j * 5 + 4, none⟩ = some c4 := hrr 4 c4 rfl
              have hrr' := rangeAt_later hb2' hr'
              have f0 : wr.cell? ⟨db', dof' + j * 5, none⟩ = some d0 := hrr' 0 d0 rfl
              have f1 : wr.cell? ⟨db', dof' + j * 5 + 1, none⟩ = some d1 := hrr' 1 d1 rfl
              have f2 : wr.cell? ⟨db', dof' + j * 5 + 2, none⟩ = some d2 := hrr' 2 d2 rfl
              have f3 : wr.cell? ⟨db', dof' + j * 5 + 3, none⟩ = some d3 := hrr' 3 d3 rfl
              have f4 : wr.cell? ⟨db', dof' + j * 5 + 4, none⟩ = some d4 := hrr' 4 d4 rfl
              have HTR := hide htr
              have HTR' := hide htr'
              clear hx htr hr hrr htr' hr' hrr'
              go_wp2_with fail
              go_region_held3 (fun w' => Below w.heap.size w w' ∧ Below (w.heap.size + 2) wr w' ∧ w'.cell? ⟨w.heap.size, 4, none⟩ = some (.slice da dn dc) ∧ w'.cell? ⟨w.heap.size + 1, 4, none⟩ = some (.slice da' dn dc') ∧
                  w'.cell? ⟨db, dof + j * 5, none⟩ = some c0 ∧ w'.cell? ⟨db, dof + j * 5 + 1, none⟩ = some c1 ∧ w'.cell? ⟨db, dof + j * 5 + 2, none⟩ = some c2 ∧ w'.cell? ⟨db, dof + j * 5 + 3, none⟩ = some c3 ∧ w'.cell? ⟨db, dof + j * 5 + 4, none⟩ = some c4 ∧
                  w'.cell? ⟨db', dof' + j * 5, none⟩ = some d0 ∧ w'.cell? ⟨db', dof' + j * 5 + 1, none⟩ = some d1 ∧ w'.cell? ⟨db', dof' + j * 5 + 2, none⟩ = some d2 ∧ w'.cell? ⟨db', dof' + j * 5 + 3, none⟩ = some d3 ∧ w'.cell? ⟨db', dof' + j * 5 + 4, none⟩ = some d4)
                (first | exact ⟨hb2', Below.refl _ _, q4, q4', e0, e1, e2, e3, e4, f0, f1, f2, f3, f4⟩ | exact ⟨hb2'.drew, (Below.refl _ _).drew, q4, q4', e0, e1, e2, e3, e4, f0, f1, f2, f3, f4⟩ | exact ⟨hb2'.drew.trans (hb3.mono hb2'.size), (Below.refl _ _).drew.trans (hb3.mono hs2), cell_later hb3 q4, cell_later hb3 q4', cell_later hb3 e0, cell_later hb3 e1, cell_later hb3 e2, cell_later hb3 e3, cell_later hb3 e4, cell_later hb3 f0, cell_later hb3 f1, cell_later hb3 f2, cell_later hb3 f3, cell_later hb3 f4⟩)
                (first | (go_at_call 13; refine (IH.out x _ _ _ (HTR.out.below ?_) (HTR'.out.below ?_)).mono ?_; (exact hb2'.drew); (exact hb2'.drew); rintro e w3 ⟨rfl, hb3⟩))
              go_wp2_with fail
              go_roundw
              case rel => exact ⟨j + 1, by omega, by go_num, hB2.trans ((Below.refl _ _).drew.trans (hb3.mono hs2))⟩
              case measure => simp [intOf]; omega
            · go_wp2_with fail
              go_ret
              exact ⟨rfl, hb2'⟩
end Go.Proofs.Qxb6616028a
