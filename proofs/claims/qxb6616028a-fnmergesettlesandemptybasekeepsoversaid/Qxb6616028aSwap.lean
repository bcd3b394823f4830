/- zzSwap and Clone's function on a scalar; zzSwapModel on a tree. -/
import Derived.Test.Qxb6616028aHeap
namespace Go.Proofs.Qxb6616028a
open Go.RowKit

theorem zero9 (w : World) : (zeroValue 9).run Try.prog w = .ok (.string ByteArray.empty) w := by kernel_rfl
theorem zero4 (w : World) : (zeroValue 4).run Try.prog w = .ok (.bool false) w := by kernel_rfl
theorem zero54 (w : World) : (zeroValue 54).run Try.prog w = .ok (.string ByteArray.empty) w := by kernel_rfl
theorem zero55 (w : World) : (zeroValue 55).run Try.prog w = .ok (.map none) w := by kernel_rfl
theorem zero56 (w : World) : (zeroValue 56).run Try.prog w = .ok (.slice none 0 0) w := by kernel_rfl

/-- a type assertion with ', ok' -/
theorem assert_hit (t : TypeId) (d : TypeDesc) (hu : Try.prog.underlying t = some d) (hd : ∀ ms, d ≠ .interface ms) (v : Value) (w : World) :
    (Instr.typeAssert (.iface t v) 20 t true).run Try.prog w = .ok (.tuple #[v, .bool true]) w := by
  simp only [Instr.typeAssert, Sem.run_bind, run_underlying hu, Result.andThen_ok]
  cases d <;> first | exact absurd rfl (hd _) | simp
theorem assert_miss (t u : TypeId) (d : TypeDesc) (hu : Try.prog.underlying t = some d) (hd : ∀ ms, d ≠ .interface ms) (hne : u ≠ t) (v z : Value) (w : World) (hz : (zeroValue t).run Try.prog w = .ok z w) :
    (Instr.typeAssert (.iface u v) 20 t true).run Try.prog w = .ok (.tuple #[z, .bool false]) w := by
  simp only [Instr.typeAssert, Sem.run_bind, run_underlying hu, Result.andThen_ok]
  cases d <;> first | exact absurd rfl (hd _) | simp [hne, hz]
theorem assert_nil (t : TypeId) (d : TypeDesc) (hu : Try.prog.underlying t = some d) (hd : ∀ ms, d ≠ .interface ms) (z : Value) (w : World) (hz : (zeroValue t).run Try.prog w = .ok z w) :
    (Instr.typeAssert .nilIface 20 t true).run Try.prog w = .ok (.tuple #[z, .bool false]) w := by
  simp only [Instr.typeAssert, Sem.run_bind, run_underlying hu, Result.andThen_ok]
  cases d <;> first | exact absurd rfl (hd _) | simp [hz]

set_option maxHeartbeats 400000 in
theorem swap_bool (b : Bool) (w : World) : Calls Try.prog 26 #[.iface 4 (.bool b)] w fun e w' => e = .returned (.iface 4 (.bool !b)) ∧ w = w' := by
  have h1 := fun w => assert_hit 4 _ Try.underlying4 (by simp) (.bool b) w
  go_enter Try.func26, Try.ntmps26
  go_wp2
  go_ret
  exact ⟨rfl, rfl⟩
set_option maxHeartbeats 400000 in
theorem swap_str (s : ByteArray) (w : World) : Calls Try.prog 26 #[.iface 9 (.string s)] w fun e w' => e = .returned (.iface 54 (.string s)) ∧ w = w' := by
  have h1 := fun w => assert_miss 4 9 _ Try.underlying4 (by simp) (by decide) (.string s) _ w (zero4 w)
  have h2 := fun w => assert_hit 9 _ Try.underlying9 (by simp) (.string s) w
  go_enter Try.func26, Try.ntmps26
  go_wp2
  go_ret
  exact ⟨rfl, rfl⟩
set_option maxHeartbeats 400000 in
theorem swap_num (s : ByteArray) (w : World) : Calls Try.prog 26 #[.iface 54 (.string s)] w fun e w' => e = .returned (.iface 9 (.string s)) ∧ w = w' := by
  have h1 := fun w => assert_miss 4 54 _ Try.underlying4 (by simp) (by decide) (.string s) _ w (zero4 w)
  have h2 := fun w => assert_miss 9 54 _ Try.underlying9 (by simp) (by decide) (.string s) _ w (zero9 w)
  have h3 := fun w => assert_hit 54 _ Try.underlying54 (by simp) (.string s) w
  go_enter Try.func26, Try.ntmps26
  go_wp2
  go_ret
  exact ⟨rfl, rfl⟩
set_option maxHeartbeats 400000 in
theorem swap_nil (w : World) : Calls Try.prog 26 #[.nilIface] w fun e w' => e = .returned .nilIface ∧ w = w' := by
  have h1 := fun w => assert_nil 4 _ Try.underlying4 (by simp) _ w (zero4 w)
  have h2 := fun w => assert_nil 9 _ Try.underlying9 (by simp) _ w (zero9 w)
  have h3 := fun w => assert_nil 54 _ Try.underlying54 (by simp) _ w (zero54 w)
  go_enter Try.func26, Try.ntmps26
  go_wp2
  go_ret
  exact ⟨rfl, rfl⟩
set_option maxHeartbeats 400000 in
theorem same_any (v : Value) (w : World) : Calls Try.prog 28 #[v] w fun e w' => e = .returned v ∧ w = w' := by
  go_enter Try.func28, Try.ntmps28
  go_wp2
  go_ret
  exact ⟨rfl, rfl⟩

/-- f on a leaf: zzSwap where sw, else the function that hands its argument back -/
def fId (sw : Bool) : FuncId := if sw then 26 else 28
def mapS (sw : Bool) (n : Nat) (t : Tr n) : Tr n := if sw then swapM n t else t

def isLeafV : Value → Prop
  | .iface t _ => t ≠ 55 ∧ t ≠ 56
  | .nilIface => True
  | _ => False

theorem leaf_calls (sw : Bool) {p : Nat → Prop} {n : Nat} {v : Value} {t : Tr n} {w : World} (h : AnyAt p w n v t) (hl : isLeafV v) :
    Calls Try.prog (fId sw) #[v] w fun e w' => ∃ r, e = .returned r ∧ AnyAt p w' n r (mapS sw n t) ∧ w = w' := by
  cases sw with
  | false =>
    refine (same_any v w).mono ?_
    rintro e w' ⟨rfl, rfl⟩
    exact ⟨v, rfl, h, rfl⟩
  | true =>
    cases n with
    | zero => exact h.elim
    | succ n =>
      rcases h with ⟨rfl, h⟩ | ⟨b, rfl, h⟩ | ⟨s, rfl, h⟩ | ⟨s, rfl, h⟩ | ⟨m, kvs, kids, rfl, _⟩ | ⟨s, b, o, kids, rfl, _⟩
      · refine (swap_nil w).mono ?_
        rintro e w' ⟨rfl, rfl⟩
        refine ⟨_, rfl, .inl ⟨rfl, ?_⟩, rfl⟩
        simp [mapS, swapM, h, leaf]
      · refine (swap_bool b w).mono ?_
        rintro e w' ⟨rfl, rfl⟩
        refine ⟨_, rfl, .inr (.inl ⟨_, rfl, ?_⟩), rfl⟩
        simp [mapS, swapM, h, leaf]
      · refine (swap_str s w).mono ?_
        rintro e w' ⟨rfl, rfl⟩
        refine ⟨_, rfl, .inr (.inr (.inr (.inl ⟨s, rfl, ?_⟩))), rfl⟩
        simp [mapS, swapM, h, leaf]
      · refine (swap_num s w).mono ?_
        rintro e w' ⟨rfl, rfl⟩
        refine ⟨_, rfl, .inr (.inr (.inl ⟨s, rfl, ?_⟩)), rfl⟩
        simp [mapS, swapM, h, leaf]
      · simp [isLeafV] at hl
      · simp [isLeafV] at hl

set_option maxHeartbeats 1000000 in
theorem swapModel_calls (N : Nat) (hN : N ≤ 1073741824) (n : Nat) : ∀ (p : Nat → Prop) (t : Tr n) (v : Value) (w : World), TreeAt p w n v t → Small N n t →
    Calls Try.prog 17 #[v] w (Ret5 fun r w' => TreeAt (fun b => p b ∨ w.heap.size ≤ b) w' n r (swapM n t) ∧ Below w.heap.size w w') := by
  induction n with
  | zero => intro p t v w h; exact h.elim
  | succ n ih =>
    intro p t v w hT hS
    have IH := hide ih
    clear ih
    obtain ⟨ks, kd, rfl, ⟨kb, ko, ⟨ka, kc, rfl, hkc, hkm, hka, hkp⟩, hks⟩, ⟨db, dof, ⟨da, dc, rfl, hdc, hdm, hda, hdp⟩, hkd⟩⟩ := hT.old
    obtain ⟨hs1, hs2, hs3⟩ := hS
    generalize hkn : t.keys.length = kn at *
    generalize hdn : t.kids.length = dn at *
    generalize hkind : t.kind = kind at *
    generalize hflag : t.flag = flag at *
    generalize htext : t.text = text at *
    have HT := hide (And.intro hkn (And.intro hdn (And.intro hkind (And.intro hflag htext))))
    have H1 := hide hks
    have H2 := hide hkd
    have H3 := hide hs3
    have Hka := hide hka
    have Hda := hide hda
    have Hkp := hide hkp
    have Hdp := hide hdp
    clear hkn hdn hkind hflag htext hks hkd hs3 hka hda hkp hdp hT
    have hmz := make_trees dn (by omega)
    by_cases h1 : kind = 1
    · subst h1
      have hsw : Hid (swapM (n + 1) t = leaf 1 (!flag) ByteArray.empty) := hide (by simp [swapM, HT.out]; rfl)
      go_enter Try.func17, Try.ntmps17
      go_wp2_with fail
      exact ret_cell5 Try.results17 (.inl rfl) rfl (alloc5_range _ _ _ _ _ _ _ (by simp)) rfl ⟨_, _, _, _, _, _, _, _, _, rfl, by rw [hsw.out]; exact leafAt _ _ _ _ _ _, ((Below.refl _ _).alloc (Nat.le_refl _) _).alloc (by simp) _⟩
    by_cases h2 : kind = 2
    · subst h2
      have hsw : Hid (swapM (n + 1) t = leaf 3 false text) := hide (by simp [swapM, HT.out]; rfl)
      go_enter Try.func17, Try.ntmps17
      go_wp2_with fail
      exact ret_cell5 Try.results17 (.inl rfl) rfl (alloc5_range _ _ _ _ _ _ _ (by simp)) rfl ⟨_, _, _, _, _, _, _, _, _, rfl, by rw [hsw.out]; exact leafAt _ _ _ _ _ _, ((Below.refl _ _).alloc (Nat.le_refl _) _).alloc (by simp) _⟩
    by_cases h3 : kind = 3
    · subst h3
      have hsw : Hid (swapM (n + 1) t = leaf 2 false text) := hide (by simp [swapM, HT.out]; rfl)
      go_enter Try.func17, Try.ntmps17
      go_wp2_with fail
      exact ret_cell5 Try.results17 (.inl rfl) rfl (alloc5_range _ _ _ _ _ _ _ (by simp)) rfl ⟨_, _, _, _, _, _, _, _, _, rfl, by rw [hsw.out]; exact leafAt _ _ _ _ _ _, ((Below.refl _ _).alloc (Nat.le_refl _) _).alloc (by simp) _⟩
    by_cases h45 : kind = 4 ∨ kind = 5
    · have hsw : Hid (swapM (n + 1) t = (⟨kind, false, ByteArray.empty, t.keys, t.kids.map (swapM n)⟩ : Node (Tr n))) := hide (by simp [swapM, HT.out, h1, h2, h3, h45]; rfl)
      clear h1 h2 h3
      rcases h45 with rfl | rfl
      · go_enter Try.func17, Try.ntmps17
        go_wp2_with fail
        go_loopw [33] (fun i wr => ∃ j : Nat, j ≤ dn ∧ i = .int .i64 j ∧ w.heap.size + 3 ≤ wr.heap.size ∧
          Below (w.heap.size + 2) ((w.alloc (.cells #[.int .i8 4, .bool flag, .string text, .slice ka kn kc, .slice da dn dc] 26)).alloc (.cells #[.int .i8 0, .bool false, .string { data := #[] }, .slice none 0 0, .slice none 0 0] 26)) wr ∧
          RowF5 wr (w.heap.size + 2) 26 dn j (fun i u => ∀ x, (t.kids.map (swapM n))[i]? = some x → TreeAt (fun b => (p b ∧ b < w.heap.size) ∨ w.heap.size + 3 ≤ b) wr n u x)) (fun i _ => dn - (intOf i).toNat)
        case atStart => exact ⟨0, Nat.zero_le _, rfl, by simp, (Below.refl _ _).alloc (by simp) _, RowF5.make _ _ _ _ _ (by simp) (size_zeros5 dn)⟩
        case round =>
          obtain ⟨j, hj, rfl, hsz2, hB2, hR2⟩ := hrel
          have hb2 : Below w.heap.size w wr := (((Below.refl _ _).alloc (Nat.le_refl _) _).alloc (by simp) _).trans (hB2.mono (by omega))
          have hbox : wr.cell? ⟨w.heap.size, 4, none⟩ = some (.slice da dn dc) := by rw [hB2.cell (by simp)]; simp
          by_cases hlt2 : j < dn
          · obtain ⟨x, hx⟩ : ∃ x, t.kids[j]? = some x := ⟨t.kids[j]'(by rw [HT.out.2.1]; exact hlt2), by simp⟩
            obtain ⟨c0, c1, c2, c3, c4, hr, htr⟩ := H2.out j x hx
            have hix := index_trees (cap := dc) Hda.out j hlt2
            have hrr := rangeAt_later hb2 hr
            have e0 : wr.cell? ⟨db, dof + j * 5, none⟩ = some c0 := hrr 0 c0 rfl
            have e1 : wr.cell? ⟨db, dof + j * 5 + 1, none⟩ = some c1 := hrr 1 c1 rfl
            have e2 : wr.cell? ⟨db, dof + j * 5 + 2, none⟩ = some c2 := hrr 2 c2 rfl
            have e3 : wr.cell? ⟨db, dof + j * 5 + 3, none⟩ = some c3 := hrr 3 c3 rfl
            have e4 : wr.cell? ⟨db, dof + j * 5 + 4, none⟩ = some c4 := hrr 4 c4 rfl
            have HX := hide hx
            have HTR := hide htr
            have HR2 := hide hR2
            have HB2 := hide hB2
            clear hx htr hr hrr hR2 hB2
            go_wp2_with fail
            refine (IH.out _ x _ _ (HTR.out.below hb2) (H3.out x (List.mem_of_getElem? HX.out))).mono ?_
            rintro e w3 ⟨k', b', s', a1, n1, p1, a2, n2, p2, rfl, hT3, hb3⟩
            have hR3 : RowF5 w3 (w.heap.size + 2) 26 dn j (fun i u => ∀ x, (t.kids.map (swapM n))[i]? = some x → TreeAt (fun b => (p b ∧ b < w.heap.size) ∨ w.heap.size + 3 ≤ b) w3 n u x) :=
              (HR2.out.kept (hb3.block _ (by omega))).turn (fun i u _ h x hx => (h x hx).below hb3)
            obtain ⟨f0, hf0⟩ := hR3.old (j := j * 5) (by omega)
            obtain ⟨f1, hf1⟩ := hR3.old (j := j * 5 + 1) (by omega)
            obtain ⟨f2, hf2⟩ := hR3.old (j := j * 5 + 2) (by omega)
            obtain ⟨f3, hf3⟩ := hR3.old (j := j * 5 + 3) (by omega)
            obtain ⟨f4, hf4⟩ := hR3.old (j := j * 5 + 4) (by omega)
            have hz0 := hR3.frozen (j * 5)
            have hz1 := hR3.frozen (j * 5 + 1)
            have hz2 := hR3.frozen (j * 5 + 2)
            have hz3 := hR3.frozen (j * 5 + 3)
            have hz4 := hR3.frozen (j * 5 + 4)
            have HR3 := hide hR3
            have HT3 := hide hT3
            clear hR3 hT3
            go_wp2_with fail
            refine ⟨⟨j + 1, by omega, by go_num, by have := hb3.size; rw [set5_size]; omega, HB2.out.trans ((hb3.mono (by omega)).trans (set5_below (by omega))), ?_⟩, by simp [intOf]; omega⟩
            have hno : ¬ ((p (w.heap.size + 2) ∧ w.heap.size + 2 < w.heap.size) ∨ w.heap.size + 3 ≤ w.heap.size + 2) := by omega
            refine RowF5.step (w := w3) (HR3.out.turn (fun i u _ h x hx => (h x hx).mono (set5_stay hno) (fun _ h => h))) hlt2 (fun y hy => ?_)
            rw [List.getElem?_map, HX.out] at hy
            cases hy
            have hT4 : TreeAt (fun b => (p b ∧ b < w.heap.size) ∨ w.heap.size + 3 ≤ b) w3 n (.agg #[.int .i8 k', .bool b', .string s', .slice a1 n1 p1, .slice a2 n2 p2]) (swapM n x) := HT3.out.mono (fun _ _ _ => rfl) (fun b h => or_turn h id (fun h => Nat.le_trans hsz2 h))
            exact hT4.mono (set5_stay hno) (fun _ h => h)
          · have hje : j = dn := by omega
            have g0 : wr.cell? ⟨w.heap.size, 0, none⟩ = some (.int .i8 4) := by rw [hB2.cell (by simp)]; simp
            have g3 : wr.cell? ⟨w.heap.size, 3, none⟩ = some (.slice ka kn kc) := by rw [hB2.cell (by simp)]; simp
            have hR1 : RowF wr (w.heap.size + 1) 26 5 0 (fun _ _ => True) := (RowF.make _ _ _ _ (by simp) rfl).kept (hB2.block _ (by omega))
            obtain ⟨f0, hf0⟩ := hR1.old (j := 0) (by omega)
            obtain ⟨f1, hf1⟩ := hR1.old (j := 1) (by omega)
            obtain ⟨f2, hf2⟩ := hR1.old (j := 2) (by omega)
            obtain ⟨f3, hf3⟩ := hR1.old (j := 3) (by omega)
            obtain ⟨f4, hf4⟩ := hR1.old (j := 4) (by omega)
            have hz0 := hR1.frozen 0
            have hz1 := hR1.frozen 1
            have hz2 := hR1.frozen 2
            have hz3 := hR1.frozen 3
            have hz4 := hR1.frozen 4
            have HR2 := hide hR2
            have HB2 := hide hB2
            clear hR2 hB2 hR1
            go_wp2_with fail
            refine ret_cell5 Try.results17 (.inl rfl) rfl (set5_range hf0 hf1 hf2 hf3 hf4) rfl ⟨_, _, _, _, _, _, _, _, _, rfl, ?_, hb2.trans (set5_below (by omega))⟩
            subst hje
            rw [hsw.out]
            refine ⟨_, _, rfl, ?_, KidsAt.of_row (by rw [List.length_map]; exact HT.out.2.1) (.inr (by omega)) (by omega) ((HR2.out.kept (set5_other (by omega))).turn (fun i u _ h x hx => (h x hx).mono (set5_stay (by omega)) (fun b hb => or_turn hb (·.1) (fun h => by omega))))⟩
            refine ⟨kb, ko, ⟨ka, kc, by rw [← HT.out.1], by rw [HT.out.1]; exact hkc, hkm, by rw [HT.out.1]; exact Hka.out, by rw [HT.out.1]; exact or_turn Hkp.out id (fun h => .inl h.1)⟩, fun i s hs => cell_later (hb2.trans (set5_below (by omega))) (H1.out i s hs)⟩
      · go_enter Try.func17, Try.ntmps17
        go_wp2_with fail
        go_loopw [33] (fun i wr => ∃ j : Nat, j ≤ dn ∧ i = .int .i64 j ∧ w.heap.size + 3 ≤ wr.heap.size ∧
          Below (w.heap.size + 2) ((w.alloc (.cells #[.int .i8 5, .bool flag, .string text, .slice ka kn kc, .slice da dn dc] 26)).alloc (.cells #[.int .i8 0, .bool false, .string { data := #[] }, .slice none 0 0, .slice none 0 0] 26)) wr ∧
          RowF5 wr (w.heap.size + 2) 26 dn j (fun i u => ∀ x, (t.kids.map (swapM n))[i]? = some x → TreeAt (fun b => (p b ∧ b < w.heap.size) ∨ w.heap.size + 3 ≤ b) wr n u x)) (fun i _ => dn - (intOf i).toNat)
        case atStart => exact ⟨0, Nat.zero_le _, rfl, by simp, (Below.refl _ _).alloc (by simp) _, RowF5.make _ _ _ _ _ (by simp) (size_zeros5 dn)⟩
        case round =>
          obtain ⟨j, hj, rfl, hsz2, hB2, hR2⟩ := hrel
          have hb2 : Below w.heap.size w wr := (((Below.refl _ _).alloc (Nat.le_refl _) _).alloc (by simp) _).trans (hB2.mono (by omega))
          have hbox : wr.cell? ⟨w.heap.size, 4, none⟩ = some (.slice da dn dc) := by rw [hB2.cell (by simp)]; simp
          by_cases hlt2 : j < dn
          · obtain ⟨x, hx⟩ : ∃ x, t.kids[j]? = some x := ⟨t.kids[j]'(by rw [HT.out.2.1]; exact hlt2), by simp⟩
            obtain ⟨c0, c1, c2, c3, c4, hr, htr⟩ := H2.out j x hx
            have hix := index_trees (cap := dc) Hda.out j hlt2
            have hrr := rangeAt_later hb2 hr
            have e0 : wr.cell? ⟨db, dof + j * 5, none⟩ = some c0 := hrr 0 c0 rfl
            have e1 : wr.cell? ⟨db, dof + j * 5 + 1, none⟩ = some c1 := hrr 1 c1 rfl
            have e2 : wr.cell? ⟨db, dof + j * 5 + 2, none⟩ = some c2 := hrr 2 c2 rfl
            have e3 : wr.cell? ⟨db, dof + j * 5 + 3, none⟩ = some c3 := hrr 3 c3 rfl
            have e4 : wr.cell? ⟨db, dof + j * 5 + 4, none⟩ = some c4 := hrr 4 c4 rfl
            have HX := hide hx
            have HTR := hide htr
            have HR2 := hide hR2
            have HB2 := hide hB2
            clear hx htr hr hrr hR2 hB2
            go_wp2_with fail
            refine (IH.out _ x _ _ (HTR.out.below hb2) (H3.out x (List.mem_of_getElem? HX.out))).mono ?_
            rintro e w3 ⟨k', b', s', a1, n1, p1, a2, n2, p2, rfl, hT3, hb3⟩
            have hR3 : RowF5 w3 (w.heap.size + 2) 26 dn j (fun i u => ∀ x, (t.kids.map (swapM n))[i]? = some x → TreeAt (fun b => (p b ∧ b < w.heap.size) ∨ w.heap.size + 3 ≤ b) w3 n u x) :=
              (HR2.out.kept (hb3.block _ (by omega))).turn (fun i u _ h x hx => (h x hx).below hb3)
            obtain ⟨f0, hf0⟩ := hR3.old (j := j * 5) (by omega)
            obtain ⟨f1, hf1⟩ := hR3.old (j := j * 5 + 1) (by omega)
            obtain ⟨f2, hf2⟩ := hR3.old (j := j * 5 + 2) (by omega)
            obtain ⟨f3, hf3⟩ := hR3.old (j := j * 5 + 3) (by omega)
            obtain ⟨f4, hf4⟩ := hR3.old (j := j * 5 + 4) (by omega)
            have hz0 := hR3.frozen (j * 5)
            have hz1 := hR3.frozen (j * 5 + 1)
            have hz2 := hR3.frozen (j * 5 + 2)
            have hz3 := hR3.frozen (j * 5 + 3)
            have hz4 := hR3.frozen (j * 5 + 4)
            have HR3 := hide hR3
            have HT3 := hide hT3
            clear hR3 hT3
            go_wp2_with fail
            refine ⟨⟨j + 1, by omega, by go_num, by have := hb3.size; rw [set5_size]; omega, HB2.out.trans ((hb3.mono (by omega)).trans (set5_below (by omega))), ?_⟩, by simp [intOf]; omega⟩
            have hno : ¬ ((p (w.heap.size + 2) ∧ w.heap.size + 2 < w.heap.size) ∨ w.heap.size + 3 ≤ w.heap.size + 2) := by omega
            refine RowF5.step (w := w3) (HR3.out.turn (fun i u _ h x hx => (h x hx).mono (set5_stay hno) (fun _ h => h))) hlt2 (fun y hy => ?_)
            rw [List.getElem?_map, HX.out] at hy
            cases hy
            have hT4 : TreeAt (fun b => (p b ∧ b < w.heap.size) ∨ w.heap.size + 3 ≤ b) w3 n (.agg #[.int .i8 k', .bool b', .string s', .slice a1 n1 p1, .slice a2 n2 p2]) (swapM n x) := HT3.out.mono (fun _ _ _ => rfl) (fun b h => or_turn h id (fun h => Nat.le_trans hsz2 h))
            exact hT4.mono (set5_stay hno) (fun _ h => h)
          · have hje : j = dn := by omega
            have g0 : wr.cell? ⟨w.heap.size, 0, none⟩ = some (.int .i8 5) := by rw [hB2.cell (by simp)]; simp
            have g3 : wr.cell? ⟨w.heap.size, 3, none⟩ = some (.slice ka kn kc) := by rw [hB2.cell (by simp)]; simp
            have hR1 : RowF wr (w.heap.size + 1) 26 5 0 (fun _ _ => True) := (RowF.make _ _ _ _ (by simp) rfl).kept (hB2.block _ (by omega))
            obtain ⟨f0, hf0⟩ := hR1.old (j := 0) (by omega)
            obtain ⟨f1, hf1⟩ := hR1.old (j := 1) (by omega)
            obtain ⟨f2, hf2⟩ := hR1.old (j := 2) (by omega)
            obtain ⟨f3, hf3⟩ := hR1.old (j := 3) (by omega)
            obtain ⟨f4, hf4⟩ := hR1.old (j := 4) (by omega)
            have hz0 := hR1.frozen 0
            have hz1 := hR1.frozen 1
            have hz2 := hR1.frozen 2
            have hz3 := hR1.frozen 3
            have hz4 := hR1.frozen 4
            have HR2 := hide hR2
            have HB2 := hide hB2
            clear hR2 hB2 hR1
            go_wp2_with fail
            refine ret_cell5 Try.results17 (.inl rfl) rfl (set5_range hf0 hf1 hf2 hf3 hf4) rfl ⟨_, _, _, _, _, _, _, _, _, rfl, ?_, hb2.trans (set5_below (by omega))⟩
            subst hje
            rw [hsw.out]
            refine ⟨_, _, rfl, ?_, KidsAt.of_row (by rw [List.length_map]; exact HT.out.2.1) (.inr (by omega)) (by omega) ((HR2.out.kept (set5_other (by omega))).turn (fun i u _ h x hx => (h x hx).mono (set5_stay (by omega)) (fun b hb => or_turn hb (·.1) (fun h => by omega))))⟩
            refine ⟨kb, ko, ⟨ka, kc, by rw [← HT.out.1], by rw [HT.out.1]; exact hkc, hkm, by rw [HT.out.1]; exact Hka.out, by rw [HT.out.1]; exact or_turn Hkp.out id (fun h => .inl h.1)⟩, fun i s hs => cell_later (hb2.trans (set5_below (by omega))) (H1.out i s hs)⟩
    · have hsw : Hid (swapM (n + 1) t = leaf 0 false ByteArray.empty) := hide (by simp [swapM, HT.out, h1, h2, h3, h45]; rfl)
      have k1 : (kind == 1) = false := by simp [h1]
      have k2 : (kind == 2) = false := by simp [h2]
      have k3 : (kind == 3) = false := by simp [h3]
      have k4 : (kind == 4) = false := by simp; omega
      have k5 : (kind == 5) = false := by simp; omega
      clear h1 h2 h3 h45
      go_enter Try.func17, Try.ntmps17
      go_wp2_with fail
      exact ret_cell5 Try.results17 (.inl rfl) rfl (alloc5_range _ _ _ _ _ _ _ (by simp)) rfl ⟨_, _, _, _, _, _, _, _, _, rfl, by rw [hsw.out]; exact leafAt _ _ _ _ _ _, ((Below.refl _ _).alloc (Nat.le_refl _) _).alloc (by simp) _⟩
end Go.Proofs.Qxb6616028a
