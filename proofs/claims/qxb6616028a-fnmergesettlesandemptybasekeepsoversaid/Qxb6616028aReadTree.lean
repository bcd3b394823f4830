/- AN ARGUMENT THAT READS AS DATA IS A TREE IN MEMORY (type 26), and a bool answer behind a call that only adds blocks shuts the row. -/
import Derived.Test.Qxb6616028aHeap
import Derived.ProofKit
import Derived.OpenShut
import Derived.SliceStrings
namespace Go.Proofs.Qxb6616028a
open Go.ChangeShapes Go.WideShapes Go.ChangeAt Go.RowKit

theorem own : ownKnob Try.prog.godebug = none := by kernel_rfl
theorem laidOut : laidOutB Try.prog = true := by kernel_rfl
theorem cells9 : Try.prog.cellsOf 9 = 1 := by kernel_rfl
theorem cells4 : Try.prog.cellsOf 4 = 1 := by kernel_rfl
theorem cells22 : Try.prog.cellsOf 22 = 1 := by kernel_rfl
theorem cells23 : Try.prog.cellsOf 23 = 1 := by kernel_rfl
theorem cells24 : Try.prog.cellsOf 24 = 1 := by kernel_rfl
theorem cells26 : Try.prog.cellsOf 26 = 5 := by kernel_rfl

theorem list_choice {α : Type} (p : Nat → α → Prop) : ∀ n : Nat, (∀ i, i < n → ∃ x, p i x) → ∃ l : List α, l.length = n ∧ ∀ (i : Nat) x, l[i]? = some x → p i x
  | 0, _ => ⟨[], rfl, fun i x h => by simp at h⟩
  | n + 1, h => by
    obtain ⟨l, hl, hp⟩ := list_choice p n (fun i hi => h i (by omega))
    obtain ⟨x, hx⟩ := h n (by omega)
    refine ⟨l ++ [x], by simp [hl], fun i y hy => ?_⟩
    by_cases hi : i < n
    · rw [List.getElem?_append_left (by omega)] at hy
      exact hp i y hy
    · rw [List.getElem?_append_right (by omega)] at hy
      have e : i - l.length = 0 := by
        have := (List.getElem?_eq_some_iff.1 hy).1
        simp at this
        omega
      rw [e] at hy
      simp at hy
      obtain rfl : i = n := by omega
      exact hy ▸ hx

theorem list_five {α : Type} {l : List α} (h : l.length = 5) : ∃ a b c d e, l = [a, b, c, d, e] := by
  match l, h with
  | [a, b, c, d, e], _ => exact ⟨a, b, c, d, e, rfl⟩

theorem five_cells {w : World} {a : Addr} {cs : List Value} (h : w.cells? 0 a 5 = some cs) :
    ∃ c0 c1 c2 c3 c4, cs = [c0, c1, c2, c3, c4] ∧ a.spot = none ∧ w.rangeAt a.block a.off [c0, c1, c2, c3, c4] := by
  unfold World.cells? at h
  rw [if_pos (Nat.zero_le _)] at h
  have hl : cs.length = 5 := by simpa using mapM_some_length h
  have hg := fun i (hi : i < 5) => mapM_some_get h i i (by simp [hi])
  obtain ⟨c0, c1, c2, c3, c4, rfl⟩ := list_five hl
  obtain ⟨b, o, spot⟩ := a
  have h0 := hg 0 (by omega)
  have hspot : spot = none := by simpa [Addr.add] using World.cell?_spot h0
  subst hspot
  refine ⟨c0, c1, c2, c3, c4, rfl, rfl, fun j v hv => ?_⟩
  have hj : j < 5 := by simpa using (List.getElem?_eq_some_iff.1 hv).1
  have := hg j hj
  rw [Addr.add_mid] at this
  rw [this, hv]

theorem tree_of_trod {H : Type} {enc : TypeId × Value → H} {W : World} : ∀ (k fuel : Nat) (cs : List Value) (x : DataW H × List MemPlace), fuel ≤ 2 * k →
    DataW.trod enc Try.prog W 0 (fun _ => true) true fuel 26 cs = some x → ∃ t : Tr k, TreeAt Whole W k (.agg cs.toArray) t
  | 0, fuel, cs, x, hf, h => by
    obtain rfl : fuel = 0 := by omega
    simp [DataW.trod] at h
  | k + 1, fuel, cs, x, hf, h => by
    obtain ⟨xs, n, rfl, _, hcl, _, hfl⟩ := DataW.trod_struct Try.underlying26 h
    rw [cells26] at hcl
    obtain ⟨c0, c1, c2, c3, c4, rfl⟩ := list_five hcl
    have hx : xs.length = 5 := by assumption
    obtain ⟨x0, x1, x2, x3, x4, rfl⟩ := list_five hx
    have f0 := hfl 0 _ rfl
    have f1 := hfl 1 _ rfl
    have f2 := hfl 2 _ rfl
    have f3 := hfl 3 _ rfl
    have f4 := hfl 4 _ rfl
    clear hfl h
    simp only [List.getElem?_cons_zero, List.getElem?_cons_succ] at f0 f1 f2 f3 f4
    obtain ⟨kd, e0, _, _⟩ := DataW.trod_int Try.underlying22 f0
    obtain ⟨fl, e1, _⟩ := DataW.trod_bool Try.underlying4 f1
    obtain ⟨s, e2, _, _⟩ := DataW.trod_string Try.underlying9 f2
    obtain rfl := (List.cons.inj e0).1
    obtain rfl := (List.cons.inj e1).1
    obtain rfl := (List.cons.inj e2).1
    have hkeys : ∃ ks : List ByteArray, StrsAt Whole W c3 ks := by
      rcases open_strings Try.underlying23 Try.underlying9 cells9 f3 with ⟨hcs, _⟩ | ⟨a, len, cap, ss, hcs, _, hl, hm, hz, _, hcell, _⟩
      · obtain rfl := (List.cons.inj hcs).1
        exact ⟨[], 0, 0, ⟨_, _, rfl, by simp, by unfold maxLen; omega, .inl rfl, .inl rfl⟩, fun i s h => by simp at h⟩
      · obtain rfl := (List.cons.inj hcs).1
        rw [if_pos rfl] at hz
        obtain ⟨b, o, spot⟩ := a
        have hspot : len = 0 ∨ spot = none := by
          by_cases h0 : len = 0
          · exact .inl h0
          · right
            have g0 := hcell 0 (by omega)
            simpa [Addr.add] using World.cell?_spot g0
        have hlen : (ss.take len).length = len := by simp; omega
        refine ⟨ss.take len, b, o, ⟨_, cap, by rw [hlen], by omega, hm, ?_, .inr trivial⟩, fun i s hs => ?_⟩
        · rw [hlen]
          rcases hspot with h | rfl
          · exact .inl h
          · exact .inr rfl
        · have hi : i < len := by rw [← hlen]; exact lt_of_some hs
          rcases hspot with h | rfl
          · omega
          have g := hcell i (by omega)
          rw [Addr.add_mid] at g
          rw [List.getElem?_take_of_lt hi] at hs
          rw [g, List.getD_eq_getElem?_getD, hs]
          rfl
    have hkids : ∃ kids : List (Tr k), KidsAt Whole W (TreeAt Whole W k) c4 kids := by
      rcases DataW.trod_slice Try.underlying24 f4 with ⟨hcs, _⟩ | ⟨a, len, cap, elems, rest, m, rfl, hcs, _, _, hl, hm, hlen, hel, _, _⟩
      · obtain rfl := (List.cons.inj hcs).1
        exact ⟨[], 0, 0, ⟨_, _, rfl, by simp, by unfold maxLen; omega, .inl rfl, .inl rfl⟩, fun i s h => by simp at h⟩
      · obtain rfl := (List.cons.inj hcs).1
        rw [cells26] at hel
        obtain ⟨b, o, spot⟩ := a
        have each : ∀ i, i < len → ∃ t : Tr k, (len = 0 ∨ spot = none) ∧ ∃ d0 d1 d2 d3 d4, W.rangeAt b (o + i * 5) [d0, d1, d2, d3, d4] ∧ TreeAt Whole W k (.agg #[d0, d1, d2, d3, d4]) t := by
          intro i hi
          have h1 := hel i hi
          have h0 := hel 0 (by omega)
          rw [List.getElem?_eq_getElem (by omega), Option.bind_eq_some_iff] at h1 h0
          obtain ⟨cs0, hc0, _⟩ := h0
          obtain ⟨cs1, hc1, ht1⟩ := h1
          obtain ⟨_, _, _, _, _, _, hs0, _⟩ := five_cells hc0
          have hspot : spot = none := by simpa [Addr.add] using hs0
          subst hspot
          obtain ⟨d0, d1, d2, d3, d4, rfl, _, hr⟩ := five_cells hc1
          obtain ⟨t, ht⟩ := tree_of_trod k m _ _ (by omega) ht1
          rw [Addr.add_mid] at hr
          exact ⟨t, .inr rfl, d0, d1, d2, d3, d4, hr, ht⟩
        obtain ⟨l, hll, hp⟩ := list_choice _ len each
        refine ⟨l, b, o, ⟨_, cap, by rw [hll], by omega, hm, ?_, .inr trivial⟩, fun i t ht => (hp i t ht).2⟩
        rw [hll]
        by_cases h0 : len = 0
        · exact .inl h0
        · obtain ⟨t, hs, _⟩ := each 0 (by omega)
          rcases hs with h | rfl
          · exact .inl h
          · exact .inr rfl
    obtain ⟨ks, hks⟩ := hkeys
    obtain ⟨kids, hkd⟩ := hkids
    exact ⟨(⟨kd, fl, s, ks, kids⟩ : Node (Tr k)), c3, c4, rfl, hks, hkd⟩

/-- an argument of type 26 that reads as data is a tree -/
theorem tree_of_arg {H : Type} {enc : TypeId × Value → H} {W : World} {v : Value} {d : DataW H} {ps : List MemPlace} {base : Nat} (hv : Value.okWide Try.prog W .any base 26 v)
    (h : DataW.Trod enc Try.prog W 0 (fun _ => true) true 26 v d ps) : ∃ (n : Nat) (t : Tr n), TreeAt Whole W n v t := by
  obtain ⟨cs, rfl, hs⟩ := okWide_struct Try.underlying26 hv
  obtain ⟨fuel, hf⟩ := h
  have e : (Value.agg cs).cells = cs := rfl
  rw [e] at hf
  obtain ⟨t, ht⟩ := tree_of_trod fuel fuel cs.toList _ (by omega) hf
  exact ⟨fuel, t, by simpa using ht⟩
end Go.Proofs.Qxb6616028a
