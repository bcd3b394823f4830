/- THE ROW OF FnMergeSettlesAndEmptyBaseKeepsOver. -/
import Derived.Test.Qxb6616028aSettles
import Derived.Test.Qxb6616028aReadTree
namespace Go.Proofs.Qxb6616028a
open Go.ChangeShapes Go.WideShapes Go.ChangeAt Go.RowKit

theorem settles_all (n : Nat) (ta tb : Tr n) (va vb : Value) (w : World) (ha : TreeAt Whole w n va ta) (hb : TreeAt Whole w n vb tb) :
    Calls Try.prog 4 #[va, vb] w (fun e w' => e = .returned (.bool true) ∧ Below w.heap.size w w') := by
  cases n with
  | zero => exact ha.elim
  | succ n => exact settles_calls n ta tb va vb w ha hb

/-- two arguments of type 26 that read as data are trees of one depth -/
theorem trees_of_args' {H : Type} {enc : TypeId × Value → H} {W : World} {v v' : Value} {d d' : DataW H} {ps ps' : List MemPlace} {base : Nat} (hv : Value.okWide Try.prog W .any base 26 v) (hv' : Value.okWide Try.prog W .any base 26 v')
    (h : DataW.Trod enc Try.prog W 0 (fun _ => true) true 26 v d ps) (h' : DataW.Trod enc Try.prog W 0 (fun _ => true) true 26 v' d' ps') :
    ∃ (n : Nat) (t t' : Tr n), TreeAt Whole W n v t ∧ TreeAt Whole W n v' t' := by
  obtain ⟨cs, rfl, hs⟩ := okWide_struct Try.underlying26 hv
  obtain ⟨cs', rfl, hs'⟩ := okWide_struct Try.underlying26 hv'
  obtain ⟨fuel, hf⟩ := h
  obtain ⟨fuel', hf'⟩ := h'
  have e : (Value.agg cs).cells = cs := rfl
  have e' : (Value.agg cs').cells = cs' := rfl
  rw [e] at hf
  rw [e'] at hf'
  obtain ⟨t, ht⟩ := tree_of_trod (fuel + fuel') fuel cs.toList _ (by omega) hf
  obtain ⟨t', ht'⟩ := tree_of_trod (fuel + fuel') fuel' cs'.toList _ (by omega) hf'
  exact ⟨fuel + fuel', t, t', by simpa using ht, by simpa using ht'⟩

set_option maxRecDepth 100000 in
theorem settles_lifted (os : Os) (started : os.Started) (H : Type) (enc : TypeId × Value → H) :
    ReturnsInHanded {} Try.checked os 4 .any (Rows.fnMergeSettlesAndEmptyBaseKeepsOverSpec.pre6 enc Try.prog Try.f4 Rows.fnMergeSettlesAndEmptyBaseKeepsOverRow.domain false) (Rows.fnMergeSettlesAndEmptyBaseKeepsOverSpec.post enc Try.prog Try.f4 false true false false) := by
  refine returnsInHanded_of_change (C := Try.checked) own started (by kernel_rfl) Try.func4
    (ChangeSpec.witness6 (enc := enc) (C := Try.checked) false ⟨#[], #[.agg #[.int .i8 0, .bool false, .string ByteArray.empty, .slice none 0 0, .slice none 0 0], .agg #[.int .i8 0, .bool false, .string ByteArray.empty, .slice none 0 0, .slice none 0 0]], []⟩ 8 (by kernel_rfl) (by kernel_rfl) (by kernel_rfl) (by kernel_rfl)) ?_
  intro W base args ds gs before hval0 hW hcnd _
  have hval : ∀ (j : Nat) t v, Try.f4.params[j]? = some t → args[j]? = some v → Value.okWide Try.prog W .any base t v := hval0
  have hW' := hW
  obtain ⟨p, q, hA0, hV, rfl, hfz, hnd⟩ := hW
  have hA : DataW.TrodAll enc Try.prog W 0 (fun _ => true) true Try.f4.params.toList args.toList ds p := hA0
  rw [Try.params4] at hA hval
  obtain ⟨v0, v1, d0, d1, q0, q1, rfl, rfl, rfl, h0, h1⟩ := trodAll_two hA
  obtain ⟨rfl, rfl⟩ := trodVars_none hV
  clear hA0 hval0
  simp only [List.append_nil] at hW'
  obtain ⟨n, t, t', ht, ht'⟩ := trees_of_args' (hval 0 26 v0 rfl rfl) (hval 1 26 v1 rfl rfl) h0 h1
  have hlt : ∀ x ∈ q0 ++ q1, x.block < W.heap.size := fun x hx => by simpa using hW'.lt x hx
  refine (settles_all n t t' v0 v1 W ht ht').mono fun e W' ⟨he, hb⟩ => ?_
  subst he
  refine ⟨_, rfl, _, _, _, [], q0 ++ q1, [], hW', ?_, ?_, rfl, hb.frame _, fun h => by cases h⟩
  · exact trodAll_mk1 (shut_bool Try.underlying4 _)
  · exact trodAll_mk2 (Below.trod laidOut (by kernel_rfl) (of_decide_eq_true (by kernel_rfl)) h0 hb (fun x hx => hlt x (List.mem_append_left _ hx))) (Below.trod laidOut (by kernel_rfl) (of_decide_eq_true (by kernel_rfl)) h1 hb (fun x hx => hlt x (List.mem_append_right _ hx)))

theorem settles_holds : Rows.FnMergeSettlesAndEmptyBaseKeepsOverSaid :=
  OpenClaim.holds_of_wide 4 Try.f4 rfl rfl rfl rfl rfl rfl rfl ⟨rfl, rfl, rfl, rfl, rfl⟩ rfl rfl rfl rfl rfl (by kernel_rfl) Try.func4 (by kernel_rfl)
    (of_decide_eq_true (by kernel_rfl)) (by unfold Func.isWrapper; first | (rw [if_pos (by decide +kernel)]; kernel_rfl) | (rw [if_neg (by decide +kernel)]; exact ⟨rfl, rfl⟩))
    (fun os started H enc _ => settles_lifted os started H enc)
end Go.Proofs.Qxb6616028a
