/- THE ROW OF FnMergeMatchesKeywiseModel. -/
import Derived.Test.Qxb6616028aKeywise
import Derived.Test.Qxb6616028aReadTree
namespace Go.Proofs.Qxb6616028a
open Go.ChangeShapes Go.WideShapes Go.ChangeAt Go.RowKit

/-- two arguments of type 26 that read as data are trees of one depth -/
theorem trees_of_args {H : Type} {enc : TypeId × Value → H} {W : World} {v v' : Value} {d d' : DataW H} {ps ps' : List MemPlace} {base : Nat} (hv : Value.okWide Try.prog W .any base 26 v) (hv' : Value.okWide Try.prog W .any base 26 v')
    (h : DataW.Trod enc Try.prog W 0 (fun _ => true) true 26 v d ps) (h' : DataW.Trod enc Try.prog W 0 (fun _ => true) true 26 v' d' ps') :
    ∃ (n : Nat) (t t' : Tr n), TreeAt Whole W n v t ∧ TreeAt Whole W n v' t' := by
  obtain ⟨cs, rfl, hs⟩ := okWide_struct Try.underlying26 hv
  obtain ⟨cs', rfl, hs'⟩ := okWide_struct Try.underlying26 hv'
  obtain ⟨fuel, hf⟩ := h
  obtain ⟨fuel', hf'⟩ := h'
  have e : (Value.agg cs).cells = cs := rfl
  have e' : (Value.agg cs').cells = cs' := rfl
  rw [e] at hf
  rw [e'] at hf'
  obtain ⟨t, ht⟩ := tree_of_trod (fuel + fuel') fuel cs.toList _ (by omega) hf
  obtain ⟨t', ht'⟩ := tree_of_trod (fuel + fuel') fuel' cs'.toList _ (by omega) hf'
  exact ⟨fuel + fuel', t, t', by simpa using ht, by simpa using ht'⟩

set_option maxRecDepth 100000 in
theorem keywise_lifted (os : Os) (started : os.Started) (H : Type) (enc : TypeId × Value → H) :
    ReturnsInHanded {} Try.checked os 3 .any (Rows.fnMergeMatchesKeywiseModelSpec.pre6 enc Try.prog Try.f3 Rows.fnMergeMatchesKeywiseModelRow.domain false) (Rows.fnMergeMatchesKeywiseModelSpec.post enc Try.prog Try.f3 false true false false) := by
  refine returnsInHanded_of_change (C := Try.checked) own started (by kernel_rfl) Try.func3
    (ChangeSpec.witness6 (enc := enc) (C := Try.checked) false ⟨#[], #[.agg #[.int .i8 0, .bool false, .string ByteArray.empty, .slice none 0 0, .slice none 0 0], .agg #[.int .i8 0, .bool false, .string ByteArray.empty, .slice none 0 0, .slice none 0 0]], []⟩ 8 (by kernel_rfl) (by kernel_rfl) (by kernel_rfl) (by kernel_rfl)) ?_
  intro W base args ds gs before hval0 hW hcnd _
  have hval : ∀ (j : Nat) t v, Try.f3.params[j]? = some t → args[j]? = some v → Value.okWide Try.prog W .any base t v := hval0
  have hW' := hW
  obtain ⟨p, q, hA0, hV, rfl, hfz, hnd⟩ := hW
  have hA : DataW.TrodAll enc Try.prog W 0 (fun _ => true) true Try.f3.params.toList args.toList ds p := hA0
  rw [Try.params3] at hA hval
  obtain ⟨v0, v1, d0, d1, q0, q1, rfl, rfl, rfl, h0, h1⟩ := trodAll_two hA
  obtain ⟨rfl, rfl⟩ := trodVars_none hV
  clear hA0 hval0
  simp only [List.append_nil] at hW'
  obtain ⟨n, t, t', ht, ht'⟩ := trees_of_args (hval 0 26 v0 rfl rfl) (hval 1 26 v1 rfl rfl) h0 h1
  have hlt : ∀ x ∈ q0 ++ q1, x.block < W.heap.size := fun x hx => by simpa using hW'.lt x hx
  refine (keywise_calls n t t' v0 v1 W ht ht').mono fun e W' ⟨he, hb⟩ => ?_
  subst he
  refine ⟨_, rfl, _, _, _, [], q0 ++ q1, [], hW', ?_, ?_, rfl, hb.frame _, fun h => by cases h⟩
  · exact trodAll_mk1 (shut_bool Try.underlying4 _)
  · exact trodAll_mk2 (Below.trod laidOut (by kernel_rfl) (of_decide_eq_true (by kernel_rfl)) h0 hb (fun x hx => hlt x (List.mem_append_left _ hx))) (Below.trod laidOut (by kernel_rfl) (of_decide_eq_true (by kernel_rfl)) h1 hb (fun x hx => hlt x (List.mem_append_right _ hx)))

theorem keywise_holds : Rows.FnMergeMatchesKeywiseModelSaid :=
  OpenClaim.holds_of_wide 3 Try.f3 rfl rfl rfl rfl rfl rfl rfl ⟨rfl, rfl, rfl, rfl, rfl⟩ rfl rfl rfl rfl rfl (by kernel_rfl) Try.func3 (by kernel_rfl)
    (of_decide_eq_true (by kernel_rfl)) (by unfold Func.isWrapper; first | (rw [if_pos (by decide +kernel)]; kernel_rfl) | (rw [if_neg (by decide +kernel)]; exact ⟨rfl, rfl⟩))
    (fun os started H enc _ => keywise_lifted os started H enc)
end Go.Proofs.Qxb6616028a
