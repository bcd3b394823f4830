/- THE TOLD AND TIED CARD OF FnReaderEndClosesInReverseOrder. -/
import Derived.Test.Qxb6616107aFmtTwo
import Derived.Test.Qxb6616107aFmtArgs
namespace Go.Proofs.Qxb6616107aFmt
open Go.ChangeShapes Go.WideShapes Go.ChangeAt Go.RowKit Go.Kit
open Go.Extern.Stop Go.Stop Go.Extern

set_option maxRecDepth 100000 in
theorem closes_lifted (os : Os) (started : os.Started) (H : Type) (enc : TypeId × Value → H) :
    ReturnsInTold none {} Tryf.checked os 3 .any Input.okWide ((OpenSpec.ofChange Rows.fnReaderEndClosesInReverseOrderSpec).preRow enc Tryf.prog Tryf.f3 [] false Rows.fnReaderEndClosesInReverseOrderRow.laid) (fun F => ((OpenSpec.ofChange Rows.fnReaderEndClosesInReverseOrderSpec).at F).post enc Tryf.prog Tryf.f3 false true false false) (aloneAtReturn Tryf.prog) nothingAlways := by
  refine returnsInTold_of_row (C := Tryf.checked) (s := OpenSpec.ofChange Rows.fnReaderEndClosesInReverseOrderSpec) (by kernel_rfl) own started (by kernel_rfl) Tryf.func3
    (OpenSpec.witness_stopped_at (enc := enc) (C := Tryf.checked) false ({ (World.holding Tryf.prog os ⟨#[.cells #[.string ⟨#[110, 111, 116, 32, 119, 101, 108, 108, 45, 102, 111, 114, 109, 101, 100, 32, 88, 77, 76]⟩] 69], #[], []⟩) with heap := (World.holding Tryf.prog os ⟨#[.cells #[.string ⟨#[110, 111, 116, 32, 119, 101, 108, 108, 45, 102, 111, 114, 109, 101, 100, 32, 88, 77, 76]⟩] 69], #[], []⟩).heap.modify 0 fun o => match o with | .cells _ t frozen => .cells #[.iface 67 (.pointer (some ⟨(World.holding Tryf.prog default ⟨#[], #[], []⟩).heap.size, 0, none⟩))] t frozen | o => o } : World) #[.slice none 0 0, .slice none 0 0, .slice none 0 0, .slice none 0 0, .slice none 0 0, .int .i64 0] rfl (by kernel_rfl) (by kernel_rfl) (by kernel_rfl)
      (OpenSpec.preRow_of_B rfl 8 (by kernel_rfl) (by kernel_rfl) (laid_met os _))) ?_
  intro F W base args ds gs before _ hF hval0 hW _ _ _ hL _
  have hval : ∀ (j : Nat) t v, Tryf.f3.params[j]? = some t → args[j]? = some v → Value.okWide Tryf.prog W .any base t v := hval0
  have hW' := hW
  obtain ⟨p, q, hA0, hV0, rfl, hfz, hnd⟩ := hW
  have hA : DataW.TrodAll enc Tryf.prog W 0 (fun _ => true) true Tryf.f3.params.toList args.toList ds p := hA0
  have hV : DataW.TrodVars enc Tryf.prog W (fun _ => true) Rows.fnReaderEndClosesInReverseOrderSpec.vars gs q := hV0
  rw [Tryf.params3] at hA hval
  obtain ⟨v0, r0, d0, e0, p0, q0, hr0, rfl, rfl, h0, hA1⟩ := trodAll_cons hA
  obtain ⟨v1, r1, d1, e1, p1, q1, rfl, rfl, rfl, h1, hA2⟩ := trodAll_cons hA1
  obtain ⟨v2, r2, d2, e2, p2, q2, rfl, rfl, rfl, h2, hA3⟩ := trodAll_cons hA2
  obtain ⟨v3, r3, d3, e3, p3, q3, rfl, rfl, rfl, h3, hA4⟩ := trodAll_cons hA3
  obtain ⟨v4, r4, d4, e4, p4, q4, rfl, rfl, rfl, h4, hA5⟩ := trodAll_cons hA4
  obtain ⟨v5, r5, d5, e5, p5, q5, rfl, rfl, rfl, h5, hA6⟩ := trodAll_cons hA5
  obtain ⟨rfl, rfl, rfl⟩ := trodAll_nil hA6
  obtain rfl : args = #[v0, v1, v2, v3, v4, v5] := by cases args; simp_all
  obtain ⟨n5, rfl⟩ := okWide_int Tryf.underlying3 (hval 5 3 v5 rfl rfl)
  obtain ⟨K, hK⟩ := strs_of_arg (hval 0 22 v0 rfl rfl) h0
  obtain ⟨K', hK'⟩ := strs_of_arg (hval 1 22 v1 rfl rfl) h1
  obtain ⟨A2, hA2'⟩ := ints_of_arg (hval 2 23 v2 rfl rfl) h2
  obtain ⟨A3, hA3'⟩ := ints_of_arg (hval 3 23 v3 rfl rfl) h3
  obtain ⟨A4, hA4'⟩ := ints_of_arg (hval 4 23 v4 rfl rfl) h4
  obtain ⟨ga, gt, hv, hc, _, _⟩ := laid_sentinel (g := 0) (tp := 67) hL (by kernel_rfl) (by kernel_rfl) Tryf.underlying32 (fun u h => row67 u h) Tryf.underlying67 Tryf.underlying69 rfl rfl Tryf.underlying9 cells69 cells9
  obtain ⟨rfl, rfl⟩ := hV.unique (vars_read1 enc (g := 0) (by kernel_rfl) (by kernel_rfl) Tryf.underlying32 hv trivial _)
  have hg : W.cell? ⟨0, 0, none⟩ = some (.iface 67 (.pointer (some ga))) := by simpa using World.var?_cell (g := 0) (by kernel_rfl) hv 0
  clear hA0 hV0 hval0 hA1 hA2 hA3 hA4 hA5 hA6
  have hlt : ∀ x ∈ p0 ++ (p1 ++ (p2 ++ (p3 ++ (p4 ++ (p5 ++ []))))), x.block < W.heap.size := fun x hx => by simpa using hW'.lt x (List.mem_append.2 (.inl hx))
  refine (closes_calls F.told ga gt K K' A2 A3 A4 v0 v1 v2 v3 v4 n5 W ⟨hF, hg, hc⟩ hK hK' hA2' hA3' hA4').mono fun e W' ⟨he, hb⟩ => ?_
  subst he
  refine ⟨_, rfl, _, _, _, [], p0 ++ (p1 ++ (p2 ++ (p3 ++ (p4 ++ (p5 ++ []))))), [.cell 0 0], hW', ?_, ?_, ?_, hb.frame _, fun h => by cases h⟩
  · exact trodAll_mk1 (shut_bool Tryf.underlying4 _)
  · exact trodAll_more (Below.trod laidOutP (by kernel_rfl) (of_decide_eq_true (by kernel_rfl)) h0 hb (fun x hx => hlt x (by simp [hx]))) (trodAll_more (Below.trod laidOutP (by kernel_rfl) (of_decide_eq_true (by kernel_rfl)) h1 hb (fun x hx => hlt x (by simp [hx])))
      (trodAll_more (Below.trod laidOutP (by kernel_rfl) (of_decide_eq_true (by kernel_rfl)) h2 hb (fun x hx => hlt x (by simp [hx]))) (trodAll_more (Below.trod laidOutP (by kernel_rfl) (of_decide_eq_true (by kernel_rfl)) h3 hb (fun x hx => hlt x (by simp [hx])))
      (trodAll_more (Below.trod laidOutP (by kernel_rfl) (of_decide_eq_true (by kernel_rfl)) h4 hb (fun x hx => hlt x (by simp [hx]))) (trodAll_more (Below.trod laidOutP (by kernel_rfl) (of_decide_eq_true (by kernel_rfl)) h5 hb (fun x hx => hlt x (by simp [hx]))) rfl)))))
  · exact vars_read1 enc (g := 0) (by kernel_rfl) (by kernel_rfl) Tryf.underlying32 (var_later (g := 0) (by kernel_rfl) hb hv) trivial _

theorem closes_holds : Rows.FnReaderEndClosesInReverseOrderToldSaid :=
  Claim7.holds_of_told_tied_any_at .later 3 Tryf.f3 _ _ [] _ _ _ _ _ (by kernel_rfl) rfl rfl rfl laidOut (by kernel_rfl) rfl ⟨rfl, rfl, rfl, rfl, rfl, rfl, rfl⟩ rfl rfl (by kernel_rfl) (by kernel_rfl) Tryf.func3 (by kernel_rfl)
    (of_decide_eq_true (by kernel_rfl)) (of_decide_eq_true (by kernel_rfl)) stops_eq rfl stopKnobs_eq.symm (by kernel_rfl)
    (by kernel_rfl) (by kernel_rfl) (by kernel_rfl) (by kernel_rfl) (by kernel_rfl) (by kernel_rfl) (by kernel_rfl) (by kernel_rfl) (by kernel_rfl) rfl (by kernel_rfl) rfl rfl
    rfl rfl
    rfl (by kernel_rfl) (by kernel_rfl) (by kernel_rfl) (by decide) (by kernel_rfl) fnReaderEndClosesInReverseOrder_row_tie
    (OpenClaim.moreEntering_of (by kernel_rfl) (by kernel_rfl) (by kernel_rfl) (by kernel_rfl) (by kernel_rfl) (by kernel_rfl) (by kernel_rfl) (by kernel_rfl) (by kernel_rfl) (by kernel_rfl))
    ⟨_, WideRow.started_initial, quiet_any _⟩
    (fun os started _ H enc _ => closes_lifted os started H enc)
end Go.Proofs.Qxb6616107aFmt
