/- THE TOLD CARD OF FnFlagLastBooleanLayerDecides. -/
import Derived.Test.Qxb6616028aFmtLast
import Derived.ProofKit
import Derived.OpenShut
import Derived.Stop.JoinedAt
import Derived.Stop.JoinedTold
import Derived.SevenToldRow
namespace Go.Proofs.Qxb6616028aFmt
open Go.ChangeShapes Go.WideShapes Go.ChangeAt Go.RowKit
open Go.Extern.Stop Go.Stop Go.Extern

theorem own : ownKnob Tryf.prog.godebug = none := by kernel_rfl
theorem laidOut : laidOutB Tryf.pinned.checked.prog = true := by kernel_rfl
theorem laidOutP : laidOutB Tryf.prog = true := by kernel_rfl
theorem stops_eq : Rows.fnFlagLastBooleanLayerDecidesRow.stops = Tryf.pinned.checked.prog.stops := by kernel_rfl
theorem stopKnobs_eq : Tryf.pinned.checked.prog.stopKnobs = [] := by kernel_rfl
theorem quiet_any (os : Os) : Stop.quiet Tryf.pinned.checked.prog os := by
  intro k hk
  rw [stopKnobs_eq] at hk
  cases hk
theorem cells27 : Tryf.prog.cellsOf 27 = 2 := by kernel_rfl

theorem list_choice {α : Type} (p : Nat → α → Prop) : ∀ n : Nat, (∀ i, i < n → ∃ x, p i x) → ∃ l : List α, l.length = n ∧ ∀ (i : Nat) x, l[i]? = some x → p i x
  | 0, _ => ⟨[], rfl, fun i x h => by simp at h⟩
  | n + 1, h => by
    obtain ⟨l, hl, hp⟩ := list_choice p n (fun i hi => h i (by omega))
    obtain ⟨x, hx⟩ := h n (by omega)
    refine ⟨l ++ [x], by simp [hl], fun i y hy => ?_⟩
    by_cases hi : i < n
    · rw [List.getElem?_append_left (by omega)] at hy
      exact hp i y hy
    · rw [List.getElem?_append_right (by omega)] at hy
      have e : i - l.length = 0 := by
        have := (List.getElem?_eq_some_iff.1 hy).1
        simp at this
        omega
      rw [e] at hy
      simp at hy
      obtain rfl : i = n := by omega
      exact hy ▸ hx

theorem list_two {α : Type} {l : List α} (h : l.length = 2) : ∃ a b, l = [a, b] := by
  match l, h with
  | [a, b], _ => exact ⟨a, b, rfl⟩

theorem two_cells {w : World} {a : Addr} {cs : List Value} (h : w.cells? 0 a 2 = some cs) :
    ∃ c0 c1, cs = [c0, c1] ∧ a.spot = none ∧ w.cell? ⟨a.block, a.off, none⟩ = some c0 ∧ w.cell? ⟨a.block, a.off + 1, none⟩ = some c1 := by
  unfold World.cells? at h
  rw [if_pos (Nat.zero_le _)] at h
  have hl : cs.length = 2 := by simpa using mapM_some_length h
  have hg := fun i (hi : i < 2) => mapM_some_get h i i (by simp [hi])
  obtain ⟨c0, c1, rfl⟩ := list_two hl
  obtain ⟨b, o, spot⟩ := a
  have h0 := hg 0 (by omega)
  have hspot : spot = none := by simpa [Addr.add] using World.cell?_spot h0
  subst hspot
  have h1 := hg 1 (by omega)
  rw [Addr.add_mid] at h0 h1
  exact ⟨c0, c1, rfl, rfl, h0, h1⟩

/-- an argument of type 22 that reads as data is a slice of layers -/
theorem lays_of_arg {H : Type} {enc : TypeId × Value → H} {W : World} {v : Value} {d : DataW H} {ps : List MemPlace} {base : Nat} (hv : Value.okWide Tryf.prog W .any base 22 v)
    (h : DataW.Trod enc Tryf.prog W 0 (fun _ => true) true 22 v d ps) : ∃ l, LaysAt W v l := by
  obtain ⟨a0, len0, cap0, rfl⟩ := okWide_slice Tryf.underlying22 hv
  obtain ⟨fuel, hf⟩ := h
  have hcells : (Value.slice a0 len0 cap0).cells.toList = [.slice a0 len0 cap0] := rfl
  rw [hcells] at hf
  rcases DataW.trod_slice Tryf.underlying22 hf with ⟨hcs, _⟩ | ⟨a, len, cap, elems, rest, m, rfl, hcs, _, _, hl, hm, hlen, hel, _, _⟩
  · cases hcs
    exact ⟨[], 0, 0, ⟨_, _, rfl, by simp, by unfold maxLen; omega, .inl rfl⟩, fun i s h => by simp at h⟩
  · cases hcs
    rw [cells27] at hel
    obtain ⟨b, o, spot⟩ := a
    have each : ∀ i, i < len0 → ∃ x : ByteArray × Int, (len0 = 0 ∨ spot = none) ∧ W.cell? ⟨b, o + i * 2, none⟩ = some (.string x.1) ∧ W.cell? ⟨b, o + i * 2 + 1, none⟩ = some (.int .i8 x.2) := by
      intro i hi
      have h1 := hel i hi
      have h0 := hel 0 (by omega)
      rw [List.getElem?_eq_getElem (by omega), Option.bind_eq_some_iff] at h1 h0
      obtain ⟨cs0, hc0, _⟩ := h0
      obtain ⟨cs1, hc1, ht1⟩ := h1
      obtain ⟨_, _, _, hs0, _⟩ := two_cells hc0
      have hspot : spot = none := by simpa [Addr.add] using hs0
      subst hspot
      obtain ⟨d0, d1, rfl, _, hr0, hr1⟩ := two_cells hc1
      obtain ⟨xs, n, rfl, _, _, hxl, hfl⟩ := DataW.trod_struct Tryf.underlying27 ht1
      have hx2 : xs.length = 2 := hxl
      obtain ⟨x0, x1, rfl⟩ := list_two hx2
      have f0 := hfl 0 _ rfl
      have f1 := hfl 1 _ rfl
      simp only [List.getElem?_cons_zero, List.getElem?_cons_succ] at f0 f1
      obtain ⟨s, e0, _, _⟩ := DataW.trod_string Tryf.underlying9 f0
      obtain ⟨c, e1, _, _⟩ := DataW.trod_int Tryf.underlying25 f1
      obtain rfl := (List.cons.inj e0).1
      obtain rfl := (List.cons.inj e1).1
      rw [Addr.add_mid] at hr0 hr1
      exact ⟨(s, c), .inr rfl, hr0, hr1⟩
    obtain ⟨l, hll, hp⟩ := list_choice _ len0 each
    refine ⟨l, b, o, ⟨_, cap0, by rw [hll], by omega, hm, ?_⟩, fun i t ht => (hp i t ht).2⟩
    rw [hll]
    by_cases h0 : len0 = 0
    · exact .inl h0
    · obtain ⟨t, hs, _⟩ := each 0 (by omega)
      rcases hs with h | rfl
      · exact .inl h
      · exact .inr rfl

set_option maxRecDepth 100000 in
theorem last_lifted (os : Os) (started : os.Started) (H : Type) (enc : TypeId × Value → H) :
    ReturnsInTold none {} Tryf.checked os 3 .any Input.okWide ((OpenSpec.ofChange Rows.fnFlagLastBooleanLayerDecidesSpec).preRow enc Tryf.prog Tryf.f3 [] false []) (fun F => ((OpenSpec.ofChange Rows.fnFlagLastBooleanLayerDecidesSpec).at F).post enc Tryf.prog Tryf.f3 false true false false) (aloneAtReturn Tryf.prog) nothingAlways := by
  refine returnsInTold_of_row (C := Tryf.checked) (s := OpenSpec.ofChange Rows.fnFlagLastBooleanLayerDecidesSpec) (by kernel_rfl) own started (by kernel_rfl) Tryf.func3
    (OpenSpec.witness_stopped (enc := enc) (C := Tryf.checked) false ⟨#[], #[.slice none 0 0, .string ByteArray.empty], []⟩ 8 (by kernel_rfl) (by kernel_rfl) (by kernel_rfl) (by kernel_rfl)) ?_
  intro F W base args ds gs before _ hF hval0 hW _ _ _ _ _
  have hval : ∀ (j : Nat) t v, Tryf.f3.params[j]? = some t → args[j]? = some v → Value.okWide Tryf.prog W .any base t v := hval0
  have hW' := hW
  obtain ⟨p, q, hA0, hV, rfl, hfz, hnd⟩ := hW
  have hA : DataW.TrodAll enc Tryf.prog W 0 (fun _ => true) true Tryf.f3.params.toList args.toList ds p := hA0
  rw [Tryf.params3] at hA hval
  obtain ⟨v0, v1, d0, d1, p0, p1, rfl, rfl, rfl, h0, h1⟩ := trodAll_two hA
  obtain ⟨rfl, rfl⟩ := trodVars_none hV
  obtain ⟨key, rfl⟩ := okWide_string Tryf.underlying9 (hval 1 9 v1 rfl rfl)
  clear hA0 hval0
  simp only [List.append_nil] at hW'
  obtain ⟨l, hl⟩ := lays_of_arg (hval 0 22 v0 rfl rfl) h0
  have hlt0 : ∀ x ∈ p0, x.block < W.heap.size := fun x hx => by simpa using hW'.lt x (List.mem_append.2 (.inl hx))
  have hlt1 : ∀ x ∈ p1, x.block < W.heap.size := fun x hx => by simpa using hW'.lt x (List.mem_append.2 (.inr hx))
  refine (last_calls F.told l v0 key W hF hl).mono fun e W' ⟨he, hb⟩ => ?_
  subst he
  refine ⟨_, rfl, _, _, _, [], p0 ++ p1, [], hW', ?_, ?_, rfl, hb.frame _, fun h => by cases h⟩
  · exact trodAll_mk1 (shut_bool Tryf.underlying4 _)
  · exact trodAll_mk2 (Below.trod laidOutP (by kernel_rfl) (of_decide_eq_true (by kernel_rfl)) h0 hb hlt0) (Below.trod laidOutP (by kernel_rfl) (of_decide_eq_true (by kernel_rfl)) h1 hb hlt1)

theorem last_holds : Rows.FnFlagLastBooleanLayerDecidesToldSaid :=
  Claim7.holds_of_told_any 3 Tryf.f3 _ _ [] _ _ _ (by kernel_rfl) rfl rfl rfl laidOut (by kernel_rfl) rfl ⟨rfl, rfl, rfl, rfl, rfl, rfl, rfl⟩ rfl rfl (by kernel_rfl) (by kernel_rfl) Tryf.func3 (by kernel_rfl)
    (of_decide_eq_true (by kernel_rfl)) (of_decide_eq_true (by kernel_rfl)) stops_eq rfl stopKnobs_eq.symm (by kernel_rfl)
    (by kernel_rfl) (by kernel_rfl) (by kernel_rfl) (by kernel_rfl) (by kernel_rfl) (by kernel_rfl) (by kernel_rfl) (by kernel_rfl) (by kernel_rfl) rfl (by kernel_rfl) rfl rfl
    rfl rfl
    rfl (by kernel_rfl) (by kernel_rfl) (by kernel_rfl) (by decide) (by kernel_rfl)
    (OpenClaim.moreEntering_of (by kernel_rfl) (by kernel_rfl) (by kernel_rfl) (by kernel_rfl) (by kernel_rfl) (by kernel_rfl) (by kernel_rfl) (by kernel_rfl) (by kernel_rfl) (by kernel_rfl))
    ⟨_, WideRow.started_initial, quiet_any _⟩
    (fun os started _ H enc _ => last_lifted os started H enc)
end Go.Proofs.Qxb6616028aFmt
