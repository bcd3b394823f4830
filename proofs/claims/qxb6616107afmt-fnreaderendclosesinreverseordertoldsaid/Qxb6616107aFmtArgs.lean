/- THE CLOSED FACTS OF THE ROWS; arguments that read as data; a start that fits. -/
import Derived.Test.Qxb6616107aFmtBytes
import Derived.Test.Qxb6616107aFmtTie
import Derived.ProofKit
import Derived.OpenShut
import Derived.SliceStrings
import Derived.ChangeSlices
import Derived.ChangeVars
import Derived.RowKitTokens
import Derived.Stop.JoinedAt
import Derived.Stop.JoinedTold
import Derived.Stop.LaidErr
import Derived.SevenTiedAt
namespace Go.Proofs.Qxb6616107aFmt
open Go.ChangeShapes Go.WideShapes Go.ChangeAt Go.RowKit Go.Kit
open Go.Extern.Stop Go.Stop Go.Extern

theorem own : ownKnob Tryf.prog.godebug = none := by kernel_rfl
theorem laidOut : laidOutB Tryf.pinned.checked.prog = true := by kernel_rfl
theorem laidOutP : laidOutB Tryf.prog = true := by kernel_rfl
theorem stops_eq : Rows.fnReaderEndRefusesAnUnmatchedTagRow.stops = Tryf.pinned.checked.prog.stops := by kernel_rfl
theorem stopKnobs_eq : Tryf.pinned.checked.prog.stopKnobs = [] := by kernel_rfl
theorem quiet_any (os : Os) : Stop.quiet Tryf.pinned.checked.prog os := by
  intro k hk
  rw [stopKnobs_eq] at hk
  cases hk
theorem cells9 : Tryf.prog.cellsOf 9 = 1 := by kernel_rfl
theorem cells3 : Tryf.prog.cellsOf 3 = 1 := by kernel_rfl
theorem cells69 : Tryf.prog.cellsOf 69 = 1 := by kernel_rfl
theorem row67 (u : TypeId) (h : Tryf.prog.typeName? 3 u = some star67) : u = 67 :=
  typeName_ptr_named (nm := "errors.errorString") (by kernel_rfl) (by kernel_rfl) (by decide) u h

/-- []string -/
theorem strs_of_arg {H : Type} {enc : TypeId × Value → H} {W : World} {v : Value} {d : DataW H} {ps : List MemPlace} {base : Nat} (hv : Value.okWide Tryf.prog W .any base 22 v)
    (h : DataW.Trod enc Tryf.prog W 0 (fun _ => true) true 22 v d ps) : ∃ l, StrsAt W v l := by
  obtain ⟨a0, len0, cap0, rfl⟩ := okWide_slice Tryf.underlying22 hv
  obtain ⟨fuel, hf⟩ := h
  have hcells : (Value.slice a0 len0 cap0).cells.toList = [.slice a0 len0 cap0] := rfl
  rw [hcells] at hf
  rcases open_strings Tryf.underlying22 Tryf.underlying9 cells9 hf with ⟨hcs, _⟩ | ⟨a, len, cap, ss, hcs, _, hl, hm, hz, _, hcell, _⟩
  · cases hcs
    exact ⟨[], 0, 0, ⟨_, _, rfl, by simp, by unfold maxLen; omega, .inl rfl⟩, fun i s h => by simp at h⟩
  · cases hcs
    rw [if_pos rfl] at hz
    obtain ⟨b, o, spot⟩ := a
    have hspot : len0 = 0 ∨ spot = none := by
      by_cases h0 : len0 = 0
      · exact .inl h0
      · right
        have g0 := hcell 0 (by omega)
        simpa [Addr.add] using World.cell?_spot g0
    have hlen : (ss.take len0).length = len0 := by simp; omega
    refine ⟨ss.take len0, b, o, ⟨_, cap0, by rw [hlen], by omega, hm, ?_⟩, fun i s hs => ?_⟩
    · rw [hlen]
      rcases hspot with h | rfl
      · exact .inl h
      · exact .inr rfl
    · have hi : i < len0 := by rw [← hlen]; exact (List.getElem?_eq_some_iff.1 hs).1
      rcases hspot with h | rfl
      · omega
      have g := hcell i (by omega)
      rw [Addr.add_mid] at g
      rw [List.getElem?_take_of_lt hi] at hs
      rw [g, List.getD_eq_getElem?_getD, hs]
      rfl
/-- []int -/
theorem ints_of_arg {H : Type} {enc : TypeId × Value → H} {W : World} {v : Value} {d : DataW H} {ps : List MemPlace} {base : Nat} (hv : Value.okWide Tryf.prog W .any base 23 v)
    (h : DataW.Trod enc Tryf.prog W 0 (fun _ => true) true 23 v d ps) : ∃ l, IntsAt W v l := by
  obtain ⟨a0, len0, cap0, rfl⟩ := okWide_slice Tryf.underlying23 hv
  obtain ⟨fuel, hf⟩ := h
  have hcells : (Value.slice a0 len0 cap0).cells.toList = [.slice a0 len0 cap0] := rfl
  rw [hcells] at hf
  rcases open_ints Tryf.underlying23 Tryf.underlying3 cells3 hf with ⟨hcs, _⟩ | ⟨a, len, cap, ss, hcs, _, hl, hm, hz, _, hcell, _⟩
  · cases hcs
    exact ⟨[], 0, 0, ⟨_, _, rfl, by simp, by unfold maxLen; omega, .inl rfl⟩, fun i s h => by simp at h⟩
  · cases hcs
    rw [if_pos rfl] at hz
    obtain ⟨b, o, spot⟩ := a
    have hspot : len0 = 0 ∨ spot = none := by
      by_cases h0 : len0 = 0
      · exact .inl h0
      · right
        have g0 := hcell 0 (by omega)
        simpa [Addr.add] using World.cell?_spot g0
    have hlen : (ss.take len0).length = len0 := by simp; omega
    refine ⟨ss.take len0, b, o, ⟨_, cap0, by rw [hlen], by omega, hm, ?_⟩, fun i s hs => ?_⟩
    · rw [hlen]
      rcases hspot with h | rfl
      · exact .inl h
      · exact .inr rfl
    · have hi : i < len0 := by rw [← hlen]; exact (List.getElem?_eq_some_iff.1 hs).1
      rcases hspot with h | rfl
      · omega
      have g := hcell i (by omega)
      rw [Addr.add_mid] at g
      rw [List.getElem?_take_of_lt hi] at hs
      rw [g, List.getD_eq_getElem?_getD, hs]
      rfl

theorem trodAll_more {H : Type} {enc : TypeId × Value → H} {P : Program} {w : World} {base : Nat} {spare : Nat → Bool} {held : Bool} {t : TypeId} {ts : List TypeId} {v : Value} {vs : List Value} {d : DataW H} {ds : List (DataW H)} {p q : List MemPlace}
    (h : DataW.Trod enc P w base spare held t v d p) (hs : DataW.TrodAll enc P w base spare held ts vs ds q) : DataW.TrodAll enc P w base spare held (t :: ts) (v :: vs) (d :: ds) (p ++ q) := ⟨p, q, h, hs, rfl⟩

/-- a package-level variable reads as it did -/
theorem var_later {W W' : World} {n : String} {g : Nat} {cs : Array Value} (hg : Tryf.prog.globalNamed n = some g) (hb : Below W.heap.size W W') (h : W.var? Tryf.prog n = some cs) : W'.var? Tryf.prog n = some cs := by
  simp only [World.var?, hg, Option.bind_some] at h ⊢
  have hlt : g < W.heap.size := by
    rcases Nat.lt_or_ge g W.heap.size with hl | hl
    · exact hl
    · rw [Array.getElem?_eq_none hl] at h; cases h
  rw [hb.block g hlt]
  exact h

/- the settled world with one block more, the error that ErrNotWellFormed points at -/
set_option maxRecDepth 100000 in
theorem laid_met (os : Os) (args : Array Value) : laidMet Tryf.prog Rows.fnReaderEndRefusesAnUnmatchedTagRow.laid ((({ (World.holding Tryf.prog os ⟨#[.cells #[.string ⟨#[110, 111, 116, 32, 119, 101, 108, 108, 45, 102, 111, 114, 109, 101, 100, 32, 88, 77, 76]⟩] 69], #[], []⟩) with heap := (World.holding Tryf.prog os ⟨#[.cells #[.string ⟨#[110, 111, 116, 32, 119, 101, 108, 108, 45, 102, 111, 114, 109, 101, 100, 32, 88, 77, 76]⟩] 69], #[], []⟩).heap.modify 0 fun o => match o with | .cells _ t frozen => .cells #[.iface 67 (.pointer (some ⟨(World.holding Tryf.prog default ⟨#[], #[], []⟩).heap.size, 0, none⟩))] t frozen | o => o } : World)).forCall (fun _ _ => 0) ⟨#[], args, []⟩).memory :=
  laidMet_of_run (ps := [.cell 0 0, .cell (World.holding Tryf.prog default ⟨#[], #[], []⟩).heap.size 0]) 8 (by kernel_rfl) (by kernel_rfl) (by kernel_rfl)
end Go.Proofs.Qxb6616107aFmt
