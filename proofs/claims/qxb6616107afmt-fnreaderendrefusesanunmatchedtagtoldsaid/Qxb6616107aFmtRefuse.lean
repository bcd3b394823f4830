/- refuse, rawName. -/
import Derived.Test.Qxb6616107aFmtBase
namespace Go.Proofs.Qxb6616107aFmt
open Go.RowKit Go.Extern.Stop Go.Stop Go.Extern
attribute [local go_sem] call17 guard fmt0 fmt1 act9_115 op9_115

theorem cell_later {w w' : World} (hb : Below w.heap.size w w') {a : Addr} {v : Value} (h : w.cell? a = some v) : w'.cell? a = some v := by
  rw [hb.cell (World.block_lt_of_cell? w _ h)]; exact h

set_option maxHeartbeats 1000000 in
theorem refuse1_calls (F : Interp) (t1 : ByteArray) (blk : Nat) (line : Int) (a : Addr) (t : ByteArray) (w : World) (hF : F.answers w.tape) (hc0 : w.cell? ⟨blk, 0, none⟩ = some (.iface 9 (.string t1))) (hs : w.cell? a = some (.string t)) :
    Calls Tryf.prog 14 #[.iface 67 (.pointer (some a)), .int .i64 line, .string ⟨#[116, 104, 101, 32, 101, 110, 100, 32, 116, 97, 103, 32, 60, 47, 37, 115, 62, 32, 99, 108, 111, 115, 101, 115, 32, 110, 111, 32, 101, 108, 101, 109, 101, 110, 116]⟩, .slice (some ⟨blk, 0, none⟩) 1 1] w fun e w' =>
      (∃ a, e = .returned (.iface 66 (.pointer a))) ∧ Below w.heap.size w w' := by
  have hF' := hF
  unfold Interp.answers at hF'
  go_enter Tryf.func14, Tryf.ntmps14
  go_wp2_with fail
  apply rows_value nextTurns
  case hr =>
    go_simp
    exact ⟨rfl, rfl⟩
  case h =>
    go_wp2_with fail
    generalize FmtStop.textOf _ = q
    have hb := ((Below.refl w.heap.size w).alloc (Nat.le_refl _) (.cells #[.iface 67 (.pointer (some a)), .iface 3 (.int .i64 line), .iface 9 (.string q)] 20)).drew
    refine (errorf_calls F q line w.heap.size a t ((w.alloc (.cells #[.iface 67 (.pointer (some a)), .iface 3 (.int .i64 line), .iface 9 (.string q)] 20)).drew) hF (by go_simp) (by go_simp) (by go_simp) (cell_later hb hs)).mono ?_
    rintro e w1 ⟨⟨b, rfl⟩, hb1⟩
    have HB := hide (hb.trans (hb1.mono (by simp)))
    clear hb hb1
    go_wp2_with fail
    go_ret
    exact ⟨⟨_, rfl⟩, HB.out⟩

set_option maxHeartbeats 1000000 in
theorem refuse2_calls (F : Interp) (t1 : ByteArray) (t2 : ByteArray) (blk : Nat) (line : Int) (a : Addr) (t : ByteArray) (w : World) (hF : F.answers w.tape) (hc0 : w.cell? ⟨blk, 0, none⟩ = some (.iface 9 (.string t1))) (hc1 : w.cell? ⟨blk, 1, none⟩ = some (.iface 9 (.string t2))) (hs : w.cell? a = some (.string t)) :
    Calls Tryf.prog 14 #[.iface 67 (.pointer (some a)), .int .i64 line, .string ⟨#[116, 104, 101, 32, 101, 110, 100, 32, 116, 97, 103, 32, 60, 47, 37, 115, 62, 32, 100, 111, 101, 115, 32, 110, 111, 116, 32, 99, 108, 111, 115, 101, 32, 60, 37, 115, 62]⟩, .slice (some ⟨blk, 0, none⟩) 2 2] w fun e w' =>
      (∃ a, e = .returned (.iface 66 (.pointer a))) ∧ Below w.heap.size w w' := by
  have hF' := hF
  unfold Interp.answers at hF'
  go_enter Tryf.func14, Tryf.ntmps14
  go_wp2_with fail
  apply rows_value nextTurns
  case hr =>
    go_simp
    exact ⟨rfl, rfl⟩
  case h =>
    go_wp2_with fail
    generalize FmtStop.textOf _ = q
    have hb := ((Below.refl w.heap.size w).alloc (Nat.le_refl _) (.cells #[.iface 67 (.pointer (some a)), .iface 3 (.int .i64 line), .iface 9 (.string q)] 20)).drew
    refine (errorf_calls F q line w.heap.size a t ((w.alloc (.cells #[.iface 67 (.pointer (some a)), .iface 3 (.int .i64 line), .iface 9 (.string q)] 20)).drew) hF (by go_simp) (by go_simp) (by go_simp) (cell_later hb hs)).mono ?_
    rintro e w1 ⟨⟨b, rfl⟩, hb1⟩
    have HB := hide (hb.trans (hb1.mono (by simp)))
    clear hb hb1
    go_wp2_with fail
    go_ret
    exact ⟨⟨_, rfl⟩, HB.out⟩

theorem raw_calls (s l : ByteArray) (hs : s.size ≤ 1048576) (hl : l.size ≤ 1048576) (w : World) : Calls Tryf.prog 15 #[.agg #[.string s, .string l]] w fun e w' => (∃ q, e = .returned (.string q)) ∧ Below w.heap.size w w' := by
  have h1 : ¬ 9223372036854775807 < s.size + 1 := by omega
  have h2 : ¬ 9223372036854775807 < s.size + 1 + l.size := by omega
  cases he : s.toList.isEmpty with
  | true =>
    go_enter Tryf.func15, Tryf.ntmps15
    go_wp2_with fail
    go_ret
    exact ⟨⟨_, rfl⟩, (Below.refl _ _).alloc (Nat.le_refl _) _⟩
  | false =>
    go_enter Tryf.func15, Tryf.ntmps15
    go_wp2_with fail
    go_ret
    exact ⟨⟨_, rfl⟩, (Below.refl _ _).alloc (Nat.le_refl _) _⟩
end Go.Proofs.Qxb6616107aFmt
