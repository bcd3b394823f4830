/- (*reader).end, walked. -/
import Derived.Test.Qxb6616107aFmtMem
import Derived.Laws.Runes
namespace Go.Proofs.Qxb6616107aFmt
open Go.RowKit Go.Extern.Stop Go.Stop Go.Extern

theorem alloc_cell {w : World} {a : Addr} {v : Value} (h : w.cell? a = some v) (o : Obj) : (w.alloc o).cell? a = some v := cell_later ((Below.refl _ _).alloc (Nat.le_refl _) o) h

/-- what the walk must know of fmt and of ErrNotWellFormed -/
structure Told (F : Interp) (ga : Addr) (gt : ByteArray) (w : World) : Prop where
  ans : F.answers w.tape
  glob : w.cell? ⟨0, 0, none⟩ = some (.iface 67 (.pointer (some ga)))
  text : w.cell? ga = some (.string gt)
theorem Told.below {F : Interp} {ga : Addr} {gt : ByteArray} {w w' : World} (h : Told F ga gt w) (hb : Below w.heap.size w w') : Told F ga gt w' :=
  ⟨hb.tape ▸ h.ans, cell_later hb h.glob, cell_later hb h.text⟩

set_option maxRecDepth 100000 in
set_option maxHeartbeats 2000000 in
theorem end_empty (F : Interp) (ga : Addr) (gt : ByteArray) (R : Nat) (a : Option Addr) (cap : Nat) (m : Int) (s l : ByteArray) (hs : s.size ≤ 1048576) (hl : l.size ≤ 1048576) (at_ next line : Int) (w : World) (hT : Told F ga gt w) (h : RdAt w R (.slice a 0 cap) m) :
    Calls Tryf.prog 13 #[.pointer (some ⟨R, 0, none⟩), .agg #[.string s, .string l], .int .i64 at_, .int .i64 next, .int .i64 line] w fun e w' => (∃ a, e = .returned (.iface 66 (.pointer a))) ∧ Below w.heap.size w w' := by
  have h1 : w.cell? ⟨R, 1, none⟩ = some (.slice a 0 cap) := by unfold RdAt at h; simp [World.cell?, h]
  have hR := lt_of_heap h
  have HT := hide hT
  clear h hT
  go_enter Tryf.func13, Tryf.ntmps13
  go_wp2_with fail
  have hbW := (Below.refl w.heap.size w).alloc (Nat.le_refl _) (.cells #[.string s, .string l] 59)
  have b0 : (w.alloc (.cells #[.string s, .string l] 59)).cell? ⟨w.heap.size, 0, none⟩ = some (.string s) := by simp
  have b1 : (w.alloc (.cells #[.string s, .string l] 59)).cell? ⟨w.heap.size, 1, none⟩ = some (.string l) := by simp
  generalize w.alloc (.cells #[.string s, .string l] 59) = w1 at *
  have HT1 := hide (HT.out.below hbW)
  have g0 := HT1.out.glob
  have HB1 := hide hbW
  clear hbW
  go_region_held3 (fun w' => w'.cell? ⟨0, 0, none⟩ = some (.iface 67 (.pointer (some ga))) ∧ w'.cell? ⟨w.heap.size, 0, none⟩ = some (.string s) ∧ w'.cell? ⟨w.heap.size, 1, none⟩ = some (.string l))
    (first | exact ⟨g0, b0, b1⟩ | exact ⟨cell_later hbA g0, cell_later hbA b0, cell_later hbA b1⟩ | exact ⟨alloc_cell (cell_later hbA g0) _, alloc_cell (cell_later hbA b0) _, alloc_cell (cell_later hbA b1) _⟩ | exact ⟨cell_later hbC (alloc_cell (cell_later hbA g0) _), cell_later hbC (alloc_cell (cell_later hbA b0) _), cell_later hbC (alloc_cell (cell_later hbA b1) _)⟩)
    (first | (go_at_call 15; have hcall := raw_calls s l hs hl w1.drew; refine hcall.mono ?_; clear hcall; rintro e wA ⟨⟨q, rfl⟩, hbA⟩) | (go_at_call 14; have hcall := refuse1_calls F q wA.heap.size line ga gt (wA.alloc (.cells #[.iface 9 (.string q)] 20)) (hbA.tape ▸ HT1.out.ans) (by simp) (alloc_cell (cell_later hbA HT1.out.text) _); refine hcall.mono ?_; clear hcall; rintro e wC ⟨⟨x, rfl⟩, hbC⟩))
  have hA' : Below w1.heap.size w1 wA := (Below.refl _ _).drew.trans hbA
  have hC' := (hA'.alloc hA'.size (.cells #[.iface 9 (.string q)] 20)).trans (hbC.mono (by have := hA'.size; simp; omega))
  have HC := hide (HB1.out.trans (hC'.mono HB1.out.size))
  clear hA' hC' hbA hbC
  go_wp2_with fail
  go_ret
  exact ⟨⟨_, rfl⟩, HC.out⟩

theorem index_open {g n cap : Nat} (k : Nat) (hk : k < n) (w : World) : (Instr.indexAt 39 (.slice (some ⟨g, 0, none⟩) n cap) (.int .i64 (k : Int))).run Tryf.prog w = .ok (.pointer (some ⟨g, k * 4, none⟩)) w := by
  have hi : (Tryf.prog.info? 56).map (fun i => i.size) = some 4 := by kernel_rfl
  cases hq : Tryf.prog.info? 56 with
  | none => simp [hq] at hi
  | some i =>
    simp [hq] at hi
    simp [Instr.indexAt, asIntOf, run_underlying Tryf.underlying39, sizeOf, typeInfo, hq, hi, hk, Addr.add_mid]

theorem str_inj {a b : ByteArray} (h : a.toList = b.toList) : a = b := by
  rw [ByteArray.toList_eq, ByteArray.toList_eq] at h
  exact ByteArray.ext (Array.toList_inj.1 h)
/-- the top of the stack -/
structure Top (w : World) (R g k cap e : Nat) (s l : ByteArray) (m : Int) : Prop where
  rd : RdAt w R (.slice (some ⟨g, 0, none⟩) (k + 1) cap) m
  c0 : w.cell? ⟨g, k * 4, none⟩ = some (.pointer (some ⟨e, 0, none⟩))
  c1 : w.cell? ⟨g, k * 4 + 1, none⟩ = some (.string s)
  c2 : w.cell? ⟨g, k * 4 + 2, none⟩ = some (.string l)
  c3 : w.cell? ⟨g, k * 4 + 3, none⟩ = some (.map none)

set_option maxRecDepth 100000 in
set_option maxHeartbeats 2000000 in
theorem end_mismatch (F : Interp) (ga : Addr) (gt : ByteArray) (R g k cap e : Nat) (s0 l0 : ByteArray) (m : Int) (s l : ByteArray) (hs : s.size ≤ 1048576) (hl : l.size ≤ 1048576) (hs0 : s0.size ≤ 1048576) (hl0 : l0.size ≤ 1048576) (hk : k ≤ 65536)
    (hne : ¬ (s0 = s ∧ l0 = l)) (at_ next line : Int) (w : World) (hT : Told F ga gt w) (h : Top w R g k cap e s0 l0 m) :
    Calls Tryf.prog 13 #[.pointer (some ⟨R, 0, none⟩), .agg #[.string s, .string l], .int .i64 at_, .int .i64 next, .int .i64 line] w fun e w' => (∃ a, e = .returned (.iface 66 (.pointer a))) ∧ Below w.heap.size w w' := by
  have h1 : w.cell? ⟨R, 1, none⟩ = some (.slice (some ⟨g, 0, none⟩) (k + 1) cap) := by have := h.rd; unfold RdAt at this; simp [World.cell?, this]
  have hR := lt_of_heap h.rd
  have h4 := h.c1
  have h5 := h.c2
  have hg := World.block_lt_of_cell? w _ h.c1
  have HT := hide hT
  clear h hT
  have hix := index_open (g := g) (cap := cap) k (Nat.lt_succ_self k)
  have hw : IntKind.i64.wrap (k : Int) = k := wrap_small _ (by omega) (by omega)
  go_enter Tryf.func13, Tryf.ntmps13
  go_wp2_with fail
  have hbW := (Below.refl w.heap.size w).alloc (Nat.le_refl _) (.cells #[.string s, .string l] 59)
  have b0 : (w.alloc (.cells #[.string s, .string l] 59)).cell? ⟨w.heap.size, 0, none⟩ = some (.string s) := by simp
  have b1 : (w.alloc (.cells #[.string s, .string l] 59)).cell? ⟨w.heap.size, 1, none⟩ = some (.string l) := by simp
  generalize w.alloc (.cells #[.string s, .string l] 59) = w1 at *
  have HT1 := hide (HT.out.below hbW)
  have g0 := HT1.out.glob
  have q1 := cell_later hbW h1
  have q4 := cell_later hbW h4
  have q5 := cell_later hbW h5
  have HB1 := hide hbW
  clear hbW h1 h4 h5
  go_region_held3 (fun w' => w'.cell? ⟨R, 1, none⟩ = some (.slice (some ⟨g, 0, none⟩) (k + 1) cap) ∧ w'.cell? ⟨g, k * 4 + 1, none⟩ = some (.string s0) ∧ w'.cell? ⟨g, k * 4 + 2, none⟩ = some (.string l0))
    (first | exact ⟨q1, q4, q5⟩ | exact ⟨alloc_cell q1 _, alloc_cell q4 _, alloc_cell q5 _⟩)
    (fail)
  have hbx := ((Below.refl w1.heap.size w1).alloc (Nat.le_refl _) (.cells #[.string s0, .string l0] 43)).drew
  have r0 : (w1.alloc (.cells #[.string s0, .string l0] 43)).drew.cell? ⟨w1.heap.size, 0, none⟩ = some (.string s0) := by go_simp
  have r1 : (w1.alloc (.cells #[.string s0, .string l0] 43)).drew.cell? ⟨w1.heap.size, 1, none⟩ = some (.string l0) := by go_simp
  generalize (w1.alloc (.cells #[.string s0, .string l0] 43)).drew = w2 at *
  have d0 := cell_later hbx b0
  have d1 := cell_later hbx b1
  have HT2 := hide (HT1.out.below hbx)
  have HB2 := hide (HB1.out.trans (hbx.mono HB1.out.size))
  clear hbx b0 b1 q1 q4 q5 g0 HT1 HB1
  have g0 := HT2.out.glob
  generalize w1.heap.size = B1 at *
  have hcs : ¬ s0.toList = s.toList ∨ (s0.toList = s.toList ∧ ¬ l0.toList = l.toList) := by
    by_cases h1 : s0.toList = s.toList
    · exact .inr ⟨h1, fun h2 => hne ⟨str_inj h1, str_inj h2⟩⟩
    · exact .inl h1
  clear hne
  rcases hcs with hc1 | ⟨hc1, hc2⟩
  all_goals
    go_wp2_with fail
    go_region_held3 (fun w' => w'.cell? ⟨0, 0, none⟩ = some (.iface 67 (.pointer (some ga))) ∧ w'.cell? ⟨w.heap.size, 0, none⟩ = some (.string s) ∧ w'.cell? ⟨w.heap.size, 1, none⟩ = some (.string l) ∧ w'.cell? ⟨B1, 0, none⟩ = some (.string s0) ∧ w'.cell? ⟨B1, 1, none⟩ = some (.string l0))
      (first | exact ⟨g0, d0, d1, r0, r1⟩ | exact ⟨cell_later hbA g0, cell_later hbA d0, cell_later hbA d1, cell_later hbA r0, cell_later hbA r1⟩ | exact ⟨cell_later hbB (cell_later hbA g0), cell_later hbB (cell_later hbA d0), cell_later hbB (cell_later hbA d1), cell_later hbB (cell_later hbA r0), cell_later hbB (cell_later hbA r1)⟩ | exact ⟨alloc_cell (cell_later hbB (cell_later hbA g0)) _, alloc_cell (cell_later hbB (cell_later hbA d0)) _, alloc_cell (cell_later hbB (cell_later hbA d1)) _, alloc_cell (cell_later hbB (cell_later hbA r0)) _, alloc_cell (cell_later hbB (cell_later hbA r1)) _⟩ | exact ⟨cell_later hbC (alloc_cell (cell_later hbB (cell_later hbA g0)) _), cell_later hbC (alloc_cell (cell_later hbB (cell_later hbA d0)) _), cell_later hbC (alloc_cell (cell_later hbB (cell_later hbA d1)) _), cell_later hbC (alloc_cell (cell_later hbB (cell_later hbA r0)) _), cell_later hbC (alloc_cell (cell_later hbB (cell_later hbA r1)) _)⟩)
      (first | (go_at_call_of 15 (Value.string l); have hcall := raw_calls s l hs hl w2.drew; refine hcall.mono ?_; clear hcall; rintro e wA ⟨⟨q, rfl⟩, hbA⟩) | (go_at_call_of 15 (Value.string l0); have hcall := raw_calls s0 l0 hs0 hl0 wA; refine hcall.mono ?_; clear hcall; rintro e wB ⟨⟨q', rfl⟩, hbB⟩) | (go_at_call 14; have hcall := refuse2_calls F q q' wB.heap.size line ga gt (wB.alloc (.cells #[.iface 9 (.string q), .iface 9 (.string q')] 20)) (by rw [show (wB.alloc (.cells #[.iface 9 (.string q), .iface 9 (.string q')] 20)).tape = wB.tape from rfl, hbB.tape, hbA.tape]; exact HT2.out.ans) (by simp) (by simp) (alloc_cell (cell_later hbB (cell_later hbA HT2.out.text)) _); refine hcall.mono ?_; clear hcall; rintro e wC ⟨⟨x, rfl⟩, hbC⟩))
    have hA' : Below w2.heap.size w2 wA := (Below.refl _ _).drew.trans hbA
    have hB' := hA'.trans (hbB.mono hA'.size)
    have hC' := (hB'.alloc hB'.size (.cells #[.iface 9 (.string q), .iface 9 (.string q')] 20)).trans (hbC.mono (by have := hB'.size; simp; omega))
    have HC := hide (HB2.out.trans (hC'.mono HB2.out.size))
    clear hA' hB' hC' hbA hbB hbC
    go_wp2_with fail
    go_ret
    exact ⟨⟨_, rfl⟩, HC.out⟩
end Go.Proofs.Qxb6616107aFmt
