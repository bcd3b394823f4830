/- (*reader).end where the tag matches: the top is popped, its ends are set. -/
import Derived.Test.Qxb6616107aFmtEnd
namespace Go.Proofs.Qxb6616107aFmt
open Go.RowKit Go.Extern.Stop Go.Stop Go.Extern

theorem set_cell {w : World} {e j : Nat} {v u : Value} {a : Addr} (h : w.cell? a = some u) (hne : a.block ≠ e) : (w.setCell ⟨e, j, none⟩ v).cell? a = some u :=
  (World.cell?_of_block (heap_setCell_other hne v)).trans h

set_option maxRecDepth 100000 in
set_option maxHeartbeats 2000000 in
theorem end_match (B R g k cap e : Nat) (m : Int) (s l : ByteArray) (hk : k ≤ 65536) (hkc : k + 1 ≤ cap) (at_ next line : Int) (w : World) (h : Top w R g k cap e s l m) (hBR : B ≤ R) (hBe : B ≤ e) (heR : e ≠ R) {i t o : Int} (hE : ElAt w e i t o) :
    Calls Tryf.prog 13 #[.pointer (some ⟨R, 0, none⟩), .agg #[.string s, .string l], .int .i64 at_, .int .i64 next, .int .i64 line] w fun x w' => x = .returned .nilIface ∧ RdAt w' R (.slice (some ⟨g, 0, none⟩) k cap) m ∧ ElAt w' e at_ m next ∧ Below B w w' ∧ (∀ b, b < w.heap.size → b ≠ R → b ≠ e → w'.heap[b]? = w.heap[b]?) := by
  have h1 : w.cell? ⟨R, 1, none⟩ = some (.slice (some ⟨g, 0, none⟩) (k + 1) cap) := by have := h.rd; unfold RdAt at this; simp [World.cell?, this]
  have hR := lt_of_heap h.rd
  have h3 := h.c0
  have h4 := h.c1
  have h5 := h.c2
  have h6 := h.c3
  have H := hide h
  have HE := hide hE
  clear h hE
  have hix := index_open (g := g) (cap := cap) k (Nat.lt_succ_self k)
  have hw : IntKind.i64.wrap (k : Int) = k := wrap_small _ (by omega) (by omega)
  go_enter Tryf.func13, Tryf.ntmps13
  go_wp2_with fail
  have hbW := (Below.refl w.heap.size w).alloc (Nat.le_refl _) (.cells #[.string s, .string l] 59)
  have b0 : (w.alloc (.cells #[.string s, .string l] 59)).cell? ⟨w.heap.size, 0, none⟩ = some (.string s) := by simp
  have b1 : (w.alloc (.cells #[.string s, .string l] 59)).cell? ⟨w.heap.size, 1, none⟩ = some (.string l) := by simp
  generalize w.alloc (.cells #[.string s, .string l] 59) = w1 at *
  have q1 := cell_later hbW h1
  have q3 := cell_later hbW h3
  have q4 := cell_later hbW h4
  have q5 := cell_later hbW h5
  have q6 := cell_later hbW h6
  have HB1 := hide hbW
  clear hbW h1 h3 h4 h5 h6
  go_region_held3 (fun w' => w'.cell? ⟨R, 1, none⟩ = some (.slice (some ⟨g, 0, none⟩) (k + 1) cap) ∧ w'.cell? ⟨g, k * 4 + 1, none⟩ = some (.string s) ∧ w'.cell? ⟨g, k * 4 + 2, none⟩ = some (.string l))
    (first | exact ⟨q1, q4, q5⟩ | exact ⟨alloc_cell q1 _, alloc_cell q4 _, alloc_cell q5 _⟩)
    (fail)
  have hbx := ((Below.refl w1.heap.size w1).alloc (Nat.le_refl _) (.cells #[.string s, .string l] 43)).drew
  have r0 : (w1.alloc (.cells #[.string s, .string l] 43)).drew.cell? ⟨w1.heap.size, 0, none⟩ = some (.string s) := by go_simp
  have r1 : (w1.alloc (.cells #[.string s, .string l] 43)).drew.cell? ⟨w1.heap.size, 1, none⟩ = some (.string l) := by go_simp
  generalize (w1.alloc (.cells #[.string s, .string l] 43)).drew = w2 at *
  have d0 := cell_later hbx b0
  have d1 := cell_later hbx b1
  have u1 := cell_later hbx q1
  have u3 := cell_later hbx q3
  have u4 := cell_later hbx q4
  have u5 := cell_later hbx q5
  have u6 := cell_later hbx q6
  have HB2 := hide (HB1.out.trans (hbx.mono HB1.out.size))
  clear hbx b0 b1 q1 q3 q4 q5 q6 HB1
  generalize w1.heap.size = B1 at *
  go_wp2_with fail
  clear d0 d1 r0 r1
  go_region_held3 (fun w' => w'.cell? ⟨R, 1, none⟩ = some (.slice (some ⟨g, 0, none⟩) (k + 1) cap) ∧ w'.cell? ⟨g, k * 4, none⟩ = some (.pointer (some ⟨e, 0, none⟩)) ∧ w'.cell? ⟨g, k * 4 + 1, none⟩ = some (.string s) ∧ w'.cell? ⟨g, k * 4 + 2, none⟩ = some (.string l) ∧ w'.cell? ⟨g, k * 4 + 3, none⟩ = some (.map none))
    (first | exact ⟨u1, u3, u4, u5, u6⟩ | exact ⟨alloc_cell u1 _, alloc_cell u3 _, alloc_cell u4 _, alloc_cell u5 _, alloc_cell u6 _⟩)
    (fail)
  have hbx := ((Below.refl w2.heap.size w2).alloc (Nat.le_refl _) (.cells #[.pointer (some ⟨e, 0, none⟩), .string s, .string l, .map none] 56)).drew
  have r0 : (w2.alloc (.cells #[.pointer (some ⟨e, 0, none⟩), .string s, .string l, .map none] 56)).drew.cell? ⟨w2.heap.size, 0, none⟩ = some (.pointer (some ⟨e, 0, none⟩)) := by go_simp
  generalize (w2.alloc (.cells #[.pointer (some ⟨e, 0, none⟩), .string s, .string l, .map none] 56)).drew = w3 at *
  have y1 := cell_later hbx u1
  have hsz2 : w.heap.size ≤ w2.heap.size := HB2.out.size
  have HB3 := hide (HB2.out.trans (hbx.mono HB2.out.size))
  have hB2 : w2.heap.size ≠ e := by have := HE.out.lt; omega
  clear hbx u1 u3 u4 u5 u6 HB2
  generalize w2.heap.size = B2 at *
  obtain ⟨C, hC1, hC2, hC3, hC4, hC5⟩ := HE.out
  have hE3 : w3.heap[e]? = some (.cells C 53) := (HB3.out.block e (lt_of_heap hC1)).trans hC1
  have hR3 : RdAt w3 R (.slice (some ⟨g, 0, none⟩) (k + 1) cap) m := (HB3.out.block R hR).trans H.out.rd
  have y3 : w3.cell? ⟨R, 3, none⟩ = some (.int .i64 m) := by unfold RdAt at hR3; simp [World.cell?, hR3]
  have z11 : w3.cell? ⟨e, 11, none⟩ = some (.int .i64 i) := by simp [World.cell?, hE3, hC3]
  have z13 : w3.cell? ⟨e, 13, none⟩ = some (.int .i64 t) := by simp [World.cell?, hE3, hC4]
  have z9 : w3.cell? ⟨e, 9, none⟩ = some (.int .i64 o) := by simp [World.cell?, hE3, hC5]
  have f11 : w3.frozen? ⟨e, 11, none⟩ = false := by simp [World.frozen?, hE3]
  have f13 : w3.frozen? ⟨e, 13, none⟩ = false := by simp [World.frozen?, hE3]
  have f9 : w3.frozen? ⟨e, 9, none⟩ = false := by simp [World.frozen?, hE3]
  have HC := hide (And.intro hE3 (And.intro hC2 hR3))
  clear hE3 hR3 hC1 hC2 hC3 hC4 hC5
  have hRe : R ≠ e := fun x => heR x.symm
  go_wp2_with fail
  go_region_held3 (fun w' => w'.cell? ⟨B2, 0, none⟩ = some (.pointer (some ⟨e, 0, none⟩)) ∧ w'.cell? ⟨R, 3, none⟩ = some (.int .i64 m))
    (first | exact ⟨r0, y3⟩ | exact ⟨set_cell r0 hB2, set_cell y3 hRe⟩ | exact ⟨set_cell (set_cell r0 hB2) hB2, set_cell (set_cell y3 hRe) hRe⟩ | exact ⟨set_cell (set_cell (set_cell r0 hB2) hB2) hB2, set_cell (set_cell (set_cell y3 hRe) hRe) hRe⟩)
    (fail)
  have hother : ∀ b, b ≠ e → (((w3.setCell ⟨e, 11, none⟩ (.int .i64 at_)).setCell ⟨e, 13, none⟩ (.int .i64 m)).setCell ⟨e, 9, none⟩ (.int .i64 next)).drew.heap[b]? = w3.heap[b]? := by
    intro b hb
    show (((w3.setCell ⟨e, 11, none⟩ (.int .i64 at_)).setCell ⟨e, 13, none⟩ (.int .i64 m)).setCell ⟨e, 9, none⟩ (.int .i64 next)).heap[b]? = _
    rw [heap_setCell_other hb, heap_setCell_other hb, heap_setCell_other hb]
  have hel : ElAt (((w3.setCell ⟨e, 11, none⟩ (.int .i64 at_)).setCell ⟨e, 13, none⟩ (.int .i64 m)).setCell ⟨e, 9, none⟩ (.int .i64 next)).drew e at_ m next := by
    have hs := HC.out.2.1
    refine ⟨_, heap_setCell_same (heap_setCell_same (heap_setCell_same HC.out.1 11 _) 13 _) 9 _, by simp [hs], ?_, ?_, ?_⟩
    · simp [hs]
    · simp [hs]
    · simp [hs]
  have hb4 : Below B w3 (((w3.setCell ⟨e, 11, none⟩ (.int .i64 at_)).setCell ⟨e, 13, none⟩ (.int .i64 m)).setCell ⟨e, 9, none⟩ (.int .i64 next)).drew := ((((Below.refl B w3).setCell (p := ⟨e, 11, none⟩) hBe _).setCell (p := ⟨e, 13, none⟩) hBe _).setCell (p := ⟨e, 9, none⟩) hBe _).drew
  generalize (((w3.setCell ⟨e, 11, none⟩ (.int .i64 at_)).setCell ⟨e, 13, none⟩ (.int .i64 m)).setCell ⟨e, 9, none⟩ (.int .i64 next)).drew = w4 at *
  have hR4 : RdAt w4 R (.slice (some ⟨g, 0, none⟩) (k + 1) cap) m := (hother R hRe).trans HC.out.2.2
  have t1 : w4.cell? ⟨R, 1, none⟩ = some (.slice (some ⟨g, 0, none⟩) (k + 1) cap) := by unfold RdAt at hR4; simp [World.cell?, hR4]
  have ft : w4.frozen? ⟨R, 1, none⟩ = false := by unfold RdAt at hR4; simp [World.frozen?, hR4]
  have HF := hide (And.intro hR4 (And.intro hel (And.intro hb4 hother)))
  clear hR4 hel hb4 hother z11 z13 z9 f11 f13 f9 y1 y3 r0
  have hb1 : (0 : Int) ≤ (k : Int) := by omega
  have hb2 : (k : Int) ≤ (cap : Int) := by omega
  have hb3 : (k : Int) ≤ ((k + 1 : Nat) : Int) := by omega
  have hb4' : k ≤ cap := by omega
  go_wp2_with fail
  go_region
  go_wp2_with fail
  go_ret
  refine ⟨rfl, ?_, HF.out.2.1.kept (heap_setCell_other (a := ⟨R, 1, none⟩) heR _), ((HB3.out.mono (Nat.le_trans hBR (Nat.le_of_lt hR))).trans HF.out.2.2.1).trans ((Below.refl B w4).setCell (p := ⟨R, 1, none⟩) hBR _).drew, fun b hb h1 h2 => ?_⟩
  · exact (heap_setCell_same HF.out.1 1 _).trans rfl
  · exact (heap_setCell_other (a := ⟨R, 1, none⟩) h1 _).trans ((HF.out.2.2.2 b h2).trans (HB3.out.block b hb))
end Go.Proofs.Qxb6616107aFmt
