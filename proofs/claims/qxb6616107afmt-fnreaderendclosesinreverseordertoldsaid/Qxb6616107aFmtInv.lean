/- WHAT THE LOOPS OF FnReaderEndClosesInReverseOrder KEEP. -/
import Derived.Test.Qxb6616107aFmtPush2
namespace Go.Proofs.Qxb6616107aFmt
open Go.RowKit Go.Extern.Stop Go.Stop Go.Extern

def ElemsAt (w : World) (E n : Nat) (L : List Ent) : Prop := ∃ C : Array Value, w.heap[E]? = some (.cells C 28) ∧ C.size = n ∧ ∀ (j : Nat) x, L[j]? = some x → C[j]? = some (.pointer (some ⟨x.1, 0, none⟩))

theorem St.other {B E : Nat} {w w' : World} {R : Nat} {L : List Ent} {m : Int} {v : Value} (h : St B w R L m v) (hf : ∀ b, b ≠ E → w'.heap[b]? = w.heap[b]?) (h1 : R ≠ E) (h2 : v.ownBlock ≠ some E) (h3 : ∀ x ∈ L, x.1 ≠ E) : St B w' R L m v :=
  ⟨(hf R h1).trans h.rd, h.hR, own_stays h.own (fun g hg => hf g (fun e => h2 (by rw [hg, e]))), h.sep, fun x hx => by
    obtain ⟨a1, a2, a3, a4⟩ := h.els x hx
    exact ⟨a1, a2, a3, a4.kept (hf _ (h3 x hx))⟩, h.nd⟩

/-- while the elements are opened -/
structure Bld (B : Nat) (w0 : World) (R E p : Nat) (K K' : List ByteArray) (k : Nat) (w : World) (L : List Ent) (v : Value) : Prop where
  len : L.length = k
  st : St B w R L 0 v
  nm : Named K K' L
  own : v.ownBlock ≠ some E
  elems : ElemsAt w E p L
  ne : ∀ x ∈ L, x.1 ≠ E
  below : Below B w0 w

theorem Bld.start {w0 : World} (p : Nat) (K K' : List ByteArray) : Bld w0.heap.size w0 w0.heap.size (w0.heap.size + 1) p K K' 0 ((w0.alloc (.cells #[.pointer none, .slice none 0 0, .pointer none, .int .i64 0] 41)).alloc (.cells (madeCells #[.pointer none] p) 28)) [] (.slice none 0 0) := by
  have hb : Below (w0.alloc (.cells #[.pointer none, .slice none 0 0, .pointer none, .int .i64 0] 41)).heap.size (w0.alloc (.cells #[.pointer none, .slice none 0 0, .pointer none, .int .i64 0] 41)) ((w0.alloc (.cells #[.pointer none, .slice none 0 0, .pointer none, .int .i64 0] 41)).alloc (.cells (madeCells #[.pointer none] p) 28)) := (Below.refl _ _).alloc (Nat.le_refl _) _
  refine ⟨rfl, (St.start 0 rfl).below hb, fun j x hx => by simp at hx, by simp [Value.ownBlock], ⟨_, heap_new_at _ _ (by simp), size_madeCells _ _, fun j x hx => by simp at hx⟩, fun x hx => by simp at hx, ?_⟩
  exact ((Below.refl _ _).alloc (Nat.le_refl _) _).alloc (by simp) _

theorem Bld.lt {B : Nat} {w0 : World} {R E p : Nat} {K K' : List ByteArray} {k : Nat} {w : World} {L : List Ent} {v : Value} (h : Bld B w0 R E p K K' k w L v) : E < w.heap.size := by
  obtain ⟨C, h1, _⟩ := h.elems
  exact lt_of_heap h1

/-- an element has been opened -/
theorem Bld.push {B : Nat} {w0 : World} {R E p : Nat} {K K' : List ByteArray} {k : Nat} {w wd w' : World} {L : List Ent} {v v' : Value} {s l : ByteArray} (h : Bld B w0 R E p K K' k w L v) (hRE : R ≠ E) (hBE : B ≤ E) (hd : Below w.heap.size w wd) (hwd : wd.heap.size = w.heap.size) (hs : K[k]? = some s) (hl : K'[k]? = some l)
    (hst : St B w' R (L ++ [(wd.heap.size, s, l)]) 0 v') (hown : ∀ b, b < wd.heap.size → v.ownBlock ≠ some b → v'.ownBlock ≠ some b) (hb : Below B wd w') (hf : ∀ b, b < wd.heap.size → b ≠ R → v.ownBlock ≠ some b → w'.heap[b]? = wd.heap[b]?) :
    (∃ C : Array Value, w'.heap[E]? = some (.cells C 28) ∧ C.size = p) ∧
    (k < p → Bld B w0 R E p K K' (k + 1) (w'.setCell ⟨E, k, none⟩ (.pointer (some ⟨wd.heap.size, 0, none⟩))) (L ++ [(wd.heap.size, s, l)]) v') := by
  have hE := h.lt
  obtain ⟨C, h1, h2, h3⟩ := h.elems
  have hE' : w'.heap[E]? = some (.cells C 28) := (hf E (by omega) (fun e => hRE e.symm) h.own).trans ((hd.block E hE).trans h1)
  have hne : ∀ x ∈ L ++ [(wd.heap.size, s, l)], x.1 ≠ E := by
    intro x hx
    rcases List.mem_append.1 hx with hx | hx
    · exact h.ne x hx
    · obtain rfl := List.mem_singleton.1 hx
      show wd.heap.size ≠ E
      omega
  have ho : v'.ownBlock ≠ some E := hown E (by omega) h.own
  refine ⟨⟨C, hE', h2⟩, fun hk => ⟨by rw [List.length_append, h.len]; rfl, hst.other (E := E) (fun b hbE => heap_setCell_other (a := ⟨E, k, none⟩) hbE _) hRE ho hne, h.nm.step h.len hs hl _, ho, ⟨_, heap_setCell_same hE' k _, by simp [h2], fun j x hx => ?_⟩, hne, ?_⟩⟩
  · rw [Array.getElem?_setIfInBounds]
    rcases Nat.lt_or_ge j L.length with hj | hj
    · rw [List.getElem?_append_left hj] at hx
      rw [if_neg (by have := h.len; omega)]
      exact h3 j x hx
    · have hj2 := (List.getElem?_eq_some_iff.1 hx).1
      simp at hj2
      obtain rfl : j = L.length := by omega
      simp at hx
      subst hx
      rw [if_pos h.len.symm, if_pos (by rw [h2]; have := h.len; omega)]
  · have hbw : Below B w wd := hd.mono (by
      have := lt_of_heap h.st.rd
      have := h.st.hR
      omega)
    exact ((h.below.trans hbw).trans hb).setCell (p := ⟨E, k, none⟩) hBE _

/-- the stack, read: each entry's four cells -/
theorem St.form {B : Nat} {w : World} {R : Nat} {L : List Ent} {m : Int} {v : Value} (h : St B w R L m v) :
    ∃ a cap, v = .slice a L.length cap ∧ (0 < L.length → ∃ g, a = some ⟨g, 0, none⟩ ∧ L.length ≤ cap ∧ g < w.heap.size ∧ g ≠ R ∧ (∀ x ∈ L, x.1 ≠ g) ∧ ∀ (i : Nat) x, L[i]? = some x → ∀ j, j < 4 → w.cell? ⟨g, i * 4 + j, none⟩ = (ent x)[j]?) := by
  have hown := h.own
  rcases h.own.2 with ⟨hv, h0⟩ | ⟨g, cap, cur, hv, hb, hg, hc, hm, hcs, ht⟩
  · exact ⟨none, 0, by rw [hv, h0], fun hp => by omega⟩
  · refine ⟨_, cap, hv, fun _ => ⟨g, rfl, hc, lt_of_heap hg, fun e => h.sep (by rw [hv, e]; rfl), fun x hx e => (h.els x hx).2.2.1 (by rw [hv, e]; rfl), fun i x hx j hj => ?_⟩⟩
    rw [hv] at hown
    have hi := (List.getElem?_eq_some_iff.1 hx).1
    rw [hown.cellAt (i * 4 + j) (by omega), ents_get hx j hj]

/-- while the elements are closed: j are open still; W2 is the world in which the closing began -/
structure Clo (B : Nat) (w0 W2 : World) (R : Nat) (a : Option Addr) (cap : Nat) (L : List Ent) (ats nexts marks : List Int) (j : Nat) (w : World) (m : Int) : Prop where
  rd : RdAt w R (.slice a j cap) m
  els : ∀ (i : Nat) x, L[i]? = some x → (i < j → ElAt w x.1 0 0 0) ∧ (j ≤ i → ∃ p q r, ats[i]? = some p ∧ marks[i]? = some q ∧ nexts[i]? = some r ∧ ElAt w x.1 p q r)
  frame : ∀ b, b < W2.heap.size → b ≠ R → (∀ x ∈ L, x.1 ≠ b) → w.heap[b]? = W2.heap[b]?
  size : W2.heap.size ≤ w.heap.size
  below : Below B w0 w

theorem Clo.later {B : Nat} {w0 W2 : World} {R : Nat} {a : Option Addr} {cap : Nat} {L : List Ent} {ats nexts marks : List Int} {j : Nat} {w w' : World} {m : Int} (h : Clo B w0 W2 R a cap L ats nexts marks j w m) (hB : B ≤ w.heap.size) (hb : Below w.heap.size w w') : Clo B w0 W2 R a cap L ats nexts marks j w' m :=
  ⟨(hb.block _ (lt_of_heap h.rd)).trans h.rd, fun i x hx => ⟨fun hi => ((h.els i x hx).1 hi).kept (hb.block _ ((h.els i x hx).1 hi).lt), fun hi => by
    obtain ⟨p, q, r, h1, h2, h3, h4⟩ := (h.els i x hx).2 hi
    exact ⟨p, q, r, h1, h2, h3, h4.kept (hb.block _ h4.lt)⟩⟩, fun b hb1 h1 h2 => (hb.block b (Nat.lt_of_lt_of_le hb1 h.size)).trans (h.frame b hb1 h1 h2), Nat.le_trans h.size hb.size, h.below.trans (hb.mono hB)⟩

/-- the top has been closed -/
theorem Clo.step {B : Nat} {w0 W2 : World} {R : Nat} {a : Option Addr} {cap : Nat} {L : List Ent} {ats nexts marks : List Int} {q : Nat} {w w1 w2 : World} {m m' p' r' : Int} {x : Ent} (h : Clo B w0 W2 R a cap L ats nexts marks (q + 1) w m) (hx : L[q]? = some x) (hnd : (L.map (·.1)).Nodup) (hR : ∀ y ∈ L, y.1 ≠ R)
    (h1 : ats[q]? = some p') (h2 : marks[q]? = some m') (h3 : nexts[q]? = some r') (hw1 : ∀ b, b ≠ R → w1.heap[b]? = w.heap[b]?) (hz1 : w1.heap.size = w.heap.size) (hb1 : Below B w w1)
    (hrd : RdAt w2 R (.slice a q cap) m') (hel : ElAt w2 x.1 p' m' r') (hb2 : Below B w1 w2) (hf : ∀ b, b < w1.heap.size → b ≠ R → b ≠ x.1 → w2.heap[b]? = w1.heap[b]?) : Clo B w0 W2 R a cap L ats nexts marks q w2 m' := by
  have hoth : ∀ (i : Nat) y, L[i]? = some y → i ≠ q → y.1 ≠ x.1 := by
    intro i y hy hi e
    have hi1 := (List.getElem?_eq_some_iff.1 hy).1
    have hq1 := (List.getElem?_eq_some_iff.1 hx).1
    have e1 : (L.map (·.1))[i]? = some x.1 := by rw [List.getElem?_map, hy]; simp [e]
    have e2 : (L.map (·.1))[q]? = some x.1 := by rw [List.getElem?_map, hx]; rfl
    exact hi ((List.getElem?_inj (by simpa using hi1) hnd).1 (e1.trans e2.symm))
  have keep : ∀ (i : Nat) y {p q' r : Int}, L[i]? = some y → i ≠ q → ElAt w y.1 p q' r → ElAt w2 y.1 p q' r := by
    intro i y p q' r hy hi he
    have hlt := he.lt
    exact he.kept ((hf y.1 (by omega) (hR y (List.mem_of_getElem? hy)) (hoth i y hy hi)).trans (hw1 _ (hR y (List.mem_of_getElem? hy))))
  refine ⟨hrd, fun i y hy => ⟨fun hi => keep i y hy (by omega) ((h.els i y hy).1 (by omega)), fun hi => ?_⟩, fun b hb hbR hbL => ?_, ?_, (h.below.trans hb1).trans hb2⟩
  · by_cases e : i = q
    · subst e
      rw [hx] at hy
      cases hy
      exact ⟨p', m', r', h1, h2, h3, hel⟩
    · obtain ⟨p, q', r, g1, g2, g3, g4⟩ := (h.els i y hy).2 (by omega)
      exact ⟨p, q', r, g1, g2, g3, keep i y hy e g4⟩
  · exact (hf b (by have := h.size; omega) hbR (fun e => hbL x (List.mem_of_getElem? hx) e.symm)).trans ((hw1 b hbR).trans (h.frame b hb hbR hbL))
  · have := h.size
    have := hb2.size
    omega
end Go.Proofs.Qxb6616107aFmt
