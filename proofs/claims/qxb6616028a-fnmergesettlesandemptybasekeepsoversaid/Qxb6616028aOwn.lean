/- slices that a call appends to, read off as slices of strings, of trees -/
import Derived.Test.Qxb6616028aSort
namespace Go.Proofs.Qxb6616028a
open Go.RowKit

def strVs (l : List ByteArray) : List Value := l.map fun x => .string x

/-- a tree's five cells -/
structure V5 where
  k : Int
  b : Bool
  s : ByteArray
  a1 : Option Addr
  n1 : Nat
  p1 : Nat
  a2 : Option Addr
  n2 : Nat
  p2 : Nat
def V5.cells (v : V5) : List Value := [.int .i8 v.k, .bool v.b, .string v.s, .slice v.a1 v.n1 v.p1, .slice v.a2 v.n2 v.p2]
def V5.val (v : V5) : Value := .agg #[.int .i8 v.k, .bool v.b, .string v.s, .slice v.a1 v.n1 v.p1, .slice v.a2 v.n2 v.p2]
def flat (vs : List V5) : List Value := vs.flatMap V5.cells
theorem flat_snoc (vs : List V5) (v : V5) : flat (vs ++ [v]) = flat vs ++ v.cells := by simp [flat]
theorem flat_length (vs : List V5) : (flat vs).length = vs.length * 5 := by
  induction vs with
  | nil => rfl
  | cons a l ih => simp only [flat, List.flatMap_cons, List.length_append] at *; simp [V5.cells, ih]; omega
theorem flat_get : ∀ {vs : List V5} {i : Nat} {v : V5}, vs[i]? = some v → ∀ j, j < 5 → (flat vs)[i * 5 + j]? = v.cells[j]?
  | [], i, v, h, _, _ => by simp at h
  | a :: l, 0, v, h, j, hj => by
    simp at h; subst h
    have : j < a.cells.length := by simp [V5.cells]; omega
    simp [flat, List.getElem?_append_left, this]
  | a :: l, i + 1, v, h, j, hj => by
    have ih := flat_get (vs := l) (i := i) (v := v) (by simpa using h) j hj
    have e : (i + 1) * 5 + j = a.cells.length + (i * 5 + j) := by simp [V5.cells]; omega
    rw [e, flat, List.flatMap_cons, List.getElem?_append_right (by omega)]
    simpa [flat] using ih

theorem own_caps {w : World} {base g n cap size : Nat} {e : TypeId} {xs : List Value} (h : w.ownsRow base e size (.slice (some ⟨g, 0, none⟩) n cap) n xs) : n ≤ cap ∧ cap ≤ maxLen ∧ base ≤ g ∧ g < w.heap.size := by
  rcases h.2 with ⟨h1, _⟩ | ⟨g', cap', cur, h1, hb, hg, h2, h3, _⟩
  · cases h1
  · cases h1; exact ⟨h2, h3, hb, (Array.getElem?_eq_some_iff.1 hg).1⟩
theorem StrsAt.of_own {p : Nat → Prop} {w : World} {base g n cap : Nat} {l : List ByteArray} (h : w.ownsRow base 9 1 (.slice (some ⟨g, 0, none⟩) n cap) n (strVs l)) (hp : p g) : StrsAt p w (.slice (some ⟨g, 0, none⟩) n cap) l := by
  have hl : l.length = n := by have := h.1; simpa [strVs] using this
  have hc := own_caps h
  refine ⟨g, 0, ⟨_, cap, by rw [hl], by rw [hl]; exact hc.1, hc.2.1, .inr rfl, .inr hp⟩, fun i s hs => ?_⟩
  have hi := lt_of_some hs
  rw [Nat.zero_add, h.cellAt i (by omega)]
  simp [strVs, hs]
theorem KidsAt.of_own {α : Type} {p : Nat → Prop} {w : World} {R : Value → α → Prop} {e : TypeId} {base g n cap : Nat} {vs : List V5} {l : List α} (h : w.ownsRow base e 5 (.slice (some ⟨g, 0, none⟩) n cap) n (flat vs)) (hp : p g)
    (hl : l.length = vs.length) (hR : ∀ (i : Nat) x v, l[i]? = some x → vs[i]? = some v → R v.val x) : KidsAt p w R (.slice (some ⟨g, 0, none⟩) n cap) l := by
  have hn : vs.length = n := by have := h.1; rw [flat_length] at this; omega
  have hc := own_caps h
  refine ⟨g, 0, ⟨_, cap, by rw [hl, hn], by rw [hl, hn]; exact hc.1, hc.2.1, .inr rfl, .inr hp⟩, fun i x hx => ?_⟩
  have hi := lt_of_some hx
  obtain ⟨v, hv⟩ : ∃ v, vs[i]? = some v := ⟨vs[i]'(by omega), by simp⟩
  refine ⟨_, _, _, _, _, fun j u hu => ?_, hR i x v hx hv⟩
  have hj := lt_of_some hu
  simp at hj
  rw [Nat.zero_add, h.cellAt (i * 5 + j) (by omega), flat_get hv j hj]
  exact hu
/-- an owned row reads as before where its block does -/
theorem own_stay {w w' : World} {base g n cap size : Nat} {e : TypeId} {xs : List Value} (h : w.ownsRow base e size (.slice (some ⟨g, 0, none⟩) n cap) n xs) (he : w'.heap[g]? = w.heap[g]?) : w'.ownsRow base e size (.slice (some ⟨g, 0, none⟩) n cap) n xs := by
  refine ⟨h.1, ?_⟩
  rcases h.2 with ⟨h1, _⟩ | ⟨g', cap', cur, h1, hb, hg, h2⟩
  · cases h1
  · cases h1; exact .inr ⟨g, cap, cur, rfl, hb, he.trans hg, h2⟩
theorem own_empty (w : World) (base : Nat) (e : TypeId) (size : Nat) {b : Nat} (hb : b = w.heap.size) (hB : base ≤ b) : (w.alloc (.cells #[] e)).ownsRow base e size (.slice (some ⟨b, 0, none⟩) 0 0) 0 [] := by
  subst hb
  exact ⟨by simp, .inr ⟨_, 0, #[], rfl, hB, heap_new w _, Nat.le_refl _, Nat.zero_le _, by simp, by simp⟩⟩
theorem own_alloc {w : World} {base g n cap size : Nat} {e : TypeId} {xs : List Value} (h : w.ownsRow base e size (.slice (some ⟨g, 0, none⟩) n cap) n xs) (o : Obj) : (w.alloc o).ownsRow base e size (.slice (some ⟨g, 0, none⟩) n cap) n xs :=
  own_stay h (Below.heap_alloc _ _ _ (own_caps h).2.2.2)
end Go.Proofs.Qxb6616028a
