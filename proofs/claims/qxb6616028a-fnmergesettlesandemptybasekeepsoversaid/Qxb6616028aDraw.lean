/- A region that draws its order, with a chain of calls beside three allocs and three stores: what every order keeps. -/
import Derived.Test.Qxb6616028aZZMerge
import Derived.Test.Qxb6616028aTwice
import Derived.Orders
import Derived.RegionTactic
namespace Go.Proofs.Qxb6616028a
open Go.RowKit

theorem count_set_false : ∀ (l : List Bool) (i : Nat), l[i]? = some false → (l.set i true).count false + 1 = l.count false
  | [], i, h => by simp at h
  | b :: l, 0, h => by
    simp at h
    subst h
    simp
  | b :: l, i + 1, h => by
    simp at h
    have := count_set_false l i h
    rw [List.set_cons_succ, List.count_cons, List.count_cons]
    omega

section
variable {P : Program} {ops : Array Oper} {Q : Exit → Act → World → Prop} {md : Region.Mode}
/-- what is kept from operation to operation, whichever comes up, is kept by every order -/
theorem wpAny_inv {I : Array Bool → Act → World → Prop}
    (step : ∀ (listed : Array Bool) (i : Nat) (a : Act) (w : World), I listed a w → i ∈ Region.ready md ops listed → wpOp P ops Q i (I (listed.setIfInBounds i true)) a w)
    (fin : ∀ (listed : Array Bool) (a : Act) (w : World), I listed a w → Region.ready md ops listed = [] → Q .normal a w) :
    ∀ (fuel : Nat) (listed : Array Bool) (a : Act) (w : World), listed.toList.count false ≤ fuel → I listed a w → wpAny P md ops Q fuel listed a w := by
  have get : ∀ (listed : Array Bool) (i : Nat), i ∈ Region.ready md ops listed → listed.toList[i]? = some false := by
    intro listed i hi
    have h := (mem_ready.1 hi).1
    rcases Nat.lt_or_ge i listed.size with hl | hl
    · simp [hl] at h
      simp [hl, h]
    · simp [Array.getElem?_eq_none hl] at h
  intro fuel
  induction fuel with
  | zero =>
    intro listed a w hc hI
    have hr : Region.ready md ops listed = [] := by
      cases hr : Region.ready md ops listed with
      | nil => rfl
      | cons i rs =>
        have := get listed i (by rw [hr]; exact List.mem_cons_self)
        have := count_set_false _ _ this
        omega
    exact ⟨hr, fin _ _ _ hI hr⟩
  | succ fuel ih =>
    intro listed a w hc hI
    refine ⟨fin _ _ _ hI, fun i hi => wpOp_mono (fun a' w' h => ih _ a' w' ?_ h) (step _ _ _ _ hI hi)⟩
    have := count_set_false _ _ (get listed i hi)
    rw [Array.toList_setIfInBounds]
    omega
/-- none may come up: all have, where each waits for earlier ones alone -/
theorem all_listed {listed : Array Bool} (h : Region.ready md ops listed = []) (hs : listed.size = ops.size)
    (hd : (List.range ops.size).all (fun i => ((ops[i]?).map (·.after.all fun e => !Region.binds md e || decide (e.on < i))).getD false) = true) :
    ∀ i, i < ops.size → listed.getD i true = true := by
  intro i
  induction i using Nat.strongRecOn with
  | _ i ih =>
    intro hi
    cases hl : listed.getD i true with
    | true => rfl
    | false =>
      have : i ∈ Region.ready md ops listed := by
        refine mem_ready.2 ⟨hl, ops[i], by simp [hi], fun e he hb => ?_⟩
        have hq := List.all_eq_true.1 hd i (List.mem_range.2 hi)
        simp only [Array.getElem?_eq_getElem hi, Option.map_some, Option.getD_some] at hq
        have hq2 := (Array.all_eq_true'.1 hq) e he
        simp [hb] at hq2
        have := ih e.on hq2 (by omega)
        have hlt : e.on < listed.size := by omega
        simp [hlt] at this ⊢
        exact this
      rw [h] at this
      cases this
end

/-- the block that a pointer points at the head of -/
def IsBox (x : Value) (c : Nat) : Prop := x = .pointer (some ⟨c, 0, none⟩)
theorem IsBox.inj {x : Value} {c d : Nat} (h : IsBox x c) (k : IsBox x d) : c = d := by
  have := h.symm.trans k
  simpa using this
def Av (p1 p2 p3 : Value) (c : Nat) : Prop := ¬ IsBox p1 c ∧ ¬ IsBox p2 c ∧ ¬ IsBox p3 c
def Holds (w : World) (p m : Value) : Prop := ∃ c c0 c1 c2 c3 c4, IsBox p c ∧ m = .agg #[c0, c1, c2, c3, c4] ∧ w.rangeAt c 0 [c0, c1, c2, c3, c4]
/-- a box that the region has made -/
def Box (w4 w : World) (p : Value) : Prop := ∃ c, IsBox p c ∧ w4.heap.size ≤ c ∧ RowF w c 31 5 0 (fun _ _ => True)

theorem Box.lt {w4 w : World} {p : Value} (h : Box w4 w p) {c : Nat} (hc : IsBox p c) : c < w.heap.size := by
  obtain ⟨d, h1, _, h2⟩ := h
  rw [hc.inj h1]
  exact h2.lt
theorem Box.later {w4 w w' : World} {p : Value} (h : Box w4 w p) (hb : Below w.heap.size w w') : Box w4 w' p := by
  obtain ⟨d, h1, h2, h3⟩ := h
  exact ⟨d, h1, h2, h3.kept (hb.block _ h3.lt)⟩
theorem Holds.later {w w' : World} {p m : Value} (h : Holds w p m) (hb : Below w.heap.size w w') : Holds w' p m := by
  obtain ⟨c, c0, c1, c2, c3, c4, h1, h2, h3⟩ := h
  exact ⟨c, c0, c1, c2, c3, c4, h1, h2, rangeAt_later hb h3⟩
theorem Holds.five {w : World} {p m : Value} (h : Holds w p m) {q : Nat → Prop} {n : Nat} {t : Tr n} (hT : TreeAt q w n m t) :
    ∃ c k b s x1 n1 z1 x2 n2 z2, p = .pointer (some ⟨c, 0, none⟩) ∧ m = .agg #[.int .i8 k, .bool b, .string s, .slice x1 n1 z1, .slice x2 n2 z2] ∧ Five w c (.int .i8 k) (.bool b) (.string s) (.slice x1 n1 z1) (.slice x2 n2 z2) := by
  obtain ⟨c, c0, c1, c2, c3, c4, h1, h2, h3⟩ := h
  obtain ⟨k, b, s, x1, n1, z1, x2, n2, z2, hm⟩ := tree_form hT
  rw [h2] at hm
  simp only [Value.agg.injEq, Array.mk.injEq, List.cons.injEq, and_true] at hm
  obtain ⟨rfl, rfl, rfl, rfl, rfl⟩ := hm
  exact ⟨c, k, b, s, x1, n1, z1, x2, n2, z2, h1, h2, h3 0 _ rfl, h3 1 _ rfl, h3 2 _ rfl, h3 3 _ rfl, h3 4 _ rfl⟩
theorem RowF.set5 {w : World} {b : Nat} (h : RowF w b 31 5 0 (fun _ _ => True)) (c : Nat) (c0 c1 c2 c3 c4 : Value) : RowF (Go.Proofs.Qxb6616028a.set5 w c 0 c0 c1 c2 c3 c4) b 31 5 0 (fun _ _ => True) := by
  by_cases e : b = c
  · subst e
    obtain ⟨C, h1, h2, _⟩ := h
    exact ⟨_, heap_setCell_same (heap_setCell_same (heap_setCell_same (heap_setCell_same (heap_setCell_same h1 _ _) _ _) _ _) _ _) _ _, by simp [h2], fun j hj => by omega⟩
  · exact h.kept (set5_other e)

structure RI (n : Nat) (va vb : Value) (ta tb tm tf tg : Tr n) (w4 : World) (la ca lb cb cm mv e1 e2 e3 a1 a2 a3 s1 s2 s3 : Bool) (xa xA xb xB xm xt y1 y2 y3 p1 p2 p3 : Value) (w : World) : Prop where
  below : Below w4.heap.size w4 w
  hla : la = true → xa = va
  hlb : lb = true → xb = vb
  hca : ca = true → cm = false → TreeAt Whole w n xA ta
  hcb : cb = true → cm = false → TreeAt Whole w n xB tb
  hcm : cm = true → ∃ m f g, xm = .tuple #[m, f, g] ∧ TreeAt (Av p1 p2 p3) w n m tm ∧ TreeAt (Av p1 p2 p3) w n f tf ∧ TreeAt (Av p1 p2 p3) w n g tg ∧
    (mv = true → xt = .tuple #[m, f, g]) ∧ (e1 = true → y1 = m) ∧ (e2 = true → y2 = f) ∧ (e3 = true → y3 = g) ∧ (s1 = true → Holds w p1 m) ∧ (s2 = true → Holds w p2 f) ∧ (s3 = true → Holds w p3 g)
  dep : cm = false → mv = false ∧ e1 = false ∧ e2 = false ∧ e3 = false ∧ s1 = false ∧ s2 = false ∧ s3 = false
  q1 : a1 = true → Box w4 w p1
  q2 : a2 = true → Box w4 w p2
  q3 : a3 = true → Box w4 w p3
  u1 : a1 = false → p1 = undef ∧ s1 = false
  u2 : a2 = false → p2 = undef ∧ s2 = false
  u3 : a3 = false → p3 = undef ∧ s3 = false
  d12 : a1 = true → a2 = true → p1 ≠ p2
  d13 : a1 = true → a3 = true → p1 ≠ p3
  d23 : a2 = true → a3 = true → p2 ≠ p3

section
variable {n : Nat} {va vb : Value} {ta tb tm tf tg : Tr n} {w4 : World} {la ca lb cb cm mv e1 e2 e3 a1 a2 a3 s1 s2 s3 : Bool} {xa xA xb xB xm xt y1 y2 y3 p1 p2 p3 : Value} {w w' : World}

theorem RI.start (hb : Below w4.heap.size w4 w) : RI n va vb ta tb tm tf tg w4 false false false false false false false false false false false false false false false (undef) (undef) (undef) (undef) (undef) (undef) (undef) (undef) (undef) (undef) (undef) (undef) w :=
  ⟨hb, fun e => (by cases e), fun e => (by cases e), fun e => (by cases e), fun e => (by cases e), fun e => (by cases e), fun _ => ⟨rfl, rfl, rfl, rfl, rfl, rfl, rfl⟩, fun e => (by cases e), fun e => (by cases e), fun e => (by cases e), fun _ => ⟨rfl, rfl⟩, fun _ => ⟨rfl, rfl⟩, fun _ => ⟨rfl, rfl⟩, fun e => (by cases e), fun e => (by cases e), fun e => (by cases e)⟩
theorem undef_noBox {c : Nat} : ¬ IsBox undef c := fun h => by
  have : undef = Value.pointer (some ⟨c, 0, none⟩) := h
  simp [undef] at this
/-- the boxes lie below what a later call makes -/
theorem RI.av (h : RI n va vb ta tb tm tf tg w4 la ca lb cb cm mv e1 e2 e3 a1 a2 a3 s1 s2 s3 xa xA xb xB xm xt y1 y2 y3 p1 p2 p3 w) : ∀ c, w.heap.size ≤ c → Av p1 p2 p3 c := by
  intro c hc
  refine ⟨fun hb => ?_, fun hb => ?_, fun hb => ?_⟩
  · cases e : a1 with
    | true => have := (h.q1 e).lt hb; omega
    | false => rw [(h.u1 e).1] at hb; exact undef_noBox hb
  · cases e : a2 with
    | true => have := (h.q2 e).lt hb; omega
    | false => rw [(h.u2 e).1] at hb; exact undef_noBox hb
  · cases e : a3 with
    | true => have := (h.q3 e).lt hb; omega
    | false => rw [(h.u3 e).1] at hb; exact undef_noBox hb
/-- the world goes on -/
theorem RI.later (h : RI n va vb ta tb tm tf tg w4 la ca lb cb cm mv e1 e2 e3 a1 a2 a3 s1 s2 s3 xa xA xb xB xm xt y1 y2 y3 p1 p2 p3 w) (hb : Below w.heap.size w w') : RI n va vb ta tb tm tf tg w4 la ca lb cb cm mv e1 e2 e3 a1 a2 a3 s1 s2 s3 xa xA xb xB xm xt y1 y2 y3 p1 p2 p3 w' := by
  refine ⟨h.below.trans (hb.mono h.below.size), h.hla, h.hlb, fun h1 h2 => (h.hca h1 h2).below hb, fun h1 h2 => (h.hcb h1 h2).below hb, fun hc => ?_, h.dep, fun e => (h.q1 e).later hb, fun e => (h.q2 e).later hb, fun e => (h.q3 e).later hb, h.u1, h.u2, h.u3, h.d12, h.d13, h.d23⟩
  obtain ⟨m, f, g, h1, h2, h3, h4, h5, h6, h7, h8, h9, h10, h11⟩ := h.hcm hc
  exact ⟨m, f, g, h1, h2.below hb, h3.below hb, h4.below hb, h5, h6, h7, h8, fun e => (h9 e).later hb, fun e => (h10 e).later hb, fun e => (h11 e).later hb⟩
theorem RI.loadA (h : RI n va vb ta tb tm tf tg w4 la ca lb cb cm mv e1 e2 e3 a1 a2 a3 s1 s2 s3 xa xA xb xB xm xt y1 y2 y3 p1 p2 p3 w) : RI n va vb ta tb tm tf tg w4 true ca lb cb cm mv e1 e2 e3 a1 a2 a3 s1 s2 s3 (va) xA xb xB xm xt y1 y2 y3 p1 p2 p3 w := ⟨h.below, fun _ => rfl, h.hlb, h.hca, h.hcb, h.hcm, h.dep, h.q1, h.q2, h.q3, h.u1, h.u2, h.u3, h.d12, h.d13, h.d23⟩
theorem RI.loadB (h : RI n va vb ta tb tm tf tg w4 la ca lb cb cm mv e1 e2 e3 a1 a2 a3 s1 s2 s3 xa xA xb xB xm xt y1 y2 y3 p1 p2 p3 w) : RI n va vb ta tb tm tf tg w4 la ca true cb cm mv e1 e2 e3 a1 a2 a3 s1 s2 s3 xa xA (vb) xB xm xt y1 y2 y3 p1 p2 p3 w := ⟨h.below, h.hla, fun _ => rfl, h.hca, h.hcb, h.hcm, h.dep, h.q1, h.q2, h.q3, h.u1, h.u2, h.u3, h.d12, h.d13, h.d23⟩
theorem RI.setA (h : RI n va vb ta tb tm tf tg w4 la ca lb cb cm mv e1 e2 e3 a1 a2 a3 s1 s2 s3 xa xA xb xB xm xt y1 y2 y3 p1 p2 p3 w) {r : Value} (hr : TreeAt Whole w n r ta) : RI n va vb ta tb tm tf tg w4 la true lb cb cm mv e1 e2 e3 a1 a2 a3 s1 s2 s3 xa (r) xb xB xm xt y1 y2 y3 p1 p2 p3 w := ⟨h.below, h.hla, h.hlb, fun _ _ => hr, h.hcb, h.hcm, h.dep, h.q1, h.q2, h.q3, h.u1, h.u2, h.u3, h.d12, h.d13, h.d23⟩
theorem RI.setB (h : RI n va vb ta tb tm tf tg w4 la ca lb cb cm mv e1 e2 e3 a1 a2 a3 s1 s2 s3 xa xA xb xB xm xt y1 y2 y3 p1 p2 p3 w) {r : Value} (hr : TreeAt Whole w n r tb) : RI n va vb ta tb tm tf tg w4 la ca lb true cm mv e1 e2 e3 a1 a2 a3 s1 s2 s3 xa xA xb (r) xm xt y1 y2 y3 p1 p2 p3 w := ⟨h.below, h.hla, h.hlb, h.hca, fun _ _ => hr, h.hcm, h.dep, h.q1, h.q2, h.q3, h.u1, h.u2, h.u3, h.d12, h.d13, h.d23⟩
theorem RI.merged (h : RI n va vb ta tb tm tf tg w4 la ca lb cb cm mv e1 e2 e3 a1 a2 a3 s1 s2 s3 xa xA xb xB xm xt y1 y2 y3 p1 p2 p3 w) (hc : cm = false) (hb : Below w.heap.size w w') {m f g : Value} (hm : TreeAt (From w.heap.size) w' n m tm) (hf : TreeAt (From w.heap.size) w' n f tf) (hg : TreeAt (From w.heap.size) w' n g tg) : RI n va vb ta tb tm tf tg w4 la ca lb cb true mv e1 e2 e3 a1 a2 a3 s1 s2 s3 xa xA xb xB (.tuple #[m, f, g]) xt y1 y2 y3 p1 p2 p3 w' := by
  obtain ⟨g1, g2, g3, g4, g5, g6, g7⟩ := h.dep hc
  have hl := h.later hb
  refine ⟨hl.below, h.hla, h.hlb, fun _ e => (by cases e), fun _ e => (by cases e), fun _ => ⟨m, f, g, rfl, hm.mono (fun _ _ _ => rfl) h.av, hf.mono (fun _ _ _ => rfl) h.av, hg.mono (fun _ _ _ => rfl) h.av, ?_, ?_, ?_, ?_, ?_, ?_, ?_⟩, fun e => (by cases e), hl.q1, hl.q2, hl.q3, h.u1, h.u2, h.u3, h.d12, h.d13, h.d23⟩
  · rw [g1]; intro e; cases e
  · rw [g2]; intro e; cases e
  · rw [g3]; intro e; cases e
  · rw [g4]; intro e; cases e
  · rw [g5]; intro e; cases e
  · rw [g6]; intro e; cases e
  · rw [g7]; intro e; cases e
theorem RI.cmOf (h : RI n va vb ta tb tm tf tg w4 la ca lb cb cm mv e1 e2 e3 a1 a2 a3 s1 s2 s3 xa xA xb xB xm xt y1 y2 y3 p1 p2 p3 w) (hm : mv = true) : cm = true := by
  cases e : cm with
  | true => rfl
  | false => exact absurd (hm.symm.trans (h.dep e).1) (by decide)
theorem RI.move (h : RI n va vb ta tb tm tf tg w4 la ca lb cb cm mv e1 e2 e3 a1 a2 a3 s1 s2 s3 xa xA xb xB xm xt y1 y2 y3 p1 p2 p3 w) (hc : cm = true) : RI n va vb ta tb tm tf tg w4 la ca lb cb cm true e1 e2 e3 a1 a2 a3 s1 s2 s3 xa xA xb xB xm (xm) y1 y2 y3 p1 p2 p3 w := by
  refine ⟨h.below, h.hla, h.hlb, h.hca, h.hcb, fun _ => ?_, fun e => (by rw [hc] at e; cases e), h.q1, h.q2, h.q3, h.u1, h.u2, h.u3, h.d12, h.d13, h.d23⟩
  obtain ⟨m, f, g, h1, h2, h3, h4, h5, h6⟩ := h.hcm hc
  exact ⟨m, f, g, h1, h2, h3, h4, fun _ => h1, h6⟩
theorem RI.ext1 (h : RI n va vb ta tb tm tf tg w4 la ca lb cb cm mv e1 e2 e3 a1 a2 a3 s1 s2 s3 xa xA xb xB xm xt y1 y2 y3 p1 p2 p3 w) (hc : cm = true) (hm : mv = true) : ∃ m f g, xt = .tuple #[m, f, g] ∧ RI n va vb ta tb tm tf tg w4 la ca lb cb cm mv true e2 e3 a1 a2 a3 s1 s2 s3 xa xA xb xB xm xt (m) y2 y3 p1 p2 p3 w := by
  obtain ⟨m, f, g, h1, h2, h3, h4, h5, h6, h7, h8, h9⟩ := h.hcm hc
  refine ⟨m, f, g, h5 hm, h.below, h.hla, h.hlb, h.hca, h.hcb, fun _ => ⟨m, f, g, h1, h2, h3, h4, h5, fun _ => rfl, h7, h8, h9⟩, fun e => (by rw [hc] at e; cases e), h.q1, h.q2, h.q3, h.u1, h.u2, h.u3, h.d12, h.d13, h.d23⟩
theorem RI.ext2 (h : RI n va vb ta tb tm tf tg w4 la ca lb cb cm mv e1 e2 e3 a1 a2 a3 s1 s2 s3 xa xA xb xB xm xt y1 y2 y3 p1 p2 p3 w) (hc : cm = true) (hm : mv = true) : ∃ m f g, xt = .tuple #[m, f, g] ∧ RI n va vb ta tb tm tf tg w4 la ca lb cb cm mv e1 true e3 a1 a2 a3 s1 s2 s3 xa xA xb xB xm xt y1 (f) y3 p1 p2 p3 w := by
  obtain ⟨m, f, g, h1, h2, h3, h4, h5, h6, h7, h8, h9⟩ := h.hcm hc
  refine ⟨m, f, g, h5 hm, h.below, h.hla, h.hlb, h.hca, h.hcb, fun _ => ⟨m, f, g, h1, h2, h3, h4, h5, h6, fun _ => rfl, h8, h9⟩, fun e => (by rw [hc] at e; cases e), h.q1, h.q2, h.q3, h.u1, h.u2, h.u3, h.d12, h.d13, h.d23⟩
theorem RI.ext3 (h : RI n va vb ta tb tm tf tg w4 la ca lb cb cm mv e1 e2 e3 a1 a2 a3 s1 s2 s3 xa xA xb xB xm xt y1 y2 y3 p1 p2 p3 w) (hc : cm = true) (hm : mv = true) : ∃ m f g, xt = .tuple #[m, f, g] ∧ RI n va vb ta tb tm tf tg w4 la ca lb cb cm mv e1 e2 true a1 a2 a3 s1 s2 s3 xa xA xb xB xm xt y1 y2 (g) p1 p2 p3 w := by
  obtain ⟨m, f, g, h1, h2, h3, h4, h5, h6, h7, h8, h9⟩ := h.hcm hc
  refine ⟨m, f, g, h5 hm, h.below, h.hla, h.hlb, h.hca, h.hcb, fun _ => ⟨m, f, g, h1, h2, h3, h4, h5, h6, h7, fun _ => rfl, h9⟩, fun e => (by rw [hc] at e; cases e), h.q1, h.q2, h.q3, h.u1, h.u2, h.u3, h.d12, h.d13, h.d23⟩

theorem RI.alloc1 (h : RI n va vb ta tb tm tf tg w4 la ca lb cb cm mv e1 e2 e3 a1 a2 a3 s1 s2 s3 xa xA xb xB xm xt y1 y2 y3 p1 p2 p3 w) (ha : a1 = false) : RI n va vb ta tb tm tf tg w4 la ca lb cb cm mv e1 e2 e3 true a2 a3 s1 s2 s3 xa xA xb xB xm xt y1 y2 y3 (.pointer (some ⟨w.heap.size, 0, none⟩)) p2 p3 (w.alloc (.cells #[.int .i8 0, .bool false, .string { data := #[] }, .slice none 0 0, .slice none 0 0] 31)) := by
  have hb : Below w.heap.size w (w.alloc (.cells #[.int .i8 0, .bool false, .string { data := #[] }, .slice none 0 0, .slice none 0 0] 31)) := (Below.refl _ _).alloc (Nat.le_refl _) _
  have hne : ∀ {a : Bool} {p : Value}, (a = true → Box w4 w p) → a = true → p ≠ .pointer (some ⟨w.heap.size, 0, none⟩) := fun hq e eq => by
    have := (hq e).lt (c := w.heap.size) eq
    omega
  have hst : Stay (fun c => Av p1 p2 p3 c ∧ c < w.heap.size) w (w.alloc (.cells #[.int .i8 0, .bool false, .string { data := #[] }, .slice none 0 0, .slice none 0 0] 31)) := Stay.of_below hb
  have hav : ∀ c, Av p1 p2 p3 c ∧ c < w.heap.size → Av (.pointer (some ⟨w.heap.size, 0, none⟩)) p2 p3 c := fun c hp => ⟨fun e => (by have := (IsBox.inj (x := .pointer (some ⟨w.heap.size, 0, none⟩)) rfl e); have := hp.2; omega), hp.1.2.1, hp.1.2.2⟩
  refine ⟨h.below.trans (hb.mono h.below.size), h.hla, h.hlb, fun e1 e2 => (h.hca e1 e2).below hb, fun e1 e2 => (h.hcb e1 e2).below hb, fun hc => ?_, h.dep, fun _ => ⟨w.heap.size, rfl, h.below.size, RowF.make _ _ _ _ rfl rfl⟩, fun e => (h.q2 e).later hb, fun e => (h.q3 e).later hb, fun e => (by cases e), h.u2, h.u3, fun _ e => fun eq => hne h.q2 e eq.symm, fun _ e => fun eq => hne h.q3 e eq.symm, h.d23⟩
  obtain ⟨m, f, g, h1, h2, h3, h4, h5, h6, h7, h8, h9, h10, h11⟩ := h.hcm hc
  exact ⟨m, f, g, h1, h2.old.mono hst hav, h3.old.mono hst hav, h4.old.mono hst hav, h5, h6, h7, h8, fun e => (by rw [(h.u1 ha).2] at e; cases e), fun e => (h10 e).later hb, fun e => (h11 e).later hb⟩
theorem RI.alloc2 (h : RI n va vb ta tb tm tf tg w4 la ca lb cb cm mv e1 e2 e3 a1 a2 a3 s1 s2 s3 xa xA xb xB xm xt y1 y2 y3 p1 p2 p3 w) (ha : a2 = false) : RI n va vb ta tb tm tf tg w4 la ca lb cb cm mv e1 e2 e3 a1 true a3 s1 s2 s3 xa xA xb xB xm xt y1 y2 y3 p1 (.pointer (some ⟨w.heap.size, 0, none⟩)) p3 (w.alloc (.cells #[.int .i8 0, .bool false, .string { data := #[] }, .slice none 0 0, .slice none 0 0] 31)) := by
  have hb : Below w.heap.size w (w.alloc (.cells #[.int .i8 0, .bool false, .string { data := #[] }, .slice none 0 0, .slice none 0 0] 31)) := (Below.refl _ _).alloc (Nat.le_refl _) _
  have hne : ∀ {a : Bool} {p : Value}, (a = true → Box w4 w p) → a = true → p ≠ .pointer (some ⟨w.heap.size, 0, none⟩) := fun hq e eq => by
    have := (hq e).lt (c := w.heap.size) eq
    omega
  have hst : Stay (fun c => Av p1 p2 p3 c ∧ c < w.heap.size) w (w.alloc (.cells #[.int .i8 0, .bool false, .string { data := #[] }, .slice none 0 0, .slice none 0 0] 31)) := Stay.of_below hb
  have hav : ∀ c, Av p1 p2 p3 c ∧ c < w.heap.size → Av p1 (.pointer (some ⟨w.heap.size, 0, none⟩)) p3 c := fun c hp => ⟨hp.1.1, fun e => (by have := (IsBox.inj (x := .pointer (some ⟨w.heap.size, 0, none⟩)) rfl e); have := hp.2; omega), hp.1.2.2⟩
  refine ⟨h.below.trans (hb.mono h.below.size), h.hla, h.hlb, fun e1 e2 => (h.hca e1 e2).below hb, fun e1 e2 => (h.hcb e1 e2).below hb, fun hc => ?_, h.dep, fun e => (h.q1 e).later hb, fun _ => ⟨w.heap.size, rfl, h.below.size, RowF.make _ _ _ _ rfl rfl⟩, fun e => (h.q3 e).later hb, h.u1, fun e => (by cases e), h.u3, fun e _ => fun eq => hne h.q1 e eq, h.d13, fun _ e => fun eq => hne h.q3 e eq.symm⟩
  obtain ⟨m, f, g, h1, h2, h3, h4, h5, h6, h7, h8, h9, h10, h11⟩ := h.hcm hc
  exact ⟨m, f, g, h1, h2.old.mono hst hav, h3.old.mono hst hav, h4.old.mono hst hav, h5, h6, h7, h8, fun e => (h9 e).later hb, fun e => (by rw [(h.u2 ha).2] at e; cases e), fun e => (h11 e).later hb⟩
theorem RI.alloc3 (h : RI n va vb ta tb tm tf tg w4 la ca lb cb cm mv e1 e2 e3 a1 a2 a3 s1 s2 s3 xa xA xb xB xm xt y1 y2 y3 p1 p2 p3 w) (ha : a3 = false) : RI n va vb ta tb tm tf tg w4 la ca lb cb cm mv e1 e2 e3 a1 a2 true s1 s2 s3 xa xA xb xB xm xt y1 y2 y3 p1 p2 (.pointer (some ⟨w.heap.size, 0, none⟩)) (w.alloc (.cells #[.int .i8 0, .bool false, .string { data := #[] }, .slice none 0 0, .slice none 0 0] 31)) := by
  have hb : Below w.heap.size w (w.alloc (.cells #[.int .i8 0, .bool false, .string { data := #[] }, .slice none 0 0, .slice none 0 0] 31)) := (Below.refl _ _).alloc (Nat.le_refl _) _
  have hne : ∀ {a : Bool} {p : Value}, (a = true → Box w4 w p) → a = true → p ≠ .pointer (some ⟨w.heap.size, 0, none⟩) := fun hq e eq => by
    have := (hq e).lt (c := w.heap.size) eq
    omega
  have hst : Stay (fun c => Av p1 p2 p3 c ∧ c < w.heap.size) w (w.alloc (.cells #[.int .i8 0, .bool false, .string { data := #[] }, .slice none 0 0, .slice none 0 0] 31)) := Stay.of_below hb
  have hav : ∀ c, Av p1 p2 p3 c ∧ c < w.heap.size → Av p1 p2 (.pointer (some ⟨w.heap.size, 0, none⟩)) c := fun c hp => ⟨hp.1.1, hp.1.2.1, fun e => (by have := (IsBox.inj (x := .pointer (some ⟨w.heap.size, 0, none⟩)) rfl e); have := hp.2; omega)⟩
  refine ⟨h.below.trans (hb.mono h.below.size), h.hla, h.hlb, fun e1 e2 => (h.hca e1 e2).below hb, fun e1 e2 => (h.hcb e1 e2).below hb, fun hc => ?_, h.dep, fun e => (h.q1 e).later hb, fun e => (h.q2 e).later hb, fun _ => ⟨w.heap.size, rfl, h.below.size, RowF.make _ _ _ _ rfl rfl⟩, h.u1, h.u2, fun e => (by cases e), h.d12, fun e _ => fun eq => hne h.q1 e eq, fun e _ => fun eq => hne h.q2 e eq⟩
  obtain ⟨m, f, g, h1, h2, h3, h4, h5, h6, h7, h8, h9, h10, h11⟩ := h.hcm hc
  exact ⟨m, f, g, h1, h2.old.mono hst hav, h3.old.mono hst hav, h4.old.mono hst hav, h5, h6, h7, h8, fun e => (h9 e).later hb, fun e => (h10 e).later hb, fun e => (by rw [(h.u3 ha).2] at e; cases e)⟩

theorem RI.store1 (h : RI n va vb ta tb tm tf tg w4 la ca lb cb cm mv e1 e2 e3 a1 a2 a3 s1 s2 s3 xa xA xb xB xm xt y1 y2 y3 p1 p2 p3 w) (hc : cm = true) (he : e1 = true) (ha1 : a1 = true) (ha2 : a2 = true) (ha3 : a3 = true) :
    ∃ c k b s x1 n1 z1 x2 n2 z2, p1 = .pointer (some ⟨c, 0, none⟩) ∧ y1 = .agg #[.int .i8 k, .bool b, .string s, .slice x1 n1 z1, .slice x2 n2 z2] ∧ RowF w c 31 5 0 (fun _ _ => True) ∧ RI n va vb ta tb tm tf tg w4 la ca lb cb cm mv e1 e2 e3 a1 a2 a3 true s2 s3 xa xA xb xB xm xt y1 y2 y3 p1 p2 p3 (set5 w c 0 (.int .i8 k) (.bool b) (.string s) (.slice x1 n1 z1) (.slice x2 n2 z2)) := by
  obtain ⟨m, f, g, h1, h2, h3, h4, h5, h6, h7, h8, h9, h10, h11⟩ := h.hcm hc
  obtain ⟨k, b, s, x1, n1, z1, x2, n2, z2, hm⟩ := tree_form h2
  obtain ⟨c, hp, hge, hR⟩ := h.q1 ha1
  refine ⟨c, k, b, s, x1, n1, z1, x2, n2, z2, hp, (h6 he).trans hm, hR, ?_⟩
  generalize Value.int .i8 k = c0 at *
  generalize Value.bool b = c1 at *
  generalize Value.string s = c2 at *
  generalize Value.slice x1 n1 z1 = c3 at *
  generalize Value.slice x2 n2 z2 = c4 at *
  obtain ⟨f0, hf0⟩ := hR.old (j := 0) (by omega)
  obtain ⟨f1, hf1⟩ := hR.old (j := 1) (by omega)
  obtain ⟨f2, hf2⟩ := hR.old (j := 2) (by omega)
  obtain ⟨f3, hf3⟩ := hR.old (j := 3) (by omega)
  obtain ⟨f4, hf4⟩ := hR.old (j := 4) (by omega)
  have hnew : (set5 w c 0 c0 c1 c2 c3 c4).rangeAt c 0 [c0, c1, c2, c3, c4] := set5_range hf0 hf1 hf2 hf3 hf4
  have boxS : ∀ {p : Value}, Box w4 w p → Box w4 (set5 w c 0 c0 c1 c2 c3 c4) p := fun ⟨d, g1, g2, g3⟩ => ⟨d, g1, g2, g3.set5 c c0 c1 c2 c3 c4⟩
  have holdS : ∀ {p v : Value}, Holds w p v → p ≠ p1 → Holds (set5 w c 0 c0 c1 c2 c3 c4) p v := fun ⟨d, d0, d1, d2, d3, d4, g1, g2, g3⟩ hne =>
    ⟨d, d0, d1, d2, d3, d4, g1, g2, range_set5_other g3 (fun e => hne (by rw [show p1 = _ from hp, show _ = _ from g1, e]))⟩
  have hst : Stay (Av p1 p2 p3) w (set5 w c 0 c0 c1 c2 c3 c4) := set5_stay (fun hav => hav.1 hp)
  refine ⟨h.below.trans (set5_below hge), h.hla, h.hlb, fun _ e => (by rw [hc] at e; cases e), fun _ e => (by rw [hc] at e; cases e), fun _ => ?_, fun e => (by rw [hc] at e; cases e), fun e => boxS (h.q1 e), fun e => boxS (h.q2 e), fun e => boxS (h.q3 e), fun e => (by rw [ha1] at e; cases e), h.u2, h.u3, h.d12, h.d13, h.d23⟩
  exact ⟨m, f, g, h1, h2.mono hst (fun _ h => h), h3.mono hst (fun _ h => h), h4.mono hst (fun _ h => h), h5, h6, h7, h8, fun _ => ⟨c, c0, c1, c2, c3, c4, hp, hm, hnew⟩, fun e => holdS (h10 e) (fun e => (h.d12 ha1 ha2) e.symm), fun e => holdS (h11 e) (fun e => (h.d13 ha1 ha3) e.symm)⟩
theorem RI.store2 (h : RI n va vb ta tb tm tf tg w4 la ca lb cb cm mv e1 e2 e3 a1 a2 a3 s1 s2 s3 xa xA xb xB xm xt y1 y2 y3 p1 p2 p3 w) (hc : cm = true) (he : e2 = true) (ha1 : a1 = true) (ha2 : a2 = true) (ha3 : a3 = true) :
    ∃ c k b s x1 n1 z1 x2 n2 z2, p2 = .pointer (some ⟨c, 0, none⟩) ∧ y2 = .agg #[.int .i8 k, .bool b, .string s, .slice x1 n1 z1, .slice x2 n2 z2] ∧ RowF w c 31 5 0 (fun _ _ => True) ∧ RI n va vb ta tb tm tf tg w4 la ca lb cb cm mv e1 e2 e3 a1 a2 a3 s1 true s3 xa xA xb xB xm xt y1 y2 y3 p1 p2 p3 (set5 w c 0 (.int .i8 k) (.bool b) (.string s) (.slice x1 n1 z1) (.slice x2 n2 z2)) := by
  obtain ⟨m, f, g, h1, h2, h3, h4, h5, h6, h7, h8, h9, h10, h11⟩ := h.hcm hc
  obtain ⟨k, b, s, x1, n1, z1, x2, n2, z2, hm⟩ := tree_form h3
  obtain ⟨c, hp, hge, hR⟩ := h.q2 ha2
  refine ⟨c, k, b, s, x1, n1, z1, x2, n2, z2, hp, (h7 he).trans hm, hR, ?_⟩
  generalize Value.int .i8 k = c0 at *
  generalize Value.bool b = c1 at *
  generalize Value.string s = c2 at *
  generalize Value.slice x1 n1 z1 = c3 at *
  generalize Value.slice x2 n2 z2 = c4 at *
  obtain ⟨f0, hf0⟩ := hR.old (j := 0) (by omega)
  obtain ⟨f1, hf1⟩ := hR.old (j := 1) (by omega)
  obtain ⟨f2, hf2⟩ := hR.old (j := 2) (by omega)
  obtain ⟨f3, hf3⟩ := hR.old (j := 3) (by omega)
  obtain ⟨f4, hf4⟩ := hR.old (j := 4) (by omega)
  have hnew : (set5 w c 0 c0 c1 c2 c3 c4).rangeAt c 0 [c0, c1, c2, c3, c4] := set5_range hf0 hf1 hf2 hf3 hf4
  have boxS : ∀ {p : Value}, Box w4 w p → Box w4 (set5 w c 0 c0 c1 c2 c3 c4) p := fun ⟨d, g1, g2, g3⟩ => ⟨d, g1, g2, g3.set5 c c0 c1 c2 c3 c4⟩
  have holdS : ∀ {p v : Value}, Holds w p v → p ≠ p2 → Holds (set5 w c 0 c0 c1 c2 c3 c4) p v := fun ⟨d, d0, d1, d2, d3, d4, g1, g2, g3⟩ hne =>
    ⟨d, d0, d1, d2, d3, d4, g1, g2, range_set5_other g3 (fun e => hne (by rw [show p2 = _ from hp, show _ = _ from g1, e]))⟩
  have hst : Stay (Av p1 p2 p3) w (set5 w c 0 c0 c1 c2 c3 c4) := set5_stay (fun hav => hav.2.1 hp)
  refine ⟨h.below.trans (set5_below hge), h.hla, h.hlb, fun _ e => (by rw [hc] at e; cases e), fun _ e => (by rw [hc] at e; cases e), fun _ => ?_, fun e => (by rw [hc] at e; cases e), fun e => boxS (h.q1 e), fun e => boxS (h.q2 e), fun e => boxS (h.q3 e), h.u1, fun e => (by rw [ha2] at e; cases e), h.u3, h.d12, h.d13, h.d23⟩
  exact ⟨m, f, g, h1, h2.mono hst (fun _ h => h), h3.mono hst (fun _ h => h), h4.mono hst (fun _ h => h), h5, h6, h7, h8, fun e => holdS (h9 e) (h.d12 ha1 ha2), fun _ => ⟨c, c0, c1, c2, c3, c4, hp, hm, hnew⟩, fun e => holdS (h11 e) (fun e => (h.d23 ha2 ha3) e.symm)⟩
theorem RI.store3 (h : RI n va vb ta tb tm tf tg w4 la ca lb cb cm mv e1 e2 e3 a1 a2 a3 s1 s2 s3 xa xA xb xB xm xt y1 y2 y3 p1 p2 p3 w) (hc : cm = true) (he : e3 = true) (ha1 : a1 = true) (ha2 : a2 = true) (ha3 : a3 = true) :
    ∃ c k b s x1 n1 z1 x2 n2 z2, p3 = .pointer (some ⟨c, 0, none⟩) ∧ y3 = .agg #[.int .i8 k, .bool b, .string s, .slice x1 n1 z1, .slice x2 n2 z2] ∧ RowF w c 31 5 0 (fun _ _ => True) ∧ RI n va vb ta tb tm tf tg w4 la ca lb cb cm mv e1 e2 e3 a1 a2 a3 s1 s2 true xa xA xb xB xm xt y1 y2 y3 p1 p2 p3 (set5 w c 0 (.int .i8 k) (.bool b) (.string s) (.slice x1 n1 z1) (.slice x2 n2 z2)) := by
  obtain ⟨m, f, g, h1, h2, h3, h4, h5, h6, h7, h8, h9, h10, h11⟩ := h.hcm hc
  obtain ⟨k, b, s, x1, n1, z1, x2, n2, z2, hm⟩ := tree_form h4
  obtain ⟨c, hp, hge, hR⟩ := h.q3 ha3
  refine ⟨c, k, b, s, x1, n1, z1, x2, n2, z2, hp, (h8 he).trans hm, hR, ?_⟩
  generalize Value.int .i8 k = c0 at *
  generalize Value.bool b = c1 at *
  generalize Value.string s = c2 at *
  generalize Value.slice x1 n1 z1 = c3 at *
  generalize Value.slice x2 n2 z2 = c4 at *
  obtain ⟨f0, hf0⟩ := hR.old (j := 0) (by omega)
  obtain ⟨f1, hf1⟩ := hR.old (j := 1) (by omega)
  obtain ⟨f2, hf2⟩ := hR.old (j := 2) (by omega)
  obtain ⟨f3, hf3⟩ := hR.old (j := 3) (by omega)
  obtain ⟨f4, hf4⟩ := hR.old (j := 4) (by omega)
  have hnew : (set5 w c 0 c0 c1 c2 c3 c4).rangeAt c 0 [c0, c1, c2, c3, c4] := set5_range hf0 hf1 hf2 hf3 hf4
  have boxS : ∀ {p : Value}, Box w4 w p → Box w4 (set5 w c 0 c0 c1 c2 c3 c4) p := fun ⟨d, g1, g2, g3⟩ => ⟨d, g1, g2, g3.set5 c c0 c1 c2 c3 c4⟩
  have holdS : ∀ {p v : Value}, Holds w p v → p ≠ p3 → Holds (set5 w c 0 c0 c1 c2 c3 c4) p v := fun ⟨d, d0, d1, d2, d3, d4, g1, g2, g3⟩ hne =>
    ⟨d, d0, d1, d2, d3, d4, g1, g2, range_set5_other g3 (fun e => hne (by rw [show p3 = _ from hp, show _ = _ from g1, e]))⟩
  have hst : Stay (Av p1 p2 p3) w (set5 w c 0 c0 c1 c2 c3 c4) := set5_stay (fun hav => hav.2.2 hp)
  refine ⟨h.below.trans (set5_below hge), h.hla, h.hlb, fun _ e => (by rw [hc] at e; cases e), fun _ e => (by rw [hc] at e; cases e), fun _ => ?_, fun e => (by rw [hc] at e; cases e), fun e => boxS (h.q1 e), fun e => boxS (h.q2 e), fun e => boxS (h.q3 e), h.u1, h.u2, fun e => (by rw [ha3] at e; cases e), h.d12, h.d13, h.d23⟩
  exact ⟨m, f, g, h1, h2.mono hst (fun _ h => h), h3.mono hst (fun _ h => h), h4.mono hst (fun _ h => h), h5, h6, h7, h8, fun e => holdS (h9 e) (h.d13 ha1 ha3), fun e => holdS (h10 e) (h.d23 ha2 ha3), fun _ => ⟨c, c0, c1, c2, c3, c4, hp, hm, hnew⟩⟩

end
end Go.Proofs.Qxb6616028a
