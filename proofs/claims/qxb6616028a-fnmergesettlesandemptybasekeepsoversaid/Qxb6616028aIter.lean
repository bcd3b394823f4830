/- ranging over a map[string]any: what has come, what is to come. -/
import Derived.Test.Qxb6616028aMaps
namespace Go.Proofs.Qxb6616028a
open Go.RowKit
open Go.ChangeMaps (setBlock)

/-! ### plain -/
section
variable {α : Type}
theorem foldl_ins_perm : ∀ (l m : List (ByteArray × α)), SortedK (m.map (·.1)) → ((l ++ m).map (·.1)).Nodup → (l.foldl (fun m p => ins p.1 p.2 m) m).Perm (l ++ m)
  | [], m, _, _ => List.Perm.refl _
  | q :: l, m, hs, hn => by
    simp only [List.foldl_cons, List.cons_append, List.map_cons, List.nodup_cons] at *
    have hq : ∀ p ∈ m, p.1 ≠ q.1 := fun p hp e => hn.1 (List.mem_map.2 ⟨p, List.mem_append_right _ hp, e⟩)
    have h1 := ins_new (v := q.2) hq
    have h2 : (l ++ ins q.1 q.2 m).Perm (q :: (l ++ m)) := (h1.append_left l).trans List.perm_middle
    refine (foldl_ins_perm l (ins q.1 q.2 m) (sorted_ins hs) ?_).trans h2
    have h3 : ((l ++ ins q.1 q.2 m).map (·.1)).Perm ((q :: (l ++ m)).map (·.1)) := h2.map _
    refine h3.nodup_iff.2 ?_
    rw [List.map_cons, List.nodup_cons]
    exact hn
/-- pairs with keys apart, laid into a map in whatever order -/
theorem toMap_of_perm {l s : List (ByteArray × α)} (hs : SortedK (s.map (·.1))) (hp : l.Perm s) : toMap l = s := by
  have hn : (l.map (·.1)).Nodup := (hp.map _).nodup_iff.2 hs.nodup
  have h1 := foldl_ins_perm l [] List.Pairwise.nil (by simpa using hn)
  rw [List.append_nil] at h1
  exact sorted_ext2 (sorted_toMap l) hs (fun x => (h1.trans hp).mem_iff)
theorem perm_lift {β γ : Type} (f : β → γ) : ∀ {l m : List γ}, l.Perm m → ∀ {d : List β}, d.map f = l → ∃ d' : List β, d'.Perm d ∧ d'.map f = m := by
  intro l m h
  induction h with
  | nil => intro d hd; exact ⟨d, List.Perm.refl _, hd⟩
  | cons x _ ih =>
    intro d hd
    match d, hd with
    | a :: d, hd =>
      simp at hd
      obtain ⟨d', h1, h2⟩ := ih hd.2
      exact ⟨a :: d', h1.cons a, by simp [hd.1, h2]⟩
  | swap x y l =>
    intro d hd
    match d, hd with
    | a :: b :: d, hd =>
      simp at hd
      exact ⟨b :: a :: d, List.Perm.swap _ _ _, by simp [hd]⟩
  | trans _ _ ih1 ih2 =>
    intro d hd
    obtain ⟨d1, h1, h2⟩ := ih1 hd
    obtain ⟨d2, h3, h4⟩ := ih2 h2
    exact ⟨d2, h3.trans h1, h4⟩
theorem filter_split {l : List MapEntry} (hn : (l.map (·.born)).Nodup) (p q : MapEntry → Bool) {e : MapEntry} (he : e ∈ l) (hpe : p e = true) (hq : ∀ x ∈ l, q x = (p x && !(x.born == e.born))) :
    (l.filter p).Perm (e :: l.filter q) := by
  induction l with
  | nil => simp at he
  | cons a l ih =>
    rw [List.map_cons, List.nodup_cons] at hn
    rcases List.mem_cons.1 he with rfl | he'
    · have h1 : q e = false := by rw [hq e List.mem_cons_self]; simp
      have h2 : l.filter q = l.filter p := by
        refine List.filter_congr fun x hx => ?_
        rw [hq x (List.mem_cons_of_mem _ hx)]
        have : (x.born == e.born) = false := by
          rw [beq_eq_false_iff_ne]
          exact fun e2 => hn.1 (List.mem_map.2 ⟨x, hx, e2⟩)
        simp [this]
      simp [hpe, h1, h2]
    · have ih' := ih hn.2 he' (fun x hx => hq x (List.mem_cons_of_mem _ hx))
      have h1 : q a = p a := by
        rw [hq a List.mem_cons_self]
        have : (a.born == e.born) = false := by
          rw [beq_eq_false_iff_ne]
          exact fun e2 => hn.1 (List.mem_map.2 ⟨e, he', e2.symm⟩)
        simp [this]
      rw [List.filter_cons, List.filter_cons, h1]
      split
      · exact (ih'.cons a).trans (List.Perm.swap _ _ _)
      · exact ih'
end

theorem left_split {es : Array MapEntry} {seen : Array Nat} {e : MapEntry} (hn : (es.toList.map (·.born)).Nodup) (he : e ∈ (leftOf es seen).toList) :
    (leftOf es seen).toList.Perm (e :: (leftOf es (seen.push e.born)).toList) := by
  obtain ⟨h1, h2⟩ := mem_left he
  unfold leftOf
  rw [Array.toList_filter, Array.toList_filter]
  refine filter_split hn _ _ h1 (by show (!seen.contains e.born) = true; rw [h2]; rfl) (fun x _ => ?_)
  rw [contains_push]
  cases seen.contains x.born <;> simp

/-- block m is a map, block r an iterator over it; 'done' has come (each with what was made of it), 'left' many are to come -/
def IterAt (w : World) (m r : Nat) (es : Array MapEntry) (clock : Nat) (seen : Array Nat) : Prop :=
  w.heap[m]? = some (.map es clock) ∧ ∃ c0, w.heap[r]? = some (.mapIter (some m) clock seen c0) ∧ clock ≤ c0

theorem IterAt.kept {w w' : World} {m r : Nat} {es : Array MapEntry} {clock : Nat} {seen : Array Nat} (h : IterAt w m r es clock seen) (h1 : w'.heap[m]? = w.heap[m]?) (h2 : w'.heap[r]? = w.heap[r]?) : IterAt w' m r es clock seen := by
  obtain ⟨g1, c0, g2, g3⟩ := h
  exact ⟨h1.trans g1, c0, h2.trans g2, g3⟩

theorem run_len_map {w : World} {m : Nat} {es : Array MapEntry} {clock : Nat} (h : w.heap[m]? = some (.map es clock)) (ty : TypeId) :
    (Builtin.len_ #[55] ty #[.map (some m)]).run Try.prog w = .ok (.int .i64 (es.size : Int)) w := by
  simp [Builtin.len_, run_underlying Try.underlying55, MapKept.run_getObj_map h, goInt]

/-- the iterator's step -/
theorem IterAt.next {w : World} {m r : Nat} {es : Array MapEntry} {clock : Nat} {seen : Array Nat} (h : IterAt w m r es clock seen) (hst : ∀ e ∈ es.toList, e.born < clock) (hn : (es.toList.map (·.born)).Nodup) (ty : TypeId) :
    ((leftOf es seen).toList = [] ∧ (Instr.next (.pointer (some ⟨r, 0, none⟩)) false ty).run Try.prog w = .ok (.tuple #[.bool false]) w) ∨
    ∃ e w', e ∈ es.toList ∧ (Instr.next (.pointer (some ⟨r, 0, none⟩)) false ty).run Try.prog w = .ok (.tuple #[.bool true, e.key, e.val]) w' ∧
      (Instr.entry (.pointer (some ⟨r, 0, none⟩))).run Try.prog w' = .ok (.tuple #[e.key, e.val]) w' ∧
      IterAt w' m r es clock (seen.push e.born) ∧ (leftOf es seen).toList.Perm (e :: (leftOf es (seen.push e.born)).toList) ∧
      (∀ b, b ≠ r → w'.heap[b]? = w.heap[b]?) ∧ w'.heap.size = w.heap.size ∧ w'.os = w.os ∧ w'.tape = w.tape ∧ w'.output = w.output := by
  obtain ⟨hb, c0, hr, hc⟩ := h
  have hne : m ≠ r := fun e => by rw [e, hr] at hb; cases hb
  rcases run_next_at (P := Try.prog) w ty r m clock c0 seen es clock hr hb hst hc with ⟨h0, hrun⟩ | ⟨e, he, w1, hal, hrun⟩
  · left
    refine ⟨?_, hrun⟩
    have : leftOf es seen = #[] := Array.eq_empty_of_size_eq_zero h0
    rw [this]
  · right
    obtain ⟨hem, hes⟩ := mem_left he
    have hr1 : w1.heap[r]? = some (.mapIter (some m) clock seen c0) := by rcases hal with rfl | rfl <;> exact hr
    have hb1 : w1.heap[m]? = some (.map es clock) := by rcases hal with rfl | rfl <;> exact hb
    have hlt := (Array.getElem?_eq_some_iff.1 hr1).1
    have hs1 : (setBlock w1 r (.mapIter (some m) clock (seen.push e.born) clock)).heap[r]? = some (.mapIter (some m) clock (seen.push e.born) clock) := by simp [setBlock, hlt]
    have hs2 : (setBlock w1 r (.mapIter (some m) clock (seen.push e.born) clock)).heap[m]? = some (.map es clock) := (heap_setBlock_ne hne _).trans hb1
    refine ⟨e, _, hem, hrun, run_entry_at _ r m clock seen es clock e hs1 hs2 hem hn, ⟨hs2, clock, hs1, Nat.le_refl _⟩, left_split hn he, fun b hb' => ?_, ?_, ?_, ?_, ?_⟩
    · rw [heap_setBlock_ne hb']; rcases hal with rfl | rfl <;> rfl
    · rw [size_setBlock]; rcases hal with rfl | rfl <;> rfl
    all_goals (rcases hal with rfl | rfl <;> rfl)
theorem IterAt.start {w : World} {m : Nat} {es : Array MapEntry} {clock : Nat} (h : w.heap[m]? = some (.map es clock)) : IterAt (w.alloc (.mapIter (some m) clock #[] clock)) m w.heap.size es clock #[] :=
  ⟨(Below.heap_alloc _ _ _ (Array.getElem?_eq_some_iff.1 h).1).trans h, clock, heap_new w _, Nat.le_refl _⟩
theorem left_start (es : Array MapEntry) : (leftOf es #[]).toList = es.toList := by simp [leftOf]
end Go.Proofs.Qxb6616028a
