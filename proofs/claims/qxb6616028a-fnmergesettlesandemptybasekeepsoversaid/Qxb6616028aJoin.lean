/- THE PLAIN LAW of a merge of two sorted lists of pairs. -/
import Derived.Test.Qxb6616028aMaps
namespace Go.Proofs.Qxb6616028a

section
variable {α : Type}
def look (k : ByteArray) : List (ByteArray × α) → Option α
  | [] => none
  | p :: l => if p.1 = k then some p.2 else look k l

/-- each pair of o laid over m by g -/
def fo (g : ByteArray × α → α) (o m : List (ByteArray × α)) : List (ByteArray × α) := o.foldl (fun m q => ins q.1 (g q) m) m

theorem fo_nil (g : ByteArray × α → α) (m : List (ByteArray × α)) : fo g [] m = m := rfl
theorem fo_cons (g : ByteArray × α → α) (q : ByteArray × α) (o m : List (ByteArray × α)) : fo g (q :: o) m = fo g o (ins q.1 (g q) m) := rfl
theorem fo_snoc (g : ByteArray × α → α) (q : ByteArray × α) (o m : List (ByteArray × α)) : fo g (o ++ [q]) m = ins q.1 (g q) (fo g o m) := by simp [fo]
theorem sorted_fo (g : ByteArray × α → α) : ∀ (o m : List (ByteArray × α)), SortedK (m.map (·.1)) → SortedK ((fo g o m).map (·.1))
  | [], _, h => h
  | q :: o, m, h => by rw [fo_cons]; exact sorted_fo g o _ (sorted_ins h)
theorem mem_fo (g : ByteArray × α → α) : ∀ (o m : List (ByteArray × α)), SortedK (m.map (·.1)) → (o.map (·.1)).Nodup → ∀ p, p ∈ fo g o m ↔ (p ∈ m ∧ ∀ q ∈ o, q.1 ≠ p.1) ∨ ∃ q ∈ o, p = (q.1, g q)
  | [], m, _, _, p => by simp [fo_nil]
  | q :: o, m, hs, hn, p => by
    rw [List.map_cons, List.nodup_cons] at hn
    rw [fo_cons, mem_fo g o _ (sorted_ins hs) hn.2, mem_ins hs]
    constructor
    · rintro (⟨rfl | ⟨h1, h2⟩, h3⟩ | ⟨r, hr, rfl⟩)
      · exact .inr ⟨q, List.mem_cons_self, rfl⟩
      · refine .inl ⟨h1, fun r hr => ?_⟩
        rcases List.mem_cons.1 hr with rfl | hr
        · exact fun e => h2 e.symm
        · exact h3 r hr
      · exact .inr ⟨r, List.mem_cons_of_mem _ hr, rfl⟩
    · rintro (⟨h1, h2⟩ | ⟨r, hr, rfl⟩)
      · exact .inl ⟨.inr ⟨h1, fun e => h2 q List.mem_cons_self e.symm⟩, fun r hr => h2 r (List.mem_cons_of_mem _ hr)⟩
      · rcases List.mem_cons.1 hr with rfl | hr
        · refine .inl ⟨.inl rfl, fun s hs' e => hn.1 (List.mem_map.2 ⟨s, hs', e⟩)⟩
        · exact .inr ⟨r, hr, rfl⟩
/-- the order in which o is laid over m does not matter -/
theorem fo_perm (g : ByteArray × α → α) {o o' m : List (ByteArray × α)} (hs : SortedK (m.map (·.1))) (hn : (o.map (·.1)).Nodup) (hp : o.Perm o') : fo g o m = fo g o' m := by
  refine sorted_ext2 (sorted_fo g o m hs) (sorted_fo g o' m hs) fun p => ?_
  rw [mem_fo g o m hs hn, mem_fo g o' m hs ((hp.map _).nodup_iff.1 hn)]
  simp only [hp.mem_iff]

theorem look_mem {k : ByteArray} {v : α} : ∀ {l : List (ByteArray × α)}, look k l = some v → (k, v) ∈ l
  | [], h => by simp [look] at h
  | p :: l, h => by
    unfold look at h
    by_cases e : p.1 = k
    · rw [if_pos e] at h
      cases h
      rw [← e]
      exact List.mem_cons_self
    · rw [if_neg e] at h
      exact List.mem_cons_of_mem _ (look_mem h)
theorem look_none {k : ByteArray} : ∀ {l : List (ByteArray × α)}, look k l = none → ∀ p ∈ l, p.1 ≠ k
  | [], _, p, h => by simp at h
  | q :: l, h, p, hp => by
    unfold look at h
    by_cases e : q.1 = k
    · rw [if_pos e] at h; cases h
    · rw [if_neg e] at h
      rcases List.mem_cons.1 hp with rfl | hp
      · exact e
      · exact look_none h p hp
theorem look_some {k : ByteArray} {v : α} {l : List (ByteArray × α)} (hs : SortedK (l.map (·.1))) (h : (k, v) ∈ l) : look k l = some v := by
  cases e : look k l with
  | none => exact absurd rfl (look_none e _ h)
  | some u => rw [sorted_one hs (look_mem e) h]
theorem look_absent {k : ByteArray} {l : List (ByteArray × α)} (h : ∀ p ∈ l, p.1 ≠ k) : look k l = none := by
  cases e : look k l with
  | none => rfl
  | some u => exact absurd rfl (h _ (look_mem e))
/-- a key that was not laid reads as in m -/
theorem look_fo (g : ByteArray × α → α) {o m : List (ByteArray × α)} (hs : SortedK (m.map (·.1))) (hn : (o.map (·.1)).Nodup) {k : ByteArray} (hk : ∀ q ∈ o, q.1 ≠ k) : look k (fo g o m) = look k m := by
  cases e : look k m with
  | none =>
    refine look_absent fun p hp => ?_
    rcases (mem_fo g o m hs hn p).1 hp with ⟨h1, _⟩ | ⟨q, hq, rfl⟩
    · exact look_none e p h1
    · exact hk q hq
  | some v => exact look_some (sorted_fo g o m hs) ((mem_fo g o m hs hn _).2 (.inl ⟨look_mem e, hk⟩))

/-- two sorted lists of pairs, joined: what stands in both by f -/
def jn (f : α → α → α) (b o : List (ByteArray × α)) : List (ByteArray × α) := fo (fun q => match look q.1 b with | none => q.2 | some u => f u q.2) o b

theorem sorted_jn (f : α → α → α) {b : List (ByteArray × α)} (hb : SortedK (b.map (·.1))) (o : List (ByteArray × α)) : SortedK ((jn f b o).map (·.1)) := sorted_fo _ o b hb
theorem mem_jn (f : α → α → α) {b o : List (ByteArray × α)} (hb : SortedK (b.map (·.1))) (ho : SortedK (o.map (·.1))) (p : ByteArray × α) :
    p ∈ jn f b o ↔ (p ∈ b ∧ ∀ q ∈ o, q.1 ≠ p.1) ∨ (p ∈ o ∧ ∀ q ∈ b, q.1 ≠ p.1) ∨ ∃ u v, (p.1, u) ∈ b ∧ (p.1, v) ∈ o ∧ p.2 = f u v := by
  unfold jn
  rw [mem_fo _ o b hb ho.nodup]
  constructor
  · rintro (h | ⟨q, hq, rfl⟩)
    · exact .inl h
    · right
      cases e : look q.1 b with
      | none => exact .inl ⟨hq, look_none e⟩
      | some u => exact .inr ⟨u, q.2, look_mem e, hq, rfl⟩
  · rintro (h | ⟨h1, h2⟩ | ⟨u, v, h1, h2, h3⟩)
    · exact .inl h
    · exact .inr ⟨p, h1, by rw [look_absent h2]⟩
    · refine .inr ⟨(p.1, v), h2, ?_⟩
      have e : look p.1 b = some u := look_some hb h1
      refine Prod.ext rfl ?_
      simp only [e]
      exact h3
theorem jn_left (f : α → α → α) {x : ByteArray × α} {b o : List (ByteArray × α)} (hb : SortedK ((x :: b).map (·.1))) (ho : SortedK (o.map (·.1))) (hx : ∀ y ∈ o, sLt x.1 y.1 = true) : jn f (x :: b) o = x :: jn f b o := by
  obtain ⟨h1, h2⟩ := List.pairwise_cons.1 hb
  have hlt : ∀ p ∈ jn f b o, sLt x.1 p.1 = true := by
    intro p hp
    rcases (mem_jn f h2 ho p).1 hp with ⟨q, _⟩ | ⟨q, _⟩ | ⟨u, v, q, _⟩
    · exact h1 p.1 (List.mem_map.2 ⟨p, q, rfl⟩)
    · exact hx p q
    · exact h1 p.1 (List.mem_map.2 ⟨_, q, rfl⟩)
  refine sorted_ext2 (sorted_jn f hb o) ?_ fun p => ?_
  · rw [List.map_cons]
    refine List.pairwise_cons.2 ⟨fun k hk => ?_, sorted_jn f h2 o⟩
    obtain ⟨p, hp, rfl⟩ := List.mem_map.1 hk
    exact hlt p hp
  · refine (mem_jn f hb ho p).trans (Iff.trans ?_ List.mem_cons.symm)
    rw [mem_jn f h2 ho]
    constructor
    · rintro (⟨q1, q2⟩ | ⟨q1, q2⟩ | ⟨u, v, q1, q2, q3⟩)
      · rcases List.mem_cons.1 q1 with rfl | q1
        · exact .inl rfl
        · exact .inr (.inl ⟨q1, q2⟩)
      · exact .inr (.inr (.inl ⟨q1, fun q hq => q2 q (List.mem_cons_of_mem _ hq)⟩))
      · rcases List.mem_cons.1 q1 with e | q1
        · have := hx _ q2
          rw [← e, sLt_irrefl] at this; cases this
        · exact .inr (.inr (.inr ⟨u, v, q1, q2, q3⟩))
    · rintro (rfl | ⟨q1, q2⟩ | ⟨q1, q2⟩ | ⟨u, v, q1, q2, q3⟩)
      · exact .inl ⟨List.mem_cons_self, fun q hq => (sLt_ne (hx q hq)).symm⟩
      · exact .inl ⟨List.mem_cons_of_mem _ q1, q2⟩
      · refine .inr (.inl ⟨q1, fun q hq => ?_⟩)
        rcases List.mem_cons.1 hq with rfl | hq
        · exact sLt_ne (hx p q1)
        · exact q2 q hq
      · exact .inr (.inr ⟨u, v, List.mem_cons_of_mem _ q1, q2, q3⟩)
theorem jn_right (f : α → α → α) {y : ByteArray × α} {b o : List (ByteArray × α)} (hb : SortedK (b.map (·.1))) (ho : SortedK ((y :: o).map (·.1))) (hy : ∀ x ∈ b, sLt y.1 x.1 = true) : jn f b (y :: o) = y :: jn f b o := by
  obtain ⟨h1, h2⟩ := List.pairwise_cons.1 ho
  have hlt : ∀ p ∈ jn f b o, sLt y.1 p.1 = true := by
    intro p hp
    rcases (mem_jn f hb h2 p).1 hp with ⟨q, _⟩ | ⟨q, _⟩ | ⟨u, v, q, _⟩
    · exact hy p q
    · exact h1 p.1 (List.mem_map.2 ⟨p, q, rfl⟩)
    · exact hy (p.1, u) q
  refine sorted_ext2 (sorted_jn f hb _) ?_ fun p => ?_
  · rw [List.map_cons]
    refine List.pairwise_cons.2 ⟨fun k hk => ?_, sorted_jn f hb o⟩
    obtain ⟨p, hp, rfl⟩ := List.mem_map.1 hk
    exact hlt p hp
  · refine (mem_jn f hb ho p).trans (Iff.trans ?_ List.mem_cons.symm)
    rw [mem_jn f hb h2]
    constructor
    · rintro (⟨q1, q2⟩ | ⟨q1, q2⟩ | ⟨u, v, q1, q2, q3⟩)
      · exact .inr (.inl ⟨q1, fun q hq => q2 q (List.mem_cons_of_mem _ hq)⟩)
      · rcases List.mem_cons.1 q1 with rfl | q1
        · exact .inl rfl
        · exact .inr (.inr (.inl ⟨q1, q2⟩))
      · rcases List.mem_cons.1 q2 with e | q2
        · have := hy _ q1
          rw [← e, sLt_irrefl] at this; cases this
        · exact .inr (.inr (.inr ⟨u, v, q1, q2, q3⟩))
    · rintro (rfl | ⟨q1, q2⟩ | ⟨q1, q2⟩ | ⟨u, v, q1, q2, q3⟩)
      · exact .inr (.inl ⟨List.mem_cons_self, fun q hq => (sLt_ne (hy q hq)).symm⟩)
      · refine .inl ⟨q1, fun q hq => ?_⟩
        rcases List.mem_cons.1 hq with rfl | hq
        · exact sLt_ne (hy p q1)
        · exact q2 q hq
      · exact .inr (.inl ⟨List.mem_cons_of_mem _ q1, q2⟩)
      · exact .inr (.inr ⟨u, v, q1, List.mem_cons_of_mem _ q2, q3⟩)
theorem jn_both (f : α → α → α) {k : ByteArray} {u v : α} {b o : List (ByteArray × α)} (hb : SortedK (((k, u) :: b).map (·.1))) (ho : SortedK (((k, v) :: o).map (·.1))) : jn f ((k, u) :: b) ((k, v) :: o) = (k, f u v) :: jn f b o := by
  obtain ⟨h1, h2⟩ := List.pairwise_cons.1 hb
  obtain ⟨g1, g2⟩ := List.pairwise_cons.1 ho
  have n1 : ∀ p ∈ b, sLt k p.1 = true := fun p hp => h1 p.1 (List.mem_map.2 ⟨p, hp, rfl⟩)
  have n2 : ∀ p ∈ o, sLt k p.1 = true := fun p hp => g1 p.1 (List.mem_map.2 ⟨p, hp, rfl⟩)
  have hlt : ∀ p ∈ jn f b o, sLt k p.1 = true := by
    intro p hp
    rcases (mem_jn f h2 g2 p).1 hp with ⟨q, _⟩ | ⟨q, _⟩ | ⟨u', _, q, _⟩
    · exact n1 p q
    · exact n2 p q
    · exact n1 (p.1, u') q
  refine sorted_ext2 (sorted_jn f hb _) ?_ fun p => ?_
  · rw [List.map_cons]
    refine List.pairwise_cons.2 ⟨fun k' hk => ?_, sorted_jn f h2 o⟩
    obtain ⟨p, hp, rfl⟩ := List.mem_map.1 hk
    exact hlt p hp
  · refine (mem_jn f hb ho p).trans (Iff.trans ?_ List.mem_cons.symm)
    rw [mem_jn f h2 g2]
    constructor
    · rintro (⟨q1, q2⟩ | ⟨q1, q2⟩ | ⟨u', v', q1, q2, q3⟩)
      · rcases List.mem_cons.1 q1 with rfl | q1
        · exact absurd rfl (q2 (k, v) List.mem_cons_self)
        · exact .inr (.inl ⟨q1, fun q hq => q2 q (List.mem_cons_of_mem _ hq)⟩)
      · rcases List.mem_cons.1 q1 with rfl | q1
        · exact absurd rfl (q2 (k, u) List.mem_cons_self)
        · exact .inr (.inr (.inl ⟨q1, fun q hq => q2 q (List.mem_cons_of_mem _ hq)⟩))
      · rcases List.mem_cons.1 q1 with e | q1
        · rcases List.mem_cons.1 q2 with e' | q2
          · left
            simp only [Prod.mk.injEq] at e e'
            rw [e.2, e'.2] at q3
            exact Prod.ext e.1 q3
          · have := n2 _ q2
            simp only [Prod.mk.injEq] at e
            rw [e.1, sLt_irrefl] at this; cases this
        · rcases List.mem_cons.1 q2 with e' | q2
          · have := n1 _ q1
            simp only [Prod.mk.injEq] at e'
            rw [e'.1, sLt_irrefl] at this; cases this
          · exact .inr (.inr (.inr ⟨u', v', q1, q2, q3⟩))
    · rintro (rfl | ⟨q1, q2⟩ | ⟨q1, q2⟩ | ⟨u', v', q1, q2, q3⟩)
      · exact .inr (.inr ⟨u, v, List.mem_cons_self, List.mem_cons_self, rfl⟩)
      · refine .inl ⟨List.mem_cons_of_mem _ q1, fun q hq => ?_⟩
        rcases List.mem_cons.1 hq with rfl | hq
        · exact sLt_ne (n1 p q1)
        · exact q2 q hq
      · refine .inr (.inl ⟨List.mem_cons_of_mem _ q1, fun q hq => ?_⟩)
        rcases List.mem_cons.1 hq with rfl | hq
        · exact sLt_ne (n2 p q1)
        · exact q2 q hq
      · exact .inr (.inr ⟨u', v', List.mem_cons_of_mem _ q1, List.mem_cons_of_mem _ q2, q3⟩)
theorem jn_nil (f : α → α → α) (b : List (ByteArray × α)) : jn f b [] = b := rfl
end

/-- the merge of two trees in normal form -/
def mergeT : (n : Nat) → Tr n → Tr n → Tr n
  | 0, b, _ => b
  | n + 1, b, o =>
    let b : Node (Tr n) := b
    let o : Node (Tr n) := o
    if b.kind = 4 ∧ o.kind = 4 then
      (⟨4, false, ByteArray.empty, (jn (mergeT n) (b.keys.zip b.kids) (o.keys.zip o.kids)).map (·.1), (jn (mergeT n) (b.keys.zip b.kids) (o.keys.zip o.kids)).map (·.2)⟩ : Node (Tr n))
    else o
end Go.Proofs.Qxb6616028a
