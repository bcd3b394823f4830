/- THE PLAIN LAW of trees in normal form: norm, swapM and mergeT on them. -/
import Derived.Test.Qxb6616028aModel
namespace Go.Proofs.Qxb6616028a

def NF : (n : Nat) → Tr n → Prop
  | 0, _ => False
  | n + 1, t =>
    let t : Node (Tr n) := t
    t = leaf 0 false ByteArray.empty ∨ (∃ b, t = leaf 1 b ByteArray.empty) ∨ (∃ s, t = leaf 2 false s) ∨ (∃ s, t = leaf 3 false s) ∨
    (∃ kvs : List (ByteArray × Tr n), SortedK (kvs.map (·.1)) ∧ t = ⟨4, false, ByteArray.empty, kvs.map (·.1), kvs.map (·.2)⟩ ∧ ∀ q ∈ kvs, NF n q.2) ∨
    (∃ kids : List (Tr n), t = ⟨5, false, ByteArray.empty, [], kids⟩ ∧ ∀ k ∈ kids, NF n k)

theorem norm_succ (n : Nat) (t : Node (Tr n)) : norm (n + 1) t = (if t.kind = 1 then leaf 1 t.flag ByteArray.empty
      else if t.kind = 2 ∨ t.kind = 3 then leaf t.kind false t.text
      else if t.kind = 4 then
        ⟨4, false, ByteArray.empty, (toMap (t.keys.zip (t.kids.map (norm n)))).map (·.1), (toMap (t.keys.zip (t.kids.map (norm n)))).map (·.2)⟩
      else if t.kind = 5 then ⟨5, false, ByteArray.empty, [], t.kids.map (norm n)⟩
      else leaf 0 false ByteArray.empty : Node (Tr n)) := rfl
theorem swapM_succ (n : Nat) (t : Node (Tr n)) : swapM (n + 1) t = (if t.kind = 1 then leaf 1 (!t.flag) ByteArray.empty
      else if t.kind = 2 then leaf 3 false t.text
      else if t.kind = 3 then leaf 2 false t.text
      else if t.kind = 4 ∨ t.kind = 5 then ⟨t.kind, false, ByteArray.empty, t.keys, t.kids.map (swapM n)⟩
      else leaf 0 false ByteArray.empty : Node (Tr n)) := rfl

theorem toMap_sorted {α : Type} {l : List (ByteArray × α)} (h : SortedK (l.map (·.1))) : toMap l = l := by
  refine sorted_ext2 (sorted_toMap l) h fun p => ?_
  have := mem_fo (fun q : ByteArray × α => q.2) l [] List.Pairwise.nil h.nodup p
  refine this.trans ?_
  constructor
  · rintro (⟨h1, _⟩ | ⟨q, hq, rfl⟩)
    · simp at h1
    · exact hq
  · intro hp; exact .inr ⟨p, hp, rfl⟩

theorem zip_maps {α β : Type} (f : α → β) (l : List (ByteArray × α)) : (l.map (·.1)).zip ((l.map (·.2)).map f) = l.map (fun p => (p.1, f p.2)) := by
  induction l with
  | nil => rfl
  | cons p l ih => simp only [List.map_cons, List.zip_cons_cons, ih]
theorem zip_self {α : Type} (l : List (ByteArray × α)) : (l.map (·.1)).zip (l.map (·.2)) = l := by
  induction l with
  | nil => rfl
  | cons p l ih => simp only [List.map_cons, List.zip_cons_cons, ih]
theorem map_id_on {α : Type} {f : α → α} : ∀ {l : List α}, (∀ x ∈ l, f x = x) → l.map f = l
  | [], _ => rfl
  | x :: l, h => by rw [List.map_cons, h x List.mem_cons_self, map_id_on fun y hy => h y (List.mem_cons_of_mem _ hy)]

theorem norm_nf : ∀ (n : Nat) (t : Tr n), Deep n t → NF n (norm n t)
  | 0, _, h => h.elim
  | n + 1, t, h => by
    have hkids : ∀ k ∈ (Node.kids t).map (norm n), NF n k := by
      intro k hk
      obtain ⟨y, hy, rfl⟩ := List.mem_map.1 hk
      exact norm_nf n y (h y hy)
    refine (norm_succ n t) ▸ ?_
    by_cases h1 : Node.kind t = 1
    · rw [if_pos h1]; exact .inr (.inl ⟨_, rfl⟩)
    rw [if_neg h1]
    by_cases h2 : Node.kind t = 2 ∨ Node.kind t = 3
    · rw [if_pos h2]
      rcases h2 with h2 | h2
      · rw [h2]; exact .inr (.inr (.inl ⟨_, rfl⟩))
      · rw [h2]; exact .inr (.inr (.inr (.inl ⟨_, rfl⟩)))
    rw [if_neg h2]
    by_cases h3 : Node.kind t = 4
    · rw [if_pos h3]
      exact .inr (.inr (.inr (.inr (.inl ⟨_, sorted_toMap _, rfl, fun q hq => hkids q.2 (List.of_mem_zip (mem_toMap hq)).2⟩))))
    rw [if_neg h3]
    by_cases h4 : Node.kind t = 5
    · rw [if_pos h4]; exact .inr (.inr (.inr (.inr (.inr ⟨_, rfl, hkids⟩))))
    rw [if_neg h4]; exact .inl rfl

theorem nf_norm : ∀ (n : Nat) (t : Tr n), NF n t → norm n t = t
  | 0, _, h => h.elim
  | n + 1, t, h => by
    rcases h with h | ⟨b, h⟩ | ⟨s, h⟩ | ⟨s, h⟩ | ⟨kvs, hs, h, hk⟩ | ⟨kids, h, hk⟩ <;> obtain rfl := h
    · rfl
    · rfl
    · rfl
    · rfl
    · have e : (kvs.map (·.2)).map (norm n) = kvs.map (·.2) := map_id_on fun x hx => by
        obtain ⟨q, hq, rfl⟩ := List.mem_map.1 hx
        exact nf_norm n q.2 (hk q hq)
      have e1 : (toMap ((kvs.map (·.1)).zip ((kvs.map (·.2)).map (norm n)))) = kvs := by rw [e, zip_self, toMap_sorted hs]
      have e2 : (⟨4, false, ByteArray.empty, (toMap ((kvs.map (·.1)).zip ((kvs.map (·.2)).map (norm n)))).map (·.1), (toMap ((kvs.map (·.1)).zip ((kvs.map (·.2)).map (norm n)))).map (·.2)⟩ : Node (Tr n)) = ⟨4, false, ByteArray.empty, kvs.map (·.1), kvs.map (·.2)⟩ := by rw [e1]
      exact e2
    · have e : kids.map (norm n) = kids := map_id_on fun x hx => nf_norm n x (hk x hx)
      have e2 : (⟨5, false, ByteArray.empty, [], kids.map (norm n)⟩ : Node (Tr n)) = ⟨5, false, ByteArray.empty, [], kids⟩ := by rw [e]
      exact e2

theorem nf_swap : ∀ (n : Nat) (t : Tr n), NF n t → NF n (swapM n t)
  | 0, _, h => h.elim
  | n + 1, t, h => by
    rcases h with h | ⟨b, h⟩ | ⟨s, h⟩ | ⟨s, h⟩ | ⟨kvs, hs, h, hk⟩ | ⟨kids, h, hk⟩ <;> obtain rfl := h
    · exact .inl rfl
    · exact .inr (.inl ⟨_, rfl⟩)
    · exact .inr (.inr (.inr (.inl ⟨_, rfl⟩)))
    · exact .inr (.inr (.inl ⟨_, rfl⟩))
    · refine .inr (.inr (.inr (.inr (.inl ⟨kvs.map (fun p => (p.1, swapM n p.2)), ?_, ?_, ?_⟩))))
      · rw [List.map_map]; exact hs
      · have e2 : (⟨4, false, ByteArray.empty, kvs.map (·.1), (kvs.map (·.2)).map (swapM n)⟩ : Node (Tr n)) = ⟨4, false, ByteArray.empty, (kvs.map (fun p => (p.1, swapM n p.2))).map (·.1), (kvs.map (fun p => (p.1, swapM n p.2))).map (·.2)⟩ := by simp only [List.map_map]; rfl
        exact e2
      · intro q hq
        obtain ⟨r, hr, rfl⟩ := List.mem_map.1 hq
        exact nf_swap n r.2 (hk r hr)
    · refine .inr (.inr (.inr (.inr (.inr ⟨kids.map (swapM n), rfl, fun k hk' => ?_⟩))))
      obtain ⟨r, hr, rfl⟩ := List.mem_map.1 hk'
      exact nf_swap n r (hk r hr)

theorem swap_swap : ∀ (n : Nat) (t : Tr n), NF n t → swapM n (swapM n t) = t
  | 0, _, h => h.elim
  | n + 1, t, h => by
    rcases h with h | ⟨b, h⟩ | ⟨s, h⟩ | ⟨s, h⟩ | ⟨kvs, hs, h, hk⟩ | ⟨kids, h, hk⟩ <;> obtain rfl := h
    · rfl
    · cases b <;> rfl
    · rfl
    · rfl
    · have e1 : swapM (n + 1) (⟨4, false, ByteArray.empty, kvs.map (·.1), kvs.map (·.2)⟩ : Node (Tr n)) = (⟨4, false, ByteArray.empty, kvs.map (·.1), (kvs.map (·.2)).map (swapM n)⟩ : Node (Tr n)) := rfl
      have e2 : swapM (n + 1) (⟨4, false, ByteArray.empty, kvs.map (·.1), (kvs.map (·.2)).map (swapM n)⟩ : Node (Tr n)) = (⟨4, false, ByteArray.empty, kvs.map (·.1), ((kvs.map (·.2)).map (swapM n)).map (swapM n)⟩ : Node (Tr n)) := rfl
      refine (congrArg (swapM (n + 1)) e1).trans (e2.trans ?_)
      have e : ((kvs.map (·.2)).map (swapM n)).map (swapM n) = kvs.map (·.2) := by
        rw [List.map_map]
        exact map_id_on fun x hx => by
          obtain ⟨q, hq, rfl⟩ := List.mem_map.1 hx
          exact swap_swap n q.2 (hk q hq)
      rw [e]
    · have e1 : swapM (n + 1) (⟨5, false, ByteArray.empty, [], kids⟩ : Node (Tr n)) = (⟨5, false, ByteArray.empty, [], kids.map (swapM n)⟩ : Node (Tr n)) := rfl
      have e2 : swapM (n + 1) (⟨5, false, ByteArray.empty, [], kids.map (swapM n)⟩ : Node (Tr n)) = (⟨5, false, ByteArray.empty, [], (kids.map (swapM n)).map (swapM n)⟩ : Node (Tr n)) := rfl
      refine (congrArg (swapM (n + 1)) e1).trans (e2.trans ?_)
      have e : (kids.map (swapM n)).map (swapM n) = kids := by
        rw [List.map_map]
        exact map_id_on fun x hx => swap_swap n x (hk x hx)
      rw [e]

/-- a mapping, by its pairs -/
def mapping {n : Nat} (kvs : List (ByteArray × Tr n)) : Node (Tr n) := ⟨4, false, ByteArray.empty, kvs.map (·.1), kvs.map (·.2)⟩

theorem merge_mappings {n : Nat} (b o : List (ByteArray × Tr n)) : mergeT (n + 1) (mapping b) (mapping o) = mapping (jn (mergeT n) b o) := by
  have e : (⟨4, false, ByteArray.empty, (jn (mergeT n) ((b.map (·.1)).zip (b.map (·.2))) ((o.map (·.1)).zip (o.map (·.2)))).map (·.1), (jn (mergeT n) ((b.map (·.1)).zip (b.map (·.2))) ((o.map (·.1)).zip (o.map (·.2)))).map (·.2)⟩ : Node (Tr n)) = mapping (jn (mergeT n) b o) := by rw [zip_self, zip_self]; rfl
  exact e
theorem nf_cases {n : Nat} {t : Tr (n + 1)} (h : NF (n + 1) t) : Node.kind t ≠ 4 ∨ ∃ kvs : List (ByteArray × Tr n), SortedK (kvs.map (·.1)) ∧ t = mapping kvs ∧ ∀ q ∈ kvs, NF n q.2 := by
  rcases h with h | ⟨b, h⟩ | ⟨s, h⟩ | ⟨s, h⟩ | ⟨kvs, hs, h, hk⟩ | ⟨kids, h, hk⟩ <;> obtain rfl := h
  · exact .inl (by decide : (0 : Int) ≠ 4)
  · exact .inl (by decide : (1 : Int) ≠ 4)
  · exact .inl (by decide : (2 : Int) ≠ 4)
  · exact .inl (by decide : (3 : Int) ≠ 4)
  · exact .inr ⟨kvs, hs, rfl, hk⟩
  · exact .inl (by decide : (5 : Int) ≠ 4)
theorem merge_over {n : Nat} {b o : Tr (n + 1)} (h : ¬ (Node.kind b = 4 ∧ Node.kind o = 4)) : mergeT (n + 1) b o = o := (mergeT_succ n b o).trans (if_neg h)

theorem nf_merge : ∀ (n : Nat) (b o : Tr n), NF n b → NF n o → NF n (mergeT n b o)
  | 0, _, _, h, _ => h.elim
  | n + 1, b, o, hb, ho => by
    rcases nf_cases hb with h1 | ⟨kb, sb, rfl, gb⟩
    · exact (merge_over fun h => h1 h.1).symm ▸ ho
    rcases nf_cases ho with h1 | ⟨ko, so, rfl, go⟩
    · exact (merge_over fun h => h1 h.2).symm ▸ ho
    refine (merge_mappings kb ko).symm ▸ ?_
    refine .inr (.inr (.inr (.inr (.inl ⟨_, sorted_jn _ sb ko, rfl, fun q hq => ?_⟩))))
    rcases (mem_jn _ sb so q).1 hq with ⟨h, _⟩ | ⟨h, _⟩ | ⟨u, v, h1, h2, h3⟩
    · exact gb q h
    · exact go q h
    · rw [h3]; exact nf_merge n u v (gb _ h1) (go _ h2)

theorem merge_self : ∀ (n : Nat) (b : Tr n), NF n b → mergeT n b b = b
  | 0, _, h => h.elim
  | n + 1, b, hb => by
    rcases nf_cases hb with h1 | ⟨kb, sb, rfl, gb⟩
    · exact merge_over fun h => h1 h.1
    refine (merge_mappings kb kb).trans ?_
    have e : jn (mergeT n) kb kb = kb := by
      refine sorted_ext2 (sorted_jn _ sb kb) sb fun p => ?_
      rw [mem_jn _ sb sb]
      constructor
      · rintro (⟨h, _⟩ | ⟨h, _⟩ | ⟨u, v, h1, h2, h3⟩)
        · exact h
        · exact h
        · obtain rfl := sorted_one sb h1 h2
          rw [merge_self n u (gb _ h1)] at h3
          have e : p = (p.1, u) := Prod.ext rfl h3
          rw [e]; exact h1
      · intro hp
        exact .inr (.inr ⟨p.2, p.2, hp, hp, (merge_self n p.2 (gb p hp)).symm⟩)
    rw [e]

/-- a merge settles -/
theorem merge_settles : ∀ (n : Nat) (b o : Tr n), NF n b → NF n o → mergeT n (mergeT n b o) o = mergeT n b o
  | 0, _, _, h, _ => h.elim
  | n + 1, b, o, hb, ho => by
    rcases nf_cases hb with h1 | ⟨kb, sb, rfl, gb⟩
    · have e : mergeT (n + 1) b o = o := merge_over fun h => h1 h.1
      rw [e]; exact merge_self (n + 1) o ho
    rcases nf_cases ho with h1 | ⟨ko, so, rfl, go⟩
    · have e : mergeT (n + 1) (mapping kb) o = o := merge_over fun h => h1 h.2
      rw [e]; exact merge_over fun h => h1 h.2
    have e0 := merge_mappings kb ko
    rw [e0]
    refine (merge_mappings _ ko).trans ?_
    have sj := sorted_jn (mergeT n) sb ko
    have e : jn (mergeT n) (jn (mergeT n) kb ko) ko = jn (mergeT n) kb ko := by
      refine sorted_ext2 (sorted_jn _ sj ko) sj fun p => ?_
      rw [mem_jn _ sj so]
      constructor
      · rintro (⟨h, _⟩ | ⟨h, h'⟩ | ⟨u, v, h1, h2, h3⟩)
        · exact h
        · -- a key of o stands in the join
          exfalso
          have : ∃ q ∈ jn (mergeT n) kb ko, q.1 = p.1 := by
            by_cases hc : ∃ q ∈ kb, q.1 = p.1
            · obtain ⟨q, hq, e⟩ := hc
              exact ⟨(p.1, mergeT n q.2 p.2), (mem_jn _ sb so _).2 (.inr (.inr ⟨q.2, p.2, by rw [← e]; exact hq, h, rfl⟩)), rfl⟩
            · exact ⟨p, (mem_jn _ sb so _).2 (.inr (.inl ⟨h, fun q hq e => hc ⟨q, hq, e⟩⟩)), rfl⟩
          obtain ⟨q, hq, e⟩ := this
          exact h' q hq e
        · have hu : mergeT n u v = u := by
            rcases (mem_jn _ sb so _).1 h1 with ⟨_, g⟩ | ⟨g, _⟩ | ⟨x, y, g1, g2, g3⟩
            · exact absurd rfl (g (p.1, v) h2)
            · obtain rfl := sorted_one so g h2
              exact merge_self n u (go _ g)
            · have g3' : u = mergeT n x y := g3
              obtain rfl := sorted_one so g2 h2
              rw [g3']
              exact merge_settles n x y (gb _ g1) (go _ g2)
          rw [hu] at h3
          have e : p = (p.1, u) := Prod.ext rfl h3
          rw [e]; exact h1
      · intro hp
        by_cases hc : ∃ q ∈ ko, q.1 = p.1
        · obtain ⟨q, hq, e⟩ := hc
          refine .inr (.inr ⟨p.2, q.2, hp, by rw [← e]; exact hq, ?_⟩)
          have hq' : (p.1, q.2) ∈ ko := by rw [← e]; exact hq
          rcases (mem_jn _ sb so _).1 hp with ⟨_, g⟩ | ⟨g, _⟩ | ⟨x, y, g1, g2, g3⟩
          · exact absurd e (g _ hq)
          · have e2 := sorted_one so g hq'
            rw [← e2]; exact (merge_self n p.2 (go _ g)).symm
          · have e2 := sorted_one so g2 hq'
            subst e2
            rw [g3]
            exact (merge_settles n x _ (gb _ g1) (go _ g2)).symm
        · exact .inl ⟨hp, fun q hq e => hc ⟨q, hq, e⟩⟩
    rw [e]

/-- the empty mapping below keeps what is above -/
theorem merge_empty {n : Nat} {o : Tr (n + 1)} (ho : NF (n + 1) o) : mergeT (n + 1) (mapping []) o = o := by
  rcases nf_cases ho with h1 | ⟨ko, so, rfl, go⟩
  · exact merge_over fun h => h1 h.2
  · refine (merge_mappings [] ko).trans ?_
    have e : jn (mergeT n) [] ko = ko := by
      have hnil : SortedK (([] : List (ByteArray × Tr n)).map (·.1)) := List.Pairwise.nil
      refine sorted_ext2 (sorted_jn _ hnil ko) so fun p => ?_
      rw [mem_jn _ hnil so]
      simp
    rw [e]

/-- the keys of a join hang on the keys alone -/
theorem jn_keys {α : Type} (f : α → α → α) {b o : List (ByteArray × α)} (hb : SortedK (b.map (·.1))) (ho : SortedK (o.map (·.1))) :
    ∀ k, k ∈ (jn f b o).map (·.1) ↔ k ∈ b.map (·.1) ∨ k ∈ o.map (·.1) := by
  intro k
  constructor
  · intro h
    obtain ⟨p, hp, rfl⟩ := List.mem_map.1 h
    rcases (mem_jn f hb ho p).1 hp with ⟨g, _⟩ | ⟨g, _⟩ | ⟨u, v, g, _⟩
    · exact .inl (List.mem_map.2 ⟨p, g, rfl⟩)
    · exact .inr (List.mem_map.2 ⟨p, g, rfl⟩)
    · exact .inl (List.mem_map.2 ⟨_, g, rfl⟩)
  · intro h
    by_cases h1 : ∃ q ∈ b, q.1 = k
    · obtain ⟨q, hq, rfl⟩ := h1
      by_cases h2 : ∃ r ∈ o, r.1 = q.1
      · obtain ⟨r, hr, e⟩ := h2
        exact List.mem_map.2 ⟨(q.1, f q.2 r.2), (mem_jn f hb ho _).2 (.inr (.inr ⟨q.2, r.2, hq, by rw [← e]; exact hr, rfl⟩)), rfl⟩
      · exact List.mem_map.2 ⟨q, (mem_jn f hb ho _).2 (.inl ⟨hq, fun r hr e => h2 ⟨r, hr, e⟩⟩), rfl⟩
    · rcases h with h | h
      · obtain ⟨q, hq, e⟩ := List.mem_map.1 h
        exact absurd ⟨q, hq, e⟩ h1
      · obtain ⟨q, hq, rfl⟩ := List.mem_map.1 h
        exact List.mem_map.2 ⟨q, (mem_jn f hb ho _).2 (.inr (.inl ⟨hq, fun r hr e => h1 ⟨r, hr, e⟩⟩)), rfl⟩
end Go.Proofs.Qxb6616028a
