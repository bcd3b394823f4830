/- map[string]any in memory: a store, a look-up, its length. -/
import Derived.Test.Qxb6616028aHeap
namespace Go.Proofs.Qxb6616028a
open Go.RowKit
open Go.ChangeMaps (setBlock)

/-! ### plain: insertion into a sorted list of pairs -/
section
variable {α : Type}
theorem ins_new {k : ByteArray} {v : α} : ∀ {l : List (ByteArray × α)}, (∀ p ∈ l, p.1 ≠ k) → (ins k v l).Perm ((k, v) :: l)
  | [], _ => List.Perm.refl _
  | q :: r, h => by
    unfold ins
    split
    · exact List.Perm.refl _
    · rename_i h1
      split
      · exact ((ins_new (fun p hp => h p (List.mem_cons_of_mem _ hp))).cons q).trans (List.Perm.swap _ _ _)
      · rename_i h2
        exact absurd (Decidable.byContradiction fun e => h1 (sLt_tri e (by simpa using h2))) (h q List.mem_cons_self)
theorem ins_split {k : ByteArray} {v old : α} : ∀ {l : List (ByteArray × α)}, SortedK (l.map (·.1)) → (k, old) ∈ l → ∃ X Y, l = X ++ (k, old) :: Y ∧ ins k v l = X ++ (k, v) :: Y
  | [], _, h => by simp at h
  | q :: r, hs, h => by
    obtain ⟨hq, hr⟩ := List.pairwise_cons.1 hs
    rcases List.mem_cons.1 h with rfl | h
    · refine ⟨[], r, rfl, ?_⟩
      simp [ins, sLt_irrefl]
    · have h1 : sLt q.1 k = true := hq k (List.mem_map.2 ⟨_, h, rfl⟩)
      obtain ⟨X, Y, e1, e2⟩ := ins_split (v := v) hr h
      refine ⟨q :: X, Y, by rw [e1]; rfl, ?_⟩
      rw [ins, if_neg (by rw [sLt_asymm h1]; simp), if_pos h1, e2]
      rfl
theorem mem_foldl_ins : ∀ (l m : List (ByteArray × α)), SortedK (m.map (·.1)) → ∀ p, p ∈ l.foldl (fun m p => ins p.1 p.2 m) m → p ∈ l ∨ p ∈ m
  | [], _, _, p, h => .inr h
  | q :: l, m, hs, p, h => by
    rcases mem_foldl_ins l _ (sorted_ins hs) p h with h1 | h1
    · exact .inl (List.mem_cons_of_mem _ h1)
    · rcases (mem_ins hs p).1 h1 with rfl | h2
      · exact .inl List.mem_cons_self
      · exact .inr h2.1
theorem mem_toMap {l : List (ByteArray × α)} {p : ByteArray × α} (h : p ∈ toMap l) : p ∈ l := by
  rcases mem_foldl_ins l [] List.Pairwise.nil p h with h | h
  · exact h
  · simp at h
theorem perm_swap_mid {β : Type} {A C X Y : List β} {o v : β} (h : (A ++ o :: C).Perm (X ++ o :: Y)) : (A ++ v :: C).Perm (X ++ v :: Y) := by
  have h1 : (o :: (A ++ C)).Perm (o :: (X ++ Y)) := (List.perm_middle.symm.trans h).trans List.perm_middle
  exact (List.perm_middle.trans (h1.cons_inv.cons v)).trans List.perm_middle.symm
end

/-! ### the model's search -/
theorem beq_str_self (k : ByteArray) : (k == k) = true := by rw [beq_toListBytes]; simp
theorem beq_str_ne {k s : ByteArray} (h : k ≠ s) : (k == s) = false := by rw [beq_toListBytes, beq_eq_false_iff_ne]; exact fun e => h (str_inj e)
/-- in a sorted list a key stands once -/
theorem sorted_one {α : Type} {l : List (ByteArray × α)} (hs : SortedK (l.map (·.1))) {k : ByteArray} {a b : α} (ha : (k, a) ∈ l) (hb : (k, b) ∈ l) : a = b := by
  induction l with
  | nil => simp at ha
  | cons q r ih =>
    obtain ⟨hq, hr⟩ := List.pairwise_cons.1 hs
    rcases List.mem_cons.1 ha with e1 | h1
    · rcases List.mem_cons.1 hb with e2 | h2
      · rw [← e1] at e2; cases e2; rfl
      · have := hq k (List.mem_map.2 ⟨_, h2, rfl⟩)
        rw [← e1, sLt_irrefl] at this; cases this
    · rcases List.mem_cons.1 hb with e2 | h2
      · have := hq k (List.mem_map.2 ⟨_, h1, rfl⟩)
        rw [← e2, sLt_irrefl] at this; cases this
      · exact ih hr h1 h2
theorem find_str (k : ByteArray) : ∀ (es : List MapEntry) (i0 : Nat), (∀ e ∈ es, ∃ s, e.key = .string s) →
    (Instr.findNow .string (.string k) es i0 = some none ∧ ∀ e ∈ es, e.key ≠ .string k) ∨ ∃ j e, Instr.findNow .string (.string k) es i0 = some (some (i0 + j, e.val)) ∧ es[j]? = some e ∧ e.key = .string k
  | [], i0, _ => .inl ⟨rfl, fun e h => by simp at h⟩
  | a :: es, i0, h => by
    obtain ⟨s, hs⟩ := h a List.mem_cons_self
    by_cases e : k = s
    · subst e
      exact .inr ⟨0, a, by simp [Instr.findNow, Instr.sameNow, hs, beq_str_self], rfl, hs⟩
    · have hne : (k == s) = false := beq_str_ne e
      rcases find_str k es (i0 + 1) (fun e he => h e (List.mem_cons_of_mem _ he)) with ⟨h1, h2⟩ | ⟨j, x, h1, h2, h3⟩
      · refine .inl ⟨by simp [Instr.findNow, Instr.sameNow, hs, hne, h1], fun x hx => ?_⟩
        rcases List.mem_cons.1 hx with rfl | hx
        · rw [hs]; intro e2; cases e2; exact e rfl
        · exact h2 x hx
      · exact .inr ⟨j + 1, x, by simp [Instr.findNow, Instr.sameNow, hs, hne, h1]; omega, by simpa using h2, h3⟩
theorem check_str (em : Bool) (k : ByteArray) (w : World) : (Instr.checkKey em 10000 9 (.string k)).run Try.prog w = .ok () w := by
  rw [show (10000 : Nat) = 9999 + 1 from rfl, Instr.checkKey]
  simp [run_underlying Try.underlying9]
theorem stays_str (k : ByteArray) (w : World) : (Instr.keyThatStays (.string k) (.string k)).run Try.prog w = .ok (.string k) w := by
  have : Instr.sameBits 10000 (.string k) (.string k) = true := by
    rw [show (10000 : Nat) = 9999 + 1 from rfl, Instr.sameBits]; exact beq_str_self k
  simp [Instr.keyThatStays, this]
theorem findKey_str {k : ByteArray} {es : List MapEntry} {r : Option (Nat × Value)} (h : Instr.findNow .string (.string k) es 0 = some r) (w : World) : (Instr.findKey 9 (.string k) es).run Try.prog w = .ok r w := by
  simp [Instr.findKey, run_underlying Try.underlying9, h]

section
variable {w : World} {m : Nat} {kvs : List (ByteArray × Value)}

theorem MapAt.keys (h : MapAt w m kvs) : ∃ es clock, w.heap[m]? = some (.map es clock) ∧ (es.toList.map fun e => (e.key, e.val)).Perm (kvs.map fun p => (.string p.1, p.2)) ∧ (∀ e ∈ es.toList, e.born < clock) ∧ (es.toList.map (·.born)).Nodup ∧ ∀ e ∈ es.toList, ∃ s, e.key = .string s ∧ (s, e.val) ∈ kvs := by
  obtain ⟨es, clock, h1, h2, h3, h4⟩ := h
  refine ⟨es, clock, h1, h2, h3, h4, fun e he => ?_⟩
  have := h2.mem_iff.1 (List.mem_map.2 ⟨e, he, rfl⟩)
  obtain ⟨p, hp, hq⟩ := List.mem_map.1 this
  simp only [Prod.mk.injEq] at hq
  exact ⟨p.1, hq.1.symm, by rw [← hq.2]; exact hp⟩

/-- 'm[k] = v' -/
theorem MapAt.update (h : MapAt w m kvs) (hs : SortedK (kvs.map (·.1))) (k : ByteArray) (v : Value) :
    ∃ o, (Instr.mapUpdate 55 (.map (some m)) (.string k) v).run Try.prog w = .ok () (setBlock w m o) ∧ MapAt (setBlock w m o) m (ins k v kvs) := by
  obtain ⟨es, clock, hb, hp, hst, hnd, hks⟩ := h.keys
  have hset : ∀ o, (setBlock w m o).heap[m]? = some o := fun o => by
    have := (Array.getElem?_eq_some_iff.1 hb).1
    simp [setBlock, this]
  rcases find_str k es.toList 0 (fun e he => by obtain ⟨s, h1, _⟩ := hks e he; exact ⟨s, h1⟩) with ⟨h1, h2⟩ | ⟨j, e0, h1, h2, h3⟩
  · refine ⟨.map (es.push ⟨.string k, v, clock⟩) (clock + 1), ?_, _, _, hset _, ?_, ?_, ?_⟩
    · simp [Instr.mapUpdate, run_underlying Try.underlying55, MapKept.run_getObj_map hb, check_str, findKey_str h1, MapKept.run_setObj_map _ hb, Result.andThen, setBlock]
    · have hn : ∀ p ∈ kvs, p.1 ≠ k := by
        intro p hp' e
        have := hp.mem_iff.2 (List.mem_map.2 ⟨p, hp', rfl⟩)
        obtain ⟨x, hx, hx2⟩ := List.mem_map.1 this
        simp only [Prod.mk.injEq] at hx2
        exact h2 x hx (by rw [hx2.1, e])
      rw [Array.toList_push, List.map_append]
      refine List.Perm.trans ?_ ((ins_new hn).map _).symm
      refine (List.perm_append_comm).trans ?_
      simpa using hp.cons (.string k, v)
    · intro e he
      rw [Array.toList_push] at he
      rcases List.mem_append.1 he with he | he
      · exact Nat.lt_succ_of_lt (hst e he)
      · simp at he; subst he; exact Nat.lt_succ_self _
    · rw [Array.toList_push, List.map_append, List.nodup_append]
      refine ⟨hnd, by simp, ?_⟩
      intro a ha b hb2
      obtain ⟨x, hx, rfl⟩ := List.mem_map.1 ha
      simp at hb2
      subst hb2
      have := hst x hx
      omega
  · have hj : j < es.toList.length := (List.getElem?_eq_some_iff.1 h2).1
    have hjs : j < es.size := by simpa using hj
    have hje : es[j]? = some e0 := by rw [← Array.getElem?_toList]; exact h2
    rw [Nat.zero_add] at h1
    have hmod : (es.modify j fun e => { e with key := .string k, val := v }).toList = es.toList.set j { e0 with key := .string k, val := v } := by
      apply List.ext_getElem?
      intro i
      rw [Array.getElem?_toList, Array.getElem?_modify, List.getElem?_set]
      by_cases e : j = i
      · subst e
        have : es[j] = e0 := by simpa [hjs] using hje
        simp [hjs, this]
      · simp [e]
    refine ⟨.map (es.modify j fun e => { e with key := .string k, val := v }) clock, ?_, _, _, hset _, ?_, ?_, ?_⟩
    · simp [Instr.mapUpdate, run_underlying Try.underlying55, MapKept.run_getObj_map hb, check_str, findKey_str h1, hje, h3, stays_str, MapKept.run_setObj_map _ hb, Result.andThen, setBlock]
    · rw [hmod]
      obtain ⟨s, q1, q2⟩ := hks e0 (List.mem_of_getElem? h2)
      rw [h3] at q1
      cases q1
      obtain ⟨X, Y, e1, e2⟩ := ins_split (v := v) hs q2
      rw [e2, List.map_set]
      have hsp : es.toList.map (fun e => (e.key, e.val)) = (es.toList.map (fun e => (e.key, e.val))).take j ++ (.string k, e0.val) :: (es.toList.map (fun e => (e.key, e.val))).drop (j + 1) := by
        have hj' : j < (es.toList.map (fun e => (e.key, e.val))).length := by simpa using hjs
        conv => lhs; rw [← List.take_append_drop j (es.toList.map (fun e => (e.key, e.val))), List.drop_eq_getElem_cons hj']
        congr 2
        have : es.toList[j] = e0 := (List.getElem?_eq_some_iff.1 h2).2
        simp only [List.getElem_map, this, h3]
      rw [List.set_eq_take_append_cons_drop, if_pos (by simpa using hjs), List.map_append, List.map_cons]
      rw [e1, List.map_append, List.map_cons] at hp
      rw [hsp] at hp
      exact perm_swap_mid hp
    · intro e he
      rw [hmod] at he
      rcases List.mem_or_eq_of_mem_set he with he | rfl
      · exact hst e he
      · exact hst e0 (List.mem_of_getElem? h2)
    · rw [hmod, List.map_set]
      have : (es.toList.map (·.born)).set j e0.born = es.toList.map (·.born) := by
        apply List.ext_getElem?
        intro i
        rw [List.getElem?_set]
        by_cases e : j = i
        · subst e
          have : es[j] = e0 := by simpa [hjs] using hje
          simp [hjs, this]
        · simp [e]
      simpa [this] using hnd

/-- 'm[k]' at a key that is there -/
theorem MapAt.look (h : MapAt w m kvs) (hs : SortedK (kvs.map (·.1))) {k : ByteArray} {v : Value} (hk : (k, v) ∈ kvs) :
    (Instr.lookup 55 (.map (some m)) (.string k) false).run Try.prog w = .ok v w := by
  obtain ⟨es, clock, hb, hp, hst, hnd, hks⟩ := h.keys
  rcases find_str k es.toList 0 (fun e he => by obtain ⟨s, h1, _⟩ := hks e he; exact ⟨s, h1⟩) with ⟨h1, h2⟩ | ⟨j, e0, h1, h2, h3⟩
  · have := hp.mem_iff.2 (List.mem_map.2 ⟨_, hk, rfl⟩)
    obtain ⟨x, hx, hx2⟩ := List.mem_map.1 this
    simp only [Prod.mk.injEq] at hx2
    exact absurd hx2.1 (h2 x hx)
  · obtain ⟨s, q1, q2⟩ := hks e0 (List.mem_of_getElem? h2)
    rw [h3] at q1
    cases q1
    have hev : e0.val = v := sorted_one hs q2 hk
    simp [Instr.lookup, run_underlying Try.underlying55, MapKept.run_getObj_map hb, check_str, findKey_str h1, Result.andThen, hev]

/-- 'm[k]' at a key that is not there: nil -/
theorem MapAt.look_none (h : MapAt w m kvs) {k : ByteArray} (hk : ∀ p ∈ kvs, p.1 ≠ k) :
    (Instr.lookup 55 (.map (some m)) (.string k) false).run Try.prog w = .ok .nilIface w := by
  obtain ⟨es, clock, hb, hp, hst, hnd, hks⟩ := h.keys
  have hz : (zeroValue 20).run Try.prog w = .ok .nilIface w := by kernel_rfl
  rcases find_str k es.toList 0 (fun e he => by obtain ⟨s, h1, _⟩ := hks e he; exact ⟨s, h1⟩) with ⟨h1, h2⟩ | ⟨j, e0, h1, h2, h3⟩
  · simp [Instr.lookup, run_underlying Try.underlying55, MapKept.run_getObj_map hb, check_str, findKey_str h1, Result.andThen, hz]
  · obtain ⟨s, q1, q2⟩ := hks e0 (List.mem_of_getElem? h2)
    rw [h3] at q1
    cases q1
    exact absurd rfl (hk _ q2)

theorem cell_setBlock {a : Addr} (h : a.block ≠ m) (o : Obj) : (setBlock w m o).cell? a = w.cell? a := by
  refine World.cell?_of_block ?_
  simp only [setBlock, Array.getElem?_setIfInBounds]
  rw [if_neg (fun e => h e.symm)]
theorem heap_setBlock_ne {b : Nat} (h : b ≠ m) (o : Obj) : (setBlock w m o).heap[b]? = w.heap[b]? := by
  simp only [setBlock, Array.getElem?_setIfInBounds]
  rw [if_neg (fun e => h e.symm)]
theorem size_setBlock (o : Obj) : (setBlock w m o).heap.size = w.heap.size := by simp [setBlock]
theorem below_setBlock {B : Nat} (h : B ≤ m) (o : Obj) : Below B w (setBlock w m o) := ⟨rfl, rfl, rfl, by rw [size_setBlock]; exact Nat.le_refl _, fun k hk => heap_setBlock_ne (by omega) o⟩
theorem stay_setBlock {p : Nat → Prop} (h : ¬ p m) (o : Obj) : Stay p w (setBlock w m o) := fun b hp _ => heap_setBlock_ne (b := b) (fun e => h (by rw [← e]; exact hp)) o
theorem run_makeMap55 (r : Option Value) (hr : r = none ∨ ∃ k n, r = some (.int k n)) (w : World) : (Instr.makeMap 55 r).run Try.prog w = .ok (.map (some w.heap.size)) (w.alloc (.map #[] 0)) := by
  rcases hr with rfl | ⟨k, n, rfl⟩
  · simp [Instr.makeMap, newObj, Sem.run]
  · simp [Instr.makeMap, newObj, Sem.run, run_underlying Try.underlying55, asInt, asIntOf]

theorem MapAt.made (w : World) {b : Nat} (hb : b = w.heap.size) : MapAt (w.alloc (.map #[] 0)) b [] := by
  subst hb
  exact ⟨#[], 0, heap_new w _, List.Perm.refl _, fun e he => by simp at he, by simp⟩
end
end Go.Proofs.Qxb6616028a
