/- PLAIN MATHEMATICS: trees by depth, the order of strings, sorted lists of pairs, a merge sort on indices. No program in sight. -/
import Derived.Laws.Strings
import Derived.Laws.StructEq
namespace Go.Proofs.Qxb6616028a

/-- either side turned -/
theorem or_turn {a b c d : Prop} (h : a ∨ b) (f : a → c) (g : b → d) : c ∨ d := by
  rcases h with h | h
  · exact .inl (f h)
  · exact .inr (g h)

/-! ### the order of strings -/
def sLt (a b : ByteArray) : Bool := Op.bytesLess a.toList b.toList

theorem bl_irrefl : ∀ l : List UInt8, Op.bytesLess l l = false
  | [] => by simp [Op.bytesLess]
  | a :: x => by simp [Op.bytesLess, bl_irrefl x]
theorem bl_trans : ∀ a b c : List UInt8, Op.bytesLess a b = true → Op.bytesLess b c = true → Op.bytesLess a c = true
  | _, [], _ => by simp [Op.bytesLess]
  | _, _ :: _, [] => by simp [Op.bytesLess]
  | [], _ :: _, _ :: _ => by simp [Op.bytesLess]
  | a :: x, b :: y, c :: z => by
    have ih := bl_trans x y z
    simp only [Op.bytesLess, Bool.or_eq_true, Bool.and_eq_true, decide_eq_true_eq, beq_iff_eq]
    rintro (h1 | ⟨rfl, h1⟩) (h2 | ⟨rfl, h2⟩)
    · exact .inl (by rw [UInt8.lt_iff_toNat_lt] at *; omega)
    · exact .inl h1
    · exact .inl h2
    · exact .inr ⟨rfl, ih h1 h2⟩
theorem bl_tri : ∀ a b : List UInt8, a ≠ b → Op.bytesLess a b = false → Op.bytesLess b a = true
  | [], [], h, _ => absurd rfl h
  | _ :: _, [], _, _ => by simp [Op.bytesLess]
  | [], _ :: _, _, h => by simp [Op.bytesLess] at h
  | a :: x, b :: y, h, h2 => by
    simp only [Op.bytesLess, Bool.or_eq_false_iff, Bool.and_eq_false_iff, decide_eq_false_iff_not, beq_eq_false_iff_ne] at h2
    simp only [Op.bytesLess, Bool.or_eq_true, Bool.and_eq_true, decide_eq_true_eq, beq_iff_eq]
    obtain ⟨h3, h4⟩ := h2
    by_cases e : a = b
    · subst e
      right
      refine ⟨rfl, bl_tri x y (fun e => h (by rw [e])) ?_⟩
      rcases h4 with h4 | h4
      · exact absurd rfl h4
      · exact h4
    · left
      rw [UInt8.lt_iff_toNat_lt] at *
      have : a.toNat ≠ b.toNat := fun e2 => e (UInt8.toNat_inj.1 e2)
      omega

theorem str_inj {a b : ByteArray} (h : a.toList = b.toList) : a = b := by
  rw [ByteArray.toList_eq, ByteArray.toList_eq] at h
  exact ByteArray.ext (Array.toList_inj.1 h)
theorem sLt_irrefl (a : ByteArray) : sLt a a = false := bl_irrefl _
theorem sLt_trans {a b c : ByteArray} (h : sLt a b = true) (k : sLt b c = true) : sLt a c = true := bl_trans _ _ _ h k
theorem sLt_tri {a b : ByteArray} (h : a ≠ b) (k : sLt a b = false) : sLt b a = true := bl_tri _ _ (fun e => h (str_inj e)) k
theorem sLt_asymm {a b : ByteArray} (h : sLt a b = true) : sLt b a = false := by
  cases k : sLt b a
  · rfl
  · have := sLt_trans h k; rw [sLt_irrefl] at this; cases this
theorem sLt_ne {a b : ByteArray} (h : sLt a b = true) : a ≠ b := by
  rintro rfl; rw [sLt_irrefl] at h; cases h

/-! ### strictly sorted lists of pairs -/
section
variable {α β : Type}

def SortedK (l : List ByteArray) : Prop := l.Pairwise (fun a b => sLt a b = true)

def ins (k : ByteArray) (v : α) : List (ByteArray × α) → List (ByteArray × α)
  | [] => [(k, v)]
  | p :: r => if sLt k p.1 then (k, v) :: p :: r else if sLt p.1 k then p :: ins k v r else (k, v) :: r

def toMap (l : List (ByteArray × α)) : List (ByteArray × α) := l.foldl (fun m p => ins p.1 p.2 m) []

theorem toMap_snoc (l : List (ByteArray × α)) (p : ByteArray × α) : toMap (l ++ [p]) = ins p.1 p.2 (toMap l) := by simp [toMap]

theorem mem_ins {k : ByteArray} {v : α} : ∀ {l : List (ByteArray × α)}, SortedK (l.map (·.1)) → ∀ p, p ∈ ins k v l ↔ p = (k, v) ∨ (p ∈ l ∧ p.1 ≠ k)
  | [], _, p => by simp [ins]
  | q :: r, h, p => by
    have hr : SortedK (r.map (·.1)) := (List.pairwise_cons.1 h).2
    have hq := (List.pairwise_cons.1 h).1
    unfold ins
    by_cases h1 : sLt k q.1 = true
    · rw [if_pos h1]
      have : ∀ x ∈ q :: r, x.1 ≠ k := by
        intro x hx e
        rcases List.mem_cons.1 hx with rfl | hx
        · rw [e, sLt_irrefl] at h1; cases h1
        · have h2 := hq x.1 (List.mem_map.2 ⟨x, hx, rfl⟩)
          rw [e] at h2
          have := sLt_trans h1 h2; rw [sLt_irrefl] at this; cases this
      rw [List.mem_cons]
      exact ⟨fun h => or_turn h id (fun h => ⟨h, this p h⟩), fun h => or_turn h id (·.1)⟩
    · rw [if_neg h1]
      by_cases h2 : sLt q.1 k = true
      · rw [if_pos h2, List.mem_cons, mem_ins hr p, List.mem_cons]
        have hne := sLt_ne h2
        constructor
        · rintro (rfl | h | h)
          · exact .inr ⟨.inl rfl, hne⟩
          · exact .inl h
          · exact .inr ⟨.inr h.1, h.2⟩
        · rintro (h | ⟨h | h, h3⟩)
          · exact .inr (.inl h)
          · exact .inl h
          · exact .inr (.inr ⟨h, h3⟩)
      · rw [if_neg h2]
        have e : q.1 = k := Decidable.byContradiction fun e => h1 (sLt_tri e (by simpa using h2))
        rw [List.mem_cons, List.mem_cons]
        constructor
        · rintro (h | h)
          · exact .inl h
          · refine .inr ⟨.inr h, ?_⟩
            have := sLt_ne (hq p.1 (List.mem_map.2 ⟨p, h, rfl⟩))
            rw [← e]; exact this.symm
        · rintro (h | ⟨rfl | h, h3⟩)
          · exact .inl h
          · exact absurd e h3
          · exact .inr h

theorem sorted_ins {k : ByteArray} {v : α} : ∀ {l : List (ByteArray × α)}, SortedK (l.map (·.1)) → SortedK ((ins k v l).map (·.1))
  | [], _ => by simp [ins, SortedK]
  | q :: r, h => by
    have hr : SortedK (r.map (·.1)) := (List.pairwise_cons.1 h).2
    have hq := (List.pairwise_cons.1 h).1
    unfold ins
    by_cases h1 : sLt k q.1 = true
    · rw [if_pos h1]
      refine List.pairwise_cons.2 ⟨fun x hx => ?_, h⟩
      rcases List.mem_cons.1 hx with rfl | hx
      · exact h1
      · exact sLt_trans h1 (hq x hx)
    · rw [if_neg h1]
      by_cases h2 : sLt q.1 k = true
      · rw [if_pos h2]
        refine List.pairwise_cons.2 ⟨fun x hx => ?_, sorted_ins hr⟩
        obtain ⟨p, hp, rfl⟩ := List.mem_map.1 hx
        rcases (mem_ins hr p).1 hp with rfl | hp
        · exact h2
        · exact hq _ (List.mem_map.2 ⟨p, hp.1, rfl⟩)
      · rw [if_neg h2]
        have e : q.1 = k := Decidable.byContradiction fun e => h1 (sLt_tri e (by simpa using h2))
        refine List.pairwise_cons.2 ⟨fun x hx => ?_, hr⟩
        show sLt k x = true
        rw [← e]; exact hq x hx

theorem sorted_foldl_ins : ∀ (l m : List (ByteArray × α)), SortedK (m.map (·.1)) → SortedK ((l.foldl (fun m p => ins p.1 p.2 m) m).map (·.1))
  | [], _, h => h
  | _ :: l, _, h => sorted_foldl_ins l _ (sorted_ins h)
theorem sorted_toMap (l : List (ByteArray × α)) : SortedK ((toMap l).map (·.1)) := sorted_foldl_ins l [] List.Pairwise.nil

theorem length_ins_le (k : ByteArray) (v : α) : ∀ l : List (ByteArray × α), (ins k v l).length ≤ l.length + 1
  | [] => by simp [ins]
  | q :: r => by
    unfold ins
    have := length_ins_le k v r
    split
    · simp
    · split <;> simp <;> omega
theorem length_foldl_ins : ∀ (l m : List (ByteArray × α)), (l.foldl (fun m p => ins p.1 p.2 m) m).length ≤ m.length + l.length
  | [], m => by simp
  | p :: l, m => by
    have h1 := length_foldl_ins l (ins p.1 p.2 m)
    have h2 := length_ins_le p.1 p.2 m
    simp only [List.foldl_cons, List.length_cons]
    omega
theorem length_toMap (l : List (ByteArray × α)) : (toMap l).length ≤ l.length := by
  have := length_foldl_ins l ([] : List (ByteArray × α)); simpa [toMap] using this

theorem ins_map (f : α → β) (k : ByteArray) (v : α) : ∀ l : List (ByteArray × α), ins k (f v) (l.map (fun p => (p.1, f p.2))) = (ins k v l).map (fun p => (p.1, f p.2))
  | [] => rfl
  | q :: r => by
    simp only [ins, List.map_cons]
    split
    · rfl
    · split
      · rw [ins_map f k v r]; rfl
      · rfl

/-- two strictly sorted lists with the same members are one -/
theorem sorted_ext : ∀ {l m : List ByteArray}, SortedK l → SortedK m → (∀ x, x ∈ l ↔ x ∈ m) → l = m
  | [], [], _, _, _ => rfl
  | [], b :: m, _, _, h => absurd ((h b).2 List.mem_cons_self) (by simp)
  | a :: l, [], _, _, h => absurd ((h a).1 List.mem_cons_self) (by simp)
  | a :: l, b :: m, hl, hm, h => by
    obtain ⟨hla, hl'⟩ := List.pairwise_cons.1 hl
    obtain ⟨hmb, hm'⟩ := List.pairwise_cons.1 hm
    have e : a = b := by
      rcases List.mem_cons.1 ((h a).1 List.mem_cons_self) with e | h1
      · exact e
      · rcases List.mem_cons.1 ((h b).2 List.mem_cons_self) with e | h2
        · exact e.symm
        · have h3 := hmb a h1
          have h4 := hla b h2
          rw [sLt_asymm h3] at h4; cases h4
    subst e
    congr 1
    refine sorted_ext hl' hm' fun x => ?_
    constructor
    · intro hx
      rcases List.mem_cons.1 ((h x).1 (List.mem_cons_of_mem _ hx)) with e | h1
      · rw [e] at hx; have := hla _ hx; rw [sLt_irrefl] at this; cases this
      · exact h1
    · intro hx
      rcases List.mem_cons.1 ((h x).2 (List.mem_cons_of_mem _ hx)) with e | h1
      · rw [e] at hx; have := hmb _ hx; rw [sLt_irrefl] at this; cases this
      · exact h1

theorem sorted_ext2 : ∀ {l m : List (ByteArray × α)}, SortedK (l.map (·.1)) → SortedK (m.map (·.1)) → (∀ x, x ∈ l ↔ x ∈ m) → l = m
  | [], [], _, _, _ => rfl
  | [], b :: m, _, _, h => absurd ((h b).2 List.mem_cons_self) (by simp)
  | a :: l, [], _, _, h => absurd ((h a).1 List.mem_cons_self) (by simp)
  | a :: l, b :: m, hl, hm, h => by
    obtain ⟨hla, hl'⟩ := List.pairwise_cons.1 hl
    obtain ⟨hmb, hm'⟩ := List.pairwise_cons.1 hm
    have mm : ∀ {l : List (ByteArray × α)} {x}, x ∈ l → x.1 ∈ l.map (·.1) := fun h => List.mem_map.2 ⟨_, h, rfl⟩
    have e : a = b := by
      rcases List.mem_cons.1 ((h a).1 List.mem_cons_self) with e | h1
      · exact e
      · rcases List.mem_cons.1 ((h b).2 List.mem_cons_self) with e | h2
        · exact e.symm
        · have h3 := hmb a.1 (mm h1)
          have h4 := hla b.1 (mm h2)
          rw [sLt_asymm h3] at h4; cases h4
    subst e
    congr 1
    refine sorted_ext2 hl' hm' fun x => ?_
    constructor
    · intro hx
      rcases List.mem_cons.1 ((h x).1 (List.mem_cons_of_mem _ hx)) with e | h1
      · rw [e] at hx; have := hla _ (mm hx); rw [sLt_irrefl] at this; cases this
      · exact h1
    · intro hx
      rcases List.mem_cons.1 ((h x).2 (List.mem_cons_of_mem _ hx)) with e | h1
      · rw [e] at hx; have := hmb _ (mm hx); rw [sLt_irrefl] at this; cases this
      · exact h1

theorem SortedK.nodup : ∀ {l : List ByteArray}, SortedK l → l.Nodup
  | [], _ => List.Pairwise.nil
  | a :: l, h => by
    obtain ⟨h1, h2⟩ := List.pairwise_cons.1 h
    exact List.pairwise_cons.2 ⟨fun b hb => sLt_ne (h1 b hb), SortedK.nodup h2⟩

/-! ### the merge sort on indices -/
/-- merge two lists of indices by their keys, the left one first where the keys are one -/
def mg (key : Nat → ByteArray) : List Nat → List Nat → List Nat
  | [], r => r
  | a :: l, r => mg1 a (mg key l) r
where
  mg1 (a : Nat) (rec : List Nat → List Nat) : List Nat → List Nat
    | [] => a :: rec []
    | b :: r => if sLt (key b) (key a) then b :: mg1 a rec r else a :: rec (b :: r)

theorem mg_nil_right (key : Nat → ByteArray) : ∀ l, mg key l [] = l
  | [] => rfl
  | a :: l => by rw [mg, mg.mg1, mg_nil_right key l]
theorem mg_cons (key : Nat → ByteArray) (a : Nat) (l : List Nat) (b : Nat) (r : List Nat) :
    mg key (a :: l) (b :: r) = if sLt (key b) (key a) then b :: mg key (a :: l) r else a :: mg key l (b :: r) := by
  rw [mg, mg.mg1]; rfl

/-- the order by key, then by index -/
def iLt (key : Nat → ByteArray) (i j : Nat) : Prop := sLt (key i) (key j) = true ∨ (key i = key j ∧ i < j)
theorem iLt_trans {key : Nat → ByteArray} {i j k : Nat} (h : iLt key i j) (h' : iLt key j k) : iLt key i k := by
  rcases h with h | ⟨h, h2⟩ <;> rcases h' with h' | ⟨h', h2'⟩
  · exact .inl (sLt_trans h h')
  · exact .inl (h' ▸ h)
  · exact .inl (h ▸ h')
  · exact .inr ⟨h.trans h', by omega⟩

theorem mg_perm (key : Nat → ByteArray) (l : List Nat) : ∀ r, (mg key l r).Perm (l ++ r) := by
  induction l with
  | nil => intro r; rw [mg]; exact List.Perm.refl _
  | cons a l ih =>
    intro r
    induction r with
    | nil => rw [mg_nil_right]; simp
    | cons b r ihr =>
      rw [mg_cons]
      split
      · exact (ihr.cons b).trans (List.perm_middle (l₁ := a :: l)).symm
      · exact (ih (b :: r)).cons a

theorem mg_sorted (key : Nat → ByteArray) (l : List Nat) : ∀ r, l.Pairwise (iLt key) → r.Pairwise (iLt key) → (∀ a ∈ l, ∀ b ∈ r, a < b) → (mg key l r).Pairwise (iLt key) := by
  induction l with
  | nil => intro r _ hr _; rw [mg]; exact hr
  | cons a l ih =>
    intro r
    induction r with
    | nil => intro hl _ _; rw [mg_nil_right]; exact hl
    | cons b r ihr =>
      intro hl hr hlt
      obtain ⟨ha, hl'⟩ := List.pairwise_cons.1 hl
      obtain ⟨hb, hr'⟩ := List.pairwise_cons.1 hr
      rw [mg_cons]
      by_cases h : sLt (key b) (key a) = true
      · rw [if_pos h]
        refine List.pairwise_cons.2 ⟨fun x hx => ?_, ihr hl hr' (fun x hx y hy => hlt x hx y (List.mem_cons_of_mem _ hy))⟩
        rcases List.mem_append.1 ((mg_perm key (a :: l) r).mem_iff.1 hx) with hx | hx
        · rcases List.mem_cons.1 hx with rfl | hx
          · exact .inl h
          · exact iLt_trans (.inl h) (ha x hx)
        · exact hb x hx
      · rw [if_neg h]
        have hab : iLt key a b := by
          by_cases e : key a = key b
          · exact .inr ⟨e, hlt a List.mem_cons_self b List.mem_cons_self⟩
          · exact .inl (sLt_tri (fun e2 => e e2.symm) (by simpa using h))
        refine List.pairwise_cons.2 ⟨fun x hx => ?_, ih (b :: r) hl' hr (fun x hx y hy => hlt x (List.mem_cons_of_mem _ hx) y hy)⟩
        rcases List.mem_append.1 ((mg_perm key l (b :: r)).mem_iff.1 hx) with hx | hx
        · exact ha x hx
        · rcases List.mem_cons.1 hx with rfl | hx
          · exact hab
          · exact iLt_trans hab (hb x hx)

/-! ### the last of each run of equal keys -/
def dd (key : Nat → ByteArray) : List Nat → List Nat
  | [] => []
  | [a] => [a]
  | a :: b :: r => if key b = key a then dd key (b :: r) else a :: dd key (b :: r)

theorem mem_dd {key : Nat → ByteArray} : ∀ {s : List Nat}, s.Pairwise (iLt key) → ∀ i, i ∈ dd key s ↔ i ∈ s ∧ ∀ j ∈ s, key j = key i → j ≤ i
  | [], _, i => by simp [dd]
  | [a], _, i => by
    simp only [dd, List.mem_singleton]
    exact ⟨fun h => ⟨h, fun j hj _ => by omega⟩, (·.1)⟩
  | a :: b :: r, h, i => by
    obtain ⟨ha, hs⟩ := List.pairwise_cons.1 h
    have ih := mem_dd hs i
    have hb := (List.pairwise_cons.1 hs).1
    by_cases e : key b = key a
    · rw [dd, if_pos e, ih]
      constructor
      · rintro ⟨h1, h2⟩
        refine ⟨List.mem_cons_of_mem _ h1, fun j hj hk => ?_⟩
        rcases List.mem_cons.1 hj with rfl | hj
        · rcases ha i h1 with h3 | h3
          · rw [hk, sLt_irrefl] at h3; cases h3
          · omega
        · exact h2 j hj hk
      · rintro ⟨h1, h2⟩
        rcases List.mem_cons.1 h1 with rfl | h1
        · have h3 := h2 b (by simp) e
          rcases ha b (by simp) with h4 | h4
          · rw [e, sLt_irrefl] at h4; cases h4
          · omega
        · exact ⟨h1, fun j hj hk => h2 j (List.mem_cons_of_mem _ hj) hk⟩
    · rw [dd, if_neg e, List.mem_cons, ih]
      have hab : sLt (key a) (key b) = true := by
        rcases ha b (by simp) with h4 | h4
        · exact h4
        · exact absurd h4.1.symm e
      have hax : ∀ x ∈ b :: r, sLt (key a) (key x) = true := by
        intro x hx
        rcases List.mem_cons.1 hx with rfl | hx
        · exact hab
        · rcases hb x hx with h5 | h5
          · exact sLt_trans hab h5
          · rw [← h5.1]; exact hab
      constructor
      · rintro (rfl | ⟨h1, h2⟩)
        · refine ⟨by simp, fun j hj hk => ?_⟩
          rcases List.mem_cons.1 hj with rfl | hj
          · exact Nat.le_refl _
          · have := hax j hj; rw [hk, sLt_irrefl] at this; cases this
        · refine ⟨List.mem_cons_of_mem _ h1, fun j hj hk => ?_⟩
          rcases List.mem_cons.1 hj with rfl | hj
          · have := hax i h1; rw [hk, sLt_irrefl] at this; cases this
          · exact h2 j hj hk
      · rintro ⟨h1, h2⟩
        rcases List.mem_cons.1 h1 with rfl | h1
        · exact .inl rfl
        · exact .inr ⟨h1, fun j hj hk => h2 j (List.mem_cons_of_mem _ hj) hk⟩

theorem dd_sorted {key : Nat → ByteArray} : ∀ {s : List Nat}, s.Pairwise (iLt key) → ((dd key s).Pairwise fun i j => sLt (key i) (key j) = true)
  | [], _ => by simp [dd]
  | [a], _ => by simp [dd]
  | a :: b :: r, h => by
    obtain ⟨ha, hs⟩ := List.pairwise_cons.1 h
    have hb := (List.pairwise_cons.1 hs).1
    have ih := dd_sorted hs
    by_cases e : key b = key a
    · rw [dd, if_pos e]; exact ih
    · rw [dd, if_neg e]
      refine List.pairwise_cons.2 ⟨fun x hx => ?_, ih⟩
      have hx' := ((mem_dd hs x).1 hx).1
      have hab : sLt (key a) (key b) = true := by
        rcases ha b (by simp) with h4 | h4
        · exact h4
        · exact absurd h4.1.symm e
      rcases List.mem_cons.1 hx' with rfl | hx'
      · exact hab
      · rcases hb x hx' with h5 | h5
        · exact sLt_trans hab h5
        · rw [← h5.1]; exact hab

theorem mem_toMap_range (f : Nat → ByteArray × α) (p : ByteArray × α) : ∀ n, p ∈ toMap ((List.range n).map f) ↔ ∃ i, i < n ∧ f i = p ∧ ∀ j, j < n → (f j).1 = p.1 → j ≤ i
  | 0 => by simp [toMap]
  | n + 1 => by
    rw [List.range_succ, List.map_append, List.map_singleton, toMap_snoc, mem_ins (sorted_toMap _), mem_toMap_range f p n]
    constructor
    · rintro (rfl | ⟨⟨i, hi, h1, h2⟩, h3⟩)
      · exact ⟨n, by omega, rfl, fun j hj _ => by omega⟩
      · refine ⟨i, by omega, h1, fun j hj hk => ?_⟩
        rcases Nat.lt_succ_iff_lt_or_eq.1 hj with h | rfl
        · exact h2 j h hk
        · exact absurd hk.symm h3
    · rintro ⟨i, hi, h1, h2⟩
      rcases Nat.lt_succ_iff_lt_or_eq.1 hi with h | rfl
      · refine .inr ⟨⟨i, h, h1, fun j hj hk => h2 j (by omega) hk⟩, fun e => ?_⟩
        have := h2 n (by omega) e.symm; omega
      · exact .inl h1.symm

/-- THE LAW: the last of each run of the sorted indices, read off, is what laying the pairs one by one into a map gives. -/
theorem dd_is_toMap (key : Nat → ByteArray) (val : Nat → α) (n : Nat) (s : List Nat) (hp : s.Perm (List.range n)) (hs : s.Pairwise (iLt key)) :
    (dd key s).map (fun i => (key i, val i)) = toMap ((List.range n).map fun i => (key i, val i)) := by
  refine sorted_ext2 ?_ (sorted_toMap _) fun p => ?_
  · rw [List.map_map]
    exact List.pairwise_map.2 (dd_sorted hs)
  · rw [mem_toMap_range]
    simp only [List.mem_map, mem_dd hs, hp.mem_iff, List.mem_range]
    constructor
    · rintro ⟨i, ⟨h1, h2⟩, rfl⟩; exact ⟨i, h1, rfl, h2⟩
    · rintro ⟨i, h1, rfl, h2⟩; exact ⟨i, ⟨h1, h2⟩, rfl⟩

theorem foldl_ins_map (f : α → β) : ∀ (l m : List (ByteArray × α)), (l.map (fun p => (p.1, f p.2))).foldl (fun m p => ins p.1 p.2 m) (m.map (fun p => (p.1, f p.2))) = (l.foldl (fun m p => ins p.1 p.2 m) m).map (fun p => (p.1, f p.2))
  | [], m => rfl
  | p :: l, m => by
    simp only [List.map_cons, List.foldl_cons]
    rw [ins_map f p.1 p.2 m]
    exact foldl_ins_map f l _
theorem toMap_map (f : α → β) (l : List (ByteArray × α)) : toMap (l.map (fun p => (p.1, f p.2))) = (toMap l).map (fun p => (p.1, f p.2)) := foldl_ins_map f l []

def keyOf' (ks : List ByteArray) (i : Nat) : ByteArray := ks.getD i ByteArray.empty

theorem zip_range (ks : List ByteArray) (vs : List α) : (ks.zip vs).map (fun p => (p.1, some p.2)) = (List.range (min ks.length vs.length)).map (fun i => (keyOf' ks i, vs[i]?)) := by
  apply List.ext_getElem
  · simp
  · intro i h1 h2
    have h3 : i < ks.length ∧ i < vs.length := by simp at h1; omega
    simp [keyOf', h3.1]
/-- what the sorted indices, the last of each run, read off as, is the map -/
theorem dd_reads (ks : List ByteArray) (vs : List α) (s : List Nat) (hp : s.Perm (List.range (min ks.length vs.length))) (hs : s.Pairwise (iLt (keyOf' ks))) :
    (dd (keyOf' ks) s).map (fun i => (keyOf' ks i, vs[i]?)) = (toMap (ks.zip vs)).map (fun p => (p.1, some p.2)) := by
  rw [dd_is_toMap (keyOf' ks) (fun i => vs[i]?) _ s hp hs, ← zip_range, toMap_map]

end

/-! ### trees, by depth -/
structure Node (α : Type) where
  kind : Int
  flag : Bool
  text : ByteArray
  keys : List ByteArray
  kids : List α

/-- trees of depth at most n -/
def Tr : Nat → Type
  | 0 => Empty
  | n + 1 => Node (Tr n)

def leaf {α : Type} (k : Int) (b : Bool) (s : ByteArray) : Node α := ⟨k, b, s, [], []⟩

/-- the pairs that a mapping's two slices stand for -/
def pairs {α : Type} (ks : List ByteArray) (vs : List α) : List (ByteArray × α) := ks.zip vs

/-- the value that a tree stands for -/
def norm : (n : Nat) → Tr n → Tr n
  | 0, t => t
  | n + 1, t =>
    let t : Node (Tr n) := t
    let r : Node (Tr n) :=
      if t.kind = 1 then leaf 1 t.flag ByteArray.empty
      else if t.kind = 2 ∨ t.kind = 3 then leaf t.kind false t.text
      else if t.kind = 4 then
        ⟨4, false, ByteArray.empty, (toMap (t.keys.zip (t.kids.map (norm n)))).map (·.1), (toMap (t.keys.zip (t.kids.map (norm n)))).map (·.2)⟩
      else if t.kind = 5 then ⟨5, false, ByteArray.empty, [], t.kids.map (norm n)⟩
      else leaf 0 false ByteArray.empty
    r

/-- the swap, on every scalar -/
def swapM : (n : Nat) → Tr n → Tr n
  | 0, t => t
  | n + 1, t =>
    let t : Node (Tr n) := t
    let r : Node (Tr n) :=
      if t.kind = 1 then leaf 1 (!t.flag) ByteArray.empty
      else if t.kind = 2 then leaf 3 false t.text
      else if t.kind = 3 then leaf 2 false t.text
      else if t.kind = 4 ∨ t.kind = 5 then ⟨t.kind, false, ByteArray.empty, t.keys, t.kids.map (swapM n)⟩
      else leaf 0 false ByteArray.empty
    r

/-- no more than N keys or kids anywhere -/
def Small (N : Nat) : (n : Nat) → Tr n → Prop
  | 0, _ => True
  | n + 1, t =>
    let t : Node (Tr n) := t
    t.keys.length ≤ N ∧ t.kids.length ≤ N ∧ ∀ k ∈ t.kids, Small N n k

end Go.Proofs.Qxb6616028a
