/- WHAT LIES IN MEMORY: slices, trees, values behind 'any', told by cells; all of it stays where old blocks stay. -/
import Derived.Test.Qxb6616028aRows
import Derived.Test.Qxb6616028aPlain
import Derived.WalkKit
import Derived.WalkSpells
import Derived.WalkLawsBesides
import Derived.Deep.MidRow
import Derived.Maps.RangeRun
namespace Go.Proofs.Qxb6616028a
open Go.RowKit

theorem hide {p : Prop} (h : p) : Hid p := h

/-- a slice's value of n elements; where it lies is known where there is an element, and is then one of the blocks of p -/
def SlAt (p : Nat → Prop) (v : Value) (n b o : Nat) : Prop := ∃ a cap, v = .slice a n cap ∧ n ≤ cap ∧ cap ≤ maxLen ∧ (n = 0 ∨ a = some ⟨b, o, none⟩) ∧ (n = 0 ∨ p b)

def StrsAt (p : Nat → Prop) (w : World) (v : Value) (ks : List ByteArray) : Prop :=
  ∃ b o, SlAt p v ks.length b o ∧ ∀ (i : Nat) (s : ByteArray), ks[i]? = some s → w.cell? ⟨b, o + i, none⟩ = some (.string s)

def IntsAt (p : Nat → Prop) (w : World) (v : Value) (ks : List Nat) : Prop :=
  ∃ b o, SlAt p v ks.length b o ∧ ∀ (i : Nat) (s : Nat), ks[i]? = some s → w.cell? ⟨b, o + i, none⟩ = some (.int .i64 (s : Int))

/-- a slice of trees (five cells each) -/
def KidsAt {α : Type} (p : Nat → Prop) (w : World) (R : Value → α → Prop) (v : Value) (l : List α) : Prop :=
  ∃ b o, SlAt p v l.length b o ∧ ∀ (i : Nat) (x : α), l[i]? = some x → ∃ c0 c1 c2 c3 c4, w.rangeAt b (o + i * 5) [c0, c1, c2, c3, c4] ∧ R (.agg #[c0, c1, c2, c3, c4]) x

def TreeAt (p : Nat → Prop) (w : World) : (n : Nat) → Value → Tr n → Prop
  | 0, _, _ => False
  | n + 1, v, t =>
    let t : Node (Tr n) := t
    ∃ ks kd, v = .agg #[.int .i8 t.kind, .bool t.flag, .string t.text, ks, kd] ∧ StrsAt p w ks t.keys ∧ KidsAt p w (TreeAt p w n) kd t.kids

/-- block m is a map that holds just these pairs, in whatever order -/
def MapAt (w : World) (m : Nat) (kvs : List (ByteArray × Value)) : Prop :=
  ∃ es clock, w.heap[m]? = some (.map es clock) ∧ (es.toList.map fun e => (e.key, e.val)).Perm (kvs.map fun p => (.string p.1, p.2)) ∧
    (∀ e ∈ es.toList, e.born < clock) ∧ (es.toList.map (·.born)).Nodup

/-- a value of type 'any' that stands for a tree in normal form -/
def AnyAt (p : Nat → Prop) (w : World) : (n : Nat) → Value → Tr n → Prop
  | 0, _, _ => False
  | n + 1, v, t =>
    let t : Node (Tr n) := t
    (v = .nilIface ∧ t = leaf 0 false ByteArray.empty) ∨
    (∃ b, v = .iface 4 (.bool b) ∧ t = leaf 1 b ByteArray.empty) ∨
    (∃ s, v = .iface 9 (.string s) ∧ t = leaf 2 false s) ∨
    (∃ s, v = .iface 54 (.string s) ∧ t = leaf 3 false s) ∨
    (∃ m kvs kids, v = .iface 55 (.map (some m)) ∧ p m ∧ MapAt w m kvs ∧ SortedK (kvs.map (·.1)) ∧ t = ⟨4, false, ByteArray.empty, kvs.map (·.1), kids⟩ ∧
      kids.length = kvs.length ∧ ∀ (i : Nat) x y, kids[i]? = some x → kvs[i]? = some y → AnyAt p w n y.2 x) ∨
    (∃ s b o kids, v = .iface 56 s ∧ t = ⟨5, false, ByteArray.empty, [], kids⟩ ∧ SlAt p s kids.length b o ∧
      ∀ (i : Nat) x, kids[i]? = some x → ∃ y, w.cell? ⟨b, o + i, none⟩ = some y ∧ AnyAt p w n y x)

/-- whatever block -/
abbrev Whole : Nat → Prop := fun _ => True
/-- the blocks from B on -/
abbrev From (B : Nat) : Nat → Prop := fun b => B ≤ b

/-- the address of an element that is there -/
theorem run_indexAt_sl (t e : TypeId) (i0 : TypeInfo) (size : Nat) (ht : Try.prog.underlying t = some (.slice e)) (hi : Try.prog.info? e = some i0) (hs : i0.size = size)
    {a : Option Addr} {n cap b o : Nat} (hl : n = 0 ∨ a = some ⟨b, o, none⟩) (k : Nat) (hk : k < n) (w : World) :
    (Instr.indexAt t (.slice a n cap) (.int .i64 (k : Int))).run Try.prog w = .ok (.pointer (some ⟨b, o + k * size, none⟩)) w := by
  rcases hl with h | rfl
  · omega
  simp [Instr.indexAt, asIntOf, run_underlying ht, sizeOf, typeInfo, hi, hs, hk, Addr.add_mid]

theorem info_parts {t : TypeId} {z : Value} {s by_ : Nat} (h : (Try.prog.info? t).map (fun i => (i.zero, i.size, i.bytes)) = some (some z, s, by_)) : ∃ i, Try.prog.info? t = some i ∧ i.zero = some z ∧ i.size = s ∧ i.bytes = by_ := by
  cases hq : Try.prog.info? t with
  | none => simp [hq] at h
  | some i => simp [hq] at h; exact ⟨i, rfl, h.1, h.2.1, h.2.2⟩

theorem info3 : (Try.prog.info? 3).map (fun i => (i.zero, i.size, i.bytes)) = some (some (.int .i64 0), 1, 8) := by kernel_rfl
theorem info9 : (Try.prog.info? 9).map (fun i => (i.zero, i.size, i.bytes)) = some (some (.string ByteArray.empty), 1, 16) := by kernel_rfl
theorem info20 : (Try.prog.info? 20).map (fun i => (i.zero, i.size, i.bytes)) = some (some .nilIface, 1, 16) := by kernel_rfl
theorem info26 : (Try.prog.info? 26).map (fun i => (i.zero, i.size, i.bytes)) = some (some (.agg #[.int .i8 0, .bool false, .string ByteArray.empty, .slice none 0 0, .slice none 0 0]), 5, 72) := by kernel_rfl
theorem info31 : (Try.prog.info? 31).map (fun i => (i.zero, i.size, i.bytes)) = some (some (.agg #[.int .i8 0, .bool false, .string ByteArray.empty, .slice none 0 0, .slice none 0 0]), 5, 72) := by kernel_rfl

theorem index_strs {a : Option Addr} {n cap b o : Nat} (hl : n = 0 ∨ a = some ⟨b, o, none⟩) (k : Nat) (hk : k < n) (w : World) :
    (Instr.indexAt 23 (.slice a n cap) (.int .i64 (k : Int))).run Try.prog w = .ok (.pointer (some ⟨b, o + k, none⟩)) w := by
  obtain ⟨i, hi, _, hs, _⟩ := info_parts info9
  have := run_indexAt_sl 23 9 i 1 Try.underlying23 hi hs (cap := cap) hl k hk w
  rwa [Nat.mul_one] at this
theorem index_ints {a : Option Addr} {n cap b o : Nat} (hl : n = 0 ∨ a = some ⟨b, o, none⟩) (k : Nat) (hk : k < n) (w : World) :
    (Instr.indexAt 47 (.slice a n cap) (.int .i64 (k : Int))).run Try.prog w = .ok (.pointer (some ⟨b, o + k, none⟩)) w := by
  obtain ⟨i, hi, _, hs, _⟩ := info_parts info3
  have := run_indexAt_sl 47 3 i 1 Try.underlying47 hi hs (cap := cap) hl k hk w
  rwa [Nat.mul_one] at this
theorem index_anys {a : Option Addr} {n cap b o : Nat} (hl : n = 0 ∨ a = some ⟨b, o, none⟩) (k : Nat) (hk : k < n) (w : World) :
    (Instr.indexAt 56 (.slice a n cap) (.int .i64 (k : Int))).run Try.prog w = .ok (.pointer (some ⟨b, o + k, none⟩)) w := by
  obtain ⟨i, hi, _, hs, _⟩ := info_parts info20
  have := run_indexAt_sl 56 20 i 1 Try.underlying56 hi hs (cap := cap) hl k hk w
  rwa [Nat.mul_one] at this
theorem index_trees {a : Option Addr} {n cap b o : Nat} (hl : n = 0 ∨ a = some ⟨b, o, none⟩) (k : Nat) (hk : k < n) (w : World) :
    (Instr.indexAt 24 (.slice a n cap) (.int .i64 (k : Int))).run Try.prog w = .ok (.pointer (some ⟨b, o + k * 5, none⟩)) w := by
  obtain ⟨i, hi, _, hs, _⟩ := info_parts info26
  exact run_indexAt_sl 24 26 i 5 Try.underlying24 hi hs (cap := cap) hl k hk w
theorem index_zz {a : Option Addr} {n cap b o : Nat} (hl : n = 0 ∨ a = some ⟨b, o, none⟩) (k : Nat) (hk : k < n) (w : World) :
    (Instr.indexAt 29 (.slice a n cap) (.int .i64 (k : Int))).run Try.prog w = .ok (.pointer (some ⟨b, o + k * 5, none⟩)) w := by
  obtain ⟨i, hi, _, hs, _⟩ := info_parts info31
  exact run_indexAt_sl 29 31 i 5 Try.underlying29 hi hs (cap := cap) hl k hk w

/-- a five-cell value, read out of a row -/
theorem load5 (ty : TypeId) (h : ty = 26 ∨ ty = 31) {b o : Nat} {c0 c1 c2 c3 c4 : Value} {w : World} (hc : w.rangeAt b o [c0, c1, c2, c3, c4]) :
    (Instr.loadAt ty (.pointer (some ⟨b, o, none⟩))).run Try.prog w = .ok (.agg #[c0, c1, c2, c3, c4]) w := by
  rcases h with rfl | rfl
  · exact run_loadAt_mid w b o 26 [c0, c1, c2, c3, c4] _ hc Try.underlying26 rfl (by kernel_rfl)
  · exact run_loadAt_mid w b o 31 [c0, c1, c2, c3, c4] _ hc Try.underlying31 rfl (by kernel_rfl)

/-! ### what is not touched stays -/
section
variable {w w' : World} {p q : Nat → Prop}

/-- the blocks of p that were there are as they were -/
def Stay (p : Nat → Prop) (w w' : World) : Prop := ∀ b, p b → b < w.heap.size → w'.heap[b]? = w.heap[b]?

theorem Stay.cell (h : Stay p w w') {a : Addr} (ha : p a.block) {v : Value} (hc : w.cell? a = some v) : w'.cell? a = some v :=
  (World.cell?_of_block (w := w) (h a.block ha (World.block_lt_of_cell? w _ hc))).trans hc
theorem Stay.of_below (hb : Below w.heap.size w w') : Stay p w w' := fun b _ h => hb.block b h
theorem Stay.trans {w'' : World} (h : Stay p w w') (k : Stay p w' w'') (hs : w.heap.size ≤ w'.heap.size) : Stay p w w'' :=
  fun b hp hb => (k b hp (by omega)).trans (h b hp hb)

theorem SlAt.weak (hq : ∀ b, p b → q b) {v : Value} {n b o : Nat} (h : SlAt p v n b o) : SlAt q v n b o := by
  obtain ⟨a, cap, h1, h2, h3, h4, h5⟩ := h
  exact ⟨a, cap, h1, h2, h3, h4, or_turn h5 id (hq b)⟩
theorem SlAt.pos {v : Value} {n b o : Nat} (h : SlAt p v n b o) (hn : 0 < n) : p b := by
  obtain ⟨a, cap, h1, h2, h3, h4, h5⟩ := h
  exact h5.resolve_left (by omega)
theorem lt_of_some {α : Type} {l : List α} {i : Nat} {x : α} (h : l[i]? = some x) : i < l.length := (List.getElem?_eq_some_iff.1 h).1
theorem rangeAt_stay (hs : Stay p w w') {b o : Nat} (hb : p b) {cs : List Value} (h : w.rangeAt b o cs) : w'.rangeAt b o cs :=
  fun j v hv => hs.cell (a := ⟨b, o + j, none⟩) hb (h j v hv)

theorem StrsAt.mono (hs : Stay p w w') (hq : ∀ b, p b → q b) {v : Value} {ks : List ByteArray} (h : StrsAt p w v ks) : StrsAt q w' v ks := by
  obtain ⟨b, o, h1, h2⟩ := h
  exact ⟨b, o, h1.weak hq, fun i s hi => hs.cell (a := ⟨b, o + i, none⟩) (h1.pos (Nat.lt_of_le_of_lt (Nat.zero_le _) (lt_of_some hi))) (h2 i s hi)⟩
theorem IntsAt.mono (hs : Stay p w w') (hq : ∀ b, p b → q b) {v : Value} {ks : List Nat} (h : IntsAt p w v ks) : IntsAt q w' v ks := by
  obtain ⟨b, o, h1, h2⟩ := h
  exact ⟨b, o, h1.weak hq, fun i s hi => hs.cell (a := ⟨b, o + i, none⟩) (h1.pos (Nat.lt_of_le_of_lt (Nat.zero_le _) (lt_of_some hi))) (h2 i s hi)⟩
theorem TreeAt.mono (hs : Stay p w w') (hq : ∀ b, p b → q b) : ∀ {n : Nat} {v : Value} {t : Tr n}, TreeAt p w n v t → TreeAt q w' n v t
  | 0, _, _, h => h.elim
  | n + 1, v, t, h => by
    obtain ⟨ks, kd, h1, h2, b, o, h3, h4⟩ := h
    refine ⟨ks, kd, h1, h2.mono hs hq, b, o, h3.weak hq, fun i x hx => ?_⟩
    obtain ⟨c0, c1, c2, c3, c4, h5, h6⟩ := h4 i x hx
    exact ⟨c0, c1, c2, c3, c4, rangeAt_stay hs (h3.pos (Nat.lt_of_le_of_lt (Nat.zero_le _) (lt_of_some hx))) h5, TreeAt.mono hs hq h6⟩
theorem MapAt.stay {m : Nat} {kvs : List (ByteArray × Value)} (h : MapAt w m kvs) (he : m < w.heap.size → w'.heap[m]? = w.heap[m]?) : MapAt w' m kvs := by
  obtain ⟨es, clock, h1, h2⟩ := h
  exact ⟨es, clock, (he (Array.getElem?_eq_some_iff.1 h1).1).trans h1, h2⟩
theorem MapAt.lt {m : Nat} {kvs : List (ByteArray × Value)} (h : MapAt w m kvs) : m < w.heap.size := by
  obtain ⟨es, clock, h1, h2⟩ := h
  exact (Array.getElem?_eq_some_iff.1 h1).1
theorem AnyAt.mono (hs : Stay p w w') (hq : ∀ b, p b → q b) : ∀ {n : Nat} {v : Value} {t : Tr n}, AnyAt p w n v t → AnyAt q w' n v t
  | 0, _, _, h => h.elim
  | n + 1, v, t, h => by
    rcases h with h | h | h | h | ⟨m, kvs, kids, h1, hm, h2, h3, h4, h5, h6⟩ | ⟨s, b, o, kids, h1, h2, h3, h4⟩
    · exact .inl h
    · exact .inr (.inl h)
    · exact .inr (.inr (.inl h))
    · exact .inr (.inr (.inr (.inl h)))
    · exact .inr (.inr (.inr (.inr (.inl ⟨m, kvs, kids, h1, hq m hm, h2.stay (hs m hm), h3, h4, h5, fun i x y hx hy => AnyAt.mono hs hq (h6 i x y hx hy)⟩))))
    · refine .inr (.inr (.inr (.inr (.inr ⟨s, b, o, kids, h1, h2, h3.weak hq, fun i x hx => ?_⟩))))
      obtain ⟨y, h5, h6⟩ := h4 i x hx
      exact ⟨y, hs.cell (a := ⟨b, o + i, none⟩) (h3.pos (Nat.lt_of_le_of_lt (Nat.zero_le _) (lt_of_some hx))) h5, AnyAt.mono hs hq h6⟩

theorem TreeAt.below (hb : Below w.heap.size w w') {n : Nat} {v : Value} {t : Tr n} (h : TreeAt p w n v t) : TreeAt p w' n v t := h.mono (Stay.of_below hb) (fun _ h => h)
theorem AnyAt.below (hb : Below w.heap.size w w') {n : Nat} {v : Value} {t : Tr n} (h : AnyAt p w n v t) : AnyAt p w' n v t := h.mono (Stay.of_below hb) (fun _ h => h)
theorem StrsAt.below (hb : Below w.heap.size w w') {v : Value} {ks : List ByteArray} (h : StrsAt p w v ks) : StrsAt p w' v ks := h.mono (Stay.of_below hb) (fun _ h => h)
theorem IntsAt.below (hb : Below w.heap.size w w') {v : Value} {ks : List Nat} (h : IntsAt p w v ks) : IntsAt p w' v ks := h.mono (Stay.of_below hb) (fun _ h => h)
theorem TreeAt.whole {n : Nat} {v : Value} {t : Tr n} (h : TreeAt p w n v t) : TreeAt Whole w n v t := h.mono (fun _ _ _ => rfl) (fun _ _ => trivial)
theorem AnyAt.whole {n : Nat} {v : Value} {t : Tr n} (h : AnyAt p w n v t) : AnyAt Whole w n v t := h.mono (fun _ _ _ => rfl) (fun _ _ => trivial)
theorem rangeAt_later (hb : Below w.heap.size w w') {b o : Nat} {cs : List Value} (h : w.rangeAt b o cs) : w'.rangeAt b o cs :=
  fun j v hv => cell_later hb (h j v hv)
end

theorem StrsAt.old {w : World} {p : Nat → Prop} {v : Value} {ks : List ByteArray} (h : StrsAt p w v ks) : StrsAt (fun b => p b ∧ b < w.heap.size) w v ks := by
  obtain ⟨b, o, ⟨a, cap, h1, h2, h3, h4, h5⟩, h6⟩ := h
  refine ⟨b, o, ⟨a, cap, h1, h2, h3, h4, ?_⟩, h6⟩
  rcases Nat.eq_zero_or_pos ks.length with h0 | h0
  · exact .inl h0
  · exact .inr ⟨h5.resolve_left (by omega), World.block_lt_of_cell? w _ (h6 0 ks[0] (by simp [h0]))⟩
theorem TreeAt.old {w : World} {p : Nat → Prop} : ∀ {n : Nat} {v : Value} {t : Tr n}, TreeAt p w n v t → TreeAt (fun b => p b ∧ b < w.heap.size) w n v t
  | 0, _, _, h => h.elim
  | n + 1, v, t, h => by
    obtain ⟨ks, kd, h1, h2, b, o, ⟨a, cap, g1, g2, g3, g4, g5⟩, h4⟩ := h
    refine ⟨ks, kd, h1, h2.old, b, o, ⟨a, cap, g1, g2, g3, g4, ?_⟩, fun i x hx => ?_⟩
    · rcases Nat.eq_zero_or_pos (List.length (Node.kids t)) with h0 | h0
      · exact .inl h0
      · obtain ⟨c0, c1, c2, c3, c4, h5, h6⟩ := h4 0 _ (List.getElem?_eq_getElem h0)
        exact .inr ⟨g5.resolve_left (by omega), World.block_lt_of_cell? w _ (h5 0 c0 rfl)⟩
    · obtain ⟨c0, c1, c2, c3, c4, h5, h6⟩ := h4 i x hx
      exact ⟨c0, c1, c2, c3, c4, h5, TreeAt.old h6⟩

/-! ### rows that a call fills -/
section
variable {w w' : World}

/-- block b is a row of 'size' cells of type e; the first k hold what Q says -/
def RowF (w : World) (b : Nat) (e : TypeId) (size k : Nat) (Q : Nat → Value → Prop) : Prop :=
  ∃ C : Array Value, w.heap[b]? = some (.cells C e) ∧ C.size = size ∧ ∀ j, j < k → ∃ v, C[j]? = some v ∧ Q j v

theorem RowF.lt {b : Nat} {e : TypeId} {size k : Nat} {Q : Nat → Value → Prop} (h : RowF w b e size k Q) : b < w.heap.size := by
  obtain ⟨C, h1, _⟩ := h
  exact (Array.getElem?_eq_some_iff.1 h1).1
theorem RowF.old {b : Nat} {e : TypeId} {size k : Nat} {Q : Nat → Value → Prop} (h : RowF w b e size k Q) {j : Nat} (hj : j < size) : ∃ u, w.cell? ⟨b, j, none⟩ = some u := by
  obtain ⟨C, h1, h2, _⟩ := h
  have : j < C.size := by omega
  exact ⟨C[j], by simp [World.cell?, h1]⟩
theorem RowF.frozen {b : Nat} {e : TypeId} {size k : Nat} {Q : Nat → Value → Prop} (h : RowF w b e size k Q) (j : Nat) : w.frozen? ⟨b, j, none⟩ = false := by
  obtain ⟨C, h1, h2, _⟩ := h
  simp [World.frozen?, h1]
theorem RowF.at {b : Nat} {e : TypeId} {size k : Nat} {Q : Nat → Value → Prop} (h : RowF w b e size k Q) {j : Nat} (hj : j < k) : ∃ v, w.cell? ⟨b, j, none⟩ = some v ∧ Q j v := by
  obtain ⟨C, h1, _, h3⟩ := h
  obtain ⟨v, h4, h5⟩ := h3 j hj
  exact ⟨v, by simp [World.cell?, h1, h4], h5⟩
theorem RowF.kept {b : Nat} {e : TypeId} {size k : Nat} {Q : Nat → Value → Prop} (h : RowF w b e size k Q) (he : w'.heap[b]? = w.heap[b]?) : RowF w' b e size k Q := by
  obtain ⟨C, h1, h2⟩ := h
  exact ⟨C, he.trans h1, h2⟩
theorem RowF.turn {b : Nat} {e : TypeId} {size k : Nat} {Q Q' : Nat → Value → Prop} (h : RowF w b e size k Q) (hq : ∀ j v, j < k → Q j v → Q' j v) : RowF w b e size k Q' := by
  obtain ⟨C, h1, h2, h3⟩ := h
  exact ⟨C, h1, h2, fun j hj => by obtain ⟨v, h4, h5⟩ := h3 j hj; exact ⟨v, h4, hq j v hj h5⟩⟩
theorem heap_setCell_same {b : Nat} {C : Array Value} {e : TypeId} (h : w.heap[b]? = some (.cells C e)) (j : Nat) (v : Value) : (w.setCell ⟨b, j, none⟩ v).heap[b]? = some (.cells (C.setIfInBounds j v) e) := by
  simp [World.setCell, Array.getElem?_modify, h]
theorem RowF.step {b : Nat} {e : TypeId} {size k : Nat} {Q : Nat → Value → Prop} (h : RowF w b e size k Q) (hk : k < size) {v : Value} (hv : Q k v) : RowF (w.setCell ⟨b, k, none⟩ v) b e size (k + 1) Q := by
  obtain ⟨C, h1, h2, h3⟩ := h
  refine ⟨C.setIfInBounds k v, heap_setCell_same h1 k v, by simp [h2], fun j hj => ?_⟩
  rw [Array.getElem?_setIfInBounds]
  by_cases e : k = j
  · subst e; exact ⟨v, by simp [h2, hk], hv⟩
  · rw [if_neg e]; exact h3 j (by omega)
theorem heap_new (w : World) (o : Obj) : (w.alloc o).heap[w.heap.size]? = some o := by
  show (w.heap.push o)[w.heap.size]? = some o
  simp
theorem RowF.made (w : World) (C : Array Value) (e : TypeId) (Q : Nat → Value → Prop) : RowF (w.alloc (.cells C e)) w.heap.size e C.size 0 Q :=
  ⟨C, heap_new w _, rfl, fun j hj => by omega⟩

theorem RowF.make (w : World) (C : Array Value) (e : TypeId) (Q : Nat → Value → Prop) {b size : Nat} (hb : b = w.heap.size) (hs : C.size = size) : RowF (w.alloc (.cells C e)) b e size 0 Q := by
  subst hb; subst hs; exact RowF.made w C e Q
theorem RowF.alloc {b : Nat} {e : TypeId} {size k : Nat} {Q : Nat → Value → Prop} (h : RowF w b e size k Q) (o : Obj) : RowF (w.alloc o) b e size k Q := h.kept (Below.heap_alloc _ _ _ h.lt)

/-- .. of five cells each -/
def RowF5 (w : World) (b : Nat) (e : TypeId) (size k : Nat) (R : Nat → Value → Prop) : Prop :=
  ∃ C : Array Value, w.heap[b]? = some (.cells C e) ∧ C.size = size * 5 ∧
    ∀ j, j < k → ∃ c0 c1 c2 c3 c4, C[j * 5]? = some c0 ∧ C[j * 5 + 1]? = some c1 ∧ C[j * 5 + 2]? = some c2 ∧ C[j * 5 + 3]? = some c3 ∧ C[j * 5 + 4]? = some c4 ∧ R j (.agg #[c0, c1, c2, c3, c4])

theorem RowF5.lt {b : Nat} {e : TypeId} {size k : Nat} {Q : Nat → Value → Prop} (h : RowF5 w b e size k Q) : b < w.heap.size := by
  obtain ⟨C, h1, _⟩ := h
  exact (Array.getElem?_eq_some_iff.1 h1).1
theorem RowF5.old {b : Nat} {e : TypeId} {size k : Nat} {Q : Nat → Value → Prop} (h : RowF5 w b e size k Q) {j : Nat} (hj : j < size * 5) : ∃ u, w.cell? ⟨b, j, none⟩ = some u := by
  obtain ⟨C, h1, h2, _⟩ := h
  have : j < C.size := by omega
  exact ⟨C[j], by simp [World.cell?, h1]⟩
theorem RowF5.frozen {b : Nat} {e : TypeId} {size k : Nat} {Q : Nat → Value → Prop} (h : RowF5 w b e size k Q) (j : Nat) : w.frozen? ⟨b, j, none⟩ = false := by
  obtain ⟨C, h1, h2, _⟩ := h
  simp [World.frozen?, h1]
theorem RowF5.kept {b : Nat} {e : TypeId} {size k : Nat} {Q : Nat → Value → Prop} (h : RowF5 w b e size k Q) (he : w'.heap[b]? = w.heap[b]?) : RowF5 w' b e size k Q := by
  obtain ⟨C, h1, h2⟩ := h
  exact ⟨C, he.trans h1, h2⟩
theorem RowF5.turn {b : Nat} {e : TypeId} {size k : Nat} {Q Q' : Nat → Value → Prop} (h : RowF5 w b e size k Q) (hq : ∀ j v, j < k → Q j v → Q' j v) : RowF5 w b e size k Q' := by
  obtain ⟨C, h1, h2, h3⟩ := h
  refine ⟨C, h1, h2, fun j hj => ?_⟩
  obtain ⟨c0, c1, c2, c3, c4, g0, g1, g2, g3, g4, h5⟩ := h3 j hj
  exact ⟨c0, c1, c2, c3, c4, g0, g1, g2, g3, g4, hq j _ hj h5⟩
theorem RowF5.at {b : Nat} {e : TypeId} {size k : Nat} {Q : Nat → Value → Prop} (h : RowF5 w b e size k Q) {j : Nat} (hj : j < k) : ∃ c0 c1 c2 c3 c4, w.rangeAt b (j * 5) [c0, c1, c2, c3, c4] ∧ Q j (.agg #[c0, c1, c2, c3, c4]) := by
  obtain ⟨C, h1, _, h3⟩ := h
  obtain ⟨c0, c1, c2, c3, c4, g0, g1, g2, g3, g4, h5⟩ := h3 j hj
  refine ⟨c0, c1, c2, c3, c4, fun i v hv => ?_, h5⟩
  simp only [World.cell?, h1]
  match i, hv with
  | 0, hv => cases hv; simpa using g0
  | 1, hv => cases hv; simpa using g1
  | 2, hv => cases hv; simpa using g2
  | 3, hv => cases hv; simpa using g3
  | 4, hv => cases hv; simpa using g4
theorem RowF5.made (w : World) (C : Array Value) (e : TypeId) (size : Nat) (hs : C.size = size * 5) (Q : Nat → Value → Prop) : RowF5 (w.alloc (.cells C e)) w.heap.size e size 0 Q :=
  ⟨C, heap_new w _, hs, fun j hj => by omega⟩
theorem RowF5.make (w : World) (C : Array Value) (e : TypeId) (size : Nat) (Q : Nat → Value → Prop) {b : Nat} (hb : b = w.heap.size) (hs : C.size = size * 5) : RowF5 (w.alloc (.cells C e)) b e size 0 Q := by
  subst hb; exact RowF5.made w C e size hs Q
theorem RowF5.alloc {b : Nat} {e : TypeId} {size k : Nat} {Q : Nat → Value → Prop} (h : RowF5 w b e size k Q) (o : Obj) : RowF5 (w.alloc o) b e size k Q := h.kept (Below.heap_alloc _ _ _ h.lt)
theorem get_five (C : Array Value) (o : Nat) (ho : o + 4 < C.size) (c0 c1 c2 c3 c4 : Value) (j : Nat) :
    (((((C.setIfInBounds o c0).setIfInBounds (o + 1) c1).setIfInBounds (o + 2) c2).setIfInBounds (o + 3) c3).setIfInBounds (o + 4) c4)[j]? =
      if j = o then some c0 else if j = o + 1 then some c1 else if j = o + 2 then some c2 else if j = o + 3 then some c3 else if j = o + 4 then some c4 else C[j]? := by
  simp only [Array.getElem?_setIfInBounds, Array.size_setIfInBounds]
  by_cases h0 : j = o
  · subst h0; simp; omega
  by_cases h1 : j = o + 1
  · subst h1; simp; omega
  by_cases h2 : j = o + 2
  · subst h2; simp; omega
  by_cases h3 : j = o + 3
  · subst h3; simp; omega
  by_cases h4 : j = o + 4
  · subst h4; simp; omega
  rw [if_neg (by omega), if_neg (by omega), if_neg (by omega), if_neg (by omega), if_neg (by omega), if_neg h0, if_neg h1, if_neg h2, if_neg h3, if_neg h4]
theorem RowF5.step {b : Nat} {e : TypeId} {size k : Nat} {Q : Nat → Value → Prop} (h : RowF5 w b e size k Q) (hk : k < size) {c0 c1 c2 c3 c4 : Value} (hv : Q k (.agg #[c0, c1, c2, c3, c4])) :
    RowF5 (((((w.setCell ⟨b, k * 5, none⟩ c0).setCell ⟨b, k * 5 + 1, none⟩ c1).setCell ⟨b, k * 5 + 2, none⟩ c2).setCell ⟨b, k * 5 + 3, none⟩ c3).setCell ⟨b, k * 5 + 4, none⟩ c4) b e size (k + 1) Q := by
  obtain ⟨C, h1, h2, h3⟩ := h
  have ho : k * 5 + 4 < C.size := by omega
  refine ⟨_, heap_setCell_same (heap_setCell_same (heap_setCell_same (heap_setCell_same (heap_setCell_same h1 _ _) _ _) _ _) _ _) _ _, by simp [h2], fun j hj => ?_⟩
  simp only [get_five C (k * 5) ho]
  by_cases e : j = k
  · subst e
    refine ⟨c0, c1, c2, c3, c4, by simp, ?_, ?_, ?_, ?_, hv⟩
    all_goals simp
  · obtain ⟨d0, d1, d2, d3, d4, g0, g1, g2, g3, g4, h5⟩ := h3 j (by omega)
    refine ⟨d0, d1, d2, d3, d4, ?_, ?_, ?_, ?_, ?_, h5⟩
    all_goals (rw [if_neg (by omega), if_neg (by omega), if_neg (by omega), if_neg (by omega), if_neg (by omega)]; assumption)
end

/-- 'make([]T, n)' -/
theorem run_make_n (t e : TypeId) (z : Value) (size bytes : Nat) (ht : Try.prog.underlying t = some (.slice e)) (hi : (Try.prog.info? e).map (fun i => (i.zero, i.size, i.bytes)) = some (some z, size, bytes))
    (n : Nat) (hb : bytes * n ≤ 140737488355328) (hn : n ≤ 1073741824) (w : World) :
    (Instr.makeSlice t (.int .i64 (n : Int)) (.int .i64 (n : Int))).run Try.prog w = .ok (.slice (some ⟨w.heap.size, 0, none⟩) n n) (w.alloc (.cells (madeCells z.cells (n * size)) e)) := by
  obtain ⟨i, h1, h2, h3, h4⟩ := info_parts hi
  have hb' : (i.bytes : Int) * (n : Int) ≤ 281474976710656 := by
    rw [h4]
    have h : ((bytes * n : Nat) : Int) ≤ 140737488355328 := by omega
    rw [Int.natCast_mul] at h
    omega
  have := run_make (P := Try.prog) w t e i z ht h1 h2 .i64 .i64 n n (by omega) (Int.le_refl _) hb' (by omega)
  simpa [h3] using this
theorem make_strs (n : Nat) (hn : n ≤ 1073741824) (w : World) :
    (Instr.makeSlice 23 (.int .i64 (n : Int)) (.int .i64 (n : Int))).run Try.prog w = .ok (.slice (some ⟨w.heap.size, 0, none⟩) n n) (w.alloc (.cells (madeCells #[.string ByteArray.empty] n) 9)) := by
  have := run_make_n 23 9 _ 1 16 Try.underlying23 info9 n (by omega) hn w
  rwa [Nat.mul_one] at this
theorem make_ints (n : Nat) (hn : n ≤ 1073741824) (w : World) :
    (Instr.makeSlice 47 (.int .i64 (n : Int)) (.int .i64 (n : Int))).run Try.prog w = .ok (.slice (some ⟨w.heap.size, 0, none⟩) n n) (w.alloc (.cells (madeCells #[.int .i64 0] n) 3)) := by
  have := run_make_n 47 3 _ 1 8 Try.underlying47 info3 n (by omega) hn w
  rwa [Nat.mul_one] at this
theorem make_anys (n : Nat) (hn : n ≤ 1073741824) (w : World) :
    (Instr.makeSlice 56 (.int .i64 (n : Int)) (.int .i64 (n : Int))).run Try.prog w = .ok (.slice (some ⟨w.heap.size, 0, none⟩) n n) (w.alloc (.cells (madeCells #[.nilIface] n) 20)) := by
  have := run_make_n 56 20 _ 1 16 Try.underlying56 info20 n (by omega) hn w
  rwa [Nat.mul_one] at this
/-- the cells of 'make([]Tree, n)' -/
def zeros5 (n : Nat) : Array Value := madeCells #[.int .i8 0, .bool false, .string ByteArray.empty, .slice none 0 0, .slice none 0 0] (n * 5)
theorem size_zeros5 (n : Nat) : (zeros5 n).size = n * 5 := size_madeCells _ _
theorem make_trees (n : Nat) (hn : n ≤ 1073741824) (w : World) :
    (Instr.makeSlice 24 (.int .i64 (n : Int)) (.int .i64 (n : Int))).run Try.prog w = .ok (.slice (some ⟨w.heap.size, 0, none⟩) n n) (w.alloc (.cells (zeros5 n) 26)) :=
  run_make_n 24 26 _ 5 72 Try.underlying24 info26 n (by omega) hn w
theorem make_zz (n : Nat) (hn : n ≤ 1073741824) (w : World) :
    (Instr.makeSlice 29 (.int .i64 (n : Int)) (.int .i64 (n : Int))).run Try.prog w = .ok (.slice (some ⟨w.heap.size, 0, none⟩) n n) (w.alloc (.cells (zeros5 n) 31)) :=
  run_make_n 29 31 _ 5 72 Try.underlying29 info31 n (by omega) hn w

theorem heap_setCell_other {w : World} {a : Addr} {b : Nat} (h : b ≠ a.block) (v : Value) : (w.setCell a v).heap[b]? = w.heap[b]? := Below.heap_setCell _ _ _ _ h
theorem Stay.setCell {p : Nat → Prop} {w : World} {a : Addr} (h : ¬ p a.block) (v : Value) : Stay p w (w.setCell a v) :=
  fun _ hp _ => heap_setCell_other (fun e => h (e ▸ hp)) v
/-- five cells stored one behind the other -/
abbrev set5 (w : World) (b o : Nat) (c0 c1 c2 c3 c4 : Value) : World :=
  ((((w.setCell ⟨b, o, none⟩ c0).setCell ⟨b, o + 1, none⟩ c1).setCell ⟨b, o + 2, none⟩ c2).setCell ⟨b, o + 3, none⟩ c3).setCell ⟨b, o + 4, none⟩ c4
theorem set5_other {w : World} {b o : Nat} {c0 c1 c2 c3 c4 : Value} {i : Nat} (h : i ≠ b) : (set5 w b o c0 c1 c2 c3 c4).heap[i]? = w.heap[i]? := by
  unfold set5
  rw [heap_setCell_other h, heap_setCell_other h, heap_setCell_other h, heap_setCell_other h, heap_setCell_other h]
theorem set5_size {w : World} {b o : Nat} {c0 c1 c2 c3 c4 : Value} : (set5 w b o c0 c1 c2 c3 c4).heap.size = w.heap.size := by simp [set5]
theorem set5_stay {p : Nat → Prop} {w : World} {b o : Nat} {c0 c1 c2 c3 c4 : Value} (h : ¬ p b) : Stay p w (set5 w b o c0 c1 c2 c3 c4) :=
  fun _ hp _ => set5_other (fun e => h (e ▸ hp))
theorem set5_below {B : Nat} {w : World} {b o : Nat} {c0 c1 c2 c3 c4 : Value} (h : B ≤ b) : Below B w (set5 w b o c0 c1 c2 c3 c4) :=
  (((((Below.refl B w).setCell (p := ⟨b, o, none⟩) h c0).setCell (p := ⟨b, o + 1, none⟩) h c1).setCell (p := ⟨b, o + 2, none⟩) h c2).setCell (p := ⟨b, o + 3, none⟩) h c3).setCell (p := ⟨b, o + 4, none⟩) h c4

theorem set5_range {w : World} {b o : Nat} {c0 c1 c2 c3 c4 u0 u1 u2 u3 u4 : Value} (h0 : w.cell? ⟨b, o, none⟩ = some u0) (h1 : w.cell? ⟨b, o + 1, none⟩ = some u1) (h2 : w.cell? ⟨b, o + 2, none⟩ = some u2) (h3 : w.cell? ⟨b, o + 3, none⟩ = some u3) (h4 : w.cell? ⟨b, o + 4, none⟩ = some u4) :
    (set5 w b o c0 c1 c2 c3 c4).rangeAt b o [c0, c1, c2, c3, c4] := by
  have ne : ∀ {i j : Nat}, i ≠ j → (⟨b, i, none⟩ : Addr) ≠ ⟨b, j, none⟩ := fun h e => h (by cases e; rfl)
  intro j v hv
  unfold set5
  match j, hv with
  | 0, hv =>
    cases hv
    rw [World.cell?_setCell_other _ _ _ _ (ne (by omega)), World.cell?_setCell_other _ _ _ _ (ne (by omega)), World.cell?_setCell_other _ _ _ _ (ne (by omega)), World.cell?_setCell_other _ _ _ _ (ne (by omega))]
    exact World.cell?_setCell_same _ _ _ h0
  | 1, hv =>
    cases hv
    rw [World.cell?_setCell_other _ _ _ _ (ne (by omega)), World.cell?_setCell_other _ _ _ _ (ne (by omega)), World.cell?_setCell_other _ _ _ _ (ne (by omega))]
    exact World.cell?_setCell_same _ _ _ (by rw [World.cell?_setCell_other _ _ _ _ (ne (by omega))]; exact h1)
  | 2, hv =>
    cases hv
    rw [World.cell?_setCell_other _ _ _ _ (ne (by omega)), World.cell?_setCell_other _ _ _ _ (ne (by omega))]
    exact World.cell?_setCell_same _ _ _ (by rw [World.cell?_setCell_other _ _ _ _ (ne (by omega)), World.cell?_setCell_other _ _ _ _ (ne (by omega))]; exact h2)
  | 3, hv =>
    cases hv
    rw [World.cell?_setCell_other _ _ _ _ (ne (by omega))]
    exact World.cell?_setCell_same _ _ _ (by rw [World.cell?_setCell_other _ _ _ _ (ne (by omega)), World.cell?_setCell_other _ _ _ _ (ne (by omega)), World.cell?_setCell_other _ _ _ _ (ne (by omega))]; exact h3)
  | 4, hv =>
    cases hv
    exact World.cell?_setCell_same _ _ _ (by rw [World.cell?_setCell_other _ _ _ _ (ne (by omega)), World.cell?_setCell_other _ _ _ _ (ne (by omega)), World.cell?_setCell_other _ _ _ _ (ne (by omega)), World.cell?_setCell_other _ _ _ _ (ne (by omega))]; exact h4)

theorem load5v (ty : TypeId) (h : ty = 26 ∨ ty = 31) {b o : Nat} {c0 c1 c2 c3 c4 : Value} {w : World} (hc : w.rangeAt b o [c0, c1, c2, c3, c4]) :
    (loadVar ty ⟨b, o, none⟩).run Try.prog w = .ok (.agg #[c0, c1, c2, c3, c4]) w := by
  rcases h with rfl | rfl
  · exact run_loadVar_mid w b o 26 [c0, c1, c2, c3, c4] _ hc Try.underlying26 rfl (by kernel_rfl)
  · exact run_loadVar_mid w b o 31 [c0, c1, c2, c3, c4] _ hc Try.underlying31 rfl (by kernel_rfl)
/-- the result lies in a box of five cells -/
theorem ret_cell5 {fn : Func} {p : Tmp} {ty : TypeId} (h : fn.results = #[.cell p ty]) (hty : ty = 26 ∨ ty = 31) {a : Act} {w : World} {b o : Nat} {c0 c1 c2 c3 c4 : Value} {R : Ending → World → Prop}
    (hp : a.tmps.getD p undef = .pointer (some ⟨b, o, none⟩)) (hr : w.rangeAt b o [c0, c1, c2, c3, c4]) (hd : a.defers = []) (hR : R (.returned (.agg #[c0, c1, c2, c3, c4])) w) : bodyPost Try.prog fn R .ret a w := by
  refine bodyPost_ret (v := .agg #[c0, c1, c2, c3, c4]) ?_ hd hR
  simp only [Array.getD_eq_getD_getElem?] at hp
  simp [results, h, hp, asAddr, load5v ty hty hr]

/-! ### a full row is a slice -/
theorem SlAt.whole_row {p : Nat → Prop} {b n cap : Nat} (hb : p b) (hn : n ≤ cap) (hc : cap ≤ maxLen) : SlAt p (.slice (some ⟨b, 0, none⟩) n cap) n b 0 := ⟨_, _, rfl, hn, hc, .inr rfl, .inr hb⟩
theorem le_maxLen {n : Nat} (h : n ≤ 1073741824) : n ≤ maxLen := by unfold maxLen; omega
theorem StrsAt.of_row {p : Nat → Prop} {w : World} {b : Nat} {e : TypeId} {n : Nat} {ks : List ByteArray} (hl : ks.length = n) (hb : p b) (hn : n ≤ 1073741824)
    (h : RowF w b e n n (fun j u => ∀ s, ks[j]? = some s → u = .string s)) : StrsAt p w (.slice (some ⟨b, 0, none⟩) n n) ks := by
  subst hl
  refine ⟨b, 0, SlAt.whole_row hb (Nat.le_refl _) (le_maxLen hn), fun i s hs => ?_⟩
  obtain ⟨v, h1, h2⟩ := h.at (lt_of_some hs)
  rw [Nat.zero_add, h1, h2 s hs]
theorem KidsAt.of_row {α : Type} {p : Nat → Prop} {w : World} {R : Value → α → Prop} {b : Nat} {e : TypeId} {n : Nat} {l : List α} (hl : l.length = n) (hb : p b) (hn : n ≤ 1073741824)
    (h : RowF5 w b e n n (fun j u => ∀ x, l[j]? = some x → R u x)) : KidsAt p w R (.slice (some ⟨b, 0, none⟩) n n) l := by
  subst hl
  refine ⟨b, 0, SlAt.whole_row hb (Nat.le_refl _) (le_maxLen hn), fun i x hx => ?_⟩
  obtain ⟨c0, c1, c2, c3, c4, h1, h2⟩ := h.at (lt_of_some hx)
  exact ⟨c0, c1, c2, c3, c4, by rw [Nat.zero_add]; exact h1, h2 x hx⟩

theorem StrsAt.nil (p : Nat → Prop) (w : World) : StrsAt p w (.slice none 0 0) [] := ⟨0, 0, ⟨_, _, rfl, Nat.le_refl _, Nat.zero_le _, .inl rfl, .inl rfl⟩, fun i s h => by simp at h⟩
theorem KidsAt.nil {α : Type} (p : Nat → Prop) (w : World) (R : Value → α → Prop) : KidsAt p w R (.slice none 0 0) [] := ⟨0, 0, ⟨_, _, rfl, Nat.le_refl _, Nat.zero_le _, .inl rfl, .inl rfl⟩, fun i s h => by simp at h⟩
theorem leafAt (p : Nat → Prop) (w : World) (n : Nat) (k : Int) (b : Bool) (s : ByteArray) : TreeAt p w (n + 1) (.agg #[.int .i8 k, .bool b, .string s, .slice none 0 0, .slice none 0 0]) (leaf k b s) :=
  ⟨_, _, rfl, StrsAt.nil _ _, KidsAt.nil _ _ _⟩
theorem alloc5_range (w : World) (c0 c1 c2 c3 c4 : Value) (e : TypeId) {b : Nat} (hb : b = w.heap.size) : (w.alloc (.cells #[c0, c1, c2, c3, c4] e)).rangeAt b 0 [c0, c1, c2, c3, c4] := by
  subst hb
  intro j v hv
  rw [Nat.zero_add, World.cell?_alloc_at _ _ _ _ rfl]
  simpa using hv

/-- a call that returns a tree's five cells -/
def Ret5 (R : Value → World → Prop) (e : Ending) (w' : World) : Prop :=
  ∃ k b s a1 n1 p1 a2 n2 p2, e = .returned (.agg #[.int .i8 k, .bool b, .string s, .slice a1 n1 p1, .slice a2 n2 p2]) ∧ R (.agg #[.int .i8 k, .bool b, .string s, .slice a1 n1 p1, .slice a2 n2 p2]) w'

end Go.Proofs.Qxb6616028a
