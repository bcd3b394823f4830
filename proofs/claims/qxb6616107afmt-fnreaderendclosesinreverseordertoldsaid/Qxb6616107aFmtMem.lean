/- WHAT LIES IN MEMORY: slices of strings and integers, a reader, its open elements; the small calls. -/
import Derived.Test.Qxb6616107aFmtRefuse
import Derived.Deep.AppendLies
import Derived.Deep.QuietTactic
import Derived.BigQuiet
namespace Go.Proofs.Qxb6616107aFmt
open Go.RowKit

/-! ### slices -/
def SlAt (v : Value) (n b o : Nat) : Prop := ∃ a cap, v = .slice a n cap ∧ n ≤ cap ∧ cap ≤ maxLen ∧ (n = 0 ∨ a = some ⟨b, o, none⟩)
def StrsAt (w : World) (v : Value) (l : List ByteArray) : Prop := ∃ b o, SlAt v l.length b o ∧ ∀ (i : Nat) x, l[i]? = some x → w.cell? ⟨b, o + i, none⟩ = some (.string x)
def IntsAt (w : World) (v : Value) (l : List Int) : Prop := ∃ b o, SlAt v l.length b o ∧ ∀ (i : Nat) x, l[i]? = some x → w.cell? ⟨b, o + i, none⟩ = some (.int .i64 x)

theorem heap_setCell_same {w : World} {b : Nat} {C : Array Value} {e : TypeId} (h : w.heap[b]? = some (.cells C e)) (j : Nat) (v : Value) : (w.setCell ⟨b, j, none⟩ v).heap[b]? = some (.cells (C.setIfInBounds j v) e) := by
  simp [World.setCell, Array.getElem?_modify, h]
theorem heap_setCell_other {w : World} {a : Addr} {b : Nat} (h : b ≠ a.block) (v : Value) : (w.setCell a v).heap[b]? = w.heap[b]? := Below.heap_setCell _ _ _ _ h
theorem heap_new (w : World) (o : Obj) : (w.alloc o).heap[w.heap.size]? = some o := by
  show (w.heap.push o)[w.heap.size]? = some o
  simp
theorem heap_new_at (w : World) (o : Obj) {b : Nat} (hb : b = w.heap.size) : (w.alloc o).heap[b]? = some o := by
  subst hb; exact heap_new w o
theorem lt_of_heap {w : World} {b : Nat} {o : Obj} (h : w.heap[b]? = some o) : b < w.heap.size := (Array.getElem?_eq_some_iff.1 h).1

/-! ### a reader and its elements -/
abbrev Ent := Nat × ByteArray × ByteArray
def ent (x : Ent) : List Value := [.pointer (some ⟨x.1, 0, none⟩), .string x.2.1, .string x.2.2, .map none]
def ents (L : List Ent) : List Value := L.flatMap ent
theorem ents_snoc (L : List Ent) (x : Ent) : ents (L ++ [x]) = ents L ++ ent x := by simp [ents]
theorem ents_length (L : List Ent) : (ents L).length = L.length * 4 := by
  induction L with
  | nil => rfl
  | cons a l ih => simp only [ents, List.flatMap_cons, List.length_append] at *; simp [ent, ih]; omega
theorem ents_get : ∀ {L : List Ent} {i : Nat} {x : Ent}, L[i]? = some x → ∀ j, j < 4 → (ents L)[i * 4 + j]? = (ent x)[j]?
  | [], i, v, h, _, _ => by simp at h
  | a :: l, 0, v, h, j, hj => by
    simp at h; subst h
    have : j < (ent a).length := by simp [ent]; omega
    simp [ents, List.getElem?_append_left, this]
  | a :: l, i + 1, v, h, j, hj => by
    have ih := ents_get (L := l) (i := i) (x := v) (by simpa using h) j hj
    have e : (i + 1) * 4 + j = (ent a).length + (i * 4 + j) := by simp [ent]; omega
    rw [e, ents, List.flatMap_cons, List.getElem?_append_right (by omega)]
    simpa [ents] using ih

def ElAt (w : World) (e : Nat) (i t o : Int) : Prop := ∃ C : Array Value, w.heap[e]? = some (.cells C 53) ∧ C.size = 16 ∧ C[11]? = some (.int .i64 i) ∧ C[13]? = some (.int .i64 t) ∧ C[9]? = some (.int .i64 o)
def RdAt (w : World) (R : Nat) (v : Value) (m : Int) : Prop := w.heap[R]? = some (.cells #[.pointer none, v, .pointer none, .int .i64 m] 41)
theorem ElAt.kept {w w' : World} {e : Nat} {i t o : Int} (h : ElAt w e i t o) (he : w'.heap[e]? = w.heap[e]?) : ElAt w' e i t o := by
  obtain ⟨C, h1, h2⟩ := h
  exact ⟨C, he.trans h1, h2⟩
theorem ElAt.lt {w : World} {e : Nat} {i t o : Int} (h : ElAt w e i t o) : e < w.heap.size := by
  obtain ⟨C, h1, h2⟩ := h
  exact lt_of_heap h1

theorem newReader_calls (m : Int) (w : World) : Calls Tryf.prog 6 #[.int .i64 m] w fun e w' => e = .returned (.pointer (some ⟨w.heap.size, 0, none⟩)) ∧ w' = w.alloc (.cells #[.pointer none, .slice none 0 0, .pointer none, .int .i64 m] 41) := by
  go_enter Tryf.func6, Tryf.ntmps6
  go_wp2_with fail
  go_ret
  exact ⟨rfl, rfl⟩

theorem openLen_calls (R : Nat) (a : Option Addr) (n cap : Nat) (m : Int) (w : World) (h : RdAt w R (.slice a n cap) m) : Calls Tryf.prog 10 #[.pointer (some ⟨R, 0, none⟩)] w fun e w' => e = .returned (.int .i64 n) ∧ w' = w := by
  have h1 : w.cell? ⟨R, 1, none⟩ = some (.slice a n cap) := by unfold RdAt at h; simp [World.cell?, h]
  clear h
  go_enter Tryf.func10, Tryf.ntmps10
  go_wp2_with fail
  go_ret
  exact ⟨rfl, rfl⟩

theorem setMark_calls (R : Nat) (v : Value) (m m' : Int) (w : World) (h : RdAt w R v m) : Calls Tryf.prog 8 #[.pointer (some ⟨R, 0, none⟩), .int .i64 m'] w fun e w' => e = .returned (.tuple #[]) ∧ w' = w.setCell ⟨R, 3, none⟩ (.int .i64 m') := by
  have h1 : w.cell? ⟨R, 3, none⟩ = some (.int .i64 m) := by unfold RdAt at h; simp [World.cell?, h]
  have h2 : w.frozen? ⟨R, 3, none⟩ = false := by unfold RdAt at h; simp [World.frozen?, h]
  clear h
  go_enter Tryf.func8, Tryf.ntmps8
  go_wp2_with fail
  go_end0
  exact ⟨rfl, rfl⟩

theorem ends_calls (e : Nat) (i t o : Int) (w : World) (h : ElAt w e i t o) : Calls Tryf.prog 11 #[.pointer (some ⟨e, 0, none⟩)] w fun x w' => x = .returned (.tuple #[.int .i64 i, .int .i64 t, .int .i64 o]) ∧ Below w.heap.size w w' := by
  obtain ⟨C, h1, h2, h3, h4, h5⟩ := h
  have g1 : w.cell? ⟨e, 11, none⟩ = some (.int .i64 i) := by simp [World.cell?, h1, h3]
  have g2 : w.cell? ⟨e, 13, none⟩ = some (.int .i64 t) := by simp [World.cell?, h1, h4]
  have g3 : w.cell? ⟨e, 9, none⟩ = some (.int .i64 o) := by simp [World.cell?, h1, h5]
  clear h1 h2 h3 h4 h5
  go_enter Tryf.func11, Tryf.ntmps11
  go_wp2_with fail
  go_quiet (fail)
  go_wp2_with fail
  go_ret3
  exact ⟨rfl, below_drewN (Below.refl _ _) _⟩

/-! ### the stack while it grows -/
theorem own_stays {w w' : World} {base n size : Nat} {e : TypeId} {v : Value} {xs : List Value} (h : w.ownsRow base e size v n xs) (he : ∀ g, v.ownBlock = some g → w'.heap[g]? = w.heap[g]?) : w'.ownsRow base e size v n xs := by
  refine ⟨h.1, ?_⟩
  rcases h.2 with h1 | ⟨g, cap, cur, rfl, hb, hg, h2⟩
  · exact .inl h1
  · exact .inr ⟨g, cap, cur, rfl, hb, (he g rfl).trans hg, h2⟩
theorem own_lt {w : World} {base n size : Nat} {e : TypeId} {v : Value} {xs : List Value} (h : w.ownsRow base e size v n xs) {g : Nat} (hg : v.ownBlock = some g) : base ≤ g ∧ g < w.heap.size := by
  rcases h.2 with ⟨rfl, _⟩ | ⟨g', cap, cur, rfl, hb, hh, h2⟩
  · simp [Value.ownBlock] at hg
  · simp [Value.ownBlock] at hg
    subst hg
    exact ⟨hb, lt_of_heap hh⟩

structure St (B : Nat) (w : World) (R : Nat) (L : List Ent) (m : Int) (v : Value) : Prop where
  rd : RdAt w R v m
  hR : B ≤ R
  own : w.ownsRow B 56 4 v L.length (ents L)
  sep : v.ownBlock ≠ some R
  els : ∀ x ∈ L, B ≤ x.1 ∧ x.1 ≠ R ∧ v.ownBlock ≠ some x.1 ∧ ElAt w x.1 0 0 0
  nd : (L.map (·.1)).Nodup

set_option maxRecDepth 100000 in
set_option maxHeartbeats 2000000 in
theorem push_calls (B R : Nat) (L : List Ent) (m : Int) (v : Value) (s l : ByteArray) (w : World) (h : St B w R L m v) (hn : L.length ≤ 65536) :
    Calls Tryf.prog 7 #[.pointer (some ⟨R, 0, none⟩), .string s, .string l] w fun e w' => e = .returned (.pointer (some ⟨w.heap.size, 0, none⟩)) ∧ (∃ v', St B w' R (L ++ [(w.heap.size, s, l)]) m v') ∧ Below B w w' := by
  have hRl := lt_of_heap h.rd
  have hBw : B ≤ w.heap.size := Nat.le_trans h.hR (Nat.le_of_lt hRl)
  have h1 : w.cell? ⟨R, 1, none⟩ = some v := by have := h.rd; unfold RdAt at this; simp [World.cell?, this]
  have H := hide h
  clear h
  obtain ⟨i, hi, hiz, his, hib⟩ : ∃ i, Tryf.prog.info? 56 = some i ∧ i.zero = some (.agg #[.pointer none, .string ByteArray.empty, .string ByteArray.empty, .map none]) ∧ i.size = 4 ∧ i.bytes = 48 := by
    have : (Tryf.prog.info? 56).map (fun i => (i.zero, i.size, i.bytes)) = some (some (.agg #[.pointer none, .string ByteArray.empty, .string ByteArray.empty, .map none]), 4, 48) := by kernel_rfl
    cases hq : Tryf.prog.info? 56 with
    | none => simp [hq] at this
    | some i => simp [hq] at this; exact ⟨i, rfl, this.1, this.2.1, this.2.2⟩
  have hzero : Hid ((((w.alloc (.cells #[.string { data := #[] }, .string { data := #[] }, .slice none 0 0, .slice none 0 0, .pointer none, .slice none 0 0, .bool false, .int .i64 0, .int .i64 0, .int .i64 0, .int .i64 0, .int .i64 0, .int .i64 0, .int .i64 0, .slice none 0 0, .int .i64 0] 53)).alloc (.cells #[.pointer (some ⟨w.heap.size, 0, none⟩), .string s, .string l, .map none] 56)).heap.size) = w.heap.size + 2) := hide (by simp)
  go_enter Tryf.func7, Tryf.ntmps7
  go_wp2_with (first | (at_builtin; refine wpList_append_lies _ (by rfl) _ _ 39 (by rfl) B 56 i _ 4 48 Tryf.underlying39 hi hiz his hib rfl (by omega) v L.length _ (by rfl) ((H.out.own.alloc _).alloc _) ⟨w.heap.size + 1, 0, none⟩ 1 1 [.pointer (some ⟨w.heap.size, 0, none⟩), .string s, .string l, .map none] (by rfl) (by rfl) (World.news_of_block (cs := #[.pointer (some ⟨w.heap.size, 0, none⟩), .string s, .string l, .map none]) (t := 56) (fr := (0, 0)) (heap_new_at _ _ (by simp))) (by simp [Value.oneCell']) (by omega) (by unfold maxLen; omega) (by omega) (by simp; omega) (w.heap.size + 2) hzero.out ?_; intro g cap w3 hown hgrow hat hlt3; have hold : ∀ b, b < w.heap.size → v.ownBlock ≠ some b → w3.heap[b]? = w.heap[b]? := (fun b hb hne => (hgrow.block b (by simp; omega) (fun e => hne e.symm)).trans (((((Below.refl w.heap.size w).alloc (Nat.le_refl _) _).alloc (by simp) _).block b hb))); have hRd : RdAt w3 R v m := ((hold R hRl H.out.sep).trans H.out.rd); have r1 : w3.cell? ⟨R, 1, none⟩ = some v := (by unfold RdAt at hRd; simp [World.cell?, hRd]); have r2 : w3.frozen? ⟨R, 1, none⟩ = false := (by unfold RdAt at hRd; simp [World.frozen?, hRd])))
  go_ret
  have hgR : g ≠ R := by
    rcases hat with h | h
    · intro e; subst e; exact H.out.sep h
    · omega
  have hgs : g ≠ w.heap.size := by
    rcases hat with h | h
    · have := (own_lt H.out.own h).2; omega
    · omega
  have hnew : w3.heap[w.heap.size]? = some (.cells #[.string { data := #[] }, .string { data := #[] }, .slice none 0 0, .slice none 0 0, .pointer none, .slice none 0 0, .bool false, .int .i64 0, .int .i64 0, .int .i64 0, .int .i64 0, .int .i64 0, .int .i64 0, .int .i64 0, .slice none 0 0, .int .i64 0] 53) := by
    refine (hgrow.block w.heap.size (by simp; omega) (fun e => ?_)).trans ?_
    · have := (own_lt H.out.own e.symm).2; omega
    · rw [Below.heap_alloc _ _ _ (by simp)]; exact heap_new w _
  refine ⟨rfl, ⟨_, ⟨(heap_setCell_same hRd 1 _).trans rfl, H.out.hR, ?_, fun e => hgR (by simpa [Value.ownBlock] using e), ?_, ?_⟩⟩, ?_⟩
  · rw [List.length_append, ents_snoc]
    exact own_stays hown (fun g' hg' => heap_setCell_other (by have : g = g' := (by simpa [Value.ownBlock] using hg'); show g' ≠ R; omega) _)
  · intro x hx
    rcases List.mem_append.1 hx with hx | hx
    · obtain ⟨a1, a2, a3, a4⟩ := H.out.els x hx
      have hxl := a4.lt
      refine ⟨a1, a2, fun e => ?_, a4.kept ((heap_setCell_other a2 _).trans (hold x.1 hxl a3))⟩
      have e' : g = x.1 := by simpa [Value.ownBlock] using e
      rcases hat with h | h
      · rw [e'] at h; exact a3 h
      · omega
    · obtain rfl := List.mem_singleton.1 hx
      refine ⟨hBw, by show w.heap.size ≠ R; omega, fun e => hgs (by simpa [Value.ownBlock] using e), ⟨_, (heap_setCell_other (by show w.heap.size ≠ R; omega) _).trans hnew, rfl, rfl, rfl, rfl⟩⟩
  · rw [List.map_append, List.nodup_append]
    refine ⟨H.out.nd, by simp, ?_⟩
    intro a ha b hb
    obtain ⟨x, hx, rfl⟩ := List.mem_map.1 ha
    simp at hb
    subst hb
    have := (H.out.els x hx).2.2.2.lt
    omega
  · exact (((((Below.refl B w).alloc hBw _).alloc (by simp; omega) _).grown hgrow (by simp; omega) (fun k hk => (own_lt H.out.own hk).1)).setCell (p := ⟨R, 1, none⟩) H.out.hR _)
end Go.Proofs.Qxb6616107aFmt
