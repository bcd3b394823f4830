/- Merge, walked. -/
import Derived.Test.Qxb6616028aClone
namespace Go.Proofs.Qxb6616028a
open Go.RowKit
open Go.ChangeMaps (setBlock)

theorem AnyAt.old {w : World} {p : Nat → Prop} : ∀ {n : Nat} {v : Value} {t : Tr n}, AnyAt p w n v t → AnyAt (fun b => p b ∧ b < w.heap.size) w n v t
  | 0, _, _, h => h.elim
  | n + 1, v, t, h => by
    rcases h with h | h | h | h | ⟨m, kvs, kids, h1, h2, h3, h4, h5, h6, h7⟩ | ⟨s, b, o, kids, h1, h2, ⟨a, cap, g1, g2, g3, g4, g5⟩, h4⟩
    · exact .inl h
    · exact .inr (.inl h)
    · exact .inr (.inr (.inl h))
    · exact .inr (.inr (.inr (.inl h)))
    · exact .inr (.inr (.inr (.inr (.inl ⟨m, kvs, kids, h1, ⟨h2, h3.lt⟩, h3, h4, h5, h6, fun i x y hx hy => AnyAt.old (h7 i x y hx hy)⟩))))
    · refine .inr (.inr (.inr (.inr (.inr ⟨s, b, o, kids, h1, h2, ⟨a, cap, g1, g2, g3, g4, ?_⟩, fun i x hx => ?_⟩))))
      · rcases Nat.eq_zero_or_pos kids.length with h0 | h0
        · exact .inl h0
        · obtain ⟨y, h5, _⟩ := h4 0 _ (List.getElem?_eq_getElem h0)
          exact .inr ⟨g5.resolve_left (by omega), World.block_lt_of_cell? w _ h5⟩
      · obtain ⟨y, h5, h6⟩ := h4 i x hx
        exact ⟨y, h5, AnyAt.old h6⟩

/-- two lists of pairs with the same keys, their values related -/
def Rel {α β : Type} (R : α → β → Prop) : List (ByteArray × α) → List (ByteArray × β) → Prop
  | [], [] => True
  | x :: l, y :: m => x.1 = y.1 ∧ R x.2 y.2 ∧ Rel R l m
  | _, _ => False
section
variable {α β : Type} {R S : α → β → Prop}
theorem Rel.mono (h : ∀ a b, R a b → S a b) : ∀ {l : List (ByteArray × α)} {m : List (ByteArray × β)}, Rel R l m → Rel S l m
  | [], [], _ => trivial
  | _ :: _, _ :: _, ⟨h1, h2, h3⟩ => ⟨h1, h _ _ h2, Rel.mono h h3⟩
theorem Rel.keys : ∀ {l : List (ByteArray × α)} {m : List (ByteArray × β)}, Rel R l m → l.map (·.1) = m.map (·.1)
  | [], [], _ => rfl
  | _ :: _, _ :: _, ⟨h1, _, h3⟩ => by rw [List.map_cons, List.map_cons, h1, Rel.keys h3]
theorem Rel.ins {k : ByteArray} {a : α} {b : β} (hab : R a b) : ∀ {l : List (ByteArray × α)} {m : List (ByteArray × β)}, Rel R l m → Rel R (ins k a l) (ins k b m)
  | [], [], _ => ⟨rfl, hab, trivial⟩
  | x :: l, y :: m, ⟨h1, h2, h3⟩ => by
    unfold Qxb6616028a.ins
    rw [← h1]
    split
    · exact ⟨rfl, hab, h1, h2, h3⟩
    · split
      · exact ⟨h1, h2, Rel.ins hab h3⟩
      · exact ⟨rfl, hab, h3⟩
theorem Rel.at : ∀ {l : List (ByteArray × α)} {m : List (ByteArray × β)}, Rel R l m → ∀ (i : Nat) x y, l[i]? = some x → m[i]? = some y → R x.2 y.2
  | [], [], _, i, x, y, hx, _ => by simp at hx
  | p :: l, q :: m, ⟨_, h2, h3⟩, 0, x, y, hx, hy => by
    simp at hx hy
    subst hx; subst hy
    exact h2
  | p :: l, q :: m, ⟨_, h2, h3⟩, i + 1, x, y, hx, hy => Rel.at h3 i x y (by simpa using hx) (by simpa using hy)
theorem Rel.of : ∀ {l : List (ByteArray × α)} {m : List (ByteArray × β)}, l.map (·.1) = m.map (·.1) → (∀ (i : Nat) x y, l[i]? = some x → m[i]? = some y → R x.2 y.2) → Rel R l m
  | [], [], _, _ => trivial
  | [], _ :: _, h, _ => by simp at h
  | _ :: _, [], h, _ => by simp at h
  | x :: l, y :: m, h, hr => by
    rw [List.map_cons, List.map_cons, List.cons.injEq] at h
    exact ⟨h.1, hr 0 x y rfl rfl, Rel.of h.2 (fun i a b ha hb => hr (i + 1) a b (by simpa using ha) (by simpa using hb))⟩
theorem Rel.look : ∀ {l : List (ByteArray × α)} {m : List (ByteArray × β)}, Rel R l m → ∀ {k : ByteArray} {b : β}, look k m = some b → ∃ a, (k, a) ∈ l ∧ R a b
  | [], [], _, k, b, h => by simp [Qxb6616028a.look] at h
  | x :: l, y :: m, ⟨h1, h2, h3⟩, k, b, h => by
    unfold Qxb6616028a.look at h
    by_cases e : y.1 = k
    · rw [if_pos e] at h
      cases h
      exact ⟨x.2, by rw [← e, ← h1]; exact List.mem_cons_self, h2⟩
    · rw [if_neg e] at h
      obtain ⟨a, h4, h5⟩ := Rel.look h3 h
      exact ⟨a, List.mem_cons_of_mem _ h4, h5⟩
end

/-- block m holds the pairs of M -/
def JInv (p : Nat → Prop) (w : World) (n m : Nat) (M : List (ByteArray × Tr n)) : Prop := ∃ kvs, MapAt w m kvs ∧ Rel (fun v x => AnyAt p w n v x) kvs M

theorem JInv.stay {p : Nat → Prop} {w w' : World} {n m : Nat} {M : List (ByteArray × Tr n)} (h : JInv p w n m M) (hm : w'.heap[m]? = w.heap[m]?) (hs : Stay p w w') : JInv p w' n m M := by
  obtain ⟨kvs, h1, h2⟩ := h
  exact ⟨kvs, h1.stay (fun _ => hm), h2.mono (fun v x h => h.mono hs (fun _ h => h))⟩
theorem JInv.look {p : Nat → Prop} {w : World} {n m : Nat} {M : List (ByteArray × Tr n)} (h : JInv p w n m M) (hs : SortedK (M.map (·.1))) (k : ByteArray) :
    (∃ u v, look k M = some u ∧ (Instr.lookup 55 (.map (some m)) (.string k) false).run Try.prog w = .ok v w ∧ AnyAt p w n v u) ∨
    (look k M = none ∧ (Instr.lookup 55 (.map (some m)) (.string k) false).run Try.prog w = .ok .nilIface w) := by
  obtain ⟨kvs, h1, h2⟩ := h
  cases e : Qxb6616028a.look k M with
  | none =>
    right
    refine ⟨rfl, h1.look_none fun q hq hk => ?_⟩
    have : q.1 ∈ M.map (·.1) := by rw [← h2.keys]; exact List.mem_map.2 ⟨q, hq, rfl⟩
    obtain ⟨y, hy, hy2⟩ := List.mem_map.1 this
    exact Qxb6616028a.look_none e y hy (hy2.trans hk)
  | some u =>
    left
    obtain ⟨v, hv, hR⟩ := h2.look e
    exact ⟨u, v, rfl, h1.look (by rw [h2.keys]; exact hs) hv, hR⟩
theorem JInv.step {p : Nat → Prop} {w : World} {n m : Nat} {M : List (ByteArray × Tr n)} (h : JInv p w n m M) (hs : SortedK (M.map (·.1))) (k : ByteArray) {v : Value} {x : Tr n} (hv : AnyAt p w n v x) (hm : ¬ p m) :
    ∃ o, (Instr.mapUpdate 55 (.map (some m)) (.string k) v).run Try.prog w = .ok () (setBlock w m o) ∧ JInv p (setBlock w m o) n m (ins k x M) := by
  obtain ⟨kvs, h1, h2⟩ := h
  obtain ⟨o, h3, h4⟩ := h1.update (by rw [h2.keys]; exact hs) k v
  refine ⟨o, h3, _, h4, Rel.ins ?_ (h2.mono (fun v x h => h.mono (stay_setBlock hm o) (fun _ h => h)))⟩
  exact hv.mono (stay_setBlock hm o) (fun _ h => h)
theorem JInv.done {p : Nat → Prop} {w : World} {n m : Nat} {M : List (ByteArray × Tr n)} (h : JInv p w n m M) (hs : SortedK (M.map (·.1))) {q : Nat → Prop} (hq : ∀ b, p b → q b) (hm : q m) :
    AnyAt q w (n + 1) (.iface 55 (.map (some m))) (⟨4, false, ByteArray.empty, M.map (·.1), M.map (·.2)⟩ : Node (Tr n)) := by
  obtain ⟨kvs, h1, h2⟩ := h
  refine .inr (.inr (.inr (.inr (.inl ⟨m, kvs, M.map (·.2), rfl, hm, h1, by rw [h2.keys]; exact hs, by rw [h2.keys], ?_, ?_⟩))))
  · have := congrArg List.length h2.keys
    simp at this
    simp [this]
  · intro i x y hx hy
    rw [List.getElem?_map] at hx
    cases hM : M[i]? with
    | none => simp [hM] at hx
    | some z =>
      simp [hM] at hx
      subst hx
      exact (h2.at i y z hy hM).mono (fun _ _ _ => rfl) hq

theorem assert_hit1 (t : TypeId) (d : TypeDesc) (hu : Try.prog.underlying t = some d) (hd : ∀ ms, d ≠ .interface ms) (v : Value) (w : World) :
    (Instr.typeAssert (.iface t v) 20 t false).run Try.prog w = .ok v w := by
  simp only [Instr.typeAssert, Sem.run_bind, run_underlying hu, Result.andThen_ok]
  cases d <;> first | exact absurd rfl (hd _) | simp
end Go.Proofs.Qxb6616028a
