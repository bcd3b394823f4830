/- What zzMergeModel's loop keeps; trees in normal form. -/
import Derived.Test.Qxb6616028aMergeMap
import Derived.Test.Qxb6616028aOwn
namespace Go.Proofs.Qxb6616028a
open Go.RowKit

/-- sorted keys, a kid a key -/
def NormT : (n : Nat) → Tr n → Prop
  | 0, _ => False
  | n + 1, t =>
    let t : Node (Tr n) := t
    (t.kind = 4 → SortedK t.keys ∧ t.kids.length = t.keys.length) ∧ ∀ k ∈ t.kids, NormT n k

structure PInv (Q : Nat → Prop) (B : Nat) (w : World) (n : Nat) (gk ck gd cd : Nat) (MK M : List (ByteArray × Tr n)) (vs : List V5) : Prop where
  ownK : w.ownsRow B 9 1 (.slice (some ⟨gk, 0, none⟩) MK.length ck) MK.length (strVs (MK.map (·.1)))
  ownD : w.ownsRow B 26 5 (.slice (some ⟨gd, 0, none⟩) M.length cd) M.length (flat vs)
  ne : gk ≠ gd
  trees : ∀ (i : Nat) x v, M[i]? = some x → vs[i]? = some v → TreeAt (fun b => Q b ∧ b ≠ gk ∧ b ≠ gd) w n v.val x.2

section
variable {Q : Nat → Prop} {B : Nat} {w w' : World} {n : Nat} {gk ck gd cd : Nat} {MK M : List (ByteArray × Tr n)} {vs : List V5}
theorem PInv.lens (h : PInv Q B w n gk ck gd cd MK M vs) : M.length = vs.length := by
  have := h.ownD.1; rw [flat_length] at this; omega
theorem PInv.below (h : PInv Q B w n gk ck gd cd MK M vs) (hb : Below w.heap.size w w') : PInv Q B w' n gk ck gd cd MK M vs :=
  ⟨own_stay h.ownK (hb.block _ (own_caps h.ownK).2.2.2), own_stay h.ownD (hb.block _ (own_caps h.ownD).2.2.2), h.ne, fun i x v hx hv => (h.trees i x v hx hv).below hb⟩
/-- a key has been appended -/
theorem PInv.key {x : World} (h : PInv Q B w n gk ck gd cd M M vs) (hx : Below w.heap.size w x) {g1 c1 : Nat} {q : ByteArray × Tr n} (hown : w'.ownsRow B 9 1 (.slice (some ⟨g1, 0, none⟩) (M.length + 1) c1) (M.length + 1) (strVs (M.map (·.1)) ++ [.string q.1]))
    (hg : x.grownBy w' (some gk)) (hat : some gk = some g1 ∨ g1 = x.heap.size) : PInv Q B w' n g1 c1 gd cd (M ++ [q]) M vs := by
  have hk := own_caps h.ownK
  have hd := own_caps h.ownD
  have hsz := hx.size
  have hblk : ∀ b, b < w.heap.size → b ≠ gk → w'.heap[b]? = w.heap[b]? := fun b hb hne => (hg.block b (by omega) (by simpa using hne)).trans (hx.block b hb)
  have hne1 : g1 ≠ gd := by
    rcases hat with h1 | h1
    · cases h1; exact h.ne
    · omega
  refine ⟨?_, own_stay h.ownD (hblk gd hd.2.2.2 (fun e => h.ne e.symm)), hne1, fun i y v hy hv => ?_⟩
  · rw [List.length_append, List.map_append, strVs, List.map_append]; exact hown
  · refine (h.trees i y v hy hv).old.mono (fun b hp _ => hblk b hp.2 hp.1.2.1) (fun b hp => ⟨hp.1.1, ?_, hp.1.2.2⟩)
    rcases hat with h1 | h1
    · cases h1; exact hp.1.2.1
    · have := hp.2; omega
/-- a kid has been appended -/
theorem PInv.kid {x : World} {q : ByteArray × Tr n} (h : PInv Q B w n gk ck gd cd (M ++ [q]) M vs) (hx : Below w.heap.size w x) {g1 c1 : Nat} {v : V5} (hown : w'.ownsRow B 26 5 (.slice (some ⟨g1, 0, none⟩) (M.length + 1) c1) (M.length + 1) (flat vs ++ v.cells))
    (hg : x.grownBy w' (some gd)) (hat : some gd = some g1 ∨ g1 = x.heap.size) (hv : TreeAt (fun b => Q b ∧ b ≠ gk ∧ b ≠ gd) w n v.val q.2) : PInv Q B w' n gk ck g1 c1 (M ++ [q]) (M ++ [q]) (vs ++ [v]) := by
  have hk := own_caps h.ownK
  have hd := own_caps h.ownD
  have hsz := hx.size
  have hblk : ∀ b, b < w.heap.size → b ≠ gd → w'.heap[b]? = w.heap[b]? := fun b hb hne => (hg.block b (by omega) (by simpa using hne)).trans (hx.block b hb)
  have hne1 : gk ≠ g1 := by
    rcases hat with h1 | h1
    · cases h1; exact h.ne
    · omega
  have hq : ∀ b, (Q b ∧ b ≠ gk ∧ b ≠ gd) ∧ b < w.heap.size → (Q b ∧ b ≠ gk ∧ b ≠ g1) := fun b hp => ⟨hp.1.1, hp.1.2.1, by
    rcases hat with h1 | h1
    · cases h1; exact hp.1.2.2
    · have := hp.2; omega⟩
  have hst : Stay (fun b => (Q b ∧ b ≠ gk ∧ b ≠ gd) ∧ b < w.heap.size) w w' := fun b hp _ => hblk b hp.2 hp.1.2.2
  refine ⟨own_stay h.ownK (hblk gk hk.2.2.2 h.ne), ?_, hne1, fun i y u h3 h4 => ?_⟩
  · rw [List.length_append, flat_snoc]; exact hown
  · have hl := h.lens
    rcases Nat.lt_or_ge i M.length with hi | hi
    · rw [List.getElem?_append_left hi] at h3
      rw [List.getElem?_append_left (by omega)] at h4
      exact (h.trees i y u h3 h4).old.mono hst hq
    · have hi2 := lt_of_some h3
      simp at hi2
      obtain rfl : i = M.length := by omega
      simp at h3
      rw [hl] at h4
      simp at h4
      subst h3 h4
      exact hv.old.mono hst hq
theorem PInv.done (h : PInv Q B w n gk ck gd cd M M vs) (hQ : ∀ b, B ≤ b → Q b) : TreeAt Q w (n + 1) (.agg #[.int .i8 4, .bool false, .string ByteArray.empty, .slice (some ⟨gk, 0, none⟩) M.length ck, .slice (some ⟨gd, 0, none⟩) M.length cd]) (⟨4, false, ByteArray.empty, M.map (·.1), M.map (·.2)⟩ : Node (Tr n)) := by
  have hk := own_caps h.ownK
  have hd := own_caps h.ownD
  refine ⟨_, _, rfl, StrsAt.of_own h.ownK (hQ gk hk.2.2.1), KidsAt.of_own h.ownD (hQ gd hd.2.2.1) (by rw [List.length_map, h.lens]) ?_⟩
  intro i x v hx hv
  rw [List.getElem?_map] at hx
  cases hM : M[i]? with
  | none => simp [hM] at hx
  | some q =>
    simp [hM] at hx
    subst hx
    exact (h.trees i q v hM hv).mono (fun _ _ _ => rfl) (fun _ hp => hp.1)
end

/-- a tree in memory: every level is there -/
def Deep : (n : Nat) → Tr n → Prop
  | 0, _ => False
  | n + 1, t => ∀ k ∈ Node.kids t, Deep n k
theorem TreeAt.deep {p : Nat → Prop} {w : World} : ∀ {n : Nat} {v : Value} {t : Tr n}, TreeAt p w n v t → Deep n t
  | 0, _, _, h => h.elim
  | n + 1, v, t, h => by
    obtain ⟨ks, kd, h1, h2, b, o, h3, h4⟩ := h
    intro k hk
    obtain ⟨i, hi⟩ := List.getElem?_of_mem hk
    obtain ⟨c0, c1, c2, c3, c4, _, h6⟩ := h4 i k hi
    exact TreeAt.deep h6
theorem norm_normT : ∀ (n : Nat) (t : Tr n), Deep n t → NormT n (norm n t)
  | 0, _, h => h.elim
  | n + 1, t, h => by
    have ih := norm_normT n
    have hkids : ∀ k ∈ (Node.kids t).map (norm n), NormT n k := by
      intro k hk
      obtain ⟨y, hy, rfl⟩ := List.mem_map.1 hk
      exact ih y (h y hy)
    have hdef : norm (n + 1) t = (if Node.kind t = 1 then leaf 1 (Node.flag t) ByteArray.empty
      else if Node.kind t = 2 ∨ Node.kind t = 3 then leaf (Node.kind t) false (Node.text t)
      else if Node.kind t = 4 then
        ⟨4, false, ByteArray.empty, (toMap ((Node.keys t).zip ((Node.kids t).map (norm n)))).map (·.1), (toMap ((Node.keys t).zip ((Node.kids t).map (norm n)))).map (·.2)⟩
      else if Node.kind t = 5 then ⟨5, false, ByteArray.empty, [], (Node.kids t).map (norm n)⟩
      else leaf 0 false ByteArray.empty : Node (Tr n)) := rfl
    have hleaf : ∀ (k : Int) (b : Bool) (s : ByteArray), k ≠ 4 → NormT (n + 1) (leaf k b s : Node (Tr n)) := fun k b s hk => ⟨fun e => absurd e hk, fun q hq => by simp [leaf] at hq⟩
    rw [hdef]
    by_cases h1 : Node.kind t = 1
    · rw [if_pos h1]; exact hleaf 1 _ _ (by decide)
    rw [if_neg h1]
    by_cases h2 : Node.kind t = 2 ∨ Node.kind t = 3
    · rw [if_pos h2]; exact hleaf _ _ _ (by omega)
    rw [if_neg h2]
    by_cases h3 : Node.kind t = 4
    · rw [if_pos h3]
      refine ⟨fun _ => ⟨sorted_toMap _, by simp⟩, fun k hk => ?_⟩
      obtain ⟨q, hq, rfl⟩ := List.mem_map.1 hk
      exact hkids q.2 (List.of_mem_zip (mem_toMap hq)).2
    rw [if_neg h3]
    by_cases h4 : Node.kind t = 5
    · rw [if_pos h4]
      exact ⟨fun e => by have e' : (5 : Int) = 4 := e; omega, hkids⟩
    rw [if_neg h4]
    exact hleaf 0 _ _ (by decide)
end Go.Proofs.Qxb6616028a
