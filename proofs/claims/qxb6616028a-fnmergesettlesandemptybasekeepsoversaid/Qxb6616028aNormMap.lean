/- zzNorm of a mapping: its entries sorted by key, the last of each key. -/
import Derived.Test.Qxb6616028aOwn
import Derived.Deep.RegionHeld3
import Derived.Deep.DrawnRows
import Derived.Deep.QuietTactic
import Derived.BigQuiet
import Derived.WalkSmall
namespace Go.Proofs.Qxb6616028a
open Go.RowKit
attribute [local go_sem ↓] Go.wp_at_zero Go.wp_at_succ

/-- zzNorm's contract -/
def NormSaid (N n : Nat) : Prop := ∀ (t : Tr n) (v : Value) (w : World), TreeAt Whole w n v t → Small N n t →
    Calls Try.prog 8 #[v] w (Ret5 fun r w' => TreeAt (From w.heap.size) w' n r (norm n t) ∧ Below w.heap.size w w')

theorem IntsAt.of_row {p : Nat → Prop} {w : World} {b : Nat} {e : TypeId} {n : Nat} (hb : p b) (hn : n ≤ 1073741824)
    (h : RowF w b e n n (fun j u => u = .int .i64 (j : Int))) : IntsAt p w (.slice (some ⟨b, 0, none⟩) n n) (List.range n) := by
  refine ⟨b, 0, by rw [List.length_range]; exact SlAt.whole_row hb (Nat.le_refl _) (le_maxLen hn), fun i s hs => ?_⟩
  have hi := lt_of_some hs
  rw [List.length_range] at hi
  obtain ⟨v, h1, h2⟩ := h.at hi
  simp [List.getElem?_range hi] at hs
  rw [Nat.zero_add, h1, h2, hs]

/-- the trees that the kids read as -/
def TreesOk (p : Nat → Prop) (w : World) (n : Nat) (t : Tr (n + 1)) (oi : List Nat) (vs : List V5) : Prop :=
  ∀ (i a : Nat) (v : V5), oi[i]? = some a → vs[i]? = some v → ∃ x, (Node.kids t)[a]? = some x ∧ TreeAt p w n v.val (norm n x)
theorem TreesOk.move {p q : Nat → Prop} {w w' : World} {n : Nat} {t : Tr (n + 1)} {oi : List Nat} {vs : List V5} (h : TreesOk p w n t oi vs) (hs : Stay (fun b => p b ∧ b < w.heap.size) w w') (hq : ∀ b, p b → b < w.heap.size → q b) : TreesOk q w' n t oi vs := by
  intro i a v h1 h2
  obtain ⟨x, h3, h4⟩ := h i a v h1 h2
  exact ⟨x, h3, h4.old.mono hs (fun b hb => hq b hb.1 hb.2)⟩

/-- the second loop's state: keys oiK and kids oi are out; the rest of s from j on is to come -/
structure NInv (B : Nat) (wr : World) (n : Nat) (t : Tr (n + 1)) (gk ck gd cd : Nat) (oiK oi : List Nat) (vs : List V5) : Prop where
  ownK : wr.ownsRow B 9 1 (.slice (some ⟨gk, 0, none⟩) oiK.length ck) oiK.length (strVs (oiK.map (keyOf' (Node.keys t))))
  ownD : wr.ownsRow B 26 5 (.slice (some ⟨gd, 0, none⟩) oi.length cd) oi.length (flat vs)
  ne : gk ≠ gd
  trees : TreesOk (fun b => B ≤ b ∧ b ≠ gk ∧ b ≠ gd) wr n t oi vs

section
variable {B : Nat} {w w' : World} {n : Nat} {t : Tr (n + 1)} {gk ck gd cd : Nat} {oiK oi : List Nat} {vs : List V5}
theorem NInv.lens (h : NInv B w n t gk ck gd cd oiK oi vs) : oi.length = vs.length := by
  have := h.ownD.1; rw [flat_length] at this; omega
theorem NInv.below (h : NInv B w n t gk ck gd cd oiK oi vs) (hb : Below w.heap.size w w') : NInv B w' n t gk ck gd cd oiK oi vs :=
  ⟨own_stay h.ownK (hb.block _ (own_caps h.ownK).2.2.2), own_stay h.ownD (hb.block _ (own_caps h.ownD).2.2.2), h.ne, h.trees.move (fun b _ hb' => hb.block b hb') (fun _ hp _ => hp)⟩
/-- a key has been appended -/
theorem NInv.key {x : World} (h : NInv B w n t gk ck gd cd oi oi vs) (hx : Below w.heap.size w x) {g1 c1 a : Nat} (hown : w'.ownsRow B 9 1 (.slice (some ⟨g1, 0, none⟩) (oi.length + 1) c1) (oi.length + 1) (strVs (oi.map (keyOf' (Node.keys t))) ++ [.string (keyOf' (Node.keys t) a)]))
    (hg : x.grownBy w' (some gk)) (hat : some gk = some g1 ∨ g1 = x.heap.size) : NInv B w' n t g1 c1 gd cd (oi ++ [a]) oi vs := by
  have hk := own_caps h.ownK
  have hd := own_caps h.ownD
  have hsz := hx.size
  have hblk : ∀ b, b < w.heap.size → b ≠ gk → w'.heap[b]? = w.heap[b]? := fun b hb hne => (hg.block b (by omega) (by simpa using hne)).trans (hx.block b hb)
  have hne1 : g1 ≠ gd := by
    rcases hat with h1 | h1
    · cases h1; exact h.ne
    · omega
  refine ⟨?_, own_stay h.ownD (hblk gd hd.2.2.2 (fun e => h.ne e.symm)), hne1, h.trees.move (fun b hp _ => hblk b hp.2 hp.1.2.1) (fun b hp hb => ⟨hp.1, ?_, hp.2.2⟩)⟩
  · rw [List.length_append, List.map_append, strVs, List.map_append]; exact hown
  · rcases hat with h1 | h1
    · cases h1; exact hp.2.1
    · omega
/-- a kid has been appended -/
theorem NInv.kid {x : World} {a : Nat} (h : NInv B w n t gk ck gd cd (oi ++ [a]) oi vs) (hx : Below w.heap.size w x) {g1 c1 : Nat} {v : V5} {y : Tr n} (hown : w'.ownsRow B 26 5 (.slice (some ⟨g1, 0, none⟩) (oi.length + 1) c1) (oi.length + 1) (flat vs ++ v.cells))
    (hg : x.grownBy w' (some gd)) (hat : some gd = some g1 ∨ g1 = x.heap.size) (hy : (Node.kids t)[a]? = some y) (hv : TreeAt (fun b => B ≤ b ∧ b ≠ gk ∧ b ≠ gd) w n v.val (norm n y)) : NInv B w' n t gk ck g1 c1 (oi ++ [a]) (oi ++ [a]) (vs ++ [v]) := by
  have hk := own_caps h.ownK
  have hd := own_caps h.ownD
  have hsz := hx.size
  have hblk : ∀ b, b < w.heap.size → b ≠ gd → w'.heap[b]? = w.heap[b]? := fun b hb hne => (hg.block b (by omega) (by simpa using hne)).trans (hx.block b hb)
  have hne1 : gk ≠ g1 := by
    rcases hat with h1 | h1
    · cases h1; exact h.ne
    · omega
  have hq : ∀ b, (B ≤ b ∧ b ≠ gk ∧ b ≠ gd) → b < w.heap.size → (B ≤ b ∧ b ≠ gk ∧ b ≠ g1) := fun b hp hb => ⟨hp.1, hp.2.1, by
    rcases hat with h1 | h1
    · cases h1; exact hp.2.2
    · omega⟩
  have hst : Stay (fun b => (B ≤ b ∧ b ≠ gk ∧ b ≠ gd) ∧ b < w.heap.size) w w' := fun b hp _ => hblk b hp.2 hp.1.2.2
  refine ⟨own_stay h.ownK (hblk gk hk.2.2.2 h.ne), ?_, hne1, ?_⟩
  · rw [List.length_append, flat_snoc]; exact hown
  · have hl := h.lens
    have h2 := h.trees.move hst hq
    intro i b u h3 h4
    rcases Nat.lt_or_ge i oi.length with hi | hi
    · rw [List.getElem?_append_left hi] at h3
      rw [List.getElem?_append_left (by omega)] at h4
      exact h2 i b u h3 h4
    · have hi2 := lt_of_some h3
      simp at hi2
      obtain rfl : i = oi.length := by omega
      simp at h3
      rw [hl] at h4
      simp at h4
      subst h3 h4
      exact ⟨y, hy, hv.old.mono hst (fun b hb => hq b hb.1 hb.2)⟩
end

/-- what the second loop ends in is the tree in normal form -/
theorem norm_done {B N : Nat} {w : World} {n : Nat} {t : Tr (n + 1)} {gk ck gd cd : Nat} {s oi : List Nat} {vs : List V5} (ht : Node.kind t = 4) (h : NInv B w n t gk ck gd cd oi oi vs) (hN : N ≤ B)
    (hp : s.Perm (List.range (min (Node.keys t).length (Node.kids t).length))) (hs : s.Pairwise (iLt (keyOf' (Node.keys t)))) (he : oi = dd (keyOf' (Node.keys t)) s) :
    TreeAt (From N) w (n + 1) (.agg #[.int .i8 4, .bool false, .string ByteArray.empty, .slice (some ⟨gk, 0, none⟩) oi.length ck, .slice (some ⟨gd, 0, none⟩) oi.length cd]) (norm (n + 1) t) := by
  have hd := dd_reads (Node.keys t) ((Node.kids t).map (norm n)) s (by simpa using hp) hs
  rw [← he] at hd
  have e1 : oi.map (keyOf' (Node.keys t)) = (toMap ((Node.keys t).zip ((Node.kids t).map (norm n)))).map (·.1) := by
    have := congrArg (List.map (·.1)) hd
    rw [List.map_map, List.map_map] at this
    exact this
  have e2 : oi.map (fun i => ((Node.kids t).map (norm n))[i]?) = (toMap ((Node.keys t).zip ((Node.kids t).map (norm n)))).map (fun p => some p.2) := by
    have := congrArg (List.map (·.2)) hd
    rw [List.map_map, List.map_map] at this
    exact this
  have en : norm (n + 1) t = (⟨4, false, ByteArray.empty, (toMap ((Node.keys t).zip ((Node.kids t).map (norm n)))).map (·.1), (toMap ((Node.keys t).zip ((Node.kids t).map (norm n)))).map (·.2)⟩ : Node (Tr n)) := by
    simp [norm, ht]; rfl
  rw [en, ← e1]
  generalize hM : toMap ((Node.keys t).zip ((Node.kids t).map (norm n))) = M at *
  refine ⟨_, _, rfl, StrsAt.of_own (h.ownK) (by have := (own_caps h.ownK).2.2.1; show N ≤ gk; omega), KidsAt.of_own h.ownD (by have := (own_caps h.ownD).2.2.1; show N ≤ gd; omega) ?_ ?_⟩
  · have := congrArg List.length e2
    simp at this
    rw [List.length_map, ← h.lens, this]
  · intro i x v hx hv
    have h1 := congrArg (fun l => l[i]?) e2
    simp only [List.getElem?_map] at h1 hx
    cases hm : M[i]? with
    | none => simp [hm] at hx
    | some q =>
      simp [hm] at hx
      rw [hm] at h1
      cases ho : oi[i]? with
      | none => simp [ho] at h1
      | some a =>
        rw [ho] at h1
        simp at h1
        obtain ⟨y, h2, h3⟩ := h.trees i a v ho hv
        obtain ⟨y', h4, h5⟩ := h1
        rw [h2] at h4
        cases h4
        rw [← hx, ← h5]
        exact h3.mono (fun _ _ _ => rfl) (fun b hb => by show N ≤ b; omega)

set_option maxRecDepth 100000 in
set_option maxHeartbeats 4000000 in
theorem norm_map (N : Nat) (hN : N ≤ 1073741824) (n : Nat) (ih : NormSaid N n) (t : Tr (n + 1)) (ht : Node.kind t = 4) (v : Value) (w : World) (hT : TreeAt Whole w (n + 1) v t) (hS : Small N (n + 1) t) :
    Calls Try.prog 8 #[v] w (Ret5 fun r w' => TreeAt (From w.heap.size) w' (n + 1) r (norm (n + 1) t) ∧ Below w.heap.size w w') := by
  obtain ⟨ks, kd, rfl, hst, hkid⟩ := hT
  have HST := hide hst
  obtain ⟨kb, ko, ⟨ka, kc, rfl, hkc, hkm, hka, _⟩, hks⟩ := hst
  obtain ⟨db, dof, ⟨da, dc, rfl, hdc, hdm, hda, _⟩, hkd⟩ := hkid
  obtain ⟨hs1, hs2, hs3⟩ := hS
  obtain ⟨m, hm⟩ : ∃ m, m = min t.keys.length t.kids.length := ⟨_, rfl⟩
  have HM := hide hm
  have hm1 : m ≤ t.keys.length := by omega
  have hm2 : m ≤ t.kids.length := by omega
  have hm3 : ¬ t.keys.length < t.kids.length → m = t.kids.length := by omega
  have hm4 : t.keys.length < t.kids.length → m = t.keys.length := by omega
  clear hm
  generalize hkn : t.keys.length = kn at *
  generalize hdn : t.kids.length = dn at *
  generalize hflag : t.flag = flag at *
  generalize htext : t.text = text at *
  have HT := hide (And.intro hkn hdn)
  have H1 := hide hks
  have H2 := hide hkd
  have H3 := hide hs3
  have Hka := hide hka
  have Hda := hide hda
  have hmN : m ≤ 1073741824 := by omega
  rw [ht]
  clear hkn hdn hflag htext hks hkd hs3 hka hda
  have hmk := make_ints m hmN
  by_cases hc : kn < dn
  · obtain rfl : m = kn := hm4 hc
    clear hm1 hm3 hm4
    go_enter Try.func8, Try.ntmps8
    go_wp2_with fail
    go_loopw [43] (fun i wr => ∃ k : Nat, k ≤ m ∧ i = .int .i64 k ∧ wr.heap.size = w.heap.size + 3 ∧
      Below (w.heap.size + 2) ((w.alloc (.cells #[.int .i8 4, .bool flag, .string text, .slice ka m kc, .slice da dn dc] 26)).alloc (.cells #[.int .i8 0, .bool false, .string { data := #[] }, .slice none 0 0, .slice none 0 0] 26)) wr ∧
      RowF wr (w.heap.size + 2) 3 m k (fun j u => u = .int .i64 (j : Int))) (fun i _ => m - (intOf i).toNat)
    case atStart => exact ⟨0, Nat.zero_le _, rfl, by simp, (Below.refl _ _).alloc (by simp) _, RowF.make _ _ _ _ (by simp) (size_madeCells _ _)⟩
    case round =>
      obtain ⟨k, hk, rfl, hsz, hB, hR⟩ := hrel
      have hb0 : Below w.heap.size w wr := (((Below.refl _ _).alloc (Nat.le_refl _) _).alloc (by simp) _).trans (hB.mono (by omega))
      by_cases hlt : k < m
      · obtain ⟨u, hu⟩ := hR.old hlt
        have hfz := hR.frozen k
        have HR := hide hR
        clear hR
        go_wp2_with fail
        exact ⟨⟨k + 1, by omega, by go_num, by simp [hsz], hB.setCell (by simp) _, HR.out.step hlt rfl⟩, by simp [intOf]; omega⟩
      · obtain rfl : m = k := by omega
        have g3 : wr.cell? ⟨w.heap.size, 3, none⟩ = some (.slice ka m kc) := by rw [hB.cell (by simp)]; simp
        have HB := hide hB
        have HR := hide hR
        clear hB hR
        go_wp2_with fail
        rename World => w1
        refine (sort_calls t.keys m (List.range m) _ _ _ (by simp) (by simp; omega) (HST.out.below hb0) (IntsAt.of_row trivial hmN HR.out) List.pairwise_lt_range (fun i hi => by rw [HT.out.1]; have := List.mem_range.1 hi; omega)).mono ?_
        rintro e w2 ⟨ia, im, ic, rfl, s, hsp, hss, hsi, hsb⟩
        have HSP := hide (And.intro hsp hss)
        obtain ⟨ib, io, ⟨ia', ic', hie, hic1, hic2, hia, _⟩, hicell⟩ := hsi
        injection hie with q1 q2 q3
        subst q1 q3
        have hsl : s.length = m := by have := hsp.length_eq; simpa using this
        have him : m = im := by omega
        subst him
        rw [hsl] at hia
        have HIA := hide hia
        have HIC := hide hicell
        have hb2 : Below w.heap.size w w2 := hb0.trans (hsb.mono hb0.size)
        have hsz2 : w.heap.size + 3 ≤ w2.heap.size := by have := hsb.size; omega
        have HSL := hide hsl
        clear hsp hss q2 hic1 hic2 hia hicell hsl
        go_wp2_with fail
        have HWB := hide HB.out
        have HIH := hide ih
        obtain ⟨i9, hi9, hi9z, hi9s, hi9b⟩ := info_parts info9
        obtain ⟨i26, hi26, hi26z, hi26s, hi26b⟩ := info_parts info26
        go_loopw [6, 7, 8] (fun a b c wr => ∃ (j gk ck gd cd : Nat) (oi : List Nat) (vs : List V5), j ≤ m ∧ oi.length ≤ j ∧ a = .slice (some ⟨gk, 0, none⟩) oi.length ck ∧ b = .slice (some ⟨gd, 0, none⟩) oi.length cd ∧ c = .int .i64 j ∧
          NInv w2.heap.size wr n t gk ck gd cd oi oi vs ∧ Hid (oi ++ dd (keyOf' t.keys) (s.drop j) = dd (keyOf' t.keys) s) ∧ Below w2.heap.size w2 wr) (fun _ _ c _ => m - (intOf c).toNat)
        case atStart =>
          exact ⟨0, w2.heap.size, 0, w2.heap.size + 1, 0, [], [], Nat.zero_le _, Nat.le_refl _, rfl, rfl, rfl, ⟨own_alloc (own_empty _ _ _ _ rfl (Nat.le_refl _)) _, own_empty _ _ _ _ (by simp) (by omega), by omega, fun i a v h => by simp at h⟩, hide (by simp), ((Below.refl _ _).alloc (Nat.le_refl _) _).alloc (by simp) _⟩
        case round =>
          obtain ⟨j, gk, ck, gd, cd, oi, vs, hj, hoj, rfl, rfl, rfl, hI, HE, hBr⟩ := hrel
          have hszr : w2.heap.size ≤ wr.heap.size := hBr.size
          have hbr : Below w.heap.size w wr := hb2.trans (hBr.mono hb2.size)
          have hbw : Below (w.heap.size + 2) w1 wr := (hsb.mono (by omega)).trans (hBr.mono (by omega))
          have hK0 := own_caps hI.ownK
          have hD0 := own_caps hI.ownD
          have hgk : w2.heap.size ≤ gk ∧ gk < wr.heap.size := hK0.2.2
          have hgd : w2.heap.size ≤ gd ∧ gd < wr.heap.size := hD0.2.2
          obtain ⟨hgk1, hgk2⟩ := hgk
          obtain ⟨hgd1, hgd2⟩ := hgd
          have g3r : wr.cell? ⟨w.heap.size, 3, none⟩ = some (.slice ka m kc) := by rw [hbw.cell (by simp)]; exact g3
          have g4r : wr.cell? ⟨w.heap.size, 4, none⟩ = some (.slice da dn dc) := by rw [hbw.cell (by simp), HB.out.cell (by simp)]; simp
          have HI := hide hI
          have HBr := hide hBr
          clear hI hBr hK0 hD0
          by_cases hlt : j < m
          · obtain ⟨a, ha⟩ : ∃ a, s[j]? = some a := ⟨s[j]'(by rw [HSL.out]; exact hlt), by simp⟩
            have ham : a < m := List.mem_range.1 (HSP.out.1.mem_iff.1 (List.mem_of_getElem? ha))
            have hakn : a < m := by omega
            have hadn : a < dn := by omega
            obtain ⟨sa, hsa⟩ : ∃ sa, t.keys[a]? = some sa := ⟨t.keys[a]'(by rw [HT.out.1]; exact hakn), by simp⟩
            obtain ⟨x, hx⟩ : ∃ x, t.kids[a]? = some x := ⟨t.kids[a]'(by rw [HT.out.2]; exact hadn), by simp⟩
            have hka2 : keyOf' t.keys a = sa := by simp [keyOf', hsa]
            obtain ⟨c0, c1, c2, c3, c4, hr, htr⟩ := H2.out a x hx
            have hrr := rangeAt_later hbr hr
            have e0 : wr.cell? ⟨db, dof + a * 5, none⟩ = some c0 := hrr 0 c0 rfl
            have e1 : wr.cell? ⟨db, dof + a * 5 + 1, none⟩ = some c1 := hrr 1 c1 rfl
            have e2 : wr.cell? ⟨db, dof + a * 5 + 2, none⟩ = some c2 := hrr 2 c2 rfl
            have e3 : wr.cell? ⟨db, dof + a * 5 + 3, none⟩ = some c3 := hrr 3 c3 rfl
            have e4 : wr.cell? ⟨db, dof + a * 5 + 4, none⟩ = some c4 := hrr 4 c4 rfl
            have ci := cell_later HBr.out (HIC.out j a ha)
            have ck' := cell_later hbr (H1.out a sa hsa)
            have x1 := index_ints (cap := ic) HIA.out j hlt
            have x2 := index_strs (cap := kc) Hka.out a hakn
            have x3 := index_trees (cap := dc) Hda.out a hadn
            have hda : s.drop j = a :: s.drop (j + 1) := by
              have h1 := (List.getElem?_eq_some_iff.1 ha).1
              rw [List.drop_eq_getElem_cons h1]
              congr 1
              exact (List.getElem?_eq_some_iff.1 ha).2
            have HA := hide (And.intro ha (And.intro hsa (And.intro hx (And.intro hka2 hda))))
            have HTR := hide (And.intro hr htr)
            clear ha hsa hx hka2 hr htr hrr hda
            by_cases hnx : j + 1 < m
            case' pos =>
              obtain ⟨b, hb⟩ : ∃ b, s[j + 1]? = some b := ⟨s[j + 1]'(by rw [HSL.out]; exact hnx), by simp⟩
              have hbm : b < m := List.mem_range.1 (HSP.out.1.mem_iff.1 (List.mem_of_getElem? hb))
              have hbkn : b < m := by omega
              obtain ⟨sb, hsb'⟩ : ∃ sb, t.keys[b]? = some sb := ⟨t.keys[b]'(by rw [HT.out.1]; exact hbkn), by simp⟩
              have hkb2 : keyOf' t.keys b = sb := by simp [keyOf', hsb']
              have cib := cell_later HBr.out (HIC.out (j + 1) b hb)
              have ckb := cell_later hbr (H1.out b sb hsb')
              have x4 := index_ints (cap := ic) HIA.out (j + 1) hnx
              have x5 := index_strs (cap := kc) Hka.out b hbkn
              have hdb : s.drop (j + 1) = b :: s.drop (j + 1 + 1) := by
                have h1 := (List.getElem?_eq_some_iff.1 hb).1
                rw [List.drop_eq_getElem_cons h1]
                congr 1
                exact (List.getElem?_eq_some_iff.1 hb).2
              have hnx' : (j : Int) + 1 < (m : Int) := by omega
              rw [show ((j + 1 : Nat) : Int) = (j : Int) + 1 by omega] at x4
              clear hb hsb'
              by_cases heq : sb = sa
              case pos =>
                subst heq
                have hdd : dd (keyOf' t.keys) (s.drop j) = dd (keyOf' t.keys) (s.drop (j + 1)) := by
                  rw [HA.out.2.2.2.2, hdb, dd, if_pos (hkb2.trans HA.out.2.2.2.1.symm)]
                have HDD := hide hdd
                clear hdd hdb hkb2
                go_wp2_with fail
                go_quiet (fail)
                go_wp2_with fail
                go_roundw
                case rel => exact ⟨j + 1, gk, ck, gd, cd, oi, vs, by omega, by omega, rfl, rfl, by go_num, HI.out.below (below_drewN (Below.refl _ _) _), hide (by rw [← HDD.out]; exact HE.out), below_drewN HBr.out _⟩
                case measure => simp [intOf]; omega
              have hne : (sb.toList == sa.toList) = false := by
                rw [beq_eq_false_iff_ne]; exact fun e => heq (str_inj e)
              have hdd : dd (keyOf' t.keys) (s.drop j) = a :: dd (keyOf' t.keys) (s.drop (j + 1)) := by
                rw [HA.out.2.2.2.2, hdb, dd, if_neg (by rw [hkb2, HA.out.2.2.2.1]; exact heq)]
              have HDD := hide hdd
              clear hdd hdb hkb2 heq
              go_wp2_with fail
              go_quiet (fail)
              go_wp2_with fail
              clear hne cib ckb x4 x5 hnx'
            case' neg =>
              have hnd : decide ((j : Int) + 1 < (m : Int)) = false := by simp; omega
              have hdd : dd (keyOf' t.keys) (s.drop j) = a :: dd (keyOf' t.keys) (s.drop (j + 1)) := by
                have h1 : s.drop (j + 1) = [] := List.drop_eq_nil_of_le (by rw [HSL.out]; omega)
                rw [HA.out.2.2.2.2, h1, dd, dd]
              have HDD := hide hdd
              clear hdd
              go_wp2_with fail
              go_quiet (fail)
              go_wp2_with fail
              clear hnd
            all_goals
              clear hnx
              generalize hw3 : wr.drewN _ = w3
              have hq3 : Below wr.heap.size wr w3 := by rw [← hw3]; exact below_drewN (Below.refl _ _) _
              have hsz3 : w3.heap.size ≤ wr.heap.size ∧ wr.heap.size ≤ w3.heap.size := by rw [← hw3]; exact ⟨Nat.le_refl _, Nat.le_refl _⟩
              obtain ⟨hsz3, hsz3'⟩ := hsz3
              clear hw3
              have r1 := cell_later hq3 g3r
              have r2 := cell_later hq3 g4r
              have r3 := cell_later hq3 ci
              have r4 := cell_later hq3 ck'
              have f0 := cell_later hq3 e0
              have f1 := cell_later hq3 e1
              have f2 := cell_later hq3 e2
              have f3 := cell_later hq3 e3
              have f4 := cell_later hq3 e4
              have hI3 := HI.out.below hq3
              have hB3 : Below w2.heap.size w2 w3 := HBr.out.trans (hq3.mono hszr)
              have l1 : some w.heap.size ≠ some gk := fun e => by cases e; omega
              have l3 : some ib ≠ some gk := fun e => by cases e; have := World.block_lt_of_cell? w2 _ (HIC.out j a HA.out.1); simp at this; omega
              have l4 : some kb ≠ some gk := fun e => by cases e; have := World.block_lt_of_cell? w _ (H1.out a sa HA.out.2.1); have := hb2.size; simp at *; omega
              clear g3r g4r ci ck' e0 e1 e2 e3 e4 hq3
              have HI3 := hide hI3
              have HB3 := hide hB3
              clear hI3 hB3
              go_region_held3 (fun w' => w'.cell? ⟨w.heap.size, 3, none⟩ = some (.slice ka m kc) ∧ w'.cell? ⟨ib, io + j, none⟩ = some (.int .i64 (a : Int)) ∧ w'.cell? ⟨kb, ko + a, none⟩ = some (.string sa))
                (first | exact ⟨r1, r3, r4⟩ | exact ⟨cell_later ((Below.refl _ _).alloc (Nat.le_refl _) _).drew r1, cell_later ((Below.refl _ _).alloc (Nat.le_refl _) _).drew r3, cell_later ((Below.refl _ _).alloc (Nat.le_refl _) _).drew r4⟩ | exact ⟨hgrow.cell (cell_later ((Below.refl _ _).alloc (Nat.le_refl _) _).drew r1) l1, hgrow.cell (cell_later ((Below.refl _ _).alloc (Nat.le_refl _) _).drew r3) l3, hgrow.cell (cell_later ((Below.refl _ _).alloc (Nat.le_refl _) _).drew r4) l4⟩)
                ((refine step_append_lies _ (by rfl) _ _ _ (by rfl) w2.heap.size 9 i9 _ 1 16 Try.underlying23 hi9 hi9z hi9s hi9b rfl (by omega) (.slice (some ⟨gk, 0, none⟩) oi.length ck) oi.length _ (by rfl) ((HI3.out.ownK.alloc _).drew)
                    ⟨w3.heap.size, 0, none⟩ 1 1 [.string sa] (by rfl) (by rfl) (World.news_of_block (cs := #[.string sa]) (t := 9) (fr := (0, 0)) (heap_alloc_new w3 _)) (by simp [Value.oneCell'])
                    (by omega) (by unfold maxLen; omega) (by omega) (by simp; omega) (w3.heap.size + 1) (by simp) ?_; intro g1 cap1 w4 hown4 hgrow hat hlt4))
              have hx4 : Below w3.heap.size w3 (w3.alloc (.cells #[.string sa] 9)).drew := ((Below.refl _ _).alloc (Nat.le_refl _) _).drew
              have hI4 : NInv w2.heap.size w4 n t g1 cap1 gd cd (oi ++ [a]) oi vs := HI3.out.key hx4 (by rw [HA.out.2.2.2.1]; exact hown4) hgrow (by simpa [Value.ownBlock] using hat)
              have hB4 : Below w2.heap.size w2 w4 := (HB3.out.trans (hx4.mono (by omega))).grown hgrow (by simp; omega) (fun k hk => by cases hk; exact hgk1)
              have hb4 : Below w.heap.size w w4 := hb2.trans (hB4.mono hb2.size)
              have t2 : w4.cell? ⟨w.heap.size, 4, none⟩ = some (.slice da dn dc) := hgrow.cell (cell_later hx4 r2) l1
              have t3 : w4.cell? ⟨ib, io + j, none⟩ = some (.int .i64 (a : Int)) := hgrow.cell (cell_later hx4 r3) l3
              have hrr := rangeAt_later hb4 HTR.out.1
              have e0 : w4.cell? ⟨db, dof + a * 5, none⟩ = some c0 := hrr 0 c0 rfl
              have e1 : w4.cell? ⟨db, dof + a * 5 + 1, none⟩ = some c1 := hrr 1 c1 rfl
              have e2 : w4.cell? ⟨db, dof + a * 5 + 2, none⟩ = some c2 := hrr 2 c2 rfl
              have e3 : w4.cell? ⟨db, dof + a * 5 + 3, none⟩ = some c3 := hrr 3 c3 rfl
              have e4 : w4.cell? ⟨db, dof + a * 5 + 4, none⟩ = some c4 := hrr 4 c4 rfl
              have hgd4 : gd < w4.heap.size := (own_caps hI4.ownD).2.2.2
              have hs4 : w2.heap.size ≤ w4.heap.size := hB4.size
              have l5 : some w.heap.size ≠ some gd := fun e => by cases e; omega
              have l6 : some ib ≠ some gd := fun e => by cases e; have := World.block_lt_of_cell? w2 _ (HIC.out j a HA.out.1); simp at this; omega
              have l7 : some db ≠ some gd := fun e => by cases e; have := World.block_lt_of_cell? w _ (HTR.out.1 0 c0 rfl); have := hb2.size; simp at *; omega
              have HI4 := hide hI4
              have HB4 := hide hB4
              clear hI4 hB4 r1 r2 r3 r4 f0 f1 f2 f3 f4 hrr hown4 hgrow hat hx4 l1 l3 l4 HI3 HB3
              go_wp2_with fail
              go_region_held3 (fun w' => w'.cell? ⟨w.heap.size, 4, none⟩ = some (.slice da dn dc) ∧ w'.cell? ⟨ib, io + j, none⟩ = some (.int .i64 (a : Int)) ∧ w'.cell? ⟨db, dof + a * 5, none⟩ = some c0 ∧ w'.cell? ⟨db, dof + a * 5 + 1, none⟩ = some c1 ∧ w'.cell? ⟨db, dof + a * 5 + 2, none⟩ = some c2 ∧ w'.cell? ⟨db, dof + a * 5 + 3, none⟩ = some c3 ∧ w'.cell? ⟨db, dof + a * 5 + 4, none⟩ = some c4)
                (first | exact ⟨t2, t3, e0, e1, e2, e3, e4⟩ | exact ⟨cell_later hb5 t2, cell_later hb5 t3, cell_later hb5 e0, cell_later hb5 e1, cell_later hb5 e2, cell_later hb5 e3, cell_later hb5 e4⟩ | exact ⟨cell_later (hb5.alloc hb5.size _) t2, cell_later (hb5.alloc hb5.size _) t3, cell_later (hb5.alloc hb5.size _) e0, cell_later (hb5.alloc hb5.size _) e1, cell_later (hb5.alloc hb5.size _) e2, cell_later (hb5.alloc hb5.size _) e3, cell_later (hb5.alloc hb5.size _) e4⟩ | exact ⟨hgrow6.cell (cell_later (hb5.alloc hb5.size _) t2) l5, hgrow6.cell (cell_later (hb5.alloc hb5.size _) t3) l6, hgrow6.cell (cell_later (hb5.alloc hb5.size _) e0) l7, hgrow6.cell (cell_later (hb5.alloc hb5.size _) e1) l7, hgrow6.cell (cell_later (hb5.alloc hb5.size _) e2) l7, hgrow6.cell (cell_later (hb5.alloc hb5.size _) e3) l7, hgrow6.cell (cell_later (hb5.alloc hb5.size _) e4) l7⟩)
                (first | (go_at_call 8; have hcall := (HIH.out x _ _ (HTR.out.2.below hb4.drew) (H3.out x (List.mem_of_getElem? HA.out.2.2.1))); refine hcall.mono ?_; clear hcall; rintro e w5 ⟨k', b', s', a1, n1, p1, a2, n2, p2, rfl, hT5, hb5⟩) | (refine step_append_lies _ (by rfl) _ _ _ (by rfl) w2.heap.size 26 i26 _ 5 72 Try.underlying24 hi26 hi26z hi26s hi26b rfl (by omega) (.slice (some ⟨gd, 0, none⟩) oi.length cd) oi.length _ (by rfl) ((HI4.out.below ((Below.refl _ _).drew.trans hb5)).ownD.alloc _) ⟨w5.heap.size, 0, none⟩ 1 1 [.int .i8 k', .bool b', .string s', .slice a1 n1 p1, .slice a2 n2 p2] (by rfl) (by rfl) (World.news_of_block (cs := #[.int .i8 k', .bool b', .string s', .slice a1 n1 p1, .slice a2 n2 p2]) (t := 26) (fr := (0, 0)) (heap_alloc_new w5 _)) (by simp [Value.oneCell']) (by omega) (by unfold maxLen; omega) (by omega) (by have := hb5.size; simp at *; omega) (w5.heap.size + 1) (by simp) ?_; intro g2 cap2 w6 hown6 hgrow6 hat6 hlt6))
              have hb5' : Below w4.heap.size w4 w5 := (Below.refl _ _).drew.trans hb5
              have hs5 : w4.heap.size ≤ w5.heap.size := hb5'.size
              have hI5 := HI4.out.below hb5'
              have hx6 : Below w5.heap.size w5 (w5.alloc (.cells #[.int .i8 k', .bool b', .string s', .slice a1 n1 p1, .slice a2 n2 p2] 26)) := (Below.refl _ _).alloc (Nat.le_refl _) _
              have hI6 : NInv w2.heap.size w6 n t g1 cap1 g2 cap2 (oi ++ [a]) (oi ++ [a]) (vs ++ [⟨k', b', s', a1, n1, p1, a2, n2, p2⟩]) :=
                hI5.kid hx6 hown6 hgrow6 (by simpa [Value.ownBlock] using hat6) HA.out.2.2.1 (hT5.mono (fun _ _ _ => rfl) (fun b hb => by have hb' : w4.heap.size ≤ b := hb; omega))
              have hB6 : Below w2.heap.size w2 w6 := ((HB4.out.trans (hb5'.mono hs4)).trans (hx6.mono (by omega))).grown hgrow6 (by simp; omega) (fun k hk => by cases hk; exact hgd1)
              have HI6 := hide hI6
              have HB6 := hide hB6
              clear hI5 hI6 hB6 hown6 hgrow6 hat6 hT5 hb5 hb5' hx6
              go_wp2_with fail
              go_roundw
              case rel => exact ⟨j + 1, g1, cap1, g2, cap2, oi ++ [a], _, by omega, by simp; omega, by simp, by simp, by go_num, HI6.out, hide (by rw [List.append_assoc]; exact (congrArg (oi ++ ·) HDD.out).symm.trans HE.out), HB6.out⟩
              case measure => simp [intOf]; omega
          · have hjm : s.drop j = [] := List.drop_eq_nil_of_le (by rw [HSL.out]; omega)
            have hoi : oi = dd (keyOf' t.keys) s := by have := HE.out; rw [hjm, dd, List.append_nil] at this; exact this
            have hR1 : RowF wr (w.heap.size + 1) 26 5 0 (fun _ _ => True) := ((RowF.make _ _ _ _ (by simp) rfl).kept (HB.out.block _ (by omega))).kept (hbw.block _ (by omega))
            obtain ⟨f0, hf0⟩ := hR1.old (j := 0) (by omega)
            obtain ⟨f1, hf1⟩ := hR1.old (j := 1) (by omega)
            obtain ⟨f2, hf2⟩ := hR1.old (j := 2) (by omega)
            obtain ⟨f3, hf3⟩ := hR1.old (j := 3) (by omega)
            obtain ⟨f4, hf4⟩ := hR1.old (j := 4) (by omega)
            have hz0 := hR1.frozen 0
            have hz1 := hR1.frozen 1
            have hz2 := hR1.frozen 2
            have hz3 := hR1.frozen 3
            have hz4 := hR1.frozen 4
            have HOI := hide hoi
            clear hR1 hoi hjm
            go_wp2_with fail
            refine ret_cell5 Try.results8 (.inl rfl) rfl (set5_range hf0 hf1 hf2 hf3 hf4) rfl ⟨_, _, _, _, _, _, _, _, _, rfl, ?_, hbr.trans (set5_below (by omega))⟩
            have hfin := norm_done (N := w.heap.size + 2) ht HI.out (by omega) (by rw [HT.out.1, HT.out.2, ← HM.out]; exact HSP.out.1) HSP.out.2 HOI.out
            exact hfin.mono (set5_stay (by show ¬ (w.heap.size + 2 ≤ w.heap.size + 1); omega)) (fun b hb => by have hb' : w.heap.size + 2 ≤ b := hb; show w.heap.size ≤ b; omega)
  · obtain rfl : m = dn := hm3 hc
    clear hm2 hm3 hm4
    go_enter Try.func8, Try.ntmps8
    go_wp2_with fail
    go_loopw [43] (fun i wr => ∃ k : Nat, k ≤ m ∧ i = .int .i64 k ∧ wr.heap.size = w.heap.size + 3 ∧
      Below (w.heap.size + 2) ((w.alloc (.cells #[.int .i8 4, .bool flag, .string text, .slice ka kn kc, .slice da m dc] 26)).alloc (.cells #[.int .i8 0, .bool false, .string { data := #[] }, .slice none 0 0, .slice none 0 0] 26)) wr ∧
      RowF wr (w.heap.size + 2) 3 m k (fun j u => u = .int .i64 (j : Int))) (fun i _ => m - (intOf i).toNat)
    case atStart => exact ⟨0, Nat.zero_le _, rfl, by simp, (Below.refl _ _).alloc (by simp) _, RowF.make _ _ _ _ (by simp) (size_madeCells _ _)⟩
    case round =>
      obtain ⟨k, hk, rfl, hsz, hB, hR⟩ := hrel
      have hb0 : Below w.heap.size w wr := (((Below.refl _ _).alloc (Nat.le_refl _) _).alloc (by simp) _).trans (hB.mono (by omega))
      by_cases hlt : k < m
      · obtain ⟨u, hu⟩ := hR.old hlt
        have hfz := hR.frozen k
        have HR := hide hR
        clear hR
        go_wp2_with fail
        exact ⟨⟨k + 1, by omega, by go_num, by simp [hsz], hB.setCell (by simp) _, HR.out.step hlt rfl⟩, by simp [intOf]; omega⟩
      · obtain rfl : m = k := by omega
        have g3 : wr.cell? ⟨w.heap.size, 3, none⟩ = some (.slice ka kn kc) := by rw [hB.cell (by simp)]; simp
        have HB := hide hB
        have HR := hide hR
        clear hB hR
        go_wp2_with fail
        rename World => w1
        refine (sort_calls t.keys m (List.range m) _ _ _ (by simp) (by simp; omega) (HST.out.below hb0) (IntsAt.of_row trivial hmN HR.out) List.pairwise_lt_range (fun i hi => by rw [HT.out.1]; have := List.mem_range.1 hi; omega)).mono ?_
        rintro e w2 ⟨ia, im, ic, rfl, s, hsp, hss, hsi, hsb⟩
        have HSP := hide (And.intro hsp hss)
        obtain ⟨ib, io, ⟨ia', ic', hie, hic1, hic2, hia, _⟩, hicell⟩ := hsi
        injection hie with q1 q2 q3
        subst q1 q3
        have hsl : s.length = m := by have := hsp.length_eq; simpa using this
        have him : m = im := by omega
        subst him
        rw [hsl] at hia
        have HIA := hide hia
        have HIC := hide hicell
        have hb2 : Below w.heap.size w w2 := hb0.trans (hsb.mono hb0.size)
        have hsz2 : w.heap.size + 3 ≤ w2.heap.size := by have := hsb.size; omega
        have HSL := hide hsl
        clear hsp hss q2 hic1 hic2 hia hicell hsl
        go_wp2_with fail
        have HWB := hide HB.out
        have HIH := hide ih
        obtain ⟨i9, hi9, hi9z, hi9s, hi9b⟩ := info_parts info9
        obtain ⟨i26, hi26, hi26z, hi26s, hi26b⟩ := info_parts info26
        go_loopw [6, 7, 8] (fun a b c wr => ∃ (j gk ck gd cd : Nat) (oi : List Nat) (vs : List V5), j ≤ m ∧ oi.length ≤ j ∧ a = .slice (some ⟨gk, 0, none⟩) oi.length ck ∧ b = .slice (some ⟨gd, 0, none⟩) oi.length cd ∧ c = .int .i64 j ∧
          NInv w2.heap.size wr n t gk ck gd cd oi oi vs ∧ Hid (oi ++ dd (keyOf' t.keys) (s.drop j) = dd (keyOf' t.keys) s) ∧ Below w2.heap.size w2 wr) (fun _ _ c _ => m - (intOf c).toNat)
        case atStart =>
          exact ⟨0, w2.heap.size, 0, w2.heap.size + 1, 0, [], [], Nat.zero_le _, Nat.le_refl _, rfl, rfl, rfl, ⟨own_alloc (own_empty _ _ _ _ rfl (Nat.le_refl _)) _, own_empty _ _ _ _ (by simp) (by omega), by omega, fun i a v h => by simp at h⟩, hide (by simp), ((Below.refl _ _).alloc (Nat.le_refl _) _).alloc (by simp) _⟩
        case round =>
          obtain ⟨j, gk, ck, gd, cd, oi, vs, hj, hoj, rfl, rfl, rfl, hI, HE, hBr⟩ := hrel
          have hszr : w2.heap.size ≤ wr.heap.size := hBr.size
          have hbr : Below w.heap.size w wr := hb2.trans (hBr.mono hb2.size)
          have hbw : Below (w.heap.size + 2) w1 wr := (hsb.mono (by omega)).trans (hBr.mono (by omega))
          have hK0 := own_caps hI.ownK
          have hD0 := own_caps hI.ownD
          have hgk : w2.heap.size ≤ gk ∧ gk < wr.heap.size := hK0.2.2
          have hgd : w2.heap.size ≤ gd ∧ gd < wr.heap.size := hD0.2.2
          obtain ⟨hgk1, hgk2⟩ := hgk
          obtain ⟨hgd1, hgd2⟩ := hgd
          have g3r : wr.cell? ⟨w.heap.size, 3, none⟩ = some (.slice ka kn kc) := by rw [hbw.cell (by simp)]; exact g3
          have g4r : wr.cell? ⟨w.heap.size, 4, none⟩ = some (.slice da m dc) := by rw [hbw.cell (by simp), HB.out.cell (by simp)]; simp
          have HI := hide hI
          have HBr := hide hBr
          clear hI hBr hK0 hD0
          by_cases hlt : j < m
          · obtain ⟨a, ha⟩ : ∃ a, s[j]? = some a := ⟨s[j]'(by rw [HSL.out]; exact hlt), by simp⟩
            have ham : a < m := List.mem_range.1 (HSP.out.1.mem_iff.1 (List.mem_of_getElem? ha))
            have hakn : a < kn := by omega
            have hadn : a < m := by omega
            obtain ⟨sa, hsa⟩ : ∃ sa, t.keys[a]? = some sa := ⟨t.keys[a]'(by rw [HT.out.1]; exact hakn), by simp⟩
            obtain ⟨x, hx⟩ : ∃ x, t.kids[a]? = some x := ⟨t.kids[a]'(by rw [HT.out.2]; exact hadn), by simp⟩
            have hka2 : keyOf' t.keys a = sa := by simp [keyOf', hsa]
            obtain ⟨c0, c1, c2, c3, c4, hr, htr⟩ := H2.out a x hx
            have hrr := rangeAt_later hbr hr
            have e0 : wr.cell? ⟨db, dof + a * 5, none⟩ = some c0 := hrr 0 c0 rfl
            have e1 : wr.cell? ⟨db, dof + a * 5 + 1, none⟩ = some c1 := hrr 1 c1 rfl
            have e2 : wr.cell? ⟨db, dof + a * 5 + 2, none⟩ = some c2 := hrr 2 c2 rfl
            have e3 : wr.cell? ⟨db, dof + a * 5 + 3, none⟩ = some c3 := hrr 3 c3 rfl
            have e4 : wr.cell? ⟨db, dof + a * 5 + 4, none⟩ = some c4 := hrr 4 c4 rfl
            have ci := cell_later HBr.out (HIC.out j a ha)
            have ck' := cell_later hbr (H1.out a sa hsa)
            have x1 := index_ints (cap := ic) HIA.out j hlt
            have x2 := index_strs (cap := kc) Hka.out a hakn
            have x3 := index_trees (cap := dc) Hda.out a hadn
            have hda : s.drop j = a :: s.drop (j + 1) := by
              have h1 := (List.getElem?_eq_some_iff.1 ha).1
              rw [List.drop_eq_getElem_cons h1]
              congr 1
              exact (List.getElem?_eq_some_iff.1 ha).2
            have HA := hide (And.intro ha (And.intro hsa (And.intro hx (And.intro hka2 hda))))
            have HTR := hide (And.intro hr htr)
            clear ha hsa hx hka2 hr htr hrr hda
            by_cases hnx : j + 1 < m
            case' pos =>
              obtain ⟨b, hb⟩ : ∃ b, s[j + 1]? = some b := ⟨s[j + 1]'(by rw [HSL.out]; exact hnx), by simp⟩
              have hbm : b < m := List.mem_range.1 (HSP.out.1.mem_iff.1 (List.mem_of_getElem? hb))
              have hbkn : b < kn := by omega
              obtain ⟨sb, hsb'⟩ : ∃ sb, t.keys[b]? = some sb := ⟨t.keys[b]'(by rw [HT.out.1]; exact hbkn), by simp⟩
              have hkb2 : keyOf' t.keys b = sb := by simp [keyOf', hsb']
              have cib := cell_later HBr.out (HIC.out (j + 1) b hb)
              have ckb := cell_later hbr (H1.out b sb hsb')
              have x4 := index_ints (cap := ic) HIA.out (j + 1) hnx
              have x5 := index_strs (cap := kc) Hka.out b hbkn
              have hdb : s.drop (j + 1) = b :: s.drop (j + 1 + 1) := by
                have h1 := (List.getElem?_eq_some_iff.1 hb).1
                rw [List.drop_eq_getElem_cons h1]
                congr 1
                exact (List.getElem?_eq_some_iff.1 hb).2
              have hnx' : (j : Int) + 1 < (m : Int) := by omega
              rw [show ((j + 1 : Nat) : Int) = (j : Int) + 1 by omega] at x4
              clear hb hsb'
              by_cases heq : sb = sa
              case pos =>
                subst heq
                have hdd : dd (keyOf' t.keys) (s.drop j) = dd (keyOf' t.keys) (s.drop (j + 1)) := by
                  rw [HA.out.2.2.2.2, hdb, dd, if_pos (hkb2.trans HA.out.2.2.2.1.symm)]
                have HDD := hide hdd
                clear hdd hdb hkb2
                go_wp2_with fail
                go_quiet (fail)
                go_wp2_with fail
                go_roundw
                case rel => exact ⟨j + 1, gk, ck, gd, cd, oi, vs, by omega, by omega, rfl, rfl, by go_num, HI.out.below (below_drewN (Below.refl _ _) _), hide (by rw [← HDD.out]; exact HE.out), below_drewN HBr.out _⟩
                case measure => simp [intOf]; omega
              have hne : (sb.toList == sa.toList) = false := by
                rw [beq_eq_false_iff_ne]; exact fun e => heq (str_inj e)
              have hdd : dd (keyOf' t.keys) (s.drop j) = a :: dd (keyOf' t.keys) (s.drop (j + 1)) := by
                rw [HA.out.2.2.2.2, hdb, dd, if_neg (by rw [hkb2, HA.out.2.2.2.1]; exact heq)]
              have HDD := hide hdd
              clear hdd hdb hkb2 heq
              go_wp2_with fail
              go_quiet (fail)
              go_wp2_with fail
              clear hne cib ckb x4 x5 hnx'
            case' neg =>
              have hnd : decide ((j : Int) + 1 < (m : Int)) = false := by simp; omega
              have hdd : dd (keyOf' t.keys) (s.drop j) = a :: dd (keyOf' t.keys) (s.drop (j + 1)) := by
                have h1 : s.drop (j + 1) = [] := List.drop_eq_nil_of_le (by rw [HSL.out]; omega)
                rw [HA.out.2.2.2.2, h1, dd, dd]
              have HDD := hide hdd
              clear hdd
              go_wp2_with fail
              go_quiet (fail)
              go_wp2_with fail
              clear hnd
            all_goals
              clear hnx
              generalize hw3 : wr.drewN _ = w3
              have hq3 : Below wr.heap.size wr w3 := by rw [← hw3]; exact below_drewN (Below.refl _ _) _
              have hsz3 : w3.heap.size ≤ wr.heap.size ∧ wr.heap.size ≤ w3.heap.size := by rw [← hw3]; exact ⟨Nat.le_refl _, Nat.le_refl _⟩
              obtain ⟨hsz3, hsz3'⟩ := hsz3
              clear hw3
              have r1 := cell_later hq3 g3r
              have r2 := cell_later hq3 g4r
              have r3 := cell_later hq3 ci
              have r4 := cell_later hq3 ck'
              have f0 := cell_later hq3 e0
              have f1 := cell_later hq3 e1
              have f2 := cell_later hq3 e2
              have f3 := cell_later hq3 e3
              have f4 := cell_later hq3 e4
              have hI3 := HI.out.below hq3
              have hB3 : Below w2.heap.size w2 w3 := HBr.out.trans (hq3.mono hszr)
              have l1 : some w.heap.size ≠ some gk := fun e => by cases e; omega
              have l3 : some ib ≠ some gk := fun e => by cases e; have := World.block_lt_of_cell? w2 _ (HIC.out j a HA.out.1); simp at this; omega
              have l4 : some kb ≠ some gk := fun e => by cases e; have := World.block_lt_of_cell? w _ (H1.out a sa HA.out.2.1); have := hb2.size; simp at *; omega
              clear g3r g4r ci ck' e0 e1 e2 e3 e4 hq3
              have HI3 := hide hI3
              have HB3 := hide hB3
              clear hI3 hB3
              go_region_held3 (fun w' => w'.cell? ⟨w.heap.size, 3, none⟩ = some (.slice ka kn kc) ∧ w'.cell? ⟨ib, io + j, none⟩ = some (.int .i64 (a : Int)) ∧ w'.cell? ⟨kb, ko + a, none⟩ = some (.string sa))
                (first | exact ⟨r1, r3, r4⟩ | exact ⟨cell_later ((Below.refl _ _).alloc (Nat.le_refl _) _).drew r1, cell_later ((Below.refl _ _).alloc (Nat.le_refl _) _).drew r3, cell_later ((Below.refl _ _).alloc (Nat.le_refl _) _).drew r4⟩ | exact ⟨hgrow.cell (cell_later ((Below.refl _ _).alloc (Nat.le_refl _) _).drew r1) l1, hgrow.cell (cell_later ((Below.refl _ _).alloc (Nat.le_refl _) _).drew r3) l3, hgrow.cell (cell_later ((Below.refl _ _).alloc (Nat.le_refl _) _).drew r4) l4⟩)
                ((refine step_append_lies _ (by rfl) _ _ _ (by rfl) w2.heap.size 9 i9 _ 1 16 Try.underlying23 hi9 hi9z hi9s hi9b rfl (by omega) (.slice (some ⟨gk, 0, none⟩) oi.length ck) oi.length _ (by rfl) ((HI3.out.ownK.alloc _).drew)
                    ⟨w3.heap.size, 0, none⟩ 1 1 [.string sa] (by rfl) (by rfl) (World.news_of_block (cs := #[.string sa]) (t := 9) (fr := (0, 0)) (heap_alloc_new w3 _)) (by simp [Value.oneCell'])
                    (by omega) (by unfold maxLen; omega) (by omega) (by simp; omega) (w3.heap.size + 1) (by simp) ?_; intro g1 cap1 w4 hown4 hgrow hat hlt4))
              have hx4 : Below w3.heap.size w3 (w3.alloc (.cells #[.string sa] 9)).drew := ((Below.refl _ _).alloc (Nat.le_refl _) _).drew
              have hI4 : NInv w2.heap.size w4 n t g1 cap1 gd cd (oi ++ [a]) oi vs := HI3.out.key hx4 (by rw [HA.out.2.2.2.1]; exact hown4) hgrow (by simpa [Value.ownBlock] using hat)
              have hB4 : Below w2.heap.size w2 w4 := (HB3.out.trans (hx4.mono (by omega))).grown hgrow (by simp; omega) (fun k hk => by cases hk; exact hgk1)
              have hb4 : Below w.heap.size w w4 := hb2.trans (hB4.mono hb2.size)
              have t2 : w4.cell? ⟨w.heap.size, 4, none⟩ = some (.slice da m dc) := hgrow.cell (cell_later hx4 r2) l1
              have t3 : w4.cell? ⟨ib, io + j, none⟩ = some (.int .i64 (a : Int)) := hgrow.cell (cell_later hx4 r3) l3
              have hrr := rangeAt_later hb4 HTR.out.1
              have e0 : w4.cell? ⟨db, dof + a * 5, none⟩ = some c0 := hrr 0 c0 rfl
              have e1 : w4.cell? ⟨db, dof + a * 5 + 1, none⟩ = some c1 := hrr 1 c1 rfl
              have e2 : w4.cell? ⟨db, dof + a * 5 + 2, none⟩ = some c2 := hrr 2 c2 rfl
              have e3 : w4.cell? ⟨db, dof + a * 5 + 3, none⟩ = some c3 := hrr 3 c3 rfl
              have e4 : w4.cell? ⟨db, dof + a * 5 + 4, none⟩ = some c4 := hrr 4 c4 rfl
              have hgd4 : gd < w4.heap.size := (own_caps hI4.ownD).2.2.2
              have hs4 : w2.heap.size ≤ w4.heap.size := hB4.size
              have l5 : some w.heap.size ≠ some gd := fun e => by cases e; omega
              have l6 : some ib ≠ some gd := fun e => by cases e; have := World.block_lt_of_cell? w2 _ (HIC.out j a HA.out.1); simp at this; omega
              have l7 : some db ≠ some gd := fun e => by cases e; have := World.block_lt_of_cell? w _ (HTR.out.1 0 c0 rfl); have := hb2.size; simp at *; omega
              have HI4 := hide hI4
              have HB4 := hide hB4
              clear hI4 hB4 r1 r2 r3 r4 f0 f1 f2 f3 f4 hrr hown4 hgrow hat hx4 l1 l3 l4 HI3 HB3
              go_wp2_with fail
              go_region_held3 (fun w' => w'.cell? ⟨w.heap.size, 4, none⟩ = some (.slice da m dc) ∧ w'.cell? ⟨ib, io + j, none⟩ = some (.int .i64 (a : Int)) ∧ w'.cell? ⟨db, dof + a * 5, none⟩ = some c0 ∧ w'.cell? ⟨db, dof + a * 5 + 1, none⟩ = some c1 ∧ w'.cell? ⟨db, dof + a * 5 + 2, none⟩ = some c2 ∧ w'.cell? ⟨db, dof + a * 5 + 3, none⟩ = some c3 ∧ w'.cell? ⟨db, dof + a * 5 + 4, none⟩ = some c4)
                (first | exact ⟨t2, t3, e0, e1, e2, e3, e4⟩ | exact ⟨cell_later hb5 t2, cell_later hb5 t3, cell_later hb5 e0, cell_later hb5 e1, cell_later hb5 e2, cell_later hb5 e3, cell_later hb5 e4⟩ | exact ⟨cell_later (hb5.alloc hb5.size _) t2, cell_later (hb5.alloc hb5.size _) t3, cell_later (hb5.alloc hb5.size _) e0, cell_later (hb5.alloc hb5.size _) e1, cell_later (hb5.alloc hb5.size _) e2, cell_later (hb5.alloc hb5.size _) e3, cell_later (hb5.alloc hb5.size _) e4⟩ | exact ⟨hgrow6.cell (cell_later (hb5.alloc hb5.size _) t2) l5, hgrow6.cell (cell_later (hb5.alloc hb5.size _) t3) l6, hgrow6.cell (cell_later (hb5.alloc hb5.size _) e0) l7, hgrow6.cell (cell_later (hb5.alloc hb5.size _) e1) l7, hgrow6.cell (cell_later (hb5.alloc hb5.size _) e2) l7, hgrow6.cell (cell_later (hb5.alloc hb5.size _) e3) l7, hgrow6.cell (cell_later (hb5.alloc hb5.size _) e4) l7⟩)
                (first | (go_at_call 8; have hcall := (HIH.out x _ _ (HTR.out.2.below hb4.drew) (H3.out x (List.mem_of_getElem? HA.out.2.2.1))); refine hcall.mono ?_; clear hcall; rintro e w5 ⟨k', b', s', a1, n1, p1, a2, n2, p2, rfl, hT5, hb5⟩) | (refine step_append_lies _ (by rfl) _ _ _ (by rfl) w2.heap.size 26 i26 _ 5 72 Try.underlying24 hi26 hi26z hi26s hi26b rfl (by omega) (.slice (some ⟨gd, 0, none⟩) oi.length cd) oi.length _ (by rfl) ((HI4.out.below ((Below.refl _ _).drew.trans hb5)).ownD.alloc _) ⟨w5.heap.size, 0, none⟩ 1 1 [.int .i8 k', .bool b', .string s', .slice a1 n1 p1, .slice a2 n2 p2] (by rfl) (by rfl) (World.news_of_block (cs := #[.int .i8 k', .bool b', .string s', .slice a1 n1 p1, .slice a2 n2 p2]) (t := 26) (fr := (0, 0)) (heap_alloc_new w5 _)) (by simp [Value.oneCell']) (by omega) (by unfold maxLen; omega) (by omega) (by have := hb5.size; simp at *; omega) (w5.heap.size + 1) (by simp) ?_; intro g2 cap2 w6 hown6 hgrow6 hat6 hlt6))
              have hb5' : Below w4.heap.size w4 w5 := (Below.refl _ _).drew.trans hb5
              have hs5 : w4.heap.size ≤ w5.heap.size := hb5'.size
              have hI5 := HI4.out.below hb5'
              have hx6 : Below w5.heap.size w5 (w5.alloc (.cells #[.int .i8 k', .bool b', .string s', .slice a1 n1 p1, .slice a2 n2 p2] 26)) := (Below.refl _ _).alloc (Nat.le_refl _) _
              have hI6 : NInv w2.heap.size w6 n t g1 cap1 g2 cap2 (oi ++ [a]) (oi ++ [a]) (vs ++ [⟨k', b', s', a1, n1, p1, a2, n2, p2⟩]) :=
                hI5.kid hx6 hown6 hgrow6 (by simpa [Value.ownBlock] using hat6) HA.out.2.2.1 (hT5.mono (fun _ _ _ => rfl) (fun b hb => by have hb' : w4.heap.size ≤ b := hb; omega))
              have hB6 : Below w2.heap.size w2 w6 := ((HB4.out.trans (hb5'.mono hs4)).trans (hx6.mono (by omega))).grown hgrow6 (by simp; omega) (fun k hk => by cases hk; exact hgd1)
              have HI6 := hide hI6
              have HB6 := hide hB6
              clear hI5 hI6 hB6 hown6 hgrow6 hat6 hT5 hb5 hb5' hx6
              go_wp2_with fail
              go_roundw
              case rel => exact ⟨j + 1, g1, cap1, g2, cap2, oi ++ [a], _, by omega, by simp; omega, by simp, by simp, by go_num, HI6.out, hide (by rw [List.append_assoc]; exact (congrArg (oi ++ ·) HDD.out).symm.trans HE.out), HB6.out⟩
              case measure => simp [intOf]; omega
          · have hjm : s.drop j = [] := List.drop_eq_nil_of_le (by rw [HSL.out]; omega)
            have hoi : oi = dd (keyOf' t.keys) s := by have := HE.out; rw [hjm, dd, List.append_nil] at this; exact this
            have hR1 : RowF wr (w.heap.size + 1) 26 5 0 (fun _ _ => True) := ((RowF.make _ _ _ _ (by simp) rfl).kept (HB.out.block _ (by omega))).kept (hbw.block _ (by omega))
            obtain ⟨f0, hf0⟩ := hR1.old (j := 0) (by omega)
            obtain ⟨f1, hf1⟩ := hR1.old (j := 1) (by omega)
            obtain ⟨f2, hf2⟩ := hR1.old (j := 2) (by omega)
            obtain ⟨f3, hf3⟩ := hR1.old (j := 3) (by omega)
            obtain ⟨f4, hf4⟩ := hR1.old (j := 4) (by omega)
            have hz0 := hR1.frozen 0
            have hz1 := hR1.frozen 1
            have hz2 := hR1.frozen 2
            have hz3 := hR1.frozen 3
            have hz4 := hR1.frozen 4
            have HOI := hide hoi
            clear hR1 hoi hjm
            go_wp2_with fail
            refine ret_cell5 Try.results8 (.inl rfl) rfl (set5_range hf0 hf1 hf2 hf3 hf4) rfl ⟨_, _, _, _, _, _, _, _, _, rfl, ?_, hbr.trans (set5_below (by omega))⟩
            have hfin := norm_done (N := w.heap.size + 2) ht HI.out (by omega) (by rw [HT.out.1, HT.out.2, ← HM.out]; exact HSP.out.1) HSP.out.2 HOI.out
            exact hfin.mono (set5_stay (by show ¬ (w.heap.size + 2 ≤ w.heap.size + 1); omega)) (fun b hb => by have hb' : w.heap.size + 2 ≤ b := hb; show w.heap.size ≤ b; omega)
end Go.Proofs.Qxb6616028a
