/- zzBuild: the value behind 'any' that a tree stands for, in new blocks. -/
import Derived.Test.Qxb6616028aMaps
import Derived.Deep.RegionHeld3
import Derived.Deep.DrawnRows
import Derived.WalkSmall
namespace Go.Proofs.Qxb6616028a
open Go.RowKit
open Go.ChangeMaps (setBlock)
attribute [local go_sem ↓] Go.wp_at_zero Go.wp_at_succ

/-- an interface value's two shapes -/
theorem AnyAt.form {p : Nat → Prop} {w : World} {n : Nat} {v : Value} {t : Tr n} (h : AnyAt p w n v t) : v = .nilIface ∨ ∃ u x, v = .iface u x := by
  cases n with
  | zero => exact h.elim
  | succ n =>
    rcases h with ⟨rfl, _⟩ | ⟨b, rfl, _⟩ | ⟨s, rfl, _⟩ | ⟨s, rfl, _⟩ | ⟨m, kvs, kids, rfl, _⟩ | ⟨s, b, o, kids, rfl, _⟩
    · exact .inl rfl
    all_goals exact .inr ⟨_, _, rfl⟩

def BuildSaid (N n : Nat) : Prop := ∀ (t : Tr n) (v : Value) (w : World), TreeAt Whole w n v t → Small N n t →
    Calls Try.prog 22 #[v] w (fun e w' => ∃ r, e = .returned r ∧ AnyAt (From w.heap.size) w' n r (norm n t) ∧ Below w.heap.size w w')

/-- what the loop over a mapping has laid so far -/
structure BInv (B : Nat) (w : World) (n : Nat) (t : Tr (n + 1)) (m i : Nat) (L : List (ByteArray × (Value × Tr n))) : Prop where
  eq : L.map (fun p => (p.1, p.2.2)) = ((Node.keys t).zip ((Node.kids t).map (norm n))).take i
  vals : ∀ p ∈ L, AnyAt (From B) w n p.2.1 p.2.2
  map : MapAt w m (toMap (L.map fun p => (p.1, p.2.1)))

theorem BInv.done {B C : Nat} {w : World} {n : Nat} {t : Tr (n + 1)} {m i : Nat} {L : List (ByteArray × (Value × Tr n))} (h : BInv B w n t m i L) (ht : Node.kind t = 4) (hi : min (Node.keys t).length (Node.kids t).length ≤ i) (hB : C ≤ B) (hm : C ≤ m) :
    AnyAt (From C) w (n + 1) (.iface 55 (.map (some m))) (norm (n + 1) t) := by
  have e1 : L.map (fun p => (p.1, p.2.2)) = (Node.keys t).zip ((Node.kids t).map (norm n)) := by
    rw [h.eq, List.take_of_length_le]
    simpa using hi
  have e2 : toMap (L.map fun p => (p.1, p.2.1)) = (toMap L).map fun p => (p.1, p.2.1) := toMap_map (fun q : Value × Tr n => q.1) L
  have e3 : toMap ((Node.keys t).zip ((Node.kids t).map (norm n))) = (toMap L).map fun p => (p.1, p.2.2) := by rw [← e1]; exact toMap_map (fun q : Value × Tr n => q.2) L
  have en : norm (n + 1) t = (⟨4, false, ByteArray.empty, (toMap ((Node.keys t).zip ((Node.kids t).map (norm n)))).map (·.1), (toMap ((Node.keys t).zip ((Node.kids t).map (norm n)))).map (·.2)⟩ : Node (Tr n)) := by
    simp [norm, ht]; rfl
  rw [en, e3]
  have hmap := h.map
  rw [e2] at hmap
  refine .inr (.inr (.inr (.inr (.inl ⟨m, _, ((toMap L).map fun p => (p.1, p.2.2)).map (·.2), rfl, hm, hmap, ?_, ?_, by simp, ?_⟩))))
  · rw [List.map_map]; exact sorted_toMap L
  · simp only [List.map_map]; rfl
  · intro i x y hx hy
    rw [List.map_map, List.getElem?_map] at hx
    rw [List.getElem?_map] at hy
    cases hq : (toMap L)[i]? with
    | none => simp [hq] at hx
    | some q =>
      simp [hq] at hx hy
      subst hx hy
      exact (h.vals q (mem_toMap (List.mem_of_getElem? hq))).mono (fun _ _ _ => rfl) (fun b hb => Nat.le_trans hB hb)

theorem BInv.step {B : Nat} {w w5 : World} {n : Nat} {t : Tr (n + 1)} {m i : Nat} {L : List (ByteArray × (Value × Tr n))} {s : ByteArray} {x : Tr n} {r : Value} {o : Obj} (h : BInv B w n t m i L) (hs : (Node.keys t)[i]? = some s) (hx : (Node.kids t)[i]? = some x)
    (hb : Below w.heap.size w w5) (hr : AnyAt (From B) w5 n r (norm n x)) (hm : m < B) (hma : MapAt (setBlock w5 m o) m (ins s r (toMap (L.map fun p => (p.1, p.2.1))))) : BInv B (setBlock w5 m o) n t m (i + 1) (L ++ [(s, (r, norm n x))]) := by
  have hno : ¬ From B m := by show ¬ B ≤ m; omega
  refine ⟨?_, ?_, ?_⟩
  · rw [List.map_append, h.eq]
    have hz : ((Node.keys t).zip ((Node.kids t).map (norm n)))[i]? = some (s, norm n x) := by
      rw [List.getElem?_zip_eq_some]
      exact ⟨hs, by rw [List.getElem?_map, hx]; rfl⟩
    rw [List.take_add_one, hz]
    rfl
  · intro p hp
    rcases List.mem_append.1 hp with hp | hp
    · exact ((h.vals p hp).below hb).mono (stay_setBlock hno o) (fun _ h => h)
    · simp at hp
      subst hp
      exact hr.mono (stay_setBlock hno o) (fun _ h => h)
  · rw [List.map_append, List.map_singleton, toMap_snoc]
    exact hma

set_option maxRecDepth 100000 in
set_option maxHeartbeats 4000000 in
theorem build_map (N : Nat) (hN : N ≤ 1073741824) (n : Nat) (ih : BuildSaid N n) (t : Tr (n + 1)) (ht : Node.kind t = 4) (v : Value) (w : World) (hT : TreeAt Whole w (n + 1) v t) (hS : Small N (n + 1) t) :
    Calls Try.prog 22 #[v] w (fun e w' => ∃ r, e = .returned r ∧ AnyAt (From w.heap.size) w' (n + 1) r (norm (n + 1) t) ∧ Below w.heap.size w w') := by
  have IH := hide ih
  clear ih
  obtain ⟨ks, kd, rfl, ⟨kb, ko, ⟨ka, kc, rfl, hkc, hkm, hka, hy1⟩, hks⟩, ⟨db, dof, ⟨da, dc, rfl, hdc, hdm, hda, hy2⟩, hkd⟩⟩ := hT
  clear hy1 hy2
  obtain ⟨hs1, hs2, hs3⟩ := hS
  generalize hkn : t.keys.length = kn at *
  generalize hdn : t.kids.length = dn at *
  generalize hflag : t.flag = flag at *
  generalize htext : t.text = text at *
  rw [ht]
  have HT := hide (And.intro hkn (And.intro hdn ht))
  have H1 := hide hks
  have H2 := hide hkd
  have H3 := hide hs3
  have Hka := hide hka
  have Hda := hide hda
  clear hkn hdn hflag htext hks hkd hs3 hka hda ht
  have hmm := run_makeMap55 none (.inl rfl)
  go_enter Try.func22, Try.ntmps22
  go_wp2_with fail
  go_loopw [4] (fun a wr => ∃ (i : Nat) (L : List (ByteArray × (Value × Tr n))), i ≤ kn ∧ i ≤ dn ∧ a = .int .i64 i ∧ w.heap.size + 2 ≤ wr.heap.size ∧
      Below (w.heap.size + 1) (w.alloc (.cells #[.int .i8 4, .bool flag, .string text, .slice ka kn kc, .slice da dn dc] 31)) wr ∧ BInv (w.heap.size + 2) wr n t (w.heap.size + 1) i L) (fun a _ => kn - (intOf a).toNat)
  case atStart => exact ⟨0, [], Nat.zero_le _, Nat.zero_le _, rfl, by simp, (Below.refl _ _).alloc (by simp) _, ⟨by simp, fun p h => by simp at h, MapAt.made _ (by simp)⟩⟩
  case round =>
    obtain ⟨i, L, hi1, hi2, rfl, hsz, hB, hI⟩ := hrel
    have hbr : Below w.heap.size w wr := ((Below.refl _ _).alloc (Nat.le_refl _) _).trans (hB.mono (by omega))
    have g3 : wr.cell? ⟨w.heap.size, 3, none⟩ = some (.slice ka kn kc) := by rw [hB.cell (by simp)]; simp
    have g4 : wr.cell? ⟨w.heap.size, 4, none⟩ = some (.slice da dn dc) := by rw [hB.cell (by simp)]; simp
    have HI := hide hI
    have HB := hide hB
    clear hI hB
    by_cases hlt : i < kn ∧ i < dn
    · obtain ⟨hk, hd⟩ := hlt
      obtain ⟨s, hs⟩ : ∃ s, t.keys[i]? = some s := ⟨t.keys[i]'(by rw [HT.out.1]; exact hk), by simp⟩
      obtain ⟨x, hx⟩ : ∃ x, t.kids[i]? = some x := ⟨t.kids[i]'(by rw [HT.out.2.1]; exact hd), by simp⟩
      obtain ⟨c0, c1, c2, c3, c4, hr, htr⟩ := H2.out i x hx
      have hrr := rangeAt_later hbr hr
      have e0 : wr.cell? ⟨db, dof + i * 5, none⟩ = some c0 := hrr 0 c0 rfl
      have e1 : wr.cell? ⟨db, dof + i * 5 + 1, none⟩ = some c1 := hrr 1 c1 rfl
      have e2 : wr.cell? ⟨db, dof + i * 5 + 2, none⟩ = some c2 := hrr 2 c2 rfl
      have e3 : wr.cell? ⟨db, dof + i * 5 + 3, none⟩ = some c3 := hrr 3 c3 rfl
      have e4 : wr.cell? ⟨db, dof + i * 5 + 4, none⟩ = some c4 := hrr 4 c4 rfl
      have ck := cell_later hbr (H1.out i s hs)
      have x2 := index_strs (cap := kc) Hka.out i hk
      have x3 := index_zz (cap := dc) Hda.out i hd
      have n1 : w.heap.size ≠ w.heap.size + 1 := by omega
      have n2 : kb ≠ w.heap.size + 1 := by have := World.block_lt_of_cell? w _ (H1.out i s hs); simp at this; omega
      have n3 : db ≠ w.heap.size + 1 := by have := World.block_lt_of_cell? w _ (hr 0 c0 rfl); simp at this; omega
      have HX := hide (And.intro hs hx)
      have HTR := hide htr
      clear hs hx hr htr hrr
      go_wp2_with fail
      go_region_held3 (fun w' => w'.cell? ⟨w.heap.size, 3, none⟩ = some (.slice ka kn kc) ∧ w'.cell? ⟨w.heap.size, 4, none⟩ = some (.slice da dn dc) ∧ w'.cell? ⟨kb, ko + i, none⟩ = some (.string s) ∧ w'.cell? ⟨db, dof + i * 5, none⟩ = some c0 ∧ w'.cell? ⟨db, dof + i * 5 + 1, none⟩ = some c1 ∧ w'.cell? ⟨db, dof + i * 5 + 2, none⟩ = some c2 ∧ w'.cell? ⟨db, dof + i * 5 + 3, none⟩ = some c3 ∧ w'.cell? ⟨db, dof + i * 5 + 4, none⟩ = some c4)
        (first | exact ⟨g3, g4, ck, e0, e1, e2, e3, e4⟩ | exact ⟨cell_later hb5 g3, cell_later hb5 g4, cell_later hb5 ck, cell_later hb5 e0, cell_later hb5 e1, cell_later hb5 e2, cell_later hb5 e3, cell_later hb5 e4⟩ | exact ⟨(cell_setBlock n1 _).trans (cell_later hb5 g3), (cell_setBlock n1 _).trans (cell_later hb5 g4), (cell_setBlock n2 _).trans (cell_later hb5 ck), (cell_setBlock n3 _).trans (cell_later hb5 e0), (cell_setBlock n3 _).trans (cell_later hb5 e1), (cell_setBlock n3 _).trans (cell_later hb5 e2), (cell_setBlock n3 _).trans (cell_later hb5 e3), (cell_setBlock n3 _).trans (cell_later hb5 e4)⟩)
        (first | (go_at_call 22; have hcall := (IH.out x _ _ (HTR.out.below hbr.drew) (H3.out x (List.mem_of_getElem? HX.out.2))); refine hcall.mono ?_; clear hcall; rintro e w5 ⟨r, rfl, hr5, hb5⟩; obtain ⟨o, hmu, hma⟩ := MapAt.update (HI.out.map.stay (w' := w5) (fun hlt => hb5.block _ hlt)) (sorted_toMap _) s r))
      have hb5' : Below wr.heap.size wr w5 := (Below.refl _ _).drew.trans hb5
      have hI6 := HI.out.step HX.out.1 HX.out.2 hb5' (hr5.mono (fun _ _ _ => rfl) (fun b hb => Nat.le_trans hsz hb)) (by omega) hma
      have hB6 : Below (w.heap.size + 1) (w.alloc (.cells #[.int .i8 4, .bool flag, .string text, .slice ka kn kc, .slice da dn dc] 31)) (setBlock w5 (w.heap.size + 1) o) := (HB.out.trans (hb5'.mono (by omega))).trans (below_setBlock (Nat.le_refl _) o)
      have hs6 : w.heap.size + 2 ≤ (setBlock w5 (w.heap.size + 1) o).heap.size := by have := hb5'.size; rw [size_setBlock]; omega
      have HI6 := hide hI6
      have HB6 := hide hB6
      clear hI6 hB6 hma hmu hr5 hb5
      go_wp2_with fail
      go_roundw
      case rel => exact ⟨i + 1, _, by omega, by omega, by go_num, hs6, HB6.out, HI6.out⟩
      case measure => simp [intOf]; omega
    · have hdone : min kn dn ≤ i := by omega
      have hn : ¬ i < kn ∨ (i < kn ∧ ¬ i < dn) := by omega
      clear hlt
      rcases hn with hn | ⟨hn1, hn2⟩
      all_goals
        go_wp2_with fail
        go_ret
        exact ⟨_, rfl, HI.out.done HT.out.2.2 (by rw [HT.out.1, HT.out.2.1]; exact hdone) (by omega) (by omega), hbr⟩

set_option maxHeartbeats 2000000 in
theorem build_other (N : Nat) (hN : N ≤ 1073741824) (n : Nat) (ih : BuildSaid N n) (t : Tr (n + 1)) (ht : Node.kind t ≠ 4) (v : Value) (w : World) (hT : TreeAt Whole w (n + 1) v t) (hS : Small N (n + 1) t) :
    Calls Try.prog 22 #[v] w (fun e w' => ∃ r, e = .returned r ∧ AnyAt (From w.heap.size) w' (n + 1) r (norm (n + 1) t) ∧ Below w.heap.size w w') := by
  have IH := hide ih
  clear ih
  obtain ⟨ks, kd, rfl, ⟨kb, ko, ⟨ka, kc, rfl, hkc, hkm, hka, hy1⟩, hks⟩, ⟨db, dof, ⟨da, dc, rfl, hdc, hdm, hda, hy2⟩, hkd⟩⟩ := hT
  clear hy1 hy2
  obtain ⟨hs1, hs2, hs3⟩ := hS
  generalize hkn : t.keys.length = kn at *
  generalize hdn : t.kids.length = dn at *
  generalize hkind : t.kind = kind at *
  generalize hflag : t.flag = flag at *
  generalize htext : t.text = text at *
  have HT := hide (And.intro hkn (And.intro hdn (And.intro hkind (And.intro hflag htext))))
  have H2 := hide hkd
  have H3 := hide hs3
  have Hda := hide hda
  clear hkn hdn hkind hflag htext hks hkd hs3 hka hda
  have hmz := make_anys dn (by omega)
  by_cases h1 : kind = 1
  · subst h1
    have hsw : Hid (norm (n + 1) t = leaf 1 flag ByteArray.empty) := hide (by simp [norm, HT.out]; rfl)
    go_enter Try.func22, Try.ntmps22
    go_wp2_with fail
    go_ret
    exact ⟨_, rfl, .inr (.inl ⟨flag, rfl, hsw.out⟩), (Below.refl _ _).alloc (Nat.le_refl _) _⟩
  by_cases h2 : kind = 2
  · subst h2
    have hsw : Hid (norm (n + 1) t = leaf 2 false text) := hide (by simp [norm, HT.out]; rfl)
    go_enter Try.func22, Try.ntmps22
    go_wp2_with fail
    go_ret
    exact ⟨_, rfl, .inr (.inr (.inl ⟨text, rfl, hsw.out⟩)), (Below.refl _ _).alloc (Nat.le_refl _) _⟩
  by_cases h3 : kind = 3
  · subst h3
    have hsw : Hid (norm (n + 1) t = leaf 3 false text) := hide (by simp [norm, HT.out]; rfl)
    go_enter Try.func22, Try.ntmps22
    go_wp2_with fail
    go_ret
    exact ⟨_, rfl, .inr (.inr (.inr (.inl ⟨text, rfl, hsw.out⟩))), (Below.refl _ _).alloc (Nat.le_refl _) _⟩
  by_cases h5 : kind = 5
  · subst h5
    have hsw : Hid (norm (n + 1) t = (⟨5, false, ByteArray.empty, [], t.kids.map (norm n)⟩ : Node (Tr n))) := hide (by simp [norm, HT.out]; rfl)
    clear h1 h2 h3 ht
    go_enter Try.func22, Try.ntmps22
    go_wp2_with fail
    go_loopw [64] (fun i wr => ∃ j : Nat, j ≤ dn ∧ i = .int .i64 j ∧ w.heap.size + 2 ≤ wr.heap.size ∧
      Below (w.heap.size + 1) (w.alloc (.cells #[.int .i8 5, .bool flag, .string text, .slice ka kn kc, .slice da dn dc] 31)) wr ∧
      RowF wr (w.heap.size + 1) 20 dn j (fun i u => ∀ x, (t.kids.map (norm n))[i]? = some x → AnyAt (From (w.heap.size + 2)) wr n u x)) (fun i _ => dn - (intOf i).toNat)
    case atStart => exact ⟨0, Nat.zero_le _, rfl, by simp, (Below.refl _ _).alloc (by simp) _, RowF.make _ _ _ _ (by simp) (size_madeCells _ _)⟩
    case round =>
      obtain ⟨j, hj, rfl, hsz2, hB2, hR2⟩ := hrel
      have hb2 : Below w.heap.size w wr := ((Below.refl _ _).alloc (Nat.le_refl _) _).trans (hB2.mono (by omega))
      have hbox : wr.cell? ⟨w.heap.size, 4, none⟩ = some (.slice da dn dc) := by rw [hB2.cell (by simp)]; simp
      by_cases hlt2 : j < dn
      · obtain ⟨x, hx⟩ : ∃ x, t.kids[j]? = some x := ⟨t.kids[j]'(by rw [HT.out.2.1]; exact hlt2), by simp⟩
        obtain ⟨c0, c1, c2, c3, c4, hr, htr⟩ := H2.out j x hx
        have hix := index_zz (cap := dc) Hda.out j hlt2
        have hrr := rangeAt_later hb2 hr
        have e0 : wr.cell? ⟨db, dof + j * 5, none⟩ = some c0 := hrr 0 c0 rfl
        have e1 : wr.cell? ⟨db, dof + j * 5 + 1, none⟩ = some c1 := hrr 1 c1 rfl
        have e2 : wr.cell? ⟨db, dof + j * 5 + 2, none⟩ = some c2 := hrr 2 c2 rfl
        have e3 : wr.cell? ⟨db, dof + j * 5 + 3, none⟩ = some c3 := hrr 3 c3 rfl
        have e4 : wr.cell? ⟨db, dof + j * 5 + 4, none⟩ = some c4 := hrr 4 c4 rfl
        have HX := hide hx
        have HTR := hide htr
        have HR2 := hide hR2
        have HB2 := hide hB2
        clear hx htr hr hrr hR2 hB2
        go_wp2_with fail
        refine (IH.out x _ _ (HTR.out.below hb2) (H3.out x (List.mem_of_getElem? HX.out))).mono ?_
        rintro e w3 ⟨r, rfl, hT3, hb3⟩
        have hR3 : RowF w3 (w.heap.size + 1) 20 dn j (fun i u => ∀ x, (t.kids.map (norm n))[i]? = some x → AnyAt (From (w.heap.size + 2)) w3 n u x) :=
          (HR2.out.kept (hb3.block _ (by omega))).turn (fun i u _ h x hx => (h x hx).below hb3)
        obtain ⟨f0, hf0⟩ := hR3.old (j := j) (by omega)
        have hz0 := hR3.frozen j
        have HR3 := hide hR3
        have HT3 := hide hT3
        have hfo := hT3.form
        clear hR3 hT3
        rcases hfo with rfl | ⟨uu, xx, rfl⟩
        all_goals
          go_wp2_with fail
          refine ⟨⟨j + 1, by omega, by go_num, by have := hb3.size; simp; omega, HB2.out.trans ((hb3.mono (by omega)).trans ((Below.refl _ _).setCell (by simp) _)), ?_⟩, by simp [intOf]; omega⟩
          have hno : ¬ (From (w.heap.size + 2)) (w.heap.size + 1) := by show ¬ (w.heap.size + 2 ≤ w.heap.size + 1); omega
          refine RowF.step (w := w3) (HR3.out.turn (fun i u _ h x hx => (h x hx).mono (Stay.setCell hno _) (fun _ h => h))) hlt2 (fun y hy => ?_)
          rw [List.getElem?_map, HX.out] at hy
          cases hy
          exact (HT3.out.mono (fun _ _ _ => rfl) (fun b h => Nat.le_trans hsz2 h) : AnyAt (From (w.heap.size + 2)) w3 n _ _).mono (Stay.setCell hno _) (fun _ h => h)
      · have hje : j = dn := by omega
        have HR2 := hide hR2
        have HB2 := hide hB2
        clear hR2 hB2
        go_wp2_with fail
        go_ret
        subst hje
        refine ⟨_, rfl, ?_, hb2⟩
        rw [hsw.out]
        refine .inr (.inr (.inr (.inr (.inr ⟨_, w.heap.size + 1, 0, _, rfl, rfl, ⟨_, _, by rw [List.length_map, HT.out.2.1], by rw [List.length_map, HT.out.2.1]; exact Nat.le_refl _, le_maxLen (by omega), .inr rfl, .inr (by show w.heap.size ≤ _; omega)⟩, fun i x hx => ?_⟩))))
        have hi := lt_of_some hx
        rw [List.length_map, HT.out.2.1] at hi
        obtain ⟨y, h4, h5⟩ := HR2.out.at hi
        exact ⟨y, by rw [Nat.zero_add]; exact h4, (h5 x hx).mono (fun _ _ _ => rfl) (fun b hb => by have hb' : w.heap.size + 2 ≤ b := hb; show w.heap.size ≤ b; omega)⟩
  · have hsw : Hid (norm (n + 1) t = leaf 0 false ByteArray.empty) := hide (by simp [norm, HT.out, h1, h2, h3, h5, ht]; rfl)
    have k1 : (kind == 1) = false := by simp [h1]
    have k2 : (kind == 2) = false := by simp [h2]
    have k3 : (kind == 3) = false := by simp [h3]
    have k4 : (kind == 4) = false := by simp [ht]
    have k5 : (kind == 5) = false := by simp [h5]
    clear h1 h2 h3 h5 ht
    go_enter Try.func22, Try.ntmps22
    go_wp2_with fail
    go_ret
    exact ⟨_, rfl, .inl ⟨rfl, hsw.out⟩, (Below.refl _ _).alloc (Nat.le_refl _) _⟩

theorem build_calls (N : Nat) (hN : N ≤ 1073741824) : ∀ n, BuildSaid N n
  | 0 => fun _ _ _ h => h.elim
  | n + 1 => fun t v w hT hS => by
    have ih := build_calls N hN n
    by_cases h : Node.kind t = 4
    · exact build_map N hN n ih t h v w hT hS
    · exact build_other N hN n ih t h v w hT hS
end Go.Proofs.Qxb6616028a
