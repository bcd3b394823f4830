/- MapScalars with zzSwap, and with the function that hands its argument back. -/
import Derived.Test.Qxb6616028aIter
import Derived.Test.Qxb6616028aBuild
import Derived.Test.Qxb6616028aSwap
import Derived.Deep.LoopGhost
namespace Go.Proofs.Qxb6616028a
open Go.RowKit
open Go.ChangeMaps (setBlock)

def fVal (sw : Bool) : Value := .func (.func (fId sw)) #[] #[]

theorem mapS_map (sw : Bool) (n : Nat) (ks : List ByteArray) (kids : List (Tr n)) : mapS sw (n + 1) (⟨4, false, ByteArray.empty, ks, kids⟩ : Node (Tr n)) = (⟨4, false, ByteArray.empty, ks, kids.map (mapS sw n)⟩ : Node (Tr n)) := by
  cases sw with
  | false =>
    have : kids.map (mapS false n) = kids := by
      rw [show (mapS false n) = id from rfl, List.map_id]
    rw [this]; rfl
  | true =>
    have : (mapS true n) = swapM n := rfl
    rw [this]
    simp [mapS, swapM]; rfl
theorem mapS_list (sw : Bool) (n : Nat) (kids : List (Tr n)) : mapS sw (n + 1) (⟨5, false, ByteArray.empty, [], kids⟩ : Node (Tr n)) = (⟨5, false, ByteArray.empty, [], kids.map (mapS sw n)⟩ : Node (Tr n)) := by
  cases sw with
  | false =>
    have : kids.map (mapS false n) = kids := by
      rw [show (mapS false n) = id from rfl, List.map_id]
    rw [this]; rfl
  | true =>
    have : (mapS true n) = swapM n := rfl
    rw [this]
    simp [mapS, swapM]; rfl

def MapSaid (sw : Bool) (N n : Nat) : Prop := ∀ (t : Tr n) (v : Value) (w : World), AnyAt Whole w n v t → Small N n t →
    Calls Try.prog 25 #[v, fVal sw] w (fun e w' => ∃ r, e = .returned r ∧ AnyAt (From w.heap.size) w' n r (mapS sw n t) ∧ Below w.heap.size w w')

/-- a leaf names no block -/
theorem AnyAt.leaf {p q : Nat → Prop} {w w' : World} {n : Nat} {v : Value} {t : Tr n} (h : AnyAt p w n v t) (hl : isLeafV v) : AnyAt q w' n v t := by
  cases n with
  | zero => exact h.elim
  | succ n =>
    rcases h with h | h | h | h | ⟨m, kvs, kids, rfl, _⟩ | ⟨s, b, o, kids, rfl, _⟩
    · exact .inl h
    · exact .inr (.inl h)
    · exact .inr (.inr (.inl h))
    · exact .inr (.inr (.inr (.inl h)))
    · simp [isLeafV] at hl
    · simp [isLeafV] at hl
theorem leaf_out (sw : Bool) {p : Nat → Prop} {n : Nat} {v : Value} {t : Tr n} {w : World} (h : AnyAt p w n v t) (hl : isLeafV v) (q : Nat → Prop) :
    Calls Try.prog (fId sw) #[v] w fun e w' => ∃ r, e = .returned r ∧ AnyAt q w' n r (mapS sw n t) ∧ w = w' := by
  have h' : AnyAt q w n v t := h.leaf hl
  exact leaf_calls sw h' hl

theorem sorted_idx {α : Type} {l : List (ByteArray × α)} (hs : SortedK (l.map (·.1))) {k : ByteArray} {a b : α} {i j : Nat} (hi : l[i]? = some (k, a)) (hj : l[j]? = some (k, b)) : i = j := by
  have key : ∀ {i j : Nat} {a b : α}, i < j → l[i]? = some (k, a) → l[j]? = some (k, b) → False := by
    intro i j a b hlt hi hj
    have h1 := lt_of_some hi
    have h2 := lt_of_some hj
    have := (List.pairwise_iff_getElem.1 hs) i j (by simpa using h1) (by simpa using h2) hlt
    rw [List.getElem_map, List.getElem_map, (List.getElem?_eq_some_iff.1 hi).2, (List.getElem?_eq_some_iff.1 hj).2, sLt_irrefl] at this
    cases this
  rcases Nat.lt_trichotomy i j with h | h | h
  · exact (key h hi hj).elim
  · exact h
  · exact (key h hj hi).elim

structure MInv (B : Nat) (w : World) (sw : Bool) (n m : Nat) (kvs : List (ByteArray × Value)) (kids : List (Tr n)) (D : List (ByteArray × (Value × Value))) (left : List MapEntry) (all : List MapEntry) : Prop where
  map : MapAt w m (toMap (D.map fun d => (d.1, d.2.2)))
  vals : ∀ d ∈ D, ∀ (i : Nat) x, kvs[i]? = some (d.1, d.2.1) → kids[i]? = some x → AnyAt (From B) w n d.2.2 (mapS sw n x)
  perm : ((D.map fun d => (Value.string d.1, d.2.1)) ++ (left.map fun e => (e.key, e.val))).Perm (all.map fun e => (e.key, e.val))

theorem MInv.step {B : Nat} {w w5 : World} {sw : Bool} {n m : Nat} {kvs : List (ByteArray × Value)} {kids : List (Tr n)} {D : List (ByteArray × (Value × Value))} {left left' all : List MapEntry} {e : MapEntry} {s : ByteArray} {r : Value} {o : Obj} (h : MInv B w sw n m kvs kids D left all)
    (hl : left.Perm (e :: left')) (hk : e.key = .string s) (hb : ∀ b, From B b → b < w.heap.size → w5.heap[b]? = w.heap[b]?) (hr : ∀ (i : Nat) x, kvs[i]? = some (s, e.val) → kids[i]? = some x → AnyAt (From B) w5 n r (mapS sw n x)) (hm : m < B)
    (hma : MapAt (setBlock w5 m o) m (ins s r (toMap (D.map fun d => (d.1, d.2.2))))) : MInv B (setBlock w5 m o) sw n m kvs kids (D ++ [(s, (e.val, r))]) left' all := by
  have hno : ¬ From B m := by show ¬ B ≤ m; omega
  refine ⟨?_, ?_, ?_⟩
  · rw [List.map_append, List.map_singleton, toMap_snoc]; exact hma
  · intro d hd i x hx hs
    rcases List.mem_append.1 hd with hd | hd
    · exact ((h.vals d hd i x hx hs).mono (q := From B) (w' := w5) hb (fun _ h => h)).mono (stay_setBlock hno o) (fun _ h => h)
    · simp at hd
      subst hd
      exact (hr i x hx hs).mono (stay_setBlock hno o) (fun _ h => h)
  · refine List.Perm.trans ?_ h.perm
    rw [List.map_append, List.append_assoc]
    refine List.Perm.append_left _ ?_
    have := (hl.map (fun e => (e.key, e.val))).symm
    rw [List.map_cons, hk] at this
    exact this

theorem MInv.done {B C : Nat} {w : World} {sw : Bool} {n m : Nat} {D : List (ByteArray × (Value × Value))} {all : List MapEntry} {kvs : List (ByteArray × Value)} {kids : List (Tr n)} (h : MInv B w sw n m kvs kids D [] all)
    (hp : (all.map fun e => (e.key, e.val)).Perm (kvs.map fun p => (Value.string p.1, p.2))) (hs : SortedK (kvs.map (·.1))) (hl : kids.length = kvs.length)
    (hB : C ≤ B) (hm : C ≤ m) : AnyAt (From C) w (n + 1) (.iface 55 (.map (some m))) (⟨4, false, ByteArray.empty, kvs.map (·.1), kids.map (mapS sw n)⟩ : Node (Tr n)) := by
  have hperm := h.perm
  rw [List.map_nil, List.append_nil] at hperm
  obtain ⟨D', h1, h2⟩ := perm_lift (fun d : ByteArray × (Value × Value) => (Value.string d.1, d.2.1)) (hperm.trans hp) rfl
  have h3 : D'.map (fun d => (d.1, d.2.1)) = kvs := by
    have h4 : (D'.map (fun d => (d.1, d.2.1))).map (fun p => (Value.string p.1, p.2)) = kvs.map (fun p => (Value.string p.1, p.2)) := by rw [List.map_map]; exact h2
    exact List.map_inj_right (fun a b h => by simp only [Prod.mk.injEq, Value.string.injEq] at h; exact Prod.ext h.1 h.2) |>.1 h4
  have h5 : (D'.map (fun d => (d.1, d.2.2))).map (·.1) = kvs.map (·.1) := by
    rw [← h3, List.map_map, List.map_map]; rfl
  have hmap := h.map
  rw [toMap_of_perm (s := D'.map fun d => (d.1, d.2.2)) (by rw [h5]; exact hs) (h1.symm.map _)] at hmap
  refine .inr (.inr (.inr (.inr (.inl ⟨m, _, _, rfl, hm, hmap, by rw [h5]; exact hs, by rw [h5], ?_, ?_⟩))))
  · rw [List.length_map, List.length_map, hl, ← h3, List.length_map]
  · intro i x y hx hy
    rw [List.getElem?_map] at hx hy
    cases hq : kids[i]? with
    | none => simp [hq] at hx
    | some k =>
      cases hd : D'[i]? with
      | none => simp [hd] at hy
      | some d =>
        simp [hq] at hx
        simp [hd] at hy
        subst hx hy
        have h6 : kvs[i]? = some (d.1, d.2.1) := by rw [← h3, List.getElem?_map, hd]; rfl
        exact (h.vals d (h1.mem_iff.1 (List.mem_of_getElem? hd)) i k h6 hq).mono (fun _ _ _ => rfl) (fun b hb => Nat.le_trans hB hb)

set_option maxRecDepth 100000 in
set_option maxHeartbeats 2000000 in
theorem maps_map (sw : Bool) (N : Nat) (n : Nat) (ih : MapSaid sw N n) (m : Nat) (kvs : List (ByteArray × Value)) (kids : List (Tr n)) (w : World) (hm : MapAt w m kvs) (hs : SortedK (kvs.map (·.1)))
    (hl : kids.length = kvs.length) (hv : ∀ (i : Nat) x y, kids[i]? = some x → kvs[i]? = some y → AnyAt Whole w n y.2 x) (hsm : ∀ k ∈ kids, Small N n k) :
    Calls Try.prog 25 #[.iface 55 (.map (some m)), fVal sw] w (fun e w' => ∃ r, e = .returned r ∧ AnyAt (From w.heap.size) w' (n + 1) r (⟨4, false, ByteArray.empty, kvs.map (·.1), kids.map (mapS sw n)⟩ : Node (Tr n)) ∧ Below w.heap.size w w') := by
  have IH := hide ih
  clear ih
  obtain ⟨es, clock, hb, hp, hst, hnd, hks⟩ := hm.keys
  have hmlt := (Array.getElem?_eq_some_iff.1 hb).1
  have HP := hide (And.intro hp (And.intro hs (And.intro hl (And.intro hv hsm))))
  have HE := hide (And.intro hst (And.intro hnd hks))
  have HBK := hide hb
  generalize hfv : fVal sw = fv at *
  have HFV := hide hfv
  clear hfv
  have h1 := fun w => assert_hit 55 _ Try.underlying55 (by simp) (.map (some m)) w
  have hln := run_len_map hb
  have hmm := run_makeMap55 (some (.int .i64 (es.size : Int))) (.inr ⟨_, _, rfl⟩)
  have hrg := run_range_map (P := Try.prog) (w.alloc (.map #[] 0)) 55 9 20 m es clock Try.underlying55 ((Below.heap_alloc _ _ _ hmlt).trans hb)
  clear hm hb hp hs hl hv hsm hst hnd hks
  go_enter Try.func25, Try.ntmps25
  go_wp2_with fail
  go_loopg [7] es.size (fun k _ wr => ∃ (seen : Array Nat) (D : List (ByteArray × (Value × Value))), (leftOf es seen).toList.length ≤ k ∧ IterAt wr m (w.heap.size + 1) es clock seen ∧ w.heap.size + 2 ≤ wr.heap.size ∧ Below w.heap.size w wr ∧
      MInv (w.heap.size + 2) wr sw n w.heap.size kvs kids D (leftOf es seen).toList es.toList)
  case atStart =>
    have hit : IterAt ((w.alloc (.map #[] 0)).alloc (.mapIter (some m) clock #[] clock)) m (w.heap.size + 1) es clock #[] := by
      have := IterAt.start (w := w.alloc (.map #[] 0)) ((Below.heap_alloc _ _ _ hmlt).trans HBK.out)
      simpa using this
    exact ⟨#[], [], by rw [left_start]; simp, hit, by simp, ((Below.refl _ _).alloc (Nat.le_refl _) _).alloc (by simp) _, ⟨(MapAt.made w rfl).stay (fun h => Below.heap_alloc _ _ _ h), fun d hd => by simp at hd, by rw [left_start]; simp⟩⟩
  case round =>
    obtain ⟨seen, D, hk, hit, hsz, hbr, hI⟩ := hrel
    have HI := hide hI
    have HIT := hide hit
    rcases hit.next HE.out.1 HE.out.2.1 0 with ⟨hl0, hrun⟩ | ⟨e, w2, hem, hrun, hen, hit2, hperm, hoth, hsz2, hos, htp, hout⟩
    · have HL0 := hide hl0
      clear hl0 hI hit
      go_wp2_with fail
      go_ret
      have hI := HI.out
      rw [HL0.out] at hI
      exact ⟨_, rfl, hI.done HP.out.1 HP.out.2.1 HP.out.2.2.1 (by omega) (Nat.le_refl _), hbr⟩
    · obtain ⟨s, hek, hkv⟩ := HE.out.2.2 e hem
      rw [hek] at hrun hen
      obtain ⟨i, hi⟩ := List.getElem?_of_mem hkv
      obtain ⟨x, hx⟩ : ∃ x, kids[i]? = some x := ⟨kids[i]'(by rw [HP.out.2.2.1]; exact lt_of_some hi), by simp⟩
      have hb2 : Below w.heap.size w w2 := hbr.trans ⟨hos, htp, hout, by omega, fun k hk => hoth k (by omega)⟩
      have HX := hide (And.intro hi (And.intro hx (And.intro hek hperm)))
      have HIT2 := hide hit2
      have HOTH := hide hoth
      have hsz3 : w.heap.size + 2 ≤ w2.heap.size := by omega
      have hlen : (leftOf es (seen.push e.born)).toList.length < (leftOf es seen).toList.length := by
        have := hperm.length_eq; simp only [List.length_cons] at this; omega
      have HLEN := hide (And.intro hlen (And.intro hk hsz2))
      clear hi hx hek hperm hit2 hoth hos htp hout hI hit hem hkv hlen hk hsz2
      generalize hev : e.val = ev at *
      have HEV := hide hev
      clear hev
      go_wp2_with fail
      have hcall := IH.out x ev w2 ((HP.out.2.2.2.1 i x (s, ev) HX.out.2.1 HX.out.1).below hb2) (HP.out.2.2.2.2 x (List.mem_of_getElem? HX.out.2.1))
      rw [HFV.out] at hcall
      refine hcall.mono ?_
      rintro e5 w5 ⟨r, rfl, hr5, hb5⟩
      have hm5 : MapAt w5 w.heap.size (toMap (D.map fun d => (d.1, d.2.2))) := (HI.out.map.stay (w' := w2) (fun _ => HOTH.out _ (by omega))).stay (fun h => hb5.block _ h)
      obtain ⟨o, hmu, hma⟩ := hm5.update (sorted_toMap _) s r
      have hs5 := hb5.size
      have HR5 := hide hr5
      have HB5 := hide hb5
      have HMA := hide hma
      clear hr5 hb5 hma hm5 hcall
      go_wp2_with fail
      go_roundg (leftOf es (seen.push e.born)).toList.length
      case measure => exact Nat.lt_of_lt_of_le HLEN.out.1 HLEN.out.2.1
      case rel =>
        have hit5 : IterAt (setBlock w5 w.heap.size o) m (w.heap.size + 1) es clock (seen.push e.born) :=
          HIT2.out.kept ((heap_setBlock_ne (by omega) o).trans (HB5.out.block _ (by omega))) ((heap_setBlock_ne (by omega) o).trans (HB5.out.block _ (by omega)))
        refine ⟨seen.push e.born, D ++ [(s, (e.val, r))], Nat.le_refl _, hit5, by rw [size_setBlock]; omega, (hb2.trans (HB5.out.mono (by omega))).trans (below_setBlock (Nat.le_refl _) o), ?_⟩
        refine HI.out.step HX.out.2.2.2 HX.out.2.2.1 (fun b hB hlt => ?_) (fun j y hj hy => ?_) (by omega) HMA.out
        · have hB' : w.heap.size + 2 ≤ b := hB
          rw [HB5.out.block b (by have := HLEN.out.2.2; omega), HOTH.out b (by omega)]
        · rw [HEV.out] at hj
          obtain rfl := sorted_idx HP.out.2.1 hj HX.out.1
          rw [HX.out.2.1] at hy
          cases hy
          exact HR5.out.mono (fun _ _ _ => rfl) (fun b hb => by have hb' : w2.heap.size ≤ b := hb; show w.heap.size + 2 ≤ b; omega)

set_option maxHeartbeats 2000000 in
theorem maps_list (sw : Bool) (N : Nat) (hN : N ≤ 1073741824) (n : Nat) (ih : MapSaid sw N n) (s : Value) (b o : Nat) (kids : List (Tr n)) (w : World) (hsl : SlAt Whole s kids.length b o)
    (hv : ∀ (i : Nat) x, kids[i]? = some x → ∃ y, w.cell? ⟨b, o + i, none⟩ = some y ∧ AnyAt Whole w n y x) (hn : kids.length ≤ N) (hsm : ∀ k ∈ kids, Small N n k) :
    Calls Try.prog 25 #[.iface 56 s, fVal sw] w (fun e w' => ∃ r, e = .returned r ∧ AnyAt (From w.heap.size) w' (n + 1) r (⟨5, false, ByteArray.empty, [], kids.map (mapS sw n)⟩ : Node (Tr n)) ∧ Below w.heap.size w w') := by
  have IH := hide ih
  clear ih
  obtain ⟨da, dc, rfl, hdc, hdm, hda, hz⟩ := hsl
  clear hz
  generalize hdn : kids.length = dn at *
  generalize hfv : fVal sw = fv at *
  have HFV := hide (And.intro hfv hdn)
  have HV := hide hv
  have HS := hide hsm
  have Hda := hide hda
  clear hfv hdn hv hsm hda
  have h1 := fun w => assert_miss 55 56 _ Try.underlying55 (by simp) (by decide) (.slice da dn dc) _ w (zero55 w)
  have h2 := fun w => assert_hit 56 _ Try.underlying56 (by simp) (.slice da dn dc) w
  have hmz := make_anys dn (by omega)
  go_enter Try.func25, Try.ntmps25
  go_wp2_with fail
  go_loopw [46] (fun i wr => ∃ j : Nat, j ≤ dn ∧ i = .int .i64 j ∧ w.heap.size + 1 ≤ wr.heap.size ∧ Below w.heap.size w wr ∧
      RowF wr w.heap.size 20 dn j (fun i u => ∀ x, (kids.map (mapS sw n))[i]? = some x → AnyAt (From (w.heap.size + 1)) wr n u x)) (fun i _ => dn - (intOf i).toNat)
  case atStart => exact ⟨0, Nat.zero_le _, rfl, by simp, (Below.refl _ _).alloc (by simp) _, RowF.make _ _ _ _ (by simp) (size_madeCells _ _)⟩
  case round =>
    obtain ⟨j, hj, rfl, hsz2, hb2, hR2⟩ := hrel
    by_cases hlt2 : j < dn
    · obtain ⟨x, hx⟩ : ∃ x, kids[j]? = some x := ⟨kids[j]'(by rw [HFV.out.2]; exact hlt2), by simp⟩
      obtain ⟨y, hy, hyx⟩ := HV.out j x hx
      have hix := index_anys (cap := dc) Hda.out j hlt2
      have e0 := cell_later hb2 hy
      have HX := hide (And.intro hx hyx)
      have HR2 := hide hR2
      clear hx hy hyx hR2
      go_wp2_with fail
      have hcall := IH.out x y wr (HX.out.2.below hb2) (HS.out x (List.mem_of_getElem? HX.out.1))
      rw [HFV.out.1] at hcall
      refine hcall.mono ?_
      clear hcall
      rintro e w3 ⟨r, rfl, hT3, hb3⟩
      have hR3 : RowF w3 w.heap.size 20 dn j (fun i u => ∀ x, (kids.map (mapS sw n))[i]? = some x → AnyAt (From (w.heap.size + 1)) w3 n u x) :=
        (HR2.out.kept (hb3.block _ (by omega))).turn (fun i u _ h x hx => (h x hx).below hb3)
      obtain ⟨f0, hf0⟩ := hR3.old (j := j) (by omega)
      have hz0 := hR3.frozen j
      have HR3 := hide hR3
      have HT3 := hide hT3
      have hfo := hT3.form
      clear hR3 hT3
      rcases hfo with rfl | ⟨uu, xx, rfl⟩
      all_goals
        go_wp2_with fail
        refine ⟨⟨j + 1, by omega, by go_num, by have := hb3.size; simp; omega, hb2.trans ((hb3.mono (by omega)).trans ((Below.refl _ _).setCell (by simp) _)), ?_⟩, by simp [intOf]; omega⟩
        have hno : ¬ (From (w.heap.size + 1)) w.heap.size := by show ¬ (w.heap.size + 1 ≤ w.heap.size); omega
        refine RowF.step (w := w3) (HR3.out.turn (fun i u _ h x hx => (h x hx).mono (Stay.setCell hno _) (fun _ h => h))) hlt2 (fun y hy => ?_)
        rw [List.getElem?_map, HX.out.1] at hy
        cases hy
        exact (HT3.out.mono (fun _ _ _ => rfl) (fun b h => Nat.le_trans hsz2 h) : AnyAt (From (w.heap.size + 1)) w3 n _ _).mono (Stay.setCell hno _) (fun _ h => h)
    · have hje : j = dn := by omega
      have HR2 := hide hR2
      clear hR2
      go_wp2_with fail
      go_ret
      subst hje
      refine ⟨_, rfl, ?_, hb2⟩
      refine .inr (.inr (.inr (.inr (.inr ⟨_, w.heap.size, 0, _, rfl, rfl, ⟨_, _, by rw [List.length_map, HFV.out.2], by rw [List.length_map, HFV.out.2]; exact Nat.le_refl _, le_maxLen (by omega), .inr rfl, .inr (Nat.le_refl _)⟩, fun i x hx => ?_⟩))))
      have hi := lt_of_some hx
      rw [List.length_map, HFV.out.2] at hi
      obtain ⟨y, h4, h5⟩ := HR2.out.at hi
      exact ⟨y, by rw [Nat.zero_add]; exact h4, (h5 x hx).mono (fun _ _ _ => rfl) (fun b hb => by have hb' : w.heap.size + 1 ≤ b := hb; show w.heap.size ≤ b; omega)⟩

set_option maxHeartbeats 2000000 in
theorem maps_leaf (sw : Bool) (n : Nat) (t : Tr n) (v : Value) (w : World) (h : AnyAt Whole w n v t) (hl : isLeafV v) :
    Calls Try.prog 25 #[v, fVal sw] w (fun e w' => ∃ r, e = .returned r ∧ AnyAt (From w.heap.size) w' n r (mapS sw n t) ∧ Below w.heap.size w w') := by
  have H := hide (leaf_out sw h hl (From w.heap.size))
  have hform := h.form
  clear h
  have q1 : ∀ w, (Instr.typeAssert v 20 55 true).run Try.prog w = .ok (.tuple #[.map none, .bool false]) w := by
    rcases hform with rfl | ⟨u, x, rfl⟩
    · exact fun w => assert_nil 55 _ Try.underlying55 (by simp) _ w (zero55 w)
    · exact fun w => assert_miss 55 u _ Try.underlying55 (by simp) hl.1 x _ w (zero55 w)
  have q2 : ∀ w, (Instr.typeAssert v 20 56 true).run Try.prog w = .ok (.tuple #[.slice none 0 0, .bool false]) w := by
    rcases hform with rfl | ⟨u, x, rfl⟩
    · exact fun w => assert_nil 56 _ Try.underlying56 (by simp) _ w (zero56 w)
    · exact fun w => assert_miss 56 u _ Try.underlying56 (by simp) hl.2 x _ w (zero56 w)
  clear hform hl
  cases sw with
  | false =>
    unfold fVal fId at *
    simp only [Bool.false_eq_true, if_false] at *
    go_enter Try.func25, Try.ntmps25
    go_wp2_with fail
    refine H.out.mono ?_
    rintro e w' ⟨r, rfl, hr, rfl⟩
    have HR := hide hr
    clear hr
    go_wp2_with fail
    go_ret
    exact ⟨r, rfl, HR.out, Below.refl _ _⟩
  | true =>
    unfold fVal fId at *
    simp only [if_true] at *
    go_enter Try.func25, Try.ntmps25
    go_wp2_with fail
    refine H.out.mono ?_
    rintro e w' ⟨r, rfl, hr, rfl⟩
    have HR := hide hr
    clear hr
    go_wp2_with fail
    go_ret
    exact ⟨r, rfl, HR.out, Below.refl _ _⟩

theorem maps_calls (sw : Bool) (N : Nat) (hN : N ≤ 1073741824) : ∀ n, MapSaid sw N n
  | 0 => fun _ _ _ h => h.elim
  | n + 1 => fun t v w hT hS => by
    have ih := maps_calls sw N hN n
    have hT' := hT
    rcases hT with ⟨rfl, h⟩ | ⟨b, rfl, h⟩ | ⟨s, rfl, h⟩ | ⟨s, rfl, h⟩ | ⟨m, kvs, kids, rfl, _, h2, h3, h4, h5, h6⟩ | ⟨s, b, o, kids, rfl, h2, h3, h4⟩
    · exact maps_leaf sw (n + 1) t _ w hT' trivial
    · exact maps_leaf sw (n + 1) t _ w hT' ⟨by decide, by decide⟩
    · exact maps_leaf sw (n + 1) t _ w hT' ⟨by decide, by decide⟩
    · exact maps_leaf sw (n + 1) t _ w hT' ⟨by decide, by decide⟩
    · have e : t = (⟨4, false, ByteArray.empty, kvs.map (·.1), kids⟩ : Node (Tr n)) := h4
      subst e
      rw [mapS_map]
      exact maps_map sw N n ih m kvs kids w h2 h3 h5 h6 hS.2.2
    · have e : t = (⟨5, false, ByteArray.empty, [], kids⟩ : Node (Tr n)) := h2
      subst e
      rw [mapS_list]
      exact maps_list sw N hN n ih s b o kids w h3 h4 hS.2.1 hS.2.2
end Go.Proofs.Qxb6616028a
