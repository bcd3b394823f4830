/- Merge of two maps, walked. -/
import Derived.Test.Qxb6616028aMergeWalk
namespace Go.Proofs.Qxb6616028a
open Go.RowKit
open Go.ChangeMaps (setBlock)

/-- what is laid at a key of the upper map -/
def gOf {n : Nat} (b : List (ByteArray × Tr n)) (q : ByteArray × Tr n) : Tr n := match look q.1 b with | none => q.2 | some u => mergeT n u q.2
theorem jn_eq {n : Nat} (b o : List (ByteArray × Tr n)) : jn (mergeT n) b o = fo (gOf b) o b := by
  unfold jn
  congr 1
  funext q
  unfold gOf
  cases look q.1 b <;> rfl
theorem mergeT_succ (n : Nat) (b o : Node (Tr n)) : mergeT (n + 1) b o = if b.kind = 4 ∧ o.kind = 4 then
      (⟨4, false, ByteArray.empty, (jn (mergeT n) (b.keys.zip b.kids) (o.keys.zip o.kids)).map (·.1), (jn (mergeT n) (b.keys.zip b.kids) (o.keys.zip o.kids)).map (·.2)⟩ : Node (Tr n)) else o := rfl
theorem merge_nil (n : Nat) (x : Node (Tr n)) : mergeT (n + 1) (leaf 0 false ByteArray.empty : Node (Tr n)) x = x := by
  rw [mergeT_succ]
  exact if_neg (fun h => absurd (h.1 : (0 : Int) = 4) (by decide))
theorem zip_at {α : Type} {ks : List ByteArray} {kb : List α} {i : Nat} {y : ByteArray × α} (h : (ks.zip kb)[i]? = some y) : ks[i]? = some y.1 ∧ kb[i]? = some y.2 := by
  rw [List.getElem?_zip_eq_some] at h
  exact h
theorem zip_keys {α β : Type} {kvs : List (ByteArray × β)} {kb : List α} (hl : kb.length = kvs.length) : ((kvs.map (·.1)).zip kb).map (·.1) = kvs.map (·.1) := by
  have h := List.map_fst_zip (l₁ := kvs.map (·.1)) (l₂ := kb) (by simp [hl])
  exact h

/-- what the loop has done -/
structure KInv (p : Nat → Prop) (w : World) (n m : Nat) (b : List (ByteArray × Tr n)) (kvo : List (ByteArray × Value)) (ko : List (Tr n)) (D : List (ByteArray × (Value × Tr n))) (left all : List MapEntry) : Prop where
  inv : JInv p w n m (fo (gOf b) (D.map fun d => (d.1, d.2.2)) b)
  idx : ∀ d ∈ D, ∃ i : Nat, kvo[i]? = some (d.1, d.2.1) ∧ ko[i]? = some d.2.2
  perm : ((D.map fun d => (Value.string d.1, d.2.1)) ++ (left.map fun e => (e.key, e.val))).Perm (all.map fun e => (e.key, e.val))

section
variable {p : Nat → Prop} {w : World} {n m : Nat} {b : List (ByteArray × Tr n)} {kvo : List (ByteArray × Value)} {ko : List (Tr n)} {D : List (ByteArray × (Value × Tr n))} {left left' all : List MapEntry}

/-- the keys met so far stand apart, and the next is none of them -/
theorem KInv.fresh (h : KInv p w n m b kvo ko D left all) (hp : (all.map fun e => (e.key, e.val)).Perm (kvo.map fun p => (Value.string p.1, p.2))) (hs : SortedK (kvo.map (·.1))) :
    ((D.map fun d => (d.1, d.2.2)).map (·.1)).Nodup ∧ ∀ e ∈ left, ∀ s, e.key = .string s → ∀ q ∈ (D.map fun d => (d.1, d.2.2)), q.1 ≠ s := by
  have h1 := (h.perm.trans hp).map (fun q : Value × Value => q.1)
  rw [List.map_append, List.map_map, List.map_map, List.map_map] at h1
  have h2 : (kvo.map ((fun q : Value × Value => q.1) ∘ fun p => (Value.string p.1, p.2))).Nodup := by
    have : kvo.map ((fun q : Value × Value => q.1) ∘ fun p => (Value.string p.1, p.2)) = (kvo.map (·.1)).map Value.string := by rw [List.map_map]; rfl
    rw [this]
    exact List.Pairwise.map (S := (· ≠ ·)) Value.string (fun a b hab e => hab (by simpa using e)) hs.nodup
  have h3 := h1.nodup_iff.2 h2
  rw [List.nodup_append] at h3
  refine ⟨?_, fun e he s hk q hq hqs => ?_⟩
  · rw [List.map_map]
    have : D.map ((fun q : Value × Value => q.1) ∘ fun d => (Value.string d.1, d.2.1)) = (D.map ((fun q : ByteArray × Tr n => q.1) ∘ fun d => (d.1, d.2.2))).map Value.string := by rw [List.map_map]; rfl
    rw [this] at h3
    exact List.Pairwise.of_map (S := (· ≠ ·)) Value.string (fun a b hab e => hab (by rw [e])) h3.1
  · obtain ⟨d, hd, rfl⟩ := List.mem_map.1 hq
    exact h3.2.2 (Value.string d.1) (List.mem_map.2 ⟨d, hd, rfl⟩) (Value.string s) (List.mem_map.2 ⟨e, he, hk⟩) (by rw [← hqs])
theorem KInv.step {w' : World} (h : KInv p w n m b kvo ko D left all) {e : MapEntry} {s : ByteArray} {x : Tr n} {i : Nat} (hl : left.Perm (e :: left')) (hk : e.key = .string s) (hi : kvo[i]? = some (s, e.val)) (hx : ko[i]? = some x)
    (hJ : JInv p w' n m (ins s (gOf b (s, x)) (fo (gOf b) (D.map fun d => (d.1, d.2.2)) b))) : KInv p w' n m b kvo ko (D ++ [(s, (e.val, x))]) left' all := by
  refine ⟨?_, ?_, ?_⟩
  · rw [List.map_append, List.map_singleton, fo_snoc]; exact hJ
  · intro d hd
    rcases List.mem_append.1 hd with hd | hd
    · exact h.idx d hd
    · simp at hd
      subst hd
      exact ⟨i, hi, hx⟩
  · refine List.Perm.trans ?_ h.perm
    rw [List.map_append, List.append_assoc]
    refine List.Perm.append_left _ ?_
    have := (hl.map (fun e => (e.key, e.val))).symm
    rw [List.map_cons, hk] at this
    exact this
theorem KInv.done (h : KInv p w n m b kvo ko D [] all) (hp : (all.map fun e => (e.key, e.val)).Perm (kvo.map fun p => (Value.string p.1, p.2))) (hs : SortedK (kvo.map (·.1))) (hlo : ko.length = kvo.length) (hb : SortedK (b.map (·.1))) :
    JInv p w n m (jn (mergeT n) b ((kvo.map (·.1)).zip ko)) := by
  have hperm := h.perm
  rw [List.map_nil, List.append_nil] at hperm
  obtain ⟨D', h1, h2⟩ := perm_lift (fun d : ByteArray × (Value × Tr n) => (Value.string d.1, d.2.1)) (hperm.trans hp) rfl
  have h3 : D'.map (fun d => (d.1, d.2.1)) = kvo := by
    have h4 : (D'.map (fun d => (d.1, d.2.1))).map (fun p => (Value.string p.1, p.2)) = kvo.map (fun p => (Value.string p.1, p.2)) := by rw [List.map_map]; exact h2
    exact List.map_inj_right (fun a b h => by simp only [Prod.mk.injEq, Value.string.injEq] at h; exact Prod.ext h.1 h.2) |>.1 h4
  have h5 : D'.map (fun d => (d.1, d.2.2)) = (kvo.map (·.1)).zip ko := by
    apply List.ext_getElem?
    intro i
    rw [List.getElem?_map]
    cases hd : D'[i]? with
    | none =>
      have hlen : D'.length ≤ i := List.getElem?_eq_none_iff.1 hd
      have hkl : kvo.length ≤ i := by rw [← h3, List.length_map]; exact hlen
      symm
      rw [Option.map_none, List.getElem?_eq_none_iff, List.length_zip, List.length_map, hlo, Nat.min_self]
      exact hkl
    | some d =>
      have h6 : kvo[i]? = some (d.1, d.2.1) := by rw [← h3, List.getElem?_map, hd]; rfl
      obtain ⟨j, hj1, hj2⟩ := h.idx d (h1.mem_iff.1 (List.mem_of_getElem? hd))
      obtain rfl := sorted_idx hs h6 hj1
      symm
      rw [Option.map_some, List.getElem?_zip_eq_some]
      exact ⟨by rw [List.getElem?_map, h6]; rfl, hj2⟩
  have hf := (h.fresh hp hs).1
  rw [jn_eq, ← h5, ← fo_perm (gOf b) hb hf (h1.symm.map _)]
  exact h.inv
end

set_option maxRecDepth 100000 in
set_option maxHeartbeats 2000000 in
theorem merge_map (N : Nat) (hN : N ≤ 1073741824) (n : Nat) (ih : MergeSaid N n) (mb mo : Nat) (kvb kvo : List (ByteArray × Value)) (kb ko : List (Tr n)) (w : World)
    (hmb : MapAt w mb kvb) (hsb : SortedK (kvb.map (·.1))) (hlb : kb.length = kvb.length) (hvb : ∀ (i : Nat) x y, kb[i]? = some x → kvb[i]? = some y → AnyAt Whole w n y.2 x) (hsmb : ∀ k ∈ kb, Small N n k)
    (hmo : MapAt w mo kvo) (hso : SortedK (kvo.map (·.1))) (hlo : ko.length = kvo.length) (hvo : ∀ (i : Nat) x y, ko[i]? = some x → kvo[i]? = some y → AnyAt Whole w n y.2 x) (hsmo : ∀ k ∈ ko, Small N n k) :
    Calls Try.prog 23 #[.iface 55 (.map (some mb)), .iface 55 (.map (some mo))] w (fun e w' => ∃ r, e = .returned r ∧
      AnyAt (From w.heap.size) w' (n + 1) r (⟨4, false, ByteArray.empty, (jn (mergeT n) ((kvb.map (·.1)).zip kb) ((kvo.map (·.1)).zip ko)).map (·.1), (jn (mergeT n) ((kvb.map (·.1)).zip kb) ((kvo.map (·.1)).zip ko)).map (·.2)⟩ : Node (Tr n)) ∧ Below w.heap.size w w') := by
  have IH := hide ih
  clear ih
  have HC := hide (clone_map N hN n mb kvb kb w hmb hsb hlb hvb hsmb)
  obtain ⟨es, clock, hb, hp, hst, hnd, hks⟩ := hmo.keys
  have hmlt := (Array.getElem?_eq_some_iff.1 hb).1
  have HP := hide (And.intro hp (And.intro hso (And.intro hlo (And.intro hvo hsmo))))
  have HQ := hide (And.intro hsb (And.intro hlb hsmb))
  have HE := hide (And.intro hst (And.intro hnd hks))
  have HBK := hide hb
  obtain ⟨b, hbdef⟩ : ∃ b, b = (kvb.map (·.1)).zip kb := ⟨_, rfl⟩
  have hbkeys : b.map (·.1) = kvb.map (·.1) := by rw [hbdef]; exact zip_keys hlb
  have HBS : Hid (SortedK (b.map (·.1))) := hide (by rw [hbkeys]; exact hsb)
  have HBM : Hid (∀ k u, (k, u) ∈ b → Small N n u) := hide (fun k u h => by
    rw [hbdef] at h
    exact hsmb u (List.of_mem_zip h).2)
  have HBD := hide (And.intro hbdef hbkeys)
  rw [← hbdef]
  have h1 := fun w => assert_hit 55 _ Try.underlying55 (by simp) (.map (some mb)) w
  have h2 := fun w => assert_hit 55 _ Try.underlying55 (by simp) (.map (some mo)) w
  have h3 := fun w' => assert_hit1 55 _ Try.underlying55 (by simp) (.map (some w.heap.size)) w'
  clear hmb hsb hlb hvb hsmb hmo hso hlo hvo hsmo hb hp hst hnd hks hbdef hbkeys
  go_enter Try.func23, Try.ntmps23
  go_wp2_with (first | (go_at_call 27; have hcall := HC.out; refine hcall.mono ?_; clear hcall; rintro e w1 ⟨kvs', rfl, hr⟩; have HR := hide hr; clear hr; have hrg := run_range_map (P := Try.prog) w1 55 9 20 mo es clock Try.underlying55 ((HR.out.2.2.2.2.block mo hmlt).trans HBK.out)))
  have hw1 := HR.out.2.2.2.1
  clear hrg HC h1 h2 h3
  go_loopg [10] es.size (fun k _ wr => ∃ (seen : Array Nat) (D : List (ByteArray × (Value × Tr n))), (leftOf es seen).toList.length ≤ k ∧ IterAt wr mo w1.heap.size es clock seen ∧ w1.heap.size + 1 ≤ wr.heap.size ∧ Below w.heap.size w wr ∧
      KInv (fun c => w.heap.size < c ∧ c ≠ w1.heap.size) wr n w.heap.size b kvo ko D (leftOf es seen).toList es.toList)
  case atStart =>
    obtain ⟨q1, q2, q3, q4, q5⟩ := HR.out
    refine ⟨#[], [], by rw [left_start]; simp, IterAt.start ((q5.block mo hmlt).trans HBK.out), by simp, q5.alloc q5.size _, ⟨?_, fun d hd => by simp at hd, by rw [left_start]; simp⟩⟩
    refine ⟨kvs', q1.stay (fun h => Below.heap_alloc _ _ _ h), Rel.of (by rw [List.map_nil, fo_nil, HBD.out.2]; exact q2) (fun i x y hx hy => ?_)⟩
    rw [List.map_nil, fo_nil, HBD.out.1] at hy
    have := (q3 i y.2 x (zip_at hy).2 hx).old
    exact this.mono (fun c _ hc => Below.heap_alloc _ _ _ hc) (fun c hc => ⟨by have : w.heap.size + 2 ≤ c := hc.1; omega, by have := hc.2; omega⟩)
  case round =>
    obtain ⟨seen, D, hk, hit, hsz, hbr, hI⟩ := hrel
    have HI := hide hI
    rcases hit.next HE.out.1 HE.out.2.1 0 with ⟨hl0, hrun⟩ | ⟨e, w2, hem, hrun, hen, hit2, hperm, hoth, hsz2, hos, htp, hout⟩
    · have HL0 := hide hl0
      clear hl0 hI hit
      go_wp2_with fail
      go_ret
      have hI := HI.out
      rw [HL0.out] at hI
      have hJ := hI.done HP.out.1 HP.out.2.1 HP.out.2.2.1 HBS.out
      exact ⟨_, rfl, hJ.done (sorted_jn _ HBS.out _) (fun c hc => Nat.le_of_lt hc.1) (Nat.le_refl _), hbr⟩
    · obtain ⟨s, hek, hkv⟩ := HE.out.2.2 e hem
      rw [hek] at hrun hen
      obtain ⟨i, hi⟩ := List.getElem?_of_mem hkv
      obtain ⟨x, hx⟩ : ∃ x, ko[i]? = some x := ⟨ko[i]'(by rw [HP.out.2.2.1]; exact lt_of_some hi), by simp⟩
      have hb2 : Below w.heap.size w w2 := hbr.trans ⟨hos, htp, hout, by omega, fun k hk => hoth k (by omega)⟩
      have hel : e ∈ (leftOf es seen).toList := hperm.mem_iff.2 List.mem_cons_self
      have hfr := hI.fresh HP.out.1 HP.out.2.1
      have hJ2 : JInv (fun c => w.heap.size < c ∧ c ≠ w1.heap.size) w2 n w.heap.size (fo (gOf b) (D.map fun d => (d.1, d.2.2)) b) := hI.inv.stay (hoth _ (by omega)) (fun c hc _ => hoth c hc.2)
      have hAx := (HP.out.2.2.2.1 i x (s, e.val) hx hi).below hb2
      have hSx := HP.out.2.2.2.2 x (List.mem_of_getElem? hx)
      have hlf := look_fo (gOf b) HBS.out hfr.1 (hfr.2 e hel s hek)
      obtain ⟨u, v, hlk, hAu, hSu, hmt⟩ : ∃ u v, (Instr.lookup 55 (.map (some w.heap.size)) (.string s) false).run Try.prog w2 = .ok v w2 ∧ AnyAt Whole w2 n v u ∧ Small N n u ∧ mergeT n u x = gOf b (s, x) := by
        rcases hJ2.look (sorted_fo _ _ _ HBS.out) s with ⟨u, v, q1, q2, q3⟩ | ⟨q1, q2⟩
        · rw [hlf] at q1
          exact ⟨u, v, q2, q3.whole, HBM.out s u (look_mem q1), by unfold gOf; simp only [q1]⟩
        · rw [hlf] at q1
          cases n with
          | zero => exact hAx.elim
          | succ n =>
            exact ⟨(leaf 0 false ByteArray.empty : Node (Tr n)), .nilIface, q2, .inl ⟨rfl, rfl⟩, ⟨Nat.zero_le _, Nat.zero_le _, fun k hk => by simp [leaf] at hk⟩, (merge_nil n x).trans (by unfold gOf; simp only [q1])⟩
      have HX := hide (And.intro hi (And.intro hx (And.intro hek (And.intro hperm hmt))))
      have HJ2 := hide hJ2
      have HIT2 := hide hit2
      have hsz3 : w1.heap.size + 1 ≤ w2.heap.size := by omega
      have hlen : (leftOf es (seen.push e.born)).toList.length < (leftOf es seen).toList.length := by
        have := hperm.length_eq; simp only [List.length_cons] at this; omega
      have HLEN := hide (And.intro hlen hk)
      have HCL := hide (IH.out u x v e.val w2 hAu hAx hSu hSx)
      clear hi hx hek hperm hit2 hoth hos htp hout hI hit hem hkv hlen hk hsz2 hfr hel hAx hSx hlf hAu hSu hmt hJ2
      generalize hev : e.val = ev at *
      have HEV := hide hev
      clear hev
      go_wp2_with fail
      have hcall := HCL.out
      refine hcall.mono ?_
      rintro e5 w5 ⟨r, rfl, hr5, hb5⟩
      rw [HX.out.2.2.2.2] at hr5
      have hJ5 := HJ2.out.stay (w' := w5) (hb5.block _ (by omega)) (Stay.of_below hb5)
      obtain ⟨o, hmu, hJ6⟩ := hJ5.step (sorted_fo _ _ _ HBS.out) s (hr5.mono (fun _ _ _ => rfl) (fun c hc => ⟨by have : w2.heap.size ≤ c := hc; omega, by have : w2.heap.size ≤ c := hc; omega⟩)) (by omega)
      have hs5 := hb5.size
      have HB5 := hide hb5
      have HJ6 := hide hJ6
      clear hr5 hb5 hJ5 hJ6 hcall HCL
      go_wp2_with fail
      go_roundg (leftOf es (seen.push e.born)).toList.length
      case measure => exact Nat.lt_of_lt_of_le HLEN.out.1 HLEN.out.2
      case rel =>
        have hit5 : IterAt (setBlock w5 w.heap.size o) mo w1.heap.size es clock (seen.push e.born) :=
          HIT2.out.kept ((heap_setBlock_ne (by omega) o).trans (HB5.out.block _ (by omega))) ((heap_setBlock_ne (by omega) o).trans (HB5.out.block _ (by omega)))
        refine ⟨seen.push e.born, D ++ [(s, (e.val, x))], Nat.le_refl _, hit5, by rw [size_setBlock]; omega, (hb2.trans (HB5.out.mono (by omega))).trans (below_setBlock (Nat.le_refl _) o), ?_⟩
        exact HI.out.step HX.out.2.2.2.1 HX.out.2.2.1 (by rw [HEV.out]; exact HX.out.1) HX.out.2.1 HJ6.out

theorem merge_calls (N : Nat) (hN : N ≤ 1073741824) : ∀ n, MergeSaid N n
  | 0 => fun _ _ _ _ _ h => h.elim
  | n + 1 => fun tb to vb vo w hb ho hsb hso => by
    have ih := merge_calls N hN n
    have hb' := hb
    have ho' := ho
    have nomap : ∀ {v : Value} {t : Node (Tr n)}, AnyAt Whole w (n + 1) v t → (∀ m, v ≠ .iface 55 (.map m)) → t.kind ≠ 4 := by
      intro v t h hv
      rcases h with ⟨_, rfl⟩ | ⟨_, _, rfl⟩ | ⟨_, _, rfl⟩ | ⟨_, _, rfl⟩ | ⟨m, _, _, rfl, _⟩ | ⟨_, _, _, _, _, rfl, _⟩
      · exact (by decide : (0 : Int) ≠ 4)
      · exact (by decide : (1 : Int) ≠ 4)
      · exact (by decide : (2 : Int) ≠ 4)
      · exact (by decide : (3 : Int) ≠ 4)
      · exact absurd rfl (hv (some m))
      · exact (by decide : (5 : Int) ≠ 4)
    have ismap : ∀ {v : Value} {t : Node (Tr n)}, AnyAt Whole w (n + 1) v t → (∀ m, v ≠ .iface 55 (.map m)) ∨ ∃ m kvs kids, v = .iface 55 (.map (some m)) ∧ MapAt w m kvs ∧ SortedK (kvs.map (·.1)) ∧ t = ⟨4, false, ByteArray.empty, kvs.map (·.1), kids⟩ ∧
      kids.length = kvs.length ∧ ∀ (i : Nat) x y, kids[i]? = some x → kvs[i]? = some y → AnyAt Whole w n y.2 x := by
      intro v t h
      rcases h with ⟨rfl, _⟩ | ⟨_, rfl, _⟩ | ⟨_, rfl, _⟩ | ⟨_, rfl, _⟩ | ⟨m, kvs, kids, rfl, _, h⟩ | ⟨_, _, _, _, rfl, _⟩
      · left; intro m e; cases e
      · left; intro m e; cases e
      · left; intro m e; cases e
      · left; intro m e; cases e
      · exact .inr ⟨m, kvs, kids, rfl, h⟩
      · left; intro m e; cases e
    rcases ismap hb with hvb | ⟨mb, kvb, kb, rfl, a1, a2, a3, a4, a5⟩
    · have : mergeT (n + 1) tb to = to := (mergeT_succ n tb to).trans (if_neg (fun h => nomap hb hvb h.1))
      rw [this]
      exact merge_left N hN (n + 1) tb to vb vo w hb ho hso hvb
    · rcases ismap ho with hvo | ⟨mo, kvo, ko, rfl, c1, c2, c3, c4, c5⟩
      · have : mergeT (n + 1) tb to = to := (mergeT_succ n tb to).trans (if_neg (fun h => nomap ho hvo h.2))
        rw [this]
        exact merge_right N hN (n + 1) to mb vo w ho hso hvo
      · subst a3
        subst c3
        have : mergeT (n + 1) (⟨4, false, ByteArray.empty, kvb.map (·.1), kb⟩ : Node (Tr n)) (⟨4, false, ByteArray.empty, kvo.map (·.1), ko⟩ : Node (Tr n)) = (⟨4, false, ByteArray.empty, (jn (mergeT n) ((kvb.map (·.1)).zip kb) ((kvo.map (·.1)).zip ko)).map (·.1), (jn (mergeT n) ((kvb.map (·.1)).zip kb) ((kvo.map (·.1)).zip ko)).map (·.2)⟩ : Node (Tr n)) := (mergeT_succ n _ _).trans (if_pos ⟨rfl, rfl⟩)
        rw [this]
        exact merge_map N hN n ih mb mo kvb kvo kb ko w a1 a2 a4 a5 (fun k hk => hsb.2.2 k hk) c1 c2 c4 c5 (fun k hk => hso.2.2 k hk)
end Go.Proofs.Qxb6616028a
