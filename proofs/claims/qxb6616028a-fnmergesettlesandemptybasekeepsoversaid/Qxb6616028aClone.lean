/- Clone at a map, told more closely; Merge. -/
import Derived.Test.Qxb6616028aMapS
import Derived.Test.Qxb6616028aJoin
namespace Go.Proofs.Qxb6616028a
open Go.RowKit
open Go.ChangeMaps (setBlock)

theorem MInv.done2 {B : Nat} {w : World} {sw : Bool} {n m : Nat} {D : List (ByteArray × (Value × Value))} {all : List MapEntry} {kvs : List (ByteArray × Value)} {kids : List (Tr n)} (h : MInv B w sw n m kvs kids D [] all)
    (hp : (all.map fun e => (e.key, e.val)).Perm (kvs.map fun p => (Value.string p.1, p.2))) (hs : SortedK (kvs.map (·.1))) :
    ∃ kvs', MapAt w m kvs' ∧ kvs'.map (·.1) = kvs.map (·.1) ∧ ∀ (i : Nat) x y, kids[i]? = some x → kvs'[i]? = some y → AnyAt (From B) w n y.2 (mapS sw n x) := by
  have hperm := h.perm
  rw [List.map_nil, List.append_nil] at hperm
  obtain ⟨D', h1, h2⟩ := perm_lift (fun d : ByteArray × (Value × Value) => (Value.string d.1, d.2.1)) (hperm.trans hp) rfl
  have h3 : D'.map (fun d => (d.1, d.2.1)) = kvs := by
    have h4 : (D'.map (fun d => (d.1, d.2.1))).map (fun p => (Value.string p.1, p.2)) = kvs.map (fun p => (Value.string p.1, p.2)) := by rw [List.map_map]; exact h2
    exact List.map_inj_right (fun a b h => by simp only [Prod.mk.injEq, Value.string.injEq] at h; exact Prod.ext h.1 h.2) |>.1 h4
  have h5 : (D'.map (fun d => (d.1, d.2.2))).map (·.1) = kvs.map (·.1) := by
    rw [← h3, List.map_map, List.map_map]; rfl
  have hmap := h.map
  rw [toMap_of_perm (s := D'.map fun d => (d.1, d.2.2)) (by rw [h5]; exact hs) (h1.symm.map _)] at hmap
  refine ⟨_, hmap, h5, fun i x y hx hy => ?_⟩
  rw [List.getElem?_map] at hy
  cases hd : D'[i]? with
  | none => simp [hd] at hy
  | some d =>
    simp [hd] at hy
    subst hy
    have h6 : kvs[i]? = some (d.1, d.2.1) := by rw [← h3, List.getElem?_map, hd]; rfl
    exact h.vals d (h1.mem_iff.1 (List.mem_of_getElem? hd)) i x h6 hx

set_option maxRecDepth 100000 in
set_option maxHeartbeats 2000000 in
theorem maps_map2 (sw : Bool) (N : Nat) (n : Nat) (ih : MapSaid sw N n) (m : Nat) (kvs : List (ByteArray × Value)) (kids : List (Tr n)) (w : World) (hm : MapAt w m kvs) (hs : SortedK (kvs.map (·.1)))
    (hl : kids.length = kvs.length) (hv : ∀ (i : Nat) x y, kids[i]? = some x → kvs[i]? = some y → AnyAt Whole w n y.2 x) (hsm : ∀ k ∈ kids, Small N n k) :
    Calls Try.prog 25 #[.iface 55 (.map (some m)), fVal sw] w (fun e w' => ∃ kvs', e = .returned (.iface 55 (.map (some w.heap.size))) ∧ MapAt w' w.heap.size kvs' ∧ kvs'.map (·.1) = kvs.map (·.1) ∧ (∀ (i : Nat) x y, kids[i]? = some x → kvs'[i]? = some y → AnyAt (From (w.heap.size + 2)) w' n y.2 (mapS sw n x)) ∧ w.heap.size < w'.heap.size ∧ Below w.heap.size w w') := by
  have IH := hide ih
  clear ih
  obtain ⟨es, clock, hb, hp, hst, hnd, hks⟩ := hm.keys
  have hmlt := (Array.getElem?_eq_some_iff.1 hb).1
  have HP := hide (And.intro hp (And.intro hs (And.intro hl (And.intro hv hsm))))
  have HE := hide (And.intro hst (And.intro hnd hks))
  have HBK := hide hb
  generalize hfv : fVal sw = fv at *
  have HFV := hide hfv
  clear hfv
  have h1 := fun w => assert_hit 55 _ Try.underlying55 (by simp) (.map (some m)) w
  have hln := run_len_map hb
  have hmm := run_makeMap55 (some (.int .i64 (es.size : Int))) (.inr ⟨_, _, rfl⟩)
  have hrg := run_range_map (P := Try.prog) (w.alloc (.map #[] 0)) 55 9 20 m es clock Try.underlying55 ((Below.heap_alloc _ _ _ hmlt).trans hb)
  clear hm hb hp hs hl hv hsm hst hnd hks
  go_enter Try.func25, Try.ntmps25
  go_wp2_with fail
  go_loopg [7] es.size (fun k _ wr => ∃ (seen : Array Nat) (D : List (ByteArray × (Value × Value))), (leftOf es seen).toList.length ≤ k ∧ IterAt wr m (w.heap.size + 1) es clock seen ∧ w.heap.size + 2 ≤ wr.heap.size ∧ Below w.heap.size w wr ∧
      MInv (w.heap.size + 2) wr sw n w.heap.size kvs kids D (leftOf es seen).toList es.toList)
  case atStart =>
    have hit : IterAt ((w.alloc (.map #[] 0)).alloc (.mapIter (some m) clock #[] clock)) m (w.heap.size + 1) es clock #[] := by
      have := IterAt.start (w := w.alloc (.map #[] 0)) ((Below.heap_alloc _ _ _ hmlt).trans HBK.out)
      simpa using this
    exact ⟨#[], [], by rw [left_start]; simp, hit, by simp, ((Below.refl _ _).alloc (Nat.le_refl _) _).alloc (by simp) _, ⟨(MapAt.made w rfl).stay (fun h => Below.heap_alloc _ _ _ h), fun d hd => by simp at hd, by rw [left_start]; simp⟩⟩
  case round =>
    obtain ⟨seen, D, hk, hit, hsz, hbr, hI⟩ := hrel
    have HI := hide hI
    have HIT := hide hit
    rcases hit.next HE.out.1 HE.out.2.1 0 with ⟨hl0, hrun⟩ | ⟨e, w2, hem, hrun, hen, hit2, hperm, hoth, hsz2, hos, htp, hout⟩
    · have HL0 := hide hl0
      clear hl0 hI hit
      go_wp2_with fail
      go_ret
      have hI := HI.out
      rw [HL0.out] at hI
      obtain ⟨kvs', q1, q2, q3⟩ := hI.done2 HP.out.1 HP.out.2.1
      exact ⟨kvs', rfl, q1, q2, q3, by omega, hbr⟩
    · obtain ⟨s, hek, hkv⟩ := HE.out.2.2 e hem
      rw [hek] at hrun hen
      obtain ⟨i, hi⟩ := List.getElem?_of_mem hkv
      obtain ⟨x, hx⟩ : ∃ x, kids[i]? = some x := ⟨kids[i]'(by rw [HP.out.2.2.1]; exact lt_of_some hi), by simp⟩
      have hb2 : Below w.heap.size w w2 := hbr.trans ⟨hos, htp, hout, by omega, fun k hk => hoth k (by omega)⟩
      have HX := hide (And.intro hi (And.intro hx (And.intro hek hperm)))
      have HIT2 := hide hit2
      have HOTH := hide hoth
      have hsz3 : w.heap.size + 2 ≤ w2.heap.size := by omega
      have hlen : (leftOf es (seen.push e.born)).toList.length < (leftOf es seen).toList.length := by
        have := hperm.length_eq; simp only [List.length_cons] at this; omega
      have HLEN := hide (And.intro hlen (And.intro hk hsz2))
      clear hi hx hek hperm hit2 hoth hos htp hout hI hit hem hkv hlen hk hsz2
      generalize hev : e.val = ev at *
      have HEV := hide hev
      clear hev
      go_wp2_with fail
      have hcall := IH.out x ev w2 ((HP.out.2.2.2.1 i x (s, ev) HX.out.2.1 HX.out.1).below hb2) (HP.out.2.2.2.2 x (List.mem_of_getElem? HX.out.2.1))
      rw [HFV.out] at hcall
      refine hcall.mono ?_
      rintro e5 w5 ⟨r, rfl, hr5, hb5⟩
      have hm5 : MapAt w5 w.heap.size (toMap (D.map fun d => (d.1, d.2.2))) := (HI.out.map.stay (w' := w2) (fun _ => HOTH.out _ (by omega))).stay (fun h => hb5.block _ h)
      obtain ⟨o, hmu, hma⟩ := hm5.update (sorted_toMap _) s r
      have hs5 := hb5.size
      have HR5 := hide hr5
      have HB5 := hide hb5
      have HMA := hide hma
      clear hr5 hb5 hma hm5 hcall
      go_wp2_with fail
      go_roundg (leftOf es (seen.push e.born)).toList.length
      case measure => exact Nat.lt_of_lt_of_le HLEN.out.1 HLEN.out.2.1
      case rel =>
        have hit5 : IterAt (setBlock w5 w.heap.size o) m (w.heap.size + 1) es clock (seen.push e.born) :=
          HIT2.out.kept ((heap_setBlock_ne (by omega) o).trans (HB5.out.block _ (by omega))) ((heap_setBlock_ne (by omega) o).trans (HB5.out.block _ (by omega)))
        refine ⟨seen.push e.born, D ++ [(s, (e.val, r))], Nat.le_refl _, hit5, by rw [size_setBlock]; omega, (hb2.trans (HB5.out.mono (by omega))).trans (below_setBlock (Nat.le_refl _) o), ?_⟩
        refine HI.out.step HX.out.2.2.2 HX.out.2.2.1 (fun b hB hlt => ?_) (fun j y hj hy => ?_) (by omega) HMA.out
        · have hB' : w.heap.size + 2 ≤ b := hB
          rw [HB5.out.block b (by have := HLEN.out.2.2; omega), HOTH.out b (by omega)]
        · rw [HEV.out] at hj
          obtain rfl := sorted_idx HP.out.2.1 hj HX.out.1
          rw [HX.out.2.1] at hy
          cases hy
          exact HR5.out.mono (fun _ _ _ => rfl) (fun b hb => by have hb' : w2.heap.size ≤ b := hb; show w.heap.size + 2 ≤ b; omega)



set_option maxHeartbeats 1000000 in
theorem clone_calls (N : Nat) (hN : N ≤ 1073741824) (n : Nat) (t : Tr n) (v : Value) (w : World) (h : AnyAt Whole w n v t) (hs : Small N n t) :
    Calls Try.prog 27 #[v] w (fun e w' => ∃ r, e = .returned r ∧ AnyAt (From w.heap.size) w' n r t ∧ Below w.heap.size w w') := by
  have H := hide (maps_calls false N hN n t v w h hs)
  have hform := h.form
  clear h hs
  rcases hform with rfl | ⟨u, x, rfl⟩
  all_goals
    go_enter Try.func27, Try.ntmps27
    go_wp2_with (first | (go_at_call 25; have hcall := H.out; refine hcall.mono ?_; clear hcall; rintro e w1 ⟨r, rfl, hr, hb⟩; have HR := hide hr; clear hr))
    go_ret
    exact ⟨_, rfl, HR.out, hb⟩

set_option maxHeartbeats 1000000 in
theorem clone_map (N : Nat) (hN : N ≤ 1073741824) (n : Nat) (m : Nat) (kvs : List (ByteArray × Value)) (kids : List (Tr n)) (w : World) (hm : MapAt w m kvs) (hs : SortedK (kvs.map (·.1)))
    (hl : kids.length = kvs.length) (hv : ∀ (i : Nat) x y, kids[i]? = some x → kvs[i]? = some y → AnyAt Whole w n y.2 x) (hsm : ∀ k ∈ kids, Small N n k) :
    Calls Try.prog 27 #[.iface 55 (.map (some m))] w (fun e w' => ∃ kvs', e = .returned (.iface 55 (.map (some w.heap.size))) ∧ MapAt w' w.heap.size kvs' ∧ kvs'.map (·.1) = kvs.map (·.1) ∧ (∀ (i : Nat) x y, kids[i]? = some x → kvs'[i]? = some y → AnyAt (From (w.heap.size + 2)) w' n y.2 x) ∧ w.heap.size < w'.heap.size ∧ Below w.heap.size w w') := by
  have H := hide (maps_map2 false N n (maps_calls false N hN n) m kvs kids w hm hs hl hv hsm)
  clear hm hs hl hv hsm
  go_enter Try.func27, Try.ntmps27
  go_wp2_with (first | (go_at_call 25; have hcall := H.out; refine hcall.mono ?_; clear hcall; rintro e w1 ⟨kvs', rfl, hr⟩; have HR := hide hr; clear hr))
  go_ret
  exact ⟨kvs', rfl, HR.out⟩
end Go.Proofs.Qxb6616028a
