/- zzRead of a mapping: its keys collected, sorted by insertion, its values read in that order. -/
import Derived.Test.Qxb6616028aRead
import Derived.Deep.QuietTactic
import Derived.Deep.LoopGhost
import Derived.BigQuiet
import Derived.WalkSmall
namespace Go.Proofs.Qxb6616028a
open Go.RowKit
open Go.ChangeMaps (setBlock)

theorem strVs_snoc (l : List ByteArray) (s : ByteArray) : strVs (l ++ [s]) = strVs l ++ [.string s] := by simp [strVs]
theorem strVs_set (l : List ByteArray) (i : Nat) (s : ByteArray) : (strVs l).set i (.string s) = strVs (l.set i s) := by simp [strVs]
theorem strs_cell {w : World} {base g n cap : Nat} {l : List ByteArray} (h : w.ownsRow base 9 1 (.slice (some ⟨g, 0, none⟩) n cap) n (strVs l)) {i : Nat} {s : ByteArray} (hs : l[i]? = some s) : w.cell? ⟨g, i, none⟩ = some (.string s) := by
  have hl : l.length = n := by have := h.1; simpa [strVs] using this
  have hi := lt_of_some hs
  rw [h.cellAt i (by omega)]
  simp [strVs, hs]

/-- the inner loop of the insertion sort: x stands at A.length, A and B sorted, x below all of B -/
theorem ins_exit {A B : List ByteArray} {x : ByteArray} (hs : SortedK (A ++ B)) (hb : ∀ b ∈ B, sLt x b = true) (ha : A = [] ∨ ∃ A' y, A = A' ++ [y] ∧ sLt y x = true) : SortedK (A ++ x :: B) := by
  obtain ⟨h1, h2, h3⟩ := List.pairwise_append.1 hs
  refine List.pairwise_append.2 ⟨h1, List.pairwise_cons.2 ⟨hb, h2⟩, fun a ha' b hb' => ?_⟩
  rcases List.mem_cons.1 hb' with rfl | hb'
  · rcases ha with rfl | ⟨A', y, rfl, hy⟩
    · simp at ha'
    · rcases List.mem_append.1 ha' with h4 | h4
      · exact sLt_trans ((List.pairwise_append.1 h1).2.2 a h4 y (by simp)) hy
      · simp at h4; rw [h4]; exact hy
  · exact h3 a ha' b hb'
theorem swap_lists (A' : List ByteArray) (y x : ByteArray) (B : List ByteArray) : (((A' ++ [y]) ++ x :: B).set (A'.length + 1) y).set A'.length x = A' ++ x :: (y :: B) := by
  rw [List.append_assoc, List.set_append_right _ _ (by omega)]
  rw [List.set_append_right _ _ (by omega)]
  simp

theorem take_mid (A : List ByteArray) (x : ByteArray) (B R : List ByteArray) {i : Nat} (h : A.length + B.length = i) : (A ++ x :: (B ++ R)).take (i + 1) = A ++ x :: B := by
  have h1 : A ++ x :: (B ++ R) = (A ++ x :: B) ++ R := by simp
  rw [h1, List.take_append_of_le_length (by simp; omega), List.take_of_length_le (by simp; omega)]
theorem keys_perm {C : List ByteArray} {es : Array MapEntry} {kvs : List (ByteArray × Value)} (h1 : (C.map fun s => Value.string s).Perm (es.toList.map fun e => e.key)) (h2 : (es.toList.map fun e => (e.key, e.val)).Perm (kvs.map fun p => (Value.string p.1, p.2))) : (kvs.map (·.1)).Perm C := by
  have h3 := h2.map (·.1)
  rw [List.map_map, List.map_map] at h3
  obtain ⟨C', h4, h5⟩ := perm_lift (fun s : ByteArray => Value.string s) (h1.trans h3) rfl
  have h6 : C' = kvs.map (·.1) := by
    have h7 : C'.map (fun s => Value.string s) = (kvs.map (·.1)).map (fun s => Value.string s) := by rw [h5, List.map_map]; rfl
    exact List.map_inj_right (fun a b h => by cases h; rfl) |>.1 h7
  rw [← h6]; exact h4
theorem row_two {w : World} {base g n : Nat} {A' : List ByteArray} {x y : ByteArray} {T : List ByteArray} {j : Nat} (hj : A'.length = j) (h : w.ownsRow base 9 1 (.slice (some ⟨g, 0, none⟩) n n) n (strVs ((A' ++ [y]) ++ x :: T))) :
    ((w.setCell ⟨g, j + 1, none⟩ (.string y)).setCell ⟨g, j, none⟩ (.string x)).ownsRow base 9 1 (.slice (some ⟨g, 0, none⟩) n n) n (strVs (A' ++ x :: (y :: T))) := by
  have h1 := ((h.stored (j + 1) (.string y)).1.stored j (.string x)).1
  rw [strVs_set, strVs_set] at h1
  rw [← hj, swap_lists] at h1
  rw [← hj]
  exact h1

set_option maxRecDepth 100000 in
set_option maxHeartbeats 4000000 in
theorem read_map (N : Nat) (hN : N ≤ 1073741824) (n : Nat) (ih : ReadSaid N n) (m : Nat) (kvs : List (ByteArray × Value)) (kids : List (Tr n)) (w : World) (hm : MapAt w m kvs) (hs : SortedK (kvs.map (·.1)))
    (hl : kids.length = kvs.length) (hv : ∀ (i : Nat) x y, kids[i]? = some x → kvs[i]? = some y → AnyAt Whole w n y.2 x) (hn : kids.length ≤ N) (hsm : ∀ k ∈ kids, Small N n k) :
    Calls Try.prog 24 #[.iface 55 (.map (some m))] w (Ret5 fun r w' => TreeAt (From w.heap.size) w' (n + 1) r (⟨4, false, ByteArray.empty, kvs.map (·.1), kids⟩ : Node (Tr n)) ∧ Below w.heap.size w w') := by
  have IH := hide ih
  clear ih
  have HM := hide hm
  obtain ⟨es, clock, hb, hp, hst, hnd, hks⟩ := hm.keys
  have hmlt := (Array.getElem?_eq_some_iff.1 hb).1
  obtain ⟨K, hK⟩ : ∃ K, K = es.size := ⟨_, rfl⟩
  have hKk : K = kvs.length := by have := hp.length_eq; simp at this; omega
  have hKN : K ≤ 1073741824 := by omega
  have HP := hide (And.intro hp (And.intro hs (And.intro hl (And.intro hv (And.intro hsm (And.intro hKk hK))))))
  have HE := hide (And.intro hst (And.intro hnd hks))
  have HBK := hide hb
  have h0 := eql_held 55 (.map (some m))
  have h1 := fun w => assert_miss 4 55 _ Try.underlying4 (by simp) (by decide) (.map (some m)) _ w (zero4 w)
  have h2 := fun w => assert_miss 9 55 _ Try.underlying9 (by simp) (by decide) (.map (some m)) _ w (zero9 w)
  have h3 := fun w => assert_miss 54 55 _ Try.underlying54 (by simp) (by decide) (.map (some m)) _ w (zero54 w)
  have h4 := fun w => assert_hit 55 _ Try.underlying55 (by simp) (.map (some m)) w
  have hln : ∀ ty, (Builtin.len_ #[55] ty #[.map (some m)]).run Try.prog (w.alloc (.cells #[.int .i8 0, .bool false, .string { data := #[] }, .slice none 0 0, .slice none 0 0] 31)) = .ok (.int .i64 (K : Int)) (w.alloc (.cells #[.int .i8 0, .bool false, .string { data := #[] }, .slice none 0 0, .slice none 0 0] 31)) := by
    rw [hK]; exact run_len_map ((Below.heap_alloc _ _ _ hmlt).trans hb)
  obtain ⟨i9, hi9, hi9z, hi9s, hi9b⟩ := info_parts info9
  clear hm hb hp hs hl hv hn hsm hst hnd hks hK hKk
  go_enter Try.func24, Try.ntmps24
  go_wp2_with (first | (at_make; refine wpList_make_own _ rfl _ _ 23 rfl (w.heap.size + 1) 9 i9 _ 1 Try.underlying23 hi9 hi9z hi9s _ _ _ K rfl rfl rfl (by rw [hi9b]; omega) (by unfold maxLen; omega) (by simp) ?_; intro w3 hown hgrow; have hb3 := (hgrow.block m (by simp; omega) (by simp)).trans ((Below.heap_alloc _ _ _ hmlt).trans HBK.out); have hrg := run_range_map (P := Try.prog) w3 55 9 20 m es clock Try.underlying55 hb3; clear hb3))
  have hW3 : Below (w.heap.size + 1) (w.alloc (.cells #[.int .i8 0, .bool false, .string { data := #[] }, .slice none 0 0, .slice none 0 0] 31)) w3 := (Below.refl _ _).grown hgrow (by simp) (fun k hk => by cases hk)
  have hm3 : w3.heap[m]? = some (.map es clock) := (hgrow.block m (by simp; omega) (by simp)).trans ((Below.heap_alloc _ _ _ hmlt).trans HBK.out)
  simp only [World.size_alloc] at hown
  have hw3s : w.heap.size + 2 ≤ w3.heap.size := by have := (own_caps hown).2.2.2; omega
  have HOWN := hide hown
  have HW3 := hide hW3
  have HM3 := hide hm3
  clear hown hgrow hW3 hm3 hrg
  go_loopg [8] K (fun k a wr => ∃ (seen : Array Nat) (C : List ByteArray), (leftOf es seen).toList.length ≤ k ∧ C.length + (leftOf es seen).toList.length ≤ K ∧ a = .slice (some ⟨w.heap.size + 1, 0, none⟩) C.length K ∧
      wr.ownsRow (w.heap.size + 1) 9 1 (.slice (some ⟨w.heap.size + 1, 0, none⟩) C.length K) C.length (strVs C) ∧ IterAt wr m w3.heap.size es clock seen ∧ w3.heap.size + 1 ≤ wr.heap.size ∧
      Below (w.heap.size + 1) w3 wr ∧ Hid (((C.map fun s => Value.string s) ++ ((leftOf es seen).toList.map fun e => e.key)).Perm (es.toList.map fun e => e.key)))
  case atStart =>
    have h9 := HP.out.2.2.2.2.2.2
    exact ⟨#[], [], by rw [left_start]; simp; omega, by rw [left_start]; simp; omega, rfl, own_alloc HOWN.out _, IterAt.start HM3.out, by simp, (Below.refl _ _).alloc (by omega) _, hide (by rw [left_start]; simp)⟩
  case round =>
    obtain ⟨seen, C, hk, hCK, rfl, hownC, hit, hsz, hbr, hPm⟩ := hrel
    rcases hit.next HE.out.1 HE.out.2.1 0 with ⟨hl0, hrun⟩ | ⟨e, w2, hem, hrun, hen, hit2, hperm, hoth, hsz2, hos, htp, hout⟩
    case inr =>
      obtain ⟨s, hek, hkv⟩ := HE.out.2.2 e hem
      rw [hek] at hrun hen
      have hlen : (leftOf es (seen.push e.born)).toList.length + 1 = (leftOf es seen).toList.length := by
        have := hperm.length_eq; simp only [List.length_cons] at this; omega
      have hC1 : C.length + 1 ≤ K := by omega
      have hbr2 : Below (w.heap.size + 1) w3 w2 := hbr.trans ⟨hos, htp, hout, by omega, fun k hk => hoth k (by omega)⟩
      have hown2 := own_stay hownC (hoth _ (by omega))
      have hsz4 : w3.heap.size + 1 ≤ w2.heap.size := by omega
      have HX := hide (And.intro hek (And.intro hperm (And.intro hlen (And.intro hk (And.intro hCK hit2)))))
      have HBR2 := hide hbr2
      clear hek hkv hperm hlen hk hCK hit2 hoth hos htp hout hit hem hownC hbr hbr2 hsz2
      generalize e.val = ev at *
      go_wp2_with (first | (at_builtin; refine wpList_append_fits _ rfl _ _ 23 rfl (w.heap.size + 1) 9 i9 1 Try.underlying23 hi9 hi9s (w.heap.size + 1) C.length K (strVs C) rfl (World.ownsRow.alloc hown2 _) _ 1 1 [.string s] rfl rfl (cell_one_new _ _ _) (by simp [Value.oneCell']) (by omega) ?_; intro w4 hown4 hgrow4))
      go_roundg (leftOf es (seen.push e.born)).toList.length
      case measure => have := HX.out; omega
      case rel =>
        obtain ⟨q1, q2, q3, q4, q5, q6⟩ := HX.out
        have hm2 : m ≠ w.heap.size + 1 := by omega
        refine ⟨seen.push e.born, C ++ [s], Nat.le_refl _, by rw [List.length_append, List.length_singleton]; omega, by simp, by rw [strVs_snoc]; simpa using hown4, ?_, ?_, ?_, hide ?_⟩
        · refine q6.kept ?_ ?_
          · exact (hgrow4.block m (by simp; omega) (fun e => by injection e with e'; omega)).trans (Below.heap_alloc _ _ _ (by omega))
          · exact (hgrow4.block w3.heap.size (by simp; omega) (fun e => by injection e with e'; omega)).trans (Below.heap_alloc _ _ _ (by omega))
        · have := hgrow4.size; simp at this; omega
        · exact (HBR2.out.alloc (by omega) _).grown hgrow4 (by simp; omega) (fun k hk => by cases hk; exact Nat.le_refl _)
        · refine List.Perm.trans ?_ hPm.out
          rw [List.map_append, List.append_assoc]
          refine List.Perm.append_left _ ?_
          have := (q2.map (fun e => e.key)).symm
          rw [List.map_cons, q1] at this
          exact this
    case inl =>
      have hCp : (C.map fun s => Value.string s).Perm (es.toList.map fun e => e.key) := by have := hPm.out; rw [hl0] at this; simpa using this
      have hCl : C.length = K := by have := hCp.length_eq; have h9 := HP.out.2.2.2.2.2.2; simp at this; omega
      have HCP := hide (keys_perm hCp HP.out.1)
      have HND : Hid C.Nodup := hide (HCP.out.nodup_iff.1 HP.out.2.1.nodup)
      subst hCl
      have HOC := hide hownC
      have hlt5 : w.heap.size + 2 ≤ wr.heap.size := by omega
      have HBR := hide hbr
      clear hCp hl0 hPm hk hCK hit hownC hbr
      go_wp2_with fail
      rename World => w5
      go_loopw [10] (fun a wr => ∃ (i : Nat) (L : List ByteArray), 1 ≤ i ∧ i ≤ C.length + 1 ∧ a = .int .i64 i ∧ Hid (L.Perm C ∧ SortedK (L.take i)) ∧
          wr.ownsRow (w.heap.size + 1) 9 1 (.slice (some ⟨w.heap.size + 1, 0, none⟩) C.length C.length) C.length (strVs L) ∧ w.heap.size + 2 ≤ wr.heap.size ∧ Below (w.heap.size + 1) w5 wr) (fun a _ => C.length - (intOf a).toNat)
      case atStart =>
        refine ⟨1, C, Nat.le_refl _, by omega, rfl, hide ⟨List.Perm.refl _, ?_⟩, HOC.out, hlt5, Below.refl _ _⟩
        match C with
        | [] => exact List.Pairwise.nil
        | a :: r => simp [SortedK]
      case round =>
        obtain ⟨i, L, hi1, hi2, rfl, HL, hownL, hszr, hbr⟩ := hrel
        have hLl : L.length = C.length := HL.out.1.length_eq
        by_cases hlt : i < C.length
        · have HOL := hide hownL
          have HBR2 := hide hbr
          have HLl := hide hLl
          clear hownL hbr hLl
          go_wp2_with fail
          rename World => w6
          go_loopw [11] (fun b wr => ∃ (j : Nat) (A : List ByteArray) (x : ByteArray) (B R : List ByteArray), b = .int .i64 j ∧ j ≤ i ∧ Hid (A.length = j ∧ A.length + B.length = i ∧ (A ++ x :: (B ++ R)).Perm C ∧ SortedK (A ++ B) ∧ ∀ b ∈ B, sLt x b = true) ∧
              wr.ownsRow (w.heap.size + 1) 9 1 (.slice (some ⟨w.heap.size + 1, 0, none⟩) C.length C.length) C.length (strVs (A ++ x :: (B ++ R))) ∧ w.heap.size + 2 ≤ wr.heap.size ∧ Below (w.heap.size + 1) w6 wr) (fun b _ => (intOf b).toNat)
          case atStart =>
            have hi : i < L.length := by rw [HLl.out]; exact hlt
            have hsp : L = L.take i ++ L[i] :: ([] ++ L.drop (i + 1)) := by
              rw [List.nil_append, ← List.drop_eq_getElem_cons hi, List.take_append_drop]
            refine ⟨i, L.take i, L[i], [], L.drop (i + 1), rfl, Nat.le_refl _, hide ⟨by simp; omega, by simp; omega, by rw [← hsp]; exact HL.out.1, by simpa using HL.out.2, fun b hb => by simp at hb⟩, by rw [← hsp]; exact HOL.out, hszr, Below.refl _ _⟩
          case round =>
            obtain ⟨j, A, x, B, R, rfl, hji, HA, hownA, hsz6, hbr6⟩ := hrel
            have hjl : j < (A ++ x :: (B ++ R)).length := by have := HA.out.1; simp; omega
            have hjC : j < C.length := by omega
            have cx : wr.cell? ⟨w.heap.size + 1, j, none⟩ = some (.string x) := strs_cell hownA (by rw [List.getElem?_append_right (by have := HA.out.1; omega)]; simp [HA.out.1])
            have HOA := hide hownA
            have HB6 := hide hbr6
            clear hownA hbr6 hjl
            rcases Nat.eq_zero_or_pos j with hj0 | hjp
            · subst hj0
              have hnd : decide ((0 : Int) < ((0 : Nat) : Int)) = false := by simp
              go_wp2_with fail
              go_quiet (fail)
              go_wp2_with fail
              obtain ⟨q1, q2, q3, q4, q5⟩ := HA.out
              exact ⟨⟨i + 1, _, by omega, by omega, by go_num, hide ⟨q3, by rw [take_mid _ _ _ _ q2]; exact ins_exit q4 q5 (.inl (List.eq_nil_of_length_eq_zero q1))⟩, HOA.out, hsz6, HBR2.out.trans (below_drewN HB6.out _)⟩, by simp [intOf]; omega⟩
            · obtain ⟨j', rfl⟩ : ∃ j', j = j' + 1 := ⟨j - 1, by omega⟩
              obtain ⟨A', y, hAy⟩ : ∃ A' y, A = A' ++ [y] := by
                have : A ≠ [] := fun e => by have := HA.out.1; rw [e] at this; simp at this
                exact ⟨A.dropLast, A.getLast this, (List.dropLast_concat_getLast this).symm⟩
              subst hAy
              have hA'l : A'.length = j' := by have := HA.out.1; simp at this; exact this
              have cy : wr.cell? ⟨w.heap.size + 1, j', none⟩ = some (.string y) := strs_cell HOA.out (by rw [List.append_assoc, List.getElem?_append_right (by omega)]; simp [hA'l])
              have hne : x ≠ y := by
                have := HA.out.2.2.1.nodup_iff.2 HND.out
                rw [List.nodup_append] at this
                intro e
                exact this.2.2 y (by simp) x (by simp) e.symm
              have hz1 := HOA.out.frozenAt (j' + 1)
              have hz2 := HOA.out.frozenAt j'
              have HA' := hide (And.intro hA'l hne)
              have hjp' : (0 : Int) < (j' : Int) + 1 := by omega
              clear hA'l hne
              by_cases hcmp : Op.bytesLess x.toList y.toList = true
              · have HC := hide hcmp
                go_wp2_with fail
                go_quiet (fail)
                go_wp2_with fail
                obtain ⟨q1, q2, q3, q4, q5⟩ := HA.out
                refine ⟨⟨j', A', x, y :: B, R, rfl, by omega, hide ⟨HA'.out.1, by simp at *; omega, ?_, by simpa using q4, ?_⟩, row_two (w := wr.drewN _) HA'.out.1 HOA.out, by simp only [World.size_setCell]; exact hsz6, ((below_drewN HB6.out _).setCell (by simp) _).setCell (by simp) _⟩, by simp [intOf]⟩
                · refine List.Perm.trans ?_ q3
                  rw [List.append_assoc]
                  exact List.Perm.append_left _ (List.Perm.swap _ _ _)
                · intro b hb
                  rcases List.mem_cons.1 hb with rfl | hb
                  · exact HC.out
                  · exact q5 b hb
              · have hcmp' : Op.bytesLess x.toList y.toList = false := by simpa using hcmp
                clear hcmp
                have HC := hide hcmp'
                go_wp2_with fail
                go_quiet (fail)
                go_wp2_with fail
                obtain ⟨q1, q2, q3, q4, q5⟩ := HA.out
                exact ⟨⟨i + 1, _, by omega, by omega, by go_num, hide ⟨q3, by rw [take_mid _ _ _ _ q2]; exact ins_exit q4 q5 (.inr ⟨A', y, rfl, sLt_tri HA'.out.2 HC.out⟩)⟩, HOA.out, hsz6, HBR2.out.trans (below_drewN HB6.out _)⟩, by simp [intOf]; omega⟩
        · have hLk : L = kvs.map (·.1) := by
            have h9 : L.take i = L := List.take_of_length_le (by omega)
            have h10 := HL.out.2
            rw [h9] at h10
            exact sorted_ext h10 HP.out.2.1 (fun x => (HL.out.1.trans HCP.out.symm).mem_iff)
          subst hLk
          have hCn : C.length ≤ 1073741824 := hKN
          have hmz := make_zz C.length hCn
          have HOL := hide hownL
          have hb7 : Below (w.heap.size + 1) (w.alloc (.cells #[.int .i8 0, .bool false, .string { data := #[] }, .slice none 0 0, .slice none 0 0] 31)) wr := (HW3.out.trans HBR.out).trans hbr
          have HB7 := hide hb7
          clear hownL hbr hLl hb7 hrun HL
          go_wp2_with fail
          rename World => w7
          go_loopw [97] (fun a wr => ∃ j : Nat, j ≤ C.length ∧ a = .int .i64 j ∧ w7.heap.size + 1 ≤ wr.heap.size ∧ Below w7.heap.size w7 wr ∧
              RowF5 wr w7.heap.size 31 C.length j (fun i u => ∀ x, kids[i]? = some x → TreeAt (From (w7.heap.size + 1)) wr n u x)) (fun a _ => C.length - (intOf a).toNat)
          case atStart => exact ⟨0, Nat.zero_le _, rfl, by simp, (Below.refl _ _).alloc (Nat.le_refl _) _, RowF5.make _ _ _ _ _ rfl (size_zeros5 _)⟩
          case round =>
            obtain ⟨j, hj, rfl, hsz8, hB8, hR8⟩ := hrel
            have hbw : Below w.heap.size w wr := (((Below.refl _ _).alloc (Nat.le_refl _) _).trans (HB7.out.mono (by omega))).trans (hB8.mono (by omega))
            by_cases hlt2 : j < C.length
            · obtain ⟨kv, hkv⟩ : ∃ kv, kvs[j]? = some kv := ⟨kvs[j]'(by rw [← HP.out.2.2.2.2.2.1]; exact hlt2), by simp⟩
              obtain ⟨x, hx⟩ : ∃ x, kids[j]? = some x := ⟨kids[j]'(by rw [HP.out.2.2.1, ← HP.out.2.2.2.2.2.1]; exact hlt2), by simp⟩
              obtain ⟨ks, kval⟩ := kv
              have ck : wr.cell? ⟨w.heap.size + 1, j, none⟩ = some (.string ks) := by
                rw [hB8.cell (by show w.heap.size + 1 < _; omega)]
                exact strs_cell HOL.out (by rw [List.getElem?_map, hkv]; rfl)
              have hlk := (HM.out.stay (w' := wr) (fun h => hbw.block m h)).look HP.out.2.1 (List.mem_of_getElem? hkv)
              have HX := hide (And.intro hx (HP.out.2.2.2.1 j x _ hx hkv))
              have HR8 := hide hR8
              have HB8 := hide hB8
              clear hkv hx hR8 hB8
              go_wp2_with fail
              refine (IH.out x _ _ (HX.out.2.below hbw) (HP.out.2.2.2.2.1 x (List.mem_of_getElem? HX.out.1))).mono ?_
              rintro e w9 ⟨k', b', s', a1, n1, p1, a2, n2, p2, rfl, hT3, hb3⟩
              have hR3 : RowF5 w9 w7.heap.size 31 C.length j (fun i u => ∀ x, kids[i]? = some x → TreeAt (From (w7.heap.size + 1)) w9 n u x) :=
                (HR8.out.kept (hb3.block _ (by omega))).turn (fun i u _ h x hx => (h x hx).below hb3)
              obtain ⟨f0, hf0⟩ := hR3.old (j := j * 5) (by omega)
              obtain ⟨f1, hf1⟩ := hR3.old (j := j * 5 + 1) (by omega)
              obtain ⟨f2, hf2⟩ := hR3.old (j := j * 5 + 2) (by omega)
              obtain ⟨f3, hf3⟩ := hR3.old (j := j * 5 + 3) (by omega)
              obtain ⟨f4, hf4⟩ := hR3.old (j := j * 5 + 4) (by omega)
              have hz0 := hR3.frozen (j * 5)
              have hz1 := hR3.frozen (j * 5 + 1)
              have hz2 := hR3.frozen (j * 5 + 2)
              have hz3 := hR3.frozen (j * 5 + 3)
              have hz4 := hR3.frozen (j * 5 + 4)
              have HR3 := hide hR3
              have HT3 := hide hT3
              clear hR3 hT3
              go_wp2_with fail
              refine ⟨⟨j + 1, by omega, by go_num, by have := hb3.size; rw [set5_size]; omega, HB8.out.trans ((hb3.mono (by omega)).trans (set5_below (Nat.le_refl _))), ?_⟩, by simp [intOf]; omega⟩
              have hno : ¬ (From (w7.heap.size + 1)) w7.heap.size := by show ¬ (w7.heap.size + 1 ≤ w7.heap.size); omega
              refine RowF5.step (w := w9) (HR3.out.turn (fun i u _ h x hx => (h x hx).mono (set5_stay hno) (fun _ h => h))) hlt2 (fun y hy => ?_)
              rw [HX.out.1] at hy
              cases hy
              exact (HT3.out.mono (fun _ _ _ => rfl) (fun b h => Nat.le_trans hsz8 h) : TreeAt (From (w7.heap.size + 1)) w9 n _ _).mono (set5_stay hno) (fun _ h => h)
            · have hje : j = C.length := by omega
              have hR1 : RowF wr w.heap.size 31 5 0 (fun _ _ => True) := ((RowF.make _ _ _ _ rfl rfl).kept (HB7.out.block _ (by omega))).kept (hB8.block _ (by omega))
              obtain ⟨f0, hf0⟩ := hR1.old (j := 0) (by omega)
              obtain ⟨f1, hf1⟩ := hR1.old (j := 1) (by omega)
              obtain ⟨f2, hf2⟩ := hR1.old (j := 2) (by omega)
              obtain ⟨f3, hf3⟩ := hR1.old (j := 3) (by omega)
              obtain ⟨f4, hf4⟩ := hR1.old (j := 4) (by omega)
              have hz0 := hR1.frozen 0
              have hz1 := hR1.frozen 1
              have hz2 := hR1.frozen 2
              have hz3 := hR1.frozen 3
              have hz4 := hR1.frozen 4
              have HR8 := hide hR8
              have HB8 := hide hB8
              clear hR8 hB8 hR1
              go_wp2_with fail
              refine ret_cell5 Try.results24 (.inr rfl) rfl (set5_range hf0 hf1 hf2 hf3 hf4) rfl ⟨_, _, _, _, _, _, _, _, _, rfl, ?_, hbw.trans (set5_below (Nat.le_refl _))⟩
              subst hje
              have hK := own_stay (own_stay HOL.out (HB8.out.block _ (by omega))) (set5_other (w := wr) (o := 0) (c0 := .int .i8 4) (c1 := .bool false) (c2 := .string { data := #[] }) (c3 := .slice (some ⟨w.heap.size + 1, 0, none⟩) C.length C.length) (c4 := .slice (some ⟨w7.heap.size, 0, none⟩) C.length C.length) (by omega : w.heap.size + 1 ≠ w.heap.size))
              refine ⟨_, _, rfl, StrsAt.of_own hK (by show w.heap.size ≤ _; omega), KidsAt.of_row (by show kids.length = _; rw [HP.out.2.2.1, HP.out.2.2.2.2.2.1]) (by show w.heap.size ≤ _; omega) hCn ((HR8.out.kept (set5_other (by omega))).turn (fun i u _ h x hx => (h x hx).mono (set5_stay (by show ¬ (w7.heap.size + 1 ≤ w.heap.size); omega)) (fun b hb => by have hb' : w7.heap.size + 1 ≤ b := hb; show w.heap.size ≤ b; omega)))⟩

theorem read_calls (N : Nat) (hN : N ≤ 1073741824) : ∀ n, ReadSaid N n
  | 0 => fun _ _ _ h => h.elim
  | n + 1 => fun t v w hT hS => by
    have ih := read_calls N hN n
    rcases hT with ⟨rfl, h⟩ | ⟨b, rfl, h⟩ | ⟨s, rfl, h⟩ | ⟨s, rfl, h⟩ | ⟨m, kvs, kids, rfl, _, h2, h3, h4, h5, h6⟩ | ⟨s, b, o, kids, rfl, h2, h3, h4⟩
    · have e : t = leaf 0 false ByteArray.empty := h
      subst e
      exact read_nil n w
    · have e : t = leaf 1 b ByteArray.empty := h
      subst e
      exact read_bool n b w
    · have e : t = leaf 2 false s := h
      subst e
      exact read_str n s w
    · have e : t = leaf 3 false s := h
      subst e
      exact read_num n s w
    · have e : t = (⟨4, false, ByteArray.empty, kvs.map (·.1), kids⟩ : Node (Tr n)) := h4
      subst e
      exact read_map N hN n ih m kvs kids w h2 h3 h5 h6 hS.2.1 hS.2.2
    · have e : t = (⟨5, false, ByteArray.empty, [], kids⟩ : Node (Tr n)) := h2
      subst e
      exact read_list N hN n ih s b o kids w h3 h4 hS.2.1 hS.2.2
end Go.Proofs.Qxb6616028a
