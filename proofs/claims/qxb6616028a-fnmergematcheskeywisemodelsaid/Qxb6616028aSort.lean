/- zzSortIdx: the indices, sorted by key, then by index. -/
import Derived.Test.Qxb6616028aHeap
import Derived.Deep.QuietTactic
import Derived.BigQuiet
import Derived.Deep.AppendLies
import Derived.WalkSmall
namespace Go.Proofs.Qxb6616028a
open Go.RowKit

def intVs (l : List Nat) : List Value := l.map fun (x : Nat) => .int .i64 (x : Int)

theorem ints_take {p : Nat → Prop} {w : World} {b o n cap m : Nat} {L : List Nat} (hl : L.length = n) (hm : m ≤ n) (hn : n ≤ cap) (hc : cap ≤ maxLen) (hb : p b)
    (h : ∀ (i : Nat) (s : Nat), L[i]? = some s → w.cell? ⟨b, o + i, none⟩ = some (.int .i64 (s : Int))) : IntsAt p w (.slice (some ⟨b, o, none⟩) m cap) (L.take m) := by
  refine ⟨b, o, ⟨_, cap, by rw [List.length_take]; congr 1; omega, by rw [List.length_take]; omega, hc, .inr rfl, .inr hb⟩, fun i s hs => h i s ?_⟩
  rw [List.getElem?_take] at hs
  split at hs
  · exact hs
  · cases hs
theorem ints_drop {p : Nat → Prop} {w : World} {b o n cap m : Nat} {L : List Nat} (hl : L.length = n) (hm : m ≤ n) (hn : n ≤ cap) (hc : cap ≤ maxLen) (hb : p b)
    (h : ∀ (i : Nat) (s : Nat), L[i]? = some s → w.cell? ⟨b, o + i, none⟩ = some (.int .i64 (s : Int))) : IntsAt p w (.slice (some ⟨b, o + m, none⟩) (n - m) (cap - m)) (L.drop m) := by
  refine ⟨b, o + m, ⟨_, cap - m, by rw [List.length_drop, hl], by rw [List.length_drop]; omega, by omega, .inr rfl, .inr hb⟩, fun i s hs => ?_⟩
  rw [List.getElem?_drop] at hs
  have := h (m + i) s hs
  rwa [← Nat.add_assoc] at this
theorem own_len {w : World} {base : Nat} {v : Value} {n : Nat} {l : List Nat} (h : w.ownsRow base 3 1 v n (intVs l)) : l.length = n := by
  have := h.1; simpa [intVs] using this
theorem IntsAt.of_own {w : World} {base g n cap : Nat} {l : List Nat} (h : w.ownsRow base 3 1 (.slice (some ⟨g, 0, none⟩) n cap) n (intVs l)) : IntsAt Whole w (.slice (some ⟨g, 0, none⟩) n cap) l := by
  have hl := own_len h
  have hc : n ≤ cap ∧ cap ≤ maxLen := by
    rcases h.2 with ⟨h1, _⟩ | ⟨g', cap', cur, h1, _, _, h2, h3, _⟩
    · cases h1
    · cases h1; exact ⟨h2, h3⟩
  refine ⟨g, 0, ⟨_, cap, by rw [hl], by rw [hl]; exact hc.1, hc.2, .inr rfl, .inr trivial⟩, fun i s hs => ?_⟩
  have hi := lt_of_some hs
  rw [Nat.zero_add, h.cellAt i (by omega)]
  simp [intVs, hs]


set_option maxHeartbeats 2000000 in
theorem sort_calls (ks : List ByteArray) (fuel : Nat) : ∀ (L : List Nat) (kv iv : Value) (w : World), L.length ≤ fuel → L.length ≤ 1073741824 → StrsAt Whole w kv ks → IntsAt Whole w iv L → L.Pairwise (· < ·) → (∀ i ∈ L, i < ks.length) →
    Calls Try.prog 21 #[kv, iv] w (fun e w' => ∃ a n cap, e = .returned (.slice a n cap) ∧ ∃ s, s.Perm L ∧ s.Pairwise (iLt (keyOf' ks)) ∧ IntsAt Whole w' (.slice a n cap) s ∧ Below w.heap.size w w') := by
  induction fuel with
  | zero =>
    intro L kv iv w hf _ hk hi _ _
    have hL : L = [] := List.eq_nil_of_length_eq_zero (by omega)
    subst hL
    obtain ⟨kb, ko, ⟨ka, kc, rfl, _⟩, _⟩ := hk
    obtain ⟨ib, io, ⟨ia, ic, rfl, hi2⟩, hi3⟩ := hi
    go_enter Try.func21, Try.ntmps21
    go_wp2_with fail
    go_ret
    exact ⟨_, _, _, rfl, [], List.Perm.refl _, List.Pairwise.nil, ⟨ib, io, ⟨ia, ic, rfl, hi2⟩, hi3⟩, Below.refl _ _⟩
  | succ fuel ih =>
    intro L kv iv w hf hm hk hi hp hlt
    have IH := hide ih
    clear ih
    have HK := hide hk
    have HI := hide hi
    obtain ⟨kb, ko, ⟨ka, kc, rfl, hkc, hkm, hka, hz1⟩, hks⟩ := hk
    obtain ⟨ib, io, ⟨ia, ic, rfl, hic, him, hia, hz2⟩, hii⟩ := hi
    clear hz1 hz2
    generalize hn : L.length = n at *
    generalize hkn : ks.length = kn at *
    by_cases h2 : n < 2
    · have HP := hide hp
      have HN := hide hn
      clear hp hn hii hks hlt
      go_enter Try.func21, Try.ntmps21
      go_wp2_with fail
      go_ret
      refine ⟨_, _, _, rfl, L, List.Perm.refl _, ?_, HI.out, Below.refl _ _⟩
      have hl : L.length < 2 := by rw [HN.out]; exact h2
      match L, hl with
      | [], _ => exact List.Pairwise.nil
      | [a], _ => exact List.pairwise_singleton _ _
    · obtain rfl : ia = some ⟨ib, io, none⟩ := by rcases hia with h | h; omega; exact h
      unfold maxLen at him hkm
      have HP := hide hp
      have HN := hide (And.intro hn hkn)
      have HII := hide hii
      have HKS := hide hks
      have HLT := hide hlt
      have HKA := hide hka
      clear hp hn hkn hii hks hlt hia hka
      go_enter Try.func21, Try.ntmps21
      go_wp2_with fail
      have hhalf : n / 2 ≤ n := Nat.div_le_self _ _
      have hL1 := ints_take (p := Whole) (m := n / 2) HN.out.1 hhalf hic (by unfold maxLen; omega) trivial HII.out
      have hL2 := ints_drop (p := Whole) (m := n / 2) HN.out.1 hhalf hic (by unfold maxLen; omega) trivial HII.out
      have HL1 := hide hL1
      have HL2 := hide hL2
      clear hL1 hL2
      refine (IH.out (L.take (n / 2)) _ _ _ (by rw [List.length_take, HN.out.1]; omega) (by rw [List.length_take, HN.out.1]; omega) HK.out HL1.out (HP.out.sublist (List.take_sublist _ _)) (fun i hi => HLT.out i (List.mem_of_mem_take hi))).mono ?_
      rintro e w1 ⟨la, ln, lc, rfl, Ls, hlp, hls, hli, hlb⟩
      have HLS := hide (And.intro hlp hls)
      have HLI := hide hli
      clear hlp hls hli
      go_wp2_with fail
      refine (IH.out (L.drop (n / 2)) _ _ _ (by rw [List.length_drop, HN.out.1]; omega) (by rw [List.length_drop, HN.out.1]; omega) (HK.out.below hlb) (HL2.out.below hlb) (HP.out.sublist (List.drop_sublist _ _)) (fun i hi => HLT.out i (List.mem_of_mem_drop hi))).mono ?_
      rintro e w2 ⟨ra, rn, rc, rfl, Rs, hrp, hrs, hri, hrb⟩
      have HRS := hide (And.intro hrp hrs)
      have HRI := hide (And.intro (HLI.out.below hrb) hri)
      clear hrp hrs hri HLI
      have hb2 : Below w.heap.size w w2 := hlb.trans (hrb.mono hlb.size)
      obtain ⟨i0, hi0, hz0, hz1, hz2⟩ := info_parts info3
      go_wp2_with (first | (at_make; refine wpList_make_own _ rfl _ _ 47 rfl w2.heap.size 3 i0 (.int .i64 0) 1 Try.underlying47 hi0 hz0 hz1 _ _ _ n rfl rfl rfl (by rw [hz2]; omega) (by unfold maxLen; omega) (Nat.le_refl _) ?_; intro w3 hown hgrow))
      obtain ⟨hLi, hRi⟩ := HRI.out
      obtain ⟨lb, lo, ⟨la', lc', hle, hlc, hlm, hla, hz3⟩, hlcell⟩ := hLi
      obtain ⟨rb, ro, ⟨ra', rc', hre, hrc, hrm, hra, hz4⟩, hrcell⟩ := hRi
      injection hle with q1 q2 q3
      injection hre with q4 q5 q6
      subst q1 q3 q4 q6
      have hln : ln = n / 2 := by have := HLS.out.1.length_eq; rw [List.length_take, HN.out.1] at this; omega
      have hrn : rn = n - n / 2 := by have := HRS.out.1.length_eq; rw [List.length_drop, HN.out.1] at this; omega
      have hsum : ln + rn ≤ n := by omega
      have hsum2 : n ≤ ln + rn := by omega
      rw [← q2] at hla
      rw [← q5] at hra
      have HQ := hide (And.intro q2 q5)
      have HLA := hide hla
      have HRA := hide hra
      have HLC := hide hlcell
      have HRC := hide hrcell
      have hB3 : Below w2.heap.size w2 w3 := (Below.refl _ _).grown hgrow (Nat.le_refl _) (fun k hk => by cases hk)
      clear q2 q5 hla hra hlcell hrcell hz3 hz4 hln hrn hlc hrc hlm hrm HRI hgrow
      have key_at : ∀ x, x ∈ L → ∃ s, ks[x]? = some s ∧ keyOf' ks x = s := fun x hx => by
        have := HLT.out x hx
        rw [← HN.out.2] at this
        exact ⟨ks[x], by simp, by simp [keyOf', this]⟩
      have HKEY := hide key_at
      clear key_at
      go_loopw [8, 9, 10] (fun o i j wr => ∃ (ci cj : Nat) (out : List Nat), ci ≤ ln ∧ cj ≤ rn ∧ o = .slice (some ⟨w2.heap.size, 0, none⟩) (ci + cj) n ∧ i = .int .i64 ci ∧ j = .int .i64 cj ∧
        wr.ownsRow w2.heap.size 3 1 (.slice (some ⟨w2.heap.size, 0, none⟩) (ci + cj) n) (ci + cj) (intVs out) ∧ Hid (out ++ mg (keyOf' ks) (Ls.drop ci) (Rs.drop cj) = mg (keyOf' ks) Ls Rs) ∧ Below w2.heap.size w2 wr)
        (fun _ i j _ => (ln - (intOf i).toNat) + (rn - (intOf j).toNat))
      case atStart => exact ⟨0, 0, [], Nat.zero_le _, Nat.zero_le _, rfl, rfl, rfl, hown, hide (by simp), hB3⟩
      case round =>
        obtain ⟨ci, cj, out, hci, hcj, rfl, rfl, rfl, hown1, HO, hB⟩ := hrel
        have hb0 : Below w.heap.size w wr := hb2.trans (hB.mono hb2.size)
        have hszw : w2.heap.size ≤ wr.heap.size := hB.size
        by_cases hboth : ci < ln ∧ cj < rn
        · obtain ⟨hl, hr⟩ := hboth
          · obtain ⟨a, ha⟩ : ∃ a, Ls[ci]? = some a := ⟨Ls[ci]'(by rw [← HQ.out.1]; exact hl), by simp⟩
            obtain ⟨b, hb⟩ : ∃ b, Rs[cj]? = some b := ⟨Rs[cj]'(by rw [← HQ.out.2]; exact hr), by simp⟩
            have haL : a ∈ L := List.mem_of_mem_take (HLS.out.1.mem_iff.1 (List.mem_of_getElem? ha))
            have hbL : b ∈ L := List.mem_of_mem_drop (HRS.out.1.mem_iff.1 (List.mem_of_getElem? hb))
            obtain ⟨sa, hsa, hsa'⟩ := HKEY.out a haL
            obtain ⟨sb, hsb, hsb'⟩ := HKEY.out b hbL
            have hak := HLT.out a haL
            have hbk := HLT.out b hbL
            have c1 := cell_later hB (HLC.out ci a ha)
            have c2 := cell_later hB (HRC.out cj b hb)
            have c3 := cell_later hb0 (HKS.out a sa hsa)
            have c4 := cell_later hb0 (HKS.out b sb hsb)
            have x1 := index_ints (cap := lc) HLA.out ci hl
            have x2 := index_ints (cap := rc) HRA.out cj hr
            have x3 := index_strs (cap := kc) HKA.out a hak
            have x4 := index_strs (cap := kc) HKA.out b hbk
            have hda : Ls.drop ci = a :: Ls.drop (ci + 1) := by
              have h1 := (List.getElem?_eq_some_iff.1 ha).1
              rw [List.drop_eq_getElem_cons h1]
              congr 1
              exact (List.getElem?_eq_some_iff.1 ha).2
            have hdb : Rs.drop cj = b :: Rs.drop (cj + 1) := by
              have h1 := (List.getElem?_eq_some_iff.1 hb).1
              rw [List.drop_eq_getElem_cons h1]
              congr 1
              exact (List.getElem?_eq_some_iff.1 hb).2
            have hO2 := HO.out
            rw [hda, hdb, mg_cons, hsa', hsb'] at hO2
            unfold sLt at hO2
            clear ha hb haL hbL hsa hsa' hsb hsb' HO
            have hol : out.length = ci + cj := own_len hown1
            have HOL := hide hol
            clear hol
            by_cases hcmp : Op.bytesLess sb.toList sa.toList = true
            · rw [if_pos hcmp] at hO2
              have HO2 := hide (And.intro hO2 hda)
              clear hO2 hda hdb
              go_wp2_with fail
              go_quiet (fail)
              go_wp2_with (first | (at_builtin; refine wpList_append_fits _ rfl _ _ 47 rfl w2.heap.size 3 i0 1 Try.underlying47 hi0 hz1 w2.heap.size (ci + cj) n (intVs out) rfl (World.ownsRow.alloc hown1 _) _ 1 1 [.int .i64 (b : Int)] rfl rfl (cell_one_new _ _ _) (by simp [Value.oneCell']) (by omega) ?_; intro w4 hown4 hgrow4))
              refine ⟨⟨ci, cj + 1, out ++ [b], by omega, by omega, rfl, rfl, by go_num, ?_, hide ?_, ?_⟩, by simp [intOf]; omega⟩
              · rw [show intVs (out ++ [b]) = intVs out ++ [.int .i64 (b : Int)] by simp [intVs]]; exact hown4
              · rw [List.append_assoc, HO2.out.2]; exact HO2.out.1
              · exact ((below_drewN hB _).alloc (by simp; omega) _).grown hgrow4 (by simp; omega) (fun k hk => by cases hk; exact Nat.le_refl _)
            · rw [if_neg hcmp] at hO2
              have HO2 := hide (And.intro hO2 hdb)
              have hcmp' : Op.bytesLess sb.toList sa.toList = false := by simpa using hcmp
              clear hO2 hda hdb hcmp
              go_wp2_with fail
              go_quiet (fail)
              go_wp2_with (first | (at_builtin; refine wpList_append_fits _ rfl _ _ 47 rfl w2.heap.size 3 i0 1 Try.underlying47 hi0 hz1 w2.heap.size (ci + cj) n (intVs out) rfl (World.ownsRow.alloc hown1 _) _ 1 1 [.int .i64 (a : Int)] rfl rfl (cell_one_new _ _ _) (by simp [Value.oneCell']) (by omega) ?_; intro w4 hown4 hgrow4))
              refine ⟨⟨ci + 1, cj, out ++ [a], by omega, by omega, by rw [Nat.add_right_comm], by go_num, rfl, ?_, hide ?_, ?_⟩, by simp [intOf]; omega⟩
              · rw [show intVs (out ++ [a]) = intVs out ++ [.int .i64 (a : Int)] by simp [intVs], Nat.add_right_comm]; exact hown4
              · rw [List.append_assoc, HO2.out.2]; exact HO2.out.1
              · exact ((below_drewN hB _).alloc (by simp; omega) _).grown hgrow4 (by simp; omega) (fun k hk => by cases hk; exact Nat.le_refl _)
        · have hend : ci = ln ∨ cj = rn := by omega
          have HEND := hide hend
          have HX : Hid (ci < ln → ¬ cj < rn) := hide (by omega)
          clear hend hboth
          rename World => w5
          by_cases hl : ci < ln
          all_goals
            try have hx := HX.out hl
            go_wp2_with fail
            clear hl
            try clear hx
            have HOWN := hide hown1
            have HB5 := hide hB
            have HB0 := hide hb0
            clear hown1 hB hb0
            go_loopw [8, 9] (fun o i wr => ∃ (c2 : Nat) (out : List Nat), c2 ≤ ln ∧ Hid (c2 = ln ∨ cj = rn) ∧ o = .slice (some ⟨w2.heap.size, 0, none⟩) (c2 + cj) n ∧ i = .int .i64 c2 ∧
              wr.ownsRow w2.heap.size 3 1 (.slice (some ⟨w2.heap.size, 0, none⟩) (c2 + cj) n) (c2 + cj) (intVs out) ∧ Hid (out ++ mg (keyOf' ks) (Ls.drop c2) (Rs.drop cj) = mg (keyOf' ks) Ls Rs) ∧ Below w2.heap.size w2 wr)
              (fun _ i _ => ln - (intOf i).toNat)
            case atStart => exact ⟨ci, out, hci, HEND, rfl, rfl, HOWN.out, HO, HB5.out⟩
            case round =>
              clear HO
              obtain ⟨c2, out, hc2, HEND2, rfl, rfl, hown1, HO, hB⟩ := hrel
              have hszw2 : w2.heap.size ≤ wr.heap.size := hB.size
              by_cases hl : c2 < ln
              · have hcj2 : cj = rn := by rcases HEND2.out with h | h; omega; exact h
                obtain ⟨a, ha⟩ : ∃ a, Ls[c2]? = some a := ⟨Ls[c2]'(by rw [← HQ.out.1]; exact hl), by simp⟩
                have c1 := cell_later hB (HLC.out c2 a ha)
                have x1 := index_ints (cap := lc) HLA.out c2 hl
                have hda : Ls.drop c2 = a :: Ls.drop (c2 + 1) := by
                  have h1 := (List.getElem?_eq_some_iff.1 ha).1
                  rw [List.drop_eq_getElem_cons h1]
                  congr 1
                  exact (List.getElem?_eq_some_iff.1 ha).2
                have hdr : Rs.drop cj = [] := List.drop_eq_nil_of_le (by rw [← HQ.out.2]; omega)
                have hO2 := HO.out
                rw [hda, hdr, mg_nil_right] at hO2
                have HO2 := hide (And.intro hO2 hdr)
                clear ha hda hdr hO2 hcj2 HO
                go_wp2_with (first | (at_builtin; refine wpList_append_fits _ rfl _ _ 47 rfl w2.heap.size 3 i0 1 Try.underlying47 hi0 hz1 w2.heap.size (c2 + cj) n (intVs out) rfl (World.ownsRow.alloc hown1 _) _ 1 1 [.int .i64 (a : Int)] rfl rfl (cell_one_new _ _ _) (by simp [Value.oneCell']) (by omega) ?_; intro w4 hown4 hgrow4))
                refine ⟨⟨c2 + 1, out ++ [a], by omega, hide (or_turn HEND2.out (fun h => by omega) id), by rw [Nat.add_right_comm], by go_num, ?_, hide ?_, ?_⟩, by simp [intOf]; omega⟩
                · rw [show intVs (out ++ [a]) = intVs out ++ [.int .i64 (a : Int)] by simp [intVs], Nat.add_right_comm]; exact hown4
                · rw [List.append_assoc, HO2.out.2, mg_nil_right]; exact HO2.out.1
                · exact (hB.alloc (by omega) _).grown hgrow4 (by simp; omega) (fun k hk => by cases hk; exact Nat.le_refl _)
              · obtain rfl : c2 = ln := by omega
                go_wp2_with fail
                rename World => w6
                have HOWN6 := hide hown1
                have HB6 := hide hB
                clear hown1 hB
                go_loopw [8, 10] (fun o j wr => ∃ (c3 : Nat) (out : List Nat), c3 ≤ rn ∧ o = .slice (some ⟨w2.heap.size, 0, none⟩) (c2 + c3) n ∧ j = .int .i64 c3 ∧
                  wr.ownsRow w2.heap.size 3 1 (.slice (some ⟨w2.heap.size, 0, none⟩) (c2 + c3) n) (c2 + c3) (intVs out) ∧ Hid (out ++ mg (keyOf' ks) (Ls.drop c2) (Rs.drop c3) = mg (keyOf' ks) Ls Rs) ∧ Below w2.heap.size w2 wr)
                  (fun _ j _ => rn - (intOf j).toNat)
                case atStart => exact ⟨cj, out, hcj, rfl, rfl, HOWN6.out, HO, HB6.out⟩
                case round =>
                  clear HO
                  obtain ⟨c3, out, hc3, rfl, rfl, hown1, HO, hB⟩ := hrel
                  have hszw3 : w2.heap.size ≤ wr.heap.size := hB.size
                  have hdl : Ls.drop c2 = [] := List.drop_eq_nil_of_le (by rw [← HQ.out.1]; exact Nat.le_refl _)
                  by_cases hr : c3 < rn
                  · obtain ⟨b, hb⟩ : ∃ b, Rs[c3]? = some b := ⟨Rs[c3]'(by rw [← HQ.out.2]; exact hr), by simp⟩
                    have c1 := cell_later hB (HRC.out c3 b hb)
                    have x1 := index_ints (cap := rc) HRA.out c3 hr
                    have hdb : Rs.drop c3 = b :: Rs.drop (c3 + 1) := by
                      have h1 := (List.getElem?_eq_some_iff.1 hb).1
                      rw [List.drop_eq_getElem_cons h1]
                      congr 1
                      exact (List.getElem?_eq_some_iff.1 hb).2
                    have hO2 := HO.out
                    rw [hdl, hdb, mg] at hO2
                    have HO2 := hide (And.intro hO2 hdl)
                    clear hb hdb hdl hO2 HO
                    go_wp2_with (first | (at_builtin; refine wpList_append_fits _ rfl _ _ 47 rfl w2.heap.size 3 i0 1 Try.underlying47 hi0 hz1 w2.heap.size (c2 + c3) n (intVs out) rfl (World.ownsRow.alloc hown1 _) _ 1 1 [.int .i64 (b : Int)] rfl rfl (cell_one_new _ _ _) (by simp [Value.oneCell']) (by omega) ?_; intro w4 hown4 hgrow4))
                    refine ⟨⟨c3 + 1, out ++ [b], by omega, rfl, by go_num, ?_, hide ?_, ?_⟩, by simp [intOf]; omega⟩
                    · rw [show intVs (out ++ [b]) = intVs out ++ [.int .i64 (b : Int)] by simp [intVs]]; exact hown4
                    · rw [List.append_assoc, HO2.out.2, mg]; exact HO2.out.1
                    · exact (hB.alloc (by omega) _).grown hgrow4 (by simp; omega) (fun k hk => by cases hk; exact Nat.le_refl _)
                  · obtain rfl : c3 = rn := by omega
                    have hdr : Rs.drop c3 = [] := List.drop_eq_nil_of_le (by rw [← HQ.out.2]; exact Nat.le_refl _)
                    have hO2 := HO.out
                    rw [hdl, hdr, mg, List.append_nil] at hO2
                    have HO2 := hide hO2
                    clear hO2 hdl hdr HO
                    go_wp2_with fail
                    go_ret
                    refine ⟨_, _, _, rfl, out, ?_, ?_, IntsAt.of_own hown1, hb2.trans (hB.mono hb2.size)⟩
                    · rw [HO2.out]
                      refine (mg_perm _ Ls Rs).trans ?_
                      have h1 := HLS.out.1.append HRS.out.1
                      rwa [List.take_append_drop] at h1
                    · rw [HO2.out]
                      refine mg_sorted _ Ls Rs HLS.out.2 HRS.out.2 (fun x hx y hy => ?_)
                      have h1 := HLS.out.1.mem_iff.1 hx
                      have h2 := HRS.out.1.mem_iff.1 hy
                      have h3 := HP.out
                      rw [← List.take_append_drop (n / 2) L] at h3
                      exact (List.pairwise_append.1 h3).2.2 x h1 y h2
end Go.Proofs.Qxb6616028a
