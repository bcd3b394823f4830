/- FnFlagLaterLayersOverride, walked. -/
import Derived.Test.Qxb6616028aFmtOver
namespace Go.Proofs.Qxb6616028aFmt
open Go.RowKit Go.Extern.Stop Go.Stop Go.Extern

theorem ans_below {F : Interp} {B : Nat} {w w' : World} (hF : F.answers w.tape) (hb : Below B w w') : F.answers w'.tape := by rw [hb.tape]; exact hF

set_option maxRecDepth 100000 in
set_option maxHeartbeats 4000000 in
theorem later_calls (F : Interp) (la lb : List (ByteArray × Int)) (va vb : Value) (key : ByteArray) (v : Bool) (w : World) (hF : F.answers w.tape) (h : LaysAt w va la) (h' : LaysAt w vb lb) :
    Calls Tryf.prog 4 #[va, vb, .string key, .bool v] w fun e w' => e = .returned (.bool true) ∧ Below w.heap.size w w' := by
  have HL := hide h
  have HL' := hide h'
  have HF := hide hF
  obtain ⟨b, o, ⟨a, p, rfl, hp0, hm1, ha⟩, hd⟩ := h
  obtain ⟨b', o', ⟨a', p', rfl, hp0', hm1', ha'⟩, hd'⟩ := h'
  have HA := hide ha
  have HD := hide hd
  have HA' := hide ha'
  have HD' := hide hd'
  clear ha hd ha' hd' hF
  unfold maxLen at hm1 hm1'
  obtain ⟨n, hnl⟩ : ∃ n, n = la.length := ⟨_, rfl⟩
  obtain ⟨n', hnl'⟩ : ∃ n', n' = lb.length := ⟨_, rfl⟩
  rw [← hnl] at HA HL hp0 ⊢
  rw [← hnl'] at HA' HL' hp0' ⊢
  have HN := hide hnl
  have HN' := hide hnl'
  have HFIT := hide (fits key la lb v)
  clear hnl hnl'
  obtain ⟨i27, hi, hz, hs, hbt⟩ := info_parts info27
  go_enter Tryf.func4, Tryf.ntmps4
  go_wp2_with (first | (go_at_call 9; refine (zzbytes9_calls la lb _ _ key v _ HL.out HL'.out).mono ?_; rintro e w4 ⟨⟨r5, rfl⟩, hw⟩; obtain rfl := hw.symm; clear hw; cases r5) | (go_at_call_of 6 (Value.int .i64 1048576); refine (bytes_calls la _ 1048576 _ HL.out (by omega) (by omega)).mono ?_; rintro e w4 ⟨r6, rfl, hr0, hr1, hr2, hw⟩; obtain rfl := hw.symm; clear hw; rw [← HN.out] at hr2) | (go_at_call 6; refine (bytes_calls lb _ (1048576 - r6) _ HL'.out (by omega) (by omega)).mono ?_; rintro e w4 ⟨r7, rfl, ht0, ht1, ht2, hw⟩; obtain rfl := hw.symm; clear hw; rw [← HN'.out] at ht2) | (at_make; refine wpList_make_own _ rfl _ _ 22 rfl w.heap.size 27 i27 _ 2 Tryf.underlying22 hi hz hs _ _ _ (n + n') rfl rfl (by omega) (by rw [hbt]; omega) (by unfold maxLen; omega) (Nat.le_refl _) ?_; intro w1 hown hgrow))
  all_goals (try (go_ret; exact ⟨rfl, Below.refl _ _⟩))
  have hsm : n + n' ≤ 65536 := by omega
  have hB1 : Below w.heap.size w w1 := (Below.refl _ _).grown hgrow (Nat.le_refl _) (fun k hk => by cases hk)
  have HO := hide hown
  clear hr0 hr1 hr2 ht0 ht1 ht2 hown hgrow
  go_loopw [11, 63] (fun s i wr => ∃ (k : Nat), k ≤ n ∧ i = .int .i64 k ∧ s = .slice (some ⟨w.heap.size, 0, none⟩) k (n + n') ∧ Below w.heap.size w wr ∧ wr.ownsRow w.heap.size 27 2 (.slice (some ⟨w.heap.size, 0, none⟩) k (n + n')) k (cells2 (la.take k))) (fun _ i _ => n - (intOf i).toNat)
  case atStart => exact ⟨0, by omega, rfl, rfl, hB1, HO.out⟩
  case round =>
    clear hB1 HO
    obtain ⟨k, hk, rfl, rfl, hb, hown⟩ := hrel
    by_cases hlt : k < n
    · obtain ⟨x, hx⟩ : ∃ x, la[k]? = some x := ⟨la[k]'(by rw [← HN.out]; exact hlt), by simp⟩
      obtain ⟨hc1, hc2⟩ := HD.out k x hx
      have e1 := cell_later hb hc1
      have e2 := cell_later hb hc2
      have hi1 := index_lays (cap := p) HA.out k hlt
      have HT := hide (take_snoc hx)
      have hbs := hb.size
      clear hc1 hc2 hx
      go_wp2_with (first | (at_builtin; refine wpList_append_fits _ rfl _ _ 22 rfl w.heap.size 27 i27 2 Tryf.underlying22 hi hs w.heap.size k (n + n') (cells2 (la.take k)) rfl (World.ownsRow.alloc hown _) _ 1 1 [.string x.1, .int .i8 x.2] rfl rfl (cell_two_new _ _ _ _) (by simp [Value.oneCell']) (by omega) ?_; intro w4 hown4 hgrow4))
      go_roundw
      case rel =>
        refine ⟨k + 1, by omega, by go_num, rfl, ?_, ?_⟩
        · exact (hb.alloc hb.size _).grown hgrow4 (by simp; omega) (fun k hk => by cases hk; exact Nat.le_refl _)
        · rw [HT.out, cells2_snoc]; exact hown4
      case measure => simp [intOf]; omega
    · obtain rfl : k = n := by omega
      rw [List.take_of_length_le (by rw [← HN.out]; exact Nat.le_refl _)] at hown
      have HO := hide hown
      have HB := hide hb
      clear hown hb
      go_wp2_with fail
      rename World => w2
      go_loopw [11, 76] (fun s i wr => ∃ (j : Nat), j ≤ n' ∧ i = .int .i64 j ∧ s = .slice (some ⟨w.heap.size, 0, none⟩) (k + j) (k + n') ∧ Below w.heap.size w wr ∧ wr.ownsRow w.heap.size 27 2 (.slice (some ⟨w.heap.size, 0, none⟩) (k + j) (k + n')) (k + j) (cells2 (la ++ lb.take j))) (fun _ i _ => n' - (intOf i).toNat)
      case atStart => exact ⟨0, by omega, rfl, rfl, HB.out, by simpa using HO.out⟩
      case round =>
        clear HB HO
        obtain ⟨j, hj, rfl, rfl, hb, hown⟩ := hrel
        by_cases hlt' : j < n'
        · obtain ⟨x, hx⟩ : ∃ x, lb[j]? = some x := ⟨lb[j]'(by rw [← HN'.out]; exact hlt'), by simp⟩
          obtain ⟨hc1, hc2⟩ := HD'.out j x hx
          have e1 := cell_later hb hc1
          have e2 := cell_later hb hc2
          have hi1 := index_lays (cap := p') HA'.out j hlt'
          have HT := hide (take_snoc hx)
          have hbs := hb.size
          clear hc1 hc2 hx
          go_wp2_with (first | (at_builtin; refine wpList_append_fits _ rfl _ _ 22 rfl w.heap.size 27 i27 2 Tryf.underlying22 hi hs w.heap.size (k + j) (k + n') (cells2 (la ++ lb.take j)) rfl (World.ownsRow.alloc hown _) _ 1 1 [.string x.1, .int .i8 x.2] rfl rfl (cell_two_new _ _ _ _) (by simp [Value.oneCell']) (by omega) ?_; intro w4 hown4 hgrow4))
          go_roundw
          case rel =>
            refine ⟨j + 1, by omega, by go_num, rfl, ?_, ?_⟩
            · exact (hb.alloc hb.size _).grown hgrow4 (by simp; omega) (fun k hk => by cases hk; exact Nat.le_refl _)
            · rw [HT.out, ← List.append_assoc, cells2_snoc]; exact hown4
          case measure => simp [intOf]; omega
        · obtain rfl : j = n' := by omega
          rw [List.take_of_length_le (by rw [← HN'.out]; exact Nat.le_refl _)] at hown
          have HJ := hide (lays_of_own hown (by rw [List.length_append, ← HN.out, ← HN'.out]))
          have HB := hide hb
          have hbs := hb.size
          clear hown hb
          rename World => w3
          cases v with
          | false =>
            go_wp2_with (first | (at_make; refine wpList_make_own _ rfl _ _ 22 rfl w3.heap.size 27 i27 _ 2 Tryf.underlying22 hi hz hs _ _ _ (k + 1) rfl rfl (by omega) (by rw [hbt]; omega) (by unfold maxLen; omega) (Nat.le_refl _) ?_; intro w5 hown hgrow))
            have hB5 : Below w3.heap.size w3 w5 := (Below.refl _ _).grown hgrow (Nat.le_refl _) (fun k hk => by cases hk)
            have HO := hide hown
            clear hown hgrow
            go_loopw [15, 94] (fun s i wr => ∃ (m : Nat), m ≤ k ∧ i = .int .i64 m ∧ s = .slice (some ⟨w3.heap.size, 0, none⟩) m (k + 1) ∧ Below w3.heap.size w3 wr ∧ wr.ownsRow w3.heap.size 27 2 (.slice (some ⟨w3.heap.size, 0, none⟩) m (k + 1)) m (cells2 (la.take m))) (fun _ i _ => k - (intOf i).toNat)
            case atStart => exact ⟨0, by omega, rfl, rfl, hB5, HO.out⟩
            case round =>
              clear hB5 HO
              obtain ⟨m, hm, rfl, rfl, hb, hown⟩ := hrel
              have hbs2 := hb.size
              by_cases hlt3 : m < k
              · obtain ⟨x, hx⟩ : ∃ x, la[m]? = some x := ⟨la[m]'(by rw [← HN.out]; exact hlt3), by simp⟩
                obtain ⟨hc1, hc2⟩ := HD.out m x hx
                have e1 := cell_later (HB.out.trans (hb.mono HB.out.size)) hc1
                have e2 := cell_later (HB.out.trans (hb.mono HB.out.size)) hc2
                have hi1 := index_lays (cap := p) HA.out m hlt3
                have HT := hide (take_snoc hx)
                clear hc1 hc2 hx
                go_wp2_with (first | (at_builtin; refine wpList_append_fits _ rfl _ _ 22 rfl w3.heap.size 27 i27 2 Tryf.underlying22 hi hs w3.heap.size m (k + 1) (cells2 (la.take m)) rfl (World.ownsRow.alloc hown _) _ 1 1 [.string x.1, .int .i8 x.2] rfl rfl (cell_two_new _ _ _ _) (by simp [Value.oneCell']) (by omega) ?_; intro w6 hown6 hgrow6))
                go_roundw
                case rel =>
                  refine ⟨m + 1, by omega, by go_num, rfl, ?_, ?_⟩
                  · exact (hb.alloc hb.size _).grown hgrow6 (by simp; omega) (fun k hk => by cases hk; exact Nat.le_refl _)
                  · rw [HT.out, cells2_snoc]; exact hown6
                case measure => simp [intOf]; omega
              · obtain rfl : m = k := by omega
                rw [List.take_of_length_le (by rw [← HN.out]; exact Nat.le_refl _)] at hown
                rename World => w7
                obtain ⟨ra, hra⟩ : ∃ ra, flagR key false la = ra := ⟨_, rfl⟩
                obtain ⟨rb, hrb⟩ : ∃ rb, flagR key false lb = rb := ⟨_, rfl⟩
                obtain ⟨rj, hrj⟩ : ∃ rj, flagR key false (la ++ lb) = rj := ⟨_, rfl⟩
                obtain ⟨re, hre⟩ : ∃ re, flagR key false (la ++ [(key, 1)]) = re := ⟨_, rfl⟩
                have hfit : Fits ra rb rj re (lb.any (boolAt key)) false := by
                  rw [← hra, ← hrb, ← hrj, ← hre]
                  exact HFIT.out
                have HR := hide (And.intro hra (And.intro hrb (And.intro hrj hre)))
                have HFT := hide hfit
                have HHB := hide hb
                have HLn : Hid (la.length = m ∧ lb.length = j) := hide ⟨HN.out.symm, HN'.out.symm⟩
                clear hra hrb hrj hre hfit hb HFIT
                go_wp2_with (first | (at_builtin; refine wpList_append_fits _ rfl _ _ 22 rfl w3.heap.size 27 i27 2 Tryf.underlying22 hi hs w3.heap.size m (m + 1) (cells2 la) rfl (World.ownsRow.alloc hown _) _ 1 1 [.string key, .int .i8 1] rfl rfl (cell_two_new _ _ _ _) (by simp [Value.oneCell']) (by omega) ?_; intro w8 hown8 hgrow8; clear hown; have HX8 := hide ((HHB.out.alloc HHB.out.size (.cells #[.string key, .int .i8 1] 27)).grown hgrow8 (by simp; omega) (fun k hk => by cases hk; exact Nat.le_refl _)); have HE8 := hide (lays_of_own (l := la ++ [(key, 1)]) (by rw [cells2_snoc]; exact hown8) (by rw [List.length_append, HLn.out.1]; rfl)); have HB8 := hide (HB.out.trans (HX8.out.mono HB.out.size)); clear hown8 hgrow8) | (go_at_call_of 8 (Value.slice a m p); refine (call_calls F la _ key _ (ans_below HF.out HB8.out) (HL.out.below HB8.out) (by rw [HLn.out.1]; omega)).mono ?_; rintro e w9 ⟨rfl, hb9⟩; rw [HR.out.1]; simp only [pairOf]; have HB9 := hide (HB8.out.trans (hb9.mono HB8.out.size)); have HH9 := hide hb9; clear hb9) | (go_at_call_of 8 (Value.slice a' j p'); refine (call_calls F lb _ key _ (ans_below HF.out HB9.out) (HL'.out.below HB9.out) (by rw [HLn.out.2]; omega)).mono ?_; rintro e w10 ⟨rfl, hb10⟩; rw [HR.out.2.1]; simp only [pairOf]; have HB10 := hide (HB9.out.trans (hb10.mono HB9.out.size)); have HH10 := hide (HH9.out.trans (hb10.mono HH9.out.size)); clear hb10) | (go_at_call_of 8 (Value.slice (some ⟨w.heap.size, 0, none⟩) (m + j) (m + j)); refine (call_calls F (la ++ lb) _ key _ (ans_below HF.out HB10.out) ((HJ.out.below HX8.out).below HH10.out) (by rw [List.length_append, HLn.out.1, HLn.out.2]; omega)).mono ?_; rintro e w11 ⟨rfl, hb11⟩; rw [HR.out.2.2.1]; simp only [pairOf]; have HB11 := hide (HB10.out.trans (hb11.mono HB10.out.size)); have HH11 := hide (HH10.out.trans (hb11.mono HH10.out.size)); clear hb11) | (go_at_call_of 8 (Value.slice (some ⟨w3.heap.size, 0, none⟩) (m + 1) (m + 1)); refine (call_calls F (la ++ [(key, 1)]) _ key _ (ans_below HF.out HB11.out) (HE8.out.below HH11.out) (by rw [List.length_append, HLn.out.1]; simp; omega)).mono ?_; rintro e w12 ⟨rfl, hb12⟩; rw [HR.out.2.2.2]; simp only [pairOf]; have HB12 := hide (HB11.out.trans (hb12.mono HB11.out.size)); clear hb12))
                refine (call_calls F (la ++ [(key, 1)]) _ key _ (ans_below HF.out HB11.out) (HE8.out.below HH11.out) (by rw [List.length_append, HLn.out.1]; simp; omega)).mono ?_
                rintro e w12 ⟨rfl, hb12⟩
                rw [HR.out.2.2.2]
                simp only [pairOf]
                have HB12 := hide (HB11.out.trans (hb12.mono HB11.out.size))
                clear hb12
                go_wp2_with fail
                go_loop [25, 137] (fun c i => ∃ (q : Nat) (r : Bool), q ≤ j ∧ i = .int .i64 q ∧ c = .bool r ∧ Hid (lb.any (boolAt key) = (r || (lb.drop q).any (boolAt key)))) (fun _ i => j - (intOf i).toNat)
                case atStart => exact ⟨0, false, by omega, rfl, rfl, hide rfl⟩
                case round =>
                  obtain ⟨q, r, hq, rfl, rfl, HQ⟩ := hrel
                  by_cases hlt4 : q < j
                  · obtain ⟨x, hx⟩ : ∃ x, lb[q]? = some x := ⟨lb[q]'(by rw [HLn.out.2]; exact hlt4), by simp⟩
                    obtain ⟨hc1', hc2'⟩ := HD'.out q x hx
                    have hc1 := cell_later HB12.out hc1'
                    have hc2 := cell_later HB12.out hc2'
                    have hi1 := index_lays (cap := p') HA'.out q hlt4
                    have hst := any_drop (boolAt key) hx
                    have hrx : boolAt key x = (decide (x.1 = key) && decide (kindOf x.2 = 1)) := rfl
                    by_cases hke : x.1 = key
                    · have hbe : x.1.toList = key.toList := by rw [hke]
                      by_cases hkd : kindOf x.2 = 1
                      · have HR1 : Hid (lb.any (boolAt key) = (true || (lb.drop (q + 1)).any (boolAt key))) := by refine hide ?_; rw [HQ.out, hst, hrx, decide_eq_true hke, decide_eq_true hkd]; simp
                        have hkb : (kindOf x.2 == 1) = true := by simpa using hkd
                        clear hx hst hrx hke HQ hkd hc1' hc2'
                        go_wp2_with (first | (go_at_call 7; refine (kindOf_calls x.2 _).mono ?_; rintro e w4 ⟨rfl, hw⟩; obtain rfl := hw.symm; clear hw))
                        exact ⟨⟨q + 1, _, by omega, by go_num, rfl, HR1⟩, by simp [intOf]; omega⟩
                      · have HR1 : Hid (lb.any (boolAt key) = (r || (lb.drop (q + 1)).any (boolAt key))) := by refine hide ?_; rw [HQ.out, hst, hrx, decide_eq_true hke, decide_eq_false hkd]; simp
                        have hkb : (kindOf x.2 == 1) = false := by simpa using hkd
                        clear hx hst hrx hke HQ hkd hc1' hc2'
                        go_wp2_with (first | (go_at_call 7; refine (kindOf_calls x.2 _).mono ?_; rintro e w4 ⟨rfl, hw⟩; obtain rfl := hw.symm; clear hw))
                        exact ⟨⟨q + 1, _, by omega, by go_num, rfl, HR1⟩, by simp [intOf]; omega⟩
                    · have hbe : ¬ x.1.toList = key.toList := fun e => hke (str_inj e)
                      have HR1 : Hid (lb.any (boolAt key) = (r || (lb.drop (q + 1)).any (boolAt key))) := by refine hide ?_; rw [HQ.out, hst, hrx, decide_eq_false hke]; simp
                      clear hx hst hrx hke HQ hc1' hc2'
                      go_wp2_with (first | (go_at_call 7; refine (kindOf_calls x.2 _).mono ?_; rintro e w4 ⟨rfl, hw⟩; obtain rfl := hw.symm; clear hw))
                      exact ⟨⟨q + 1, _, by omega, by go_num, rfl, HR1⟩, by simp [intOf]; omega⟩
                  · have hbs9 : lb.any (boolAt key) = r := by rw [HQ.out, List.drop_eq_nil_of_le (by rw [HLn.out.2]; omega)]; simp
                    have hf := HFT.out
                    rw [hbs9] at hf
                    clear hbs9 HQ HFT HR
                    rcases hf with ⟨rfl, rfl, rfl⟩ | ⟨fa, rfl, rfl, rfl, rfl⟩ | ⟨fa, fb, rfl, rfl, rfl, rfl⟩
                    · cases rb
                      all_goals
                        go_wp2_with fail
                        go_ret
                        exact ⟨rfl, HB12.out⟩
                    · go_wp2_with fail
                      go_ret
                      exact ⟨rfl, HB12.out⟩
                    · cases r
                      all_goals
                        go_wp2_with fail
                        go_ret
                        exact ⟨rfl, HB12.out⟩
          | true =>
            go_wp2_with (first | (at_make; refine wpList_make_own _ rfl _ _ 22 rfl w3.heap.size 27 i27 _ 2 Tryf.underlying22 hi hz hs _ _ _ (k + 1) rfl rfl (by omega) (by rw [hbt]; omega) (by unfold maxLen; omega) (Nat.le_refl _) ?_; intro w5 hown hgrow))
            have hB5 : Below w3.heap.size w3 w5 := (Below.refl _ _).grown hgrow (Nat.le_refl _) (fun k hk => by cases hk)
            have HO := hide hown
            clear hown hgrow
            go_loopw [15, 94] (fun s i wr => ∃ (m : Nat), m ≤ k ∧ i = .int .i64 m ∧ s = .slice (some ⟨w3.heap.size, 0, none⟩) m (k + 1) ∧ Below w3.heap.size w3 wr ∧ wr.ownsRow w3.heap.size 27 2 (.slice (some ⟨w3.heap.size, 0, none⟩) m (k + 1)) m (cells2 (la.take m))) (fun _ i _ => k - (intOf i).toNat)
            case atStart => exact ⟨0, by omega, rfl, rfl, hB5, HO.out⟩
            case round =>
              clear hB5 HO
              obtain ⟨m, hm, rfl, rfl, hb, hown⟩ := hrel
              have hbs2 := hb.size
              by_cases hlt3 : m < k
              · obtain ⟨x, hx⟩ : ∃ x, la[m]? = some x := ⟨la[m]'(by rw [← HN.out]; exact hlt3), by simp⟩
                obtain ⟨hc1, hc2⟩ := HD.out m x hx
                have e1 := cell_later (HB.out.trans (hb.mono HB.out.size)) hc1
                have e2 := cell_later (HB.out.trans (hb.mono HB.out.size)) hc2
                have hi1 := index_lays (cap := p) HA.out m hlt3
                have HT := hide (take_snoc hx)
                clear hc1 hc2 hx
                go_wp2_with (first | (at_builtin; refine wpList_append_fits _ rfl _ _ 22 rfl w3.heap.size 27 i27 2 Tryf.underlying22 hi hs w3.heap.size m (k + 1) (cells2 (la.take m)) rfl (World.ownsRow.alloc hown _) _ 1 1 [.string x.1, .int .i8 x.2] rfl rfl (cell_two_new _ _ _ _) (by simp [Value.oneCell']) (by omega) ?_; intro w6 hown6 hgrow6))
                go_roundw
                case rel =>
                  refine ⟨m + 1, by omega, by go_num, rfl, ?_, ?_⟩
                  · exact (hb.alloc hb.size _).grown hgrow6 (by simp; omega) (fun k hk => by cases hk; exact Nat.le_refl _)
                  · rw [HT.out, cells2_snoc]; exact hown6
                case measure => simp [intOf]; omega
              · obtain rfl : m = k := by omega
                rw [List.take_of_length_le (by rw [← HN.out]; exact Nat.le_refl _)] at hown
                rename World => w7
                obtain ⟨ra, hra⟩ : ∃ ra, flagR key false la = ra := ⟨_, rfl⟩
                obtain ⟨rb, hrb⟩ : ∃ rb, flagR key false lb = rb := ⟨_, rfl⟩
                obtain ⟨rj, hrj⟩ : ∃ rj, flagR key false (la ++ lb) = rj := ⟨_, rfl⟩
                obtain ⟨re, hre⟩ : ∃ re, flagR key false (la ++ [(key, 2)]) = re := ⟨_, rfl⟩
                have hfit : Fits ra rb rj re (lb.any (boolAt key)) true := by
                  rw [← hra, ← hrb, ← hrj, ← hre]
                  exact HFIT.out
                have HR := hide (And.intro hra (And.intro hrb (And.intro hrj hre)))
                have HFT := hide hfit
                have HHB := hide hb
                have HLn : Hid (la.length = m ∧ lb.length = j) := hide ⟨HN.out.symm, HN'.out.symm⟩
                clear hra hrb hrj hre hfit hb HFIT
                go_wp2_with (first | (at_builtin; refine wpList_append_fits _ rfl _ _ 22 rfl w3.heap.size 27 i27 2 Tryf.underlying22 hi hs w3.heap.size m (m + 1) (cells2 la) rfl (World.ownsRow.alloc hown _) _ 1 1 [.string key, .int .i8 2] rfl rfl (cell_two_new _ _ _ _) (by simp [Value.oneCell']) (by omega) ?_; intro w8 hown8 hgrow8; clear hown; have HX8 := hide ((HHB.out.alloc HHB.out.size (.cells #[.string key, .int .i8 2] 27)).grown hgrow8 (by simp; omega) (fun k hk => by cases hk; exact Nat.le_refl _)); have HE8 := hide (lays_of_own (l := la ++ [(key, 2)]) (by rw [cells2_snoc]; exact hown8) (by rw [List.length_append, HLn.out.1]; rfl)); have HB8 := hide (HB.out.trans (HX8.out.mono HB.out.size)); clear hown8 hgrow8) | (go_at_call_of 8 (Value.slice a m p); refine (call_calls F la _ key _ (ans_below HF.out HB8.out) (HL.out.below HB8.out) (by rw [HLn.out.1]; omega)).mono ?_; rintro e w9 ⟨rfl, hb9⟩; rw [HR.out.1]; simp only [pairOf]; have HB9 := hide (HB8.out.trans (hb9.mono HB8.out.size)); have HH9 := hide hb9; clear hb9) | (go_at_call_of 8 (Value.slice a' j p'); refine (call_calls F lb _ key _ (ans_below HF.out HB9.out) (HL'.out.below HB9.out) (by rw [HLn.out.2]; omega)).mono ?_; rintro e w10 ⟨rfl, hb10⟩; rw [HR.out.2.1]; simp only [pairOf]; have HB10 := hide (HB9.out.trans (hb10.mono HB9.out.size)); have HH10 := hide (HH9.out.trans (hb10.mono HH9.out.size)); clear hb10) | (go_at_call_of 8 (Value.slice (some ⟨w.heap.size, 0, none⟩) (m + j) (m + j)); refine (call_calls F (la ++ lb) _ key _ (ans_below HF.out HB10.out) ((HJ.out.below HX8.out).below HH10.out) (by rw [List.length_append, HLn.out.1, HLn.out.2]; omega)).mono ?_; rintro e w11 ⟨rfl, hb11⟩; rw [HR.out.2.2.1]; simp only [pairOf]; have HB11 := hide (HB10.out.trans (hb11.mono HB10.out.size)); have HH11 := hide (HH10.out.trans (hb11.mono HH10.out.size)); clear hb11) | (go_at_call_of 8 (Value.slice (some ⟨w3.heap.size, 0, none⟩) (m + 1) (m + 1)); refine (call_calls F (la ++ [(key, 2)]) _ key _ (ans_below HF.out HB11.out) (HE8.out.below HH11.out) (by rw [List.length_append, HLn.out.1]; simp; omega)).mono ?_; rintro e w12 ⟨rfl, hb12⟩; rw [HR.out.2.2.2]; simp only [pairOf]; have HB12 := hide (HB11.out.trans (hb12.mono HB11.out.size)); clear hb12))
                refine (call_calls F (la ++ [(key, 2)]) _ key _ (ans_below HF.out HB11.out) (HE8.out.below HH11.out) (by rw [List.length_append, HLn.out.1]; simp; omega)).mono ?_
                rintro e w12 ⟨rfl, hb12⟩
                rw [HR.out.2.2.2]
                simp only [pairOf]
                have HB12 := hide (HB11.out.trans (hb12.mono HB11.out.size))
                clear hb12
                go_wp2_with fail
                go_loop [25, 137] (fun c i => ∃ (q : Nat) (r : Bool), q ≤ j ∧ i = .int .i64 q ∧ c = .bool r ∧ Hid (lb.any (boolAt key) = (r || (lb.drop q).any (boolAt key)))) (fun _ i => j - (intOf i).toNat)
                case atStart => exact ⟨0, false, by omega, rfl, rfl, hide rfl⟩
                case round =>
                  obtain ⟨q, r, hq, rfl, rfl, HQ⟩ := hrel
                  by_cases hlt4 : q < j
                  · obtain ⟨x, hx⟩ : ∃ x, lb[q]? = some x := ⟨lb[q]'(by rw [HLn.out.2]; exact hlt4), by simp⟩
                    obtain ⟨hc1', hc2'⟩ := HD'.out q x hx
                    have hc1 := cell_later HB12.out hc1'
                    have hc2 := cell_later HB12.out hc2'
                    have hi1 := index_lays (cap := p') HA'.out q hlt4
                    have hst := any_drop (boolAt key) hx
                    have hrx : boolAt key x = (decide (x.1 = key) && decide (kindOf x.2 = 1)) := rfl
                    by_cases hke : x.1 = key
                    · have hbe : x.1.toList = key.toList := by rw [hke]
                      by_cases hkd : kindOf x.2 = 1
                      · have HR1 : Hid (lb.any (boolAt key) = (true || (lb.drop (q + 1)).any (boolAt key))) := by refine hide ?_; rw [HQ.out, hst, hrx, decide_eq_true hke, decide_eq_true hkd]; simp
                        have hkb : (kindOf x.2 == 1) = true := by simpa using hkd
                        clear hx hst hrx hke HQ hkd hc1' hc2'
                        go_wp2_with (first | (go_at_call 7; refine (kindOf_calls x.2 _).mono ?_; rintro e w4 ⟨rfl, hw⟩; obtain rfl := hw.symm; clear hw))
                        exact ⟨⟨q + 1, _, by omega, by go_num, rfl, HR1⟩, by simp [intOf]; omega⟩
                      · have HR1 : Hid (lb.any (boolAt key) = (r || (lb.drop (q + 1)).any (boolAt key))) := by refine hide ?_; rw [HQ.out, hst, hrx, decide_eq_true hke, decide_eq_false hkd]; simp
                        have hkb : (kindOf x.2 == 1) = false := by simpa using hkd
                        clear hx hst hrx hke HQ hkd hc1' hc2'
                        go_wp2_with (first | (go_at_call 7; refine (kindOf_calls x.2 _).mono ?_; rintro e w4 ⟨rfl, hw⟩; obtain rfl := hw.symm; clear hw))
                        exact ⟨⟨q + 1, _, by omega, by go_num, rfl, HR1⟩, by simp [intOf]; omega⟩
                    · have hbe : ¬ x.1.toList = key.toList := fun e => hke (str_inj e)
                      have HR1 : Hid (lb.any (boolAt key) = (r || (lb.drop (q + 1)).any (boolAt key))) := by refine hide ?_; rw [HQ.out, hst, hrx, decide_eq_false hke]; simp
                      clear hx hst hrx hke HQ hc1' hc2'
                      go_wp2_with (first | (go_at_call 7; refine (kindOf_calls x.2 _).mono ?_; rintro e w4 ⟨rfl, hw⟩; obtain rfl := hw.symm; clear hw))
                      exact ⟨⟨q + 1, _, by omega, by go_num, rfl, HR1⟩, by simp [intOf]; omega⟩
                  · have hbs9 : lb.any (boolAt key) = r := by rw [HQ.out, List.drop_eq_nil_of_le (by rw [HLn.out.2]; omega)]; simp
                    have hf := HFT.out
                    rw [hbs9] at hf
                    clear hbs9 HQ HFT HR
                    rcases hf with ⟨rfl, rfl, rfl⟩ | ⟨fa, rfl, rfl, rfl, rfl⟩ | ⟨fa, fb, rfl, rfl, rfl, rfl⟩
                    · cases rb
                      all_goals
                        go_wp2_with fail
                        go_ret
                        exact ⟨rfl, HB12.out⟩
                    · go_wp2_with fail
                      go_ret
                      exact ⟨rfl, HB12.out⟩
                    · cases r
                      all_goals
                        go_wp2_with fail
                        go_ret
                        exact ⟨rfl, HB12.out⟩
end Go.Proofs.Qxb6616028aFmt
