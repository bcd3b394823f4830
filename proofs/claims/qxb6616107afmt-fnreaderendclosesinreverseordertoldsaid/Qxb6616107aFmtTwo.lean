/- FnReaderEndClosesInReverseOrder, walked. -/
import Derived.Test.Qxb6616107aFmtInv
namespace Go.Proofs.Qxb6616107aFmt
open Go.RowKit Go.Extern.Stop Go.Stop Go.Extern

set_option maxRecDepth 100000 in
set_option maxHeartbeats 4000000 in
theorem closes_calls (F : Interp) (ga : Addr) (gt : ByteArray) (K K' : List ByteArray) (ats nexts marks : List Int) (v v' v2 v3 v4 : Value) (line : Int) (w : World) (hT : Told F ga gt w) (h : StrsAt w v K) (h' : StrsAt w v' K') (h2 : IntsAt w v2 ats) (h3 : IntsAt w v3 nexts) (h4 : IntsAt w v4 marks) :
    Calls Tryf.prog 3 #[v, v', v2, v3, v4, .int .i64 line] w fun e w' => e = .returned (.bool true) ∧ Below w.heap.size w w' := by
  have hSK := h
  have hSK' := h'
  obtain ⟨kb, ko, ⟨ka, kc, rfl, hkc, hkm, hka⟩, hks⟩ := h
  obtain ⟨kb', ko', ⟨ka', kc', rfl, hkc', hkm', hka'⟩, hks'⟩ := h'
  obtain ⟨b2, o2, ⟨a2, c2, rfl, hc2, hm2, ha2⟩, hi2⟩ := h2
  obtain ⟨b3, o3, ⟨a3, c3, rfl, hc3, hm3, ha3⟩, hi3⟩ := h3
  obtain ⟨b4, o4, ⟨a4, c4, rfl, hc4, hm4, ha4⟩, hi4⟩ := h4
  have HCB := hide (bytes5_calls K K' _ _ a2 a3 a4 ats.length nexts.length marks.length c2 c3 c4 line w hSK hSK' (by omega) (by omega) (by omega))
  clear hSK hSK'
  generalize hn : K.length = n at *
  generalize hn' : K'.length = n' at *
  generalize hn2 : ats.length = n2 at *
  generalize hn3 : nexts.length = n3 at *
  generalize hn4 : marks.length = n4 at *
  have HN := hide (And.intro hn (And.intro hn' (And.intro hn2 (And.intro hn3 hn4))))
  have HK := hide hks
  have HK' := hide hks'
  have HI2 := hide hi2
  have HI3 := hide hi3
  have HI4 := hide hi4
  have Hka := hide hka
  have Hka' := hide hka'
  have Ha2 := hide ha2
  have Ha3 := hide ha3
  have Ha4 := hide ha4
  have HT := hide hT
  clear hn hn' hn2 hn3 hn4 hks hks' hka hka' hi2 hi3 hi4 ha2 ha3 ha4 hT
  go_enter Tryf.func3, Tryf.ntmps3
  go_wp2_with fail
  have hcb := HCB.out
  refine hcb.mono ?_
  clear hcb HCB
  rintro e w0 ⟨b, rfl, rfl, hfit⟩
  have HFIT := hide hfit
  clear hfit
  cases b with
  | false =>
    go_wp2_with fail
    go_ret
    exact ⟨rfl, Below.refl _ _⟩
  | true =>
    have hfit := HFIT.out rfl
    have HSH := hide (And.intro hfit.1 hfit.2)
    clear hfit HFIT
    unfold maxLen at hkm hkm' hm2 hm3 hm4
    go_wp2_with fail
    all_goals (try (go_ret; exact ⟨rfl, Below.refl _ _⟩))
    go_loop [13, 14] (fun a i => ∃ (N : Int) (k : Nat), 0 ≤ N ∧ N ≤ 1048576 ∧ k ≤ n ∧ a = .int .i64 N ∧ i = .int .i64 k) (fun _ i => n - (intOf i).toNat)
    case atStart => exact ⟨_, 0, by omega, by omega, by omega, rfl, rfl⟩
    case round =>
      obtain ⟨N, k, hN0, hN1, hk, rfl, rfl⟩ := hrel
      by_cases hlt : k < n
      · obtain ⟨s, hs⟩ : ∃ s, K[k]? = some s := ⟨K[k]'(by rw [HN.out.1]; exact hlt), by simp⟩
        have hc := HK.out k s hs
        have hix := index_strs (cap := kc) Hka.out k hlt
        have hz : s.size ≤ 1048576 := HSH.out.1 s (List.mem_of_getElem? hs)
        clear hs
        go_wp2_with fail
        · go_ret
          exact ⟨rfl, Below.refl _ _⟩
        · exact ⟨⟨_, k + 1, by omega, by omega, by omega, rfl, by go_num⟩, by simp [intOf]; omega⟩
      · go_wp2_with fail
        go_loop [13, 15] (fun a i => ∃ (N : Int) (k : Nat), 0 ≤ N ∧ N ≤ 1048576 ∧ k ≤ n' ∧ a = .int .i64 N ∧ i = .int .i64 k) (fun _ i => n' - (intOf i).toNat)
        case atStart => exact ⟨_, 0, by omega, by omega, by omega, rfl, rfl⟩
        case round =>
          obtain ⟨N', k', hN0', hN1', hk', rfl, rfl⟩ := hrel
          by_cases hlt' : k' < n'
          · obtain ⟨s, hs⟩ : ∃ s, K'[k']? = some s := ⟨K'[k']'(by rw [HN.out.2.1]; exact hlt'), by simp⟩
            have hc := HK'.out k' s hs
            have hix := index_strs (cap := kc') Hka'.out k' hlt'
            have hz : s.size ≤ 1048576 := HSH.out.2 s (List.mem_of_getElem? hs)
            clear hs
            go_wp2_with fail
            · go_ret
              exact ⟨rfl, Below.refl _ _⟩
            · exact ⟨⟨_, k' + 1, by omega, by omega, by omega, rfl, by go_num⟩, by simp [intOf]; omega⟩
          · go_upto_if 110 with fail
            go_cut [16] from 105 to 130 (fun x wx => ∃ p : Nat, x = .int .i64 p ∧ p ≤ n ∧ p ≤ n' ∧ wx = w0)
            case first =>
              by_cases hq : n' < n
              · go_wp2_with fail
                go_meet
                exact ⟨n', rfl, by omega, by omega, rfl⟩
              · go_wp2_with fail
                go_meet
                exact ⟨n, rfl, by omega, by omega, rfl⟩
            case rest =>
              obtain ⟨p1, rfl, hp1, hp1', rfl⟩ := hcut
              go_upto_if 116 with fail
              go_cut [16] from 105 to 130 (fun x wx => ∃ p : Nat, x = .int .i64 p ∧ p ≤ n ∧ p ≤ n' ∧ p ≤ n2 ∧ wx = wc)
              case first =>
                by_cases hq : n2 < p1
                · go_wp2_with fail
                  go_meet
                  exact ⟨n2, rfl, by omega, by omega, by omega, rfl⟩
                · go_wp2_with fail
                  go_meet
                  exact ⟨p1, rfl, by omega, by omega, by omega, rfl⟩
              case rest =>
                clear hp1 hp1'
                obtain ⟨p2, rfl, hp1, hp1', hp2, rfl⟩ := hcut
                go_upto_if 122 with fail
                go_cut [16] from 105 to 130 (fun x wx => ∃ p : Nat, x = .int .i64 p ∧ p ≤ n ∧ p ≤ n' ∧ p ≤ n2 ∧ p ≤ n3 ∧ wx = wc)
                case first =>
                  by_cases hq : n3 < p2
                  · go_wp2_with fail
                    go_meet
                    exact ⟨n3, rfl, by omega, by omega, by omega, by omega, rfl⟩
                  · go_wp2_with fail
                    go_meet
                    exact ⟨p2, rfl, by omega, by omega, by omega, by omega, rfl⟩
                case rest =>
                  clear hp1 hp1' hp2
                  obtain ⟨p3, rfl, hp1, hp1', hp2, hp3, rfl⟩ := hcut
                  go_upto_if 128 with fail
                  go_cut [16] from 105 to 130 (fun x wx => ∃ p : Nat, x = .int .i64 p ∧ p ≤ n ∧ p ≤ n' ∧ p ≤ n2 ∧ p ≤ n3 ∧ p ≤ n4 ∧ wx = wc)
                  case first =>
                    by_cases hq : n4 < p3
                    · go_wp2_with fail
                      go_meet
                      exact ⟨n4, rfl, by omega, by omega, by omega, by omega, by omega, rfl⟩
                    · go_wp2_with fail
                      go_meet
                      exact ⟨p3, rfl, by omega, by omega, by omega, by omega, by omega, rfl⟩
                  case rest =>
                    clear hp1 hp1' hp2 hp3
                    obtain ⟨p, rfl, hp1, hp1', hp2, hp3, hp4, rfl⟩ := hcut
                    have hp16 : p ≤ 65536 := by omega
                    go_wp2_with fail
                    refine (newReader_calls 0 _).mono ?_
                    rintro e w1 ⟨rfl, rfl⟩
                    have hmk := make_ptrs p hp16
                    go_wp2_with fail
                    have HST := hide (Bld.start (w0 := wc) p K K')
                    generalize hB : wc.heap.size = B at *
                    have HBB := hide hB
                    clear hB
                    generalize ((wc.alloc (.cells #[.pointer none, .slice none 0 0, .pointer none, .int .i64 0] 41)).alloc (.cells (madeCells #[.pointer none] p) 28)) = W1 at *
                    clear hmk
                    go_loopw [19] (fun i wr => ∃ (k : Nat) (L : List Ent) (v : Value), k ≤ p ∧ i = .int .i64 k ∧ Hid (Bld B wc B (B + 1) p K K' k wr L v)) (fun i _ => p - (intOf i).toNat)
                    case atStart => exact ⟨0, [], _, by omega, rfl, HST⟩
                    case round =>
                      obtain ⟨k1, L, v1, hk1, rfl, HL⟩ := hrel
                      by_cases hlt1 : k1 < p
                      · obtain ⟨s1, hs1⟩ : ∃ s, K[k1]? = some s := ⟨K[k1]'(by rw [HN.out.1]; omega), by simp⟩
                        obtain ⟨l1, hl1⟩ : ∃ s, K'[k1]? = some s := ⟨K'[k1]'(by rw [HN.out.2.1]; omega), by simp⟩
                        have hbl : Below wc.heap.size wc wr := by rw [HBB.out]; exact HL.out.below
                        have c1 := cell_later hbl (HK.out k1 s1 hs1)
                        have c2 := cell_later hbl (HK'.out k1 l1 hl1)
                        have kbE : kb ≠ B + 1 := by have := World.block_lt_of_cell? wc _ (HK.out k1 s1 hs1); rw [HBB.out] at this; simp at this; omega
                        have kbE' : kb' ≠ B + 1 := by have := World.block_lt_of_cell? wc _ (HK'.out k1 l1 hl1); rw [HBB.out] at this; simp at this; omega
                        have x1 := index_strs (cap := kc) Hka.out k1 (by omega)
                        have x2 := index_strs (cap := kc') Hka'.out k1 (by omega)
                        have x3 := index_ptrs (cap := p) (b := B + 1) k1 hlt1
                        have HS1 := hide (And.intro hs1 hl1)
                        have HBL := hide hbl
                        have HP := hide (push2_calls B B L 0 v1 s1 l1 wr.drew (HL.out.st.below (Below.refl _ _).drew) (by rw [HL.out.len]; omega))
                        clear hs1 hl1 hbl
                        go_wp2_with fail
                        go_region_held3 (fun w' => w'.cell? ⟨kb, ko + k1, none⟩ = some (.string s1) ∧ w'.cell? ⟨kb', ko' + k1, none⟩ = some (.string l1))
                          (first | exact ⟨c1, c2⟩ | exact ⟨cell_later hbA' (HK.out k1 s1 HS1.out.1), cell_later hbA' (HK'.out k1 l1 HS1.out.2)⟩ | exact ⟨set_cell (cell_later hbA' (HK.out k1 s1 HS1.out.1)) kbE, set_cell (cell_later hbA' (HK'.out k1 l1 HS1.out.2)) kbE'⟩)
                          (first | (go_at_call 7; have hcall := HP.out; refine hcall.mono ?_; clear hcall; rintro e wA ⟨rfl, ⟨vA, hStA, hownA⟩, hbA, hfA⟩; have hbA' : Below wc.heap.size wc wA := (by rw [HBB.out]; exact HL.out.below.trans (((Below.refl _ _).drew.mono (by have := HL.out.st.hR; have := lt_of_heap HL.out.st.rd; omega)).trans hbA)); have hpush := HL.out.push (by omega) (by omega) (Below.refl _ _).drew rfl HS1.out.1 HS1.out.2 hStA hownA hbA hfA; have HPU := hide hpush.2; obtain ⟨C, hC1, hC2⟩ := hpush.1; obtain ⟨uu, z1⟩ : ∃ u, wA.cell? ⟨B + 1, k1, none⟩ = some u := ⟨C[k1]'(by omega), by simp [World.cell?, hC1]⟩; have z2 : wA.frozen? ⟨B + 1, k1, none⟩ = false := (by simp [World.frozen?, hC1]); clear hpush hC1 hC2))
                        have HPP := hide (HPU.out hlt1)
                        clear hStA hownA hbA hfA hbA' HPU z1 z2 HP c1 c2
                        go_wp2_with fail
                        go_roundw
                        case rel => exact ⟨k1 + 1, _, vA, by omega, by go_num, HPP⟩
                        case measure => simp [intOf]; omega
                      · obtain rfl : k1 = p := by omega
                        obtain ⟨W2, rfl⟩ : ∃ W2, W2 = wr := ⟨_, rfl⟩
                        obtain ⟨a, cap, hv, hform⟩ := HL.out.st.form
                        rw [HL.out.len] at hv hform
                        have HV := hide hv
                        have HFORM := hide hform
                        have HCL0 : Hid (Clo B wc W2 B a cap L ats nexts marks k1 W2 0) := by
                          have hrd := HL.out.st.rd
                          rw [HV.out] at hrd
                          refine hide ⟨hrd, fun i x hx => ⟨fun _ => (HL.out.st.els x (List.mem_of_getElem? hx)).2.2.2, fun hi => ?_⟩, fun _ _ _ _ => rfl, Nat.le_refl _, HL.out.below⟩
                          have := (List.getElem?_eq_some_iff.1 hx).1
                          rw [HL.out.len] at this
                          omega
                        clear hv hform hlt1 hk1
                        go_wp2_with fail
                        go_loopw [20] (fun i wr => ∃ (j : Nat) (m : Int), j ≤ k1 ∧ i = .int .i64 ((j : Int) - 1) ∧ Hid (Clo B wc W2 B a cap L ats nexts marks j wr m)) (fun i _ => (intOf i + 1).toNat)
                        case atStart => exact ⟨k1, 0, Nat.le_refl _, by first | rfl | go_num, HCL0⟩
                        case round =>
                          obtain ⟨j, m, hj, rfl, HCL⟩ := hrel
                          by_cases hj0 : 0 < j
                          · obtain ⟨q, hqj⟩ : ∃ q, j = q + 1 := ⟨j - 1, by omega⟩
                            have hqi : (q : Int) = (j : Int) - 1 := by omega
                            obtain ⟨g, hga, hgc, hgl, hgR, hgL, hgcell⟩ := HFORM.out (by omega)
                            obtain ⟨x, hx⟩ : ∃ x, L[q]? = some x := ⟨L[q]'(by rw [HL.out.len]; omega), by simp⟩
                            obtain ⟨hs1, hl1⟩ := HL.out.nm q x hx
                            obtain ⟨eb, s1, l1⟩ := x
                            obtain ⟨aq, haq⟩ : ∃ y, ats[q]? = some y := ⟨ats[q]'(by rw [HN.out.2.2.1]; omega), by simp⟩
                            obtain ⟨nq, hnq⟩ : ∃ y, nexts[q]? = some y := ⟨nexts[q]'(by rw [HN.out.2.2.2.1]; omega), by simp⟩
                            obtain ⟨mq, hmq⟩ : ∃ y, marks[q]? = some y := ⟨marks[q]'(by rw [HN.out.2.2.2.2]; omega), by simp⟩
                            have hbl : Below wc.heap.size wc wr := by rw [HBB.out]; exact HCL.out.below
                            have x4 := index_ints (cap := c4) Ha4.out q (by omega)
                            have x0 := index_strs (cap := kc) Hka.out q (by omega)
                            have x1 := index_strs (cap := kc') Hka'.out q (by omega)
                            have x2 := index_ints (cap := c2) Ha2.out q (by omega)
                            have x3 := index_ints (cap := c3) Ha3.out q (by omega)
                            rw [hqi] at x0 x1 x2 x3 x4
                            have e4 := cell_later hbl (HI4.out q mq hmq)
                            have HCELL := hide (And.intro (HK.out q s1 hs1) (And.intro (HK'.out q l1 hl1) (And.intro (HI2.out q aq haq) (HI3.out q nq hnq))))
                            have HX := hide (And.intro hx (And.intro haq (And.intro hmq hnq)))
                            have HG := hide (And.intro hga (And.intro hgc (And.intro hgl (And.intro hgR (And.intro hgL hgcell)))))
                            have HQ := hide (And.intro hqj hqi)
                            clear hbl hx haq hmq hnq hga hgc hgl hgR hgL hgcell hqj hqi hs1 hl1
                            go_wp2_with fail
                            refine (setMark_calls B (.slice a j cap) m mq wr HCL.out.rd).mono ?_
                            rintro e w3 ⟨rfl, hw3⟩
                            have hoth3 : ∀ b, b ≠ B → w3.heap[b]? = wr.heap[b]? := fun b hb => by rw [hw3]; exact heap_setCell_other (a := ⟨B, 3, none⟩) hb _
                            have hrd3 : RdAt w3 B (.slice a j cap) mq := by rw [hw3]; exact (heap_setCell_same HCL.out.rd 3 _).trans rfl
                            have hb3 : Below B wr w3 := by rw [hw3]; exact (Below.refl _ _).setCell (p := ⟨B, 3, none⟩) (Nat.le_refl _) _
                            have hz3 : w3.heap.size = wr.heap.size := by rw [hw3]; simp
                            clear hw3 e4
                            have hbl3 : Below wc.heap.size wc w3 := by rw [HBB.out]; exact HCL.out.below.trans hb3
                            have d0 := cell_later hbl3 HCELL.out.1
                            have d1 := cell_later hbl3 HCELL.out.2.1
                            have d2 := cell_later hbl3 HCELL.out.2.2.1
                            have d3 := cell_later hbl3 HCELL.out.2.2.2
                            have hebR : eb ≠ B := (HL.out.st.els _ (List.mem_of_getElem? HX.out.1)).2.1
                            have hBeb : B ≤ eb := (HL.out.st.els _ (List.mem_of_getElem? HX.out.1)).1
                            have htop : Top w3.drew B g q cap eb s1 l1 mq := by
                              have hgb : w3.heap[g]? = W2.heap[g]? := (hoth3 g HG.out.2.2.2.1).trans (HCL.out.frame g HG.out.2.2.1 HG.out.2.2.2.1 HG.out.2.2.2.2.1)
                              have hc : ∀ k, k < 4 → w3.drew.cell? ⟨g, q * 4 + k, none⟩ = (ent (eb, s1, l1))[k]? := fun k hk => (World.cell?_of_block (w := W2) (w' := w3.drew) (a := ⟨g, q * 4 + k, none⟩) hgb).trans (HG.out.2.2.2.2.2 q _ HX.out.1 k hk)
                              refine ⟨?_, hc 0 (by omega), hc 1 (by omega), hc 2 (by omega), hc 3 (by omega)⟩
                              have := hrd3
                              rw [HG.out.1, HQ.out.1] at this
                              exact this
                            have hel : ElAt w3.drew eb 0 0 0 := ((HCL.out.els q _ HX.out.1).1 (by have := HQ.out.1; omega)).kept (hoth3 eb hebR)
                            have HCALL := hide (zzend_calls B s1 l1 aq nq line w3.drew (by rintro e w' ⟨rfl, _⟩; exact ⟨_, rfl⟩) (end_match B B g q cap eb mq s1 l1 (by have := HQ.out.1; omega) (by have := HQ.out.1; have := HG.out.2.1; omega) aq nq line w3.drew htop (Nat.le_refl _) hBeb hebR hel))
                            have H3 := hide (And.intro hoth3 (And.intro hz3 (And.intro hb3 hbl3)))
                            clear htop hel hoth3 hrd3 hb3 hz3 hbl3
                            go_wp2_with fail
                            go_region_held3 (fun w' => w'.cell? ⟨kb, ko + q, none⟩ = some (.string s1) ∧ w'.cell? ⟨kb', ko' + q, none⟩ = some (.string l1) ∧ w'.cell? ⟨b2, o2 + q, none⟩ = some (.int .i64 aq) ∧ w'.cell? ⟨b3, o3 + q, none⟩ = some (.int .i64 nq))
                              (first | exact ⟨d0, d1, d2, d3⟩ | exact ⟨cell_later hbA' HCELL.out.1, cell_later hbA' HCELL.out.2.1, cell_later hbA' HCELL.out.2.2.1, cell_later hbA' HCELL.out.2.2.2⟩)
                              (first | (go_at_call 9; have hcall := HCALL.out; refine hcall.mono ?_; clear hcall; rintro e wA ⟨rfl, hrdA, helA, hbA, hothA⟩; have hbA' : Below wc.heap.size wc wA := (H3.out.2.2.2.trans (by rw [HBB.out]; exact (Below.refl _ _).drew.trans hbA))))
                            have HCL2 : Hid (Clo B wc W2 B a cap L ats nexts marks q wA mq) := by
                              have h0 : Clo B wc W2 B a cap L ats nexts marks (q + 1) wr m := HQ.out.1 ▸ HCL.out
                              exact hide (h0.step (w1 := w3.drew) HX.out.1 HL.out.st.nd (fun y hy => (HL.out.st.els y hy).2.1) HX.out.2.1 HX.out.2.2.1 HX.out.2.2.2 H3.out.1 H3.out.2.1 H3.out.2.2.1.drew (by rw [HG.out.1]; exact hrdA) helA hbA hothA)
                            clear hrdA helA hbA hothA hbA' HCALL d0 d1 d2 d3 H3
                            go_wp2_with fail
                            refine (openLen_calls B a q cap mq wA HCL2.out.rd).mono ?_
                            rintro e w5 ⟨he5, rfl⟩
                            rw [HQ.out.2] at he5
                            subst he5
                            go_wp2_with fail
                            go_roundw
                            case rel => exact ⟨q, mq, by have := HQ.out.1; omega, by first | (rw [HQ.out.2]) | (have := HQ.out.2; go_num), HCL2⟩
                            case measure => simp [intOf]; omega
                          · obtain rfl : j = 0 := by omega
                            obtain ⟨W3, rfl⟩ : ∃ W3, W3 = wr := ⟨_, rfl⟩
                            clear hj hj0
                            go_wp2_with fail
                            go_loopw [22] (fun i wr => ∃ k : Nat, k ≤ k1 ∧ i = .int .i64 k ∧ Hid (Clo B wc W2 B a cap L ats nexts marks 0 wr m)) (fun i _ => k1 - (intOf i).toNat)
                            case atStart => exact ⟨0, by omega, rfl, HCL⟩
                            case round =>
                              obtain ⟨k2, hk2, rfl, HC2⟩ := hrel
                              have hbl : Below wc.heap.size wc wr := by rw [HBB.out]; exact HC2.out.below
                              have HBL := hide hbl
                              clear hbl
                              have hBw : B ≤ wr.heap.size := by have := HC2.out.below.size; rw [HBB.out] at this; exact this
                              by_cases hlt2 : k2 < k1
                              · obtain ⟨x, hx⟩ : ∃ x, L[k2]? = some x := ⟨L[k2]'(by rw [HL.out.len]; exact hlt2), by simp⟩
                                obtain ⟨aq, mq, nq, haq, hmq, hnq, hel⟩ := (HC2.out.els k2 x hx).2 (Nat.zero_le _)
                                obtain ⟨C, hC1, hC2, hC3⟩ := HL.out.elems
                                have hE : wr.heap[B + 1]? = some (.cells C 28) := (HC2.out.frame (B + 1) HL.out.lt (by omega) HL.out.ne).trans hC1
                                have c0 : wr.cell? ⟨B + 1, k2, none⟩ = some (.pointer (some ⟨x.1, 0, none⟩)) := by simp [World.cell?, hE, hC3 k2 x hx]
                                have x0 := index_ptrs (cap := k1) (b := B + 1) k2 hlt2
                                have HEL := hide hel
                                have HV2 := hide (And.intro (HI2.out k2 aq haq) (And.intro (HI4.out k2 mq hmq) (HI3.out k2 nq hnq)))
                                have x2 := index_ints (cap := c2) Ha2.out k2 (by omega)
                                have x3 := index_ints (cap := c3) Ha3.out k2 (by omega)
                                have x4 := index_ints (cap := c4) Ha4.out k2 (by omega)
                                clear hE hC1 hC2 hC3 hel haq hmq hnq hx
                                go_wp2_with fail
                                refine (ends_calls x.1 aq mq nq _ HEL.out).mono ?_
                                rintro e w5 ⟨rfl, hb5⟩
                                have HC5 := hide (HC2.out.later hBw hb5)
                                have d2 := cell_later hb5 (cell_later HBL.out HV2.out.1)
                                have d3 := cell_later hb5 (cell_later HBL.out HV2.out.2.1)
                                have d4 := cell_later hb5 (cell_later HBL.out HV2.out.2.2)
                                clear hb5 c0
                                go_wp2_with fail
                                go_roundw
                                case rel =>
                                  repeat apply Exists.intro
                                  exact ⟨⟨k2 + 1, by omega, by go_num, HC5⟩, rfl⟩
                                case measure => simp [intOf]; omega
                              · go_wp2_with fail
                                refine (zzend_calls B _ _ 0 0 line _ (by rintro e w' ⟨⟨a, rfl⟩, _⟩; exact ⟨_, rfl⟩) (end_empty F ga gt B a cap m ⟨#[]⟩ ⟨#[]⟩ (by decide) (by decide) 0 0 line wr (HT.out.below HBL.out) HC2.out.rd)).mono ?_
                                rintro e w5 ⟨⟨y, rfl⟩, hb5⟩
                                have HB5 := hide (HBL.out.trans (hb5.mono (by have := HBL.out.size; exact this)))
                                have HR5 := hide ((hb5.block _ (lt_of_heap HC2.out.rd)).trans HC2.out.rd)
                                clear hb5
                                go_wp2_with fail
                                refine (openLen_calls B a 0 cap m w5 HR5.out).mono ?_
                                rintro e w6 ⟨rfl, rfl⟩
                                go_wp2_with fail
                                go_ret
                                exact ⟨rfl, HB5.out⟩
end Go.Proofs.Qxb6616107aFmt
