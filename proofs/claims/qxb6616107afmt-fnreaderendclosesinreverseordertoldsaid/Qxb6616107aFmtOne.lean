/- FnReaderEndRefusesAnUnmatchedTag, walked. -/
import Derived.Test.Qxb6616107aFmtBytes
namespace Go.Proofs.Qxb6616107aFmt
open Go.RowKit Go.Extern.Stop Go.Stop Go.Extern

/-- the stack's last entry -/
theorem St.top {B : Nat} {w : World} {R : Nat} {L : List Ent} {m : Int} {v : Value} {q : Nat} {x : Ent} (h : St B w R L m v) (hl : L.length = q + 1) (hx : L[q]? = some x) :
    ∃ g cap, v = .slice (some ⟨g, 0, none⟩) (q + 1) cap ∧ q + 1 ≤ cap ∧ B ≤ g ∧ g ≠ R ∧ Top w R g q cap x.1 x.2.1 x.2.2 m := by
  have hown := h.own
  rcases h.own.2 with ⟨hv, h0⟩ | ⟨g, cap, cur, hv, hb, hg, hc, hm, hcs, ht⟩
  · omega
  · rw [hl] at hv hc
    have hrd := h.rd
    rw [hv] at hown hrd
    have hcell : ∀ j, j < 4 → w.cell? ⟨g, q * 4 + j, none⟩ = (ent x)[j]? := by
      intro j hj
      rw [hl] at hown
      rw [hown.cellAt (q * 4 + j) (by omega), ents_get hx j hj]
    refine ⟨g, cap, hv, hc, hb, fun e => h.sep (by rw [hv, e]; rfl), ⟨hrd, ?_, ?_, ?_, ?_⟩⟩
    · exact hcell 0 (by omega)
    · exact hcell 1 (by omega)
    · exact hcell 2 (by omega)
    · exact hcell 3 (by omega)
/-- a reader with nothing open -/
theorem St.nilv {B : Nat} {w : World} {R : Nat} {m : Int} {v : Value} (h : St B w R [] m v) : ∃ a cap, v = .slice a 0 cap := by
  rcases h.own.2 with ⟨hv, h0⟩ | ⟨g, cap, cur, hv, _⟩
  · exact ⟨_, _, hv⟩
  · exact ⟨_, _, hv⟩
theorem St.start {B : Nat} {w : World} (m : Int) (hB : B = w.heap.size) : St B (w.alloc (.cells #[.pointer none, .slice none 0 0, .pointer none, .int .i64 m] 41)) w.heap.size [] m (.slice none 0 0) :=
  ⟨heap_new w _, by omega, ⟨rfl, .inl ⟨rfl, rfl⟩⟩, by simp [Value.ownBlock], fun x hx => by simp at hx, by simp⟩
theorem St.below {B : Nat} {w w' : World} {R : Nat} {L : List Ent} {m : Int} {v : Value} (h : St B w R L m v) (hb : Below w.heap.size w w') : St B w' R L m v :=
  ⟨(hb.block _ (lt_of_heap h.rd)).trans h.rd, h.hR, own_stays h.own (fun g hg => hb.block g (own_lt h.own hg).2), h.sep, fun x hx => by
    obtain ⟨a1, a2, a3, a4⟩ := h.els x hx
    exact ⟨a1, a2, a3, a4.kept (hb.block _ a4.lt)⟩, h.nd⟩

theorem Top.below {w w' : World} {R g k cap e : Nat} {s l : ByteArray} {m : Int} (h : Top w R g k cap e s l m) (hb : Below w.heap.size w w') : Top w' R g k cap e s l m :=
  ⟨(hb.block _ (lt_of_heap h.rd)).trans h.rd, cell_later hb h.c0, cell_later hb h.c1, cell_later hb h.c2, cell_later hb h.c3⟩
/-- the entries bear the names, in order -/
def Named (K K' : List ByteArray) (L : List Ent) : Prop := ∀ (j : Nat) x, L[j]? = some x → K[j]? = some x.2.1 ∧ K'[j]? = some x.2.2
theorem Named.step {K K' : List ByteArray} {L : List Ent} (h : Named K K' L) {k : Nat} (hk : L.length = k) {s l : ByteArray} (hs : K[k]? = some s) (hl : K'[k]? = some l) (e : Nat) : Named K K' (L ++ [(e, s, l)]) := by
  intro j x hx
  rcases Nat.lt_or_ge j L.length with hj | hj
  · rw [List.getElem?_append_left hj] at hx; exact h j x hx
  · have hj2 := (List.getElem?_eq_some_iff.1 hx).1
    simp at hj2
    obtain rfl : j = L.length := by omega
    simp at hx
    subst hx
    rw [hk]
    exact ⟨hs, hl⟩
/-- what 'top' points at -/
def TopIs (L : List Ent) (tp : Value) : Prop := (L = [] ∧ tp = .pointer none) ∨ ∃ x, L.getLast? = some x ∧ tp = .pointer (some ⟨x.1, 0, none⟩)
theorem TopIs.step (L : List Ent) (x : Ent) : TopIs (L ++ [x]) (.pointer (some ⟨x.1, 0, none⟩)) := .inr ⟨x, by simp, rfl⟩

/-- all that the walk needs of the stack once it is built -/
theorem St.last {B : Nat} {w : World} {R : Nat} {L : List Ent} {m : Int} {v tp : Value} {q : Nat} {K K' : List ByteArray} {s l : ByteArray} (h : St B w R L m v) (hl : L.length = q + 1) (hn : Named K K' L) (hs : K[q]? = some s) (hl' : K'[q]? = some l) (ht : TopIs L tp) :
    ∃ e g cap, tp = .pointer (some ⟨e, 0, none⟩) ∧ q + 1 ≤ cap ∧ B ≤ e ∧ e ≠ R ∧ ElAt w e 0 0 0 ∧ Top w R g q cap e s l m := by
  obtain ⟨x, hx⟩ : ∃ x, L[q]? = some x := ⟨L[q]'(by omega), by simp⟩
  obtain ⟨h1, h2⟩ := hn q x hx
  have e1 : x.2.1 = s := by rw [hs] at h1; cases h1; rfl
  have e2 : x.2.2 = l := by rw [hl'] at h2; cases h2; rfl
  obtain ⟨g, cap, hv, hc, _, _, htop⟩ := h.top hl hx
  obtain ⟨a1, a2, a3, a4⟩ := h.els x (List.mem_of_getElem? hx)
  refine ⟨x.1, g, cap, ?_, hc, a1, a2, a4, by rw [← e1, ← e2]; exact htop⟩
  rcases ht with ⟨h0, _⟩ | ⟨y, hy, rfl⟩
  · rw [h0] at hl; simp at hl
  · rw [List.getLast?_eq_getElem?, hl, Nat.add_sub_cancel, hx] at hy
    cases hy
    rfl

set_option maxRecDepth 100000 in
set_option maxHeartbeats 4000000 in
theorem refuses_calls (F : Interp) (ga : Addr) (gt : ByteArray) (K K' : List ByteArray) (v v' : Value) (ws wl : ByteArray) (at_ next mark line : Int) (w : World) (hT : Told F ga gt w) (h : StrsAt w v K) (h' : StrsAt w v' K') :
    Calls Tryf.prog 4 #[v, v', .string ws, .string wl, .int .i64 at_, .int .i64 next, .int .i64 mark, .int .i64 line] w fun e w' => e = .returned (.bool true) ∧ Below w.heap.size w w' := by
  have HCB := hide (bytes12_calls K K' v v' ws wl at_ next mark line w h h')
  obtain ⟨kb, ko, ⟨ka, kc, rfl, hkc, hkm, hka⟩, hks⟩ := h
  obtain ⟨kb', ko', ⟨ka', kc', rfl, hkc', hkm', hka'⟩, hks'⟩ := h'
  generalize hn : K.length = n at *
  generalize hn' : K'.length = n' at *
  have HN := hide (And.intro hn hn')
  have HK := hide hks
  have HK' := hide hks'
  have Hka := hide hka
  have Hka' := hide hka'
  have HT := hide hT
  clear hn hn' hks hks' hka hka' hT
  go_enter Tryf.func4, Tryf.ntmps4
  go_wp2_with fail
  have hcb := HCB.out
  refine hcb.mono ?_
  clear hcb HCB
  rintro e w0 ⟨b, rfl, rfl, hfit⟩
  have HFIT := hide hfit
  clear hfit
  cases b with
  | false =>
    go_wp2_with fail
    go_ret
    exact ⟨rfl, Below.refl _ _⟩
  | true =>
    have hfit := HFIT.out rfl
    have hz1 := hfit.2.2.1
    have hz2 := hfit.2.2.2
    have HSH := hide (And.intro hfit.1 hfit.2.1)
    clear hfit HFIT
    by_cases hA : n ≤ 65536 ∧ n' ≤ 65536
    · obtain ⟨hA1, hA2⟩ := hA
      go_wp2_with fail
      all_goals (try (go_ret; exact ⟨rfl, Below.refl _ _⟩))
      go_loop [17, 18] (fun a i => ∃ (N : Int) (k : Nat), 0 ≤ N ∧ N ≤ 1048576 ∧ k ≤ n ∧ a = .int .i64 N ∧ i = .int .i64 k) (fun _ i => n - (intOf i).toNat)
      case atStart => exact ⟨_, 0, by omega, by omega, by omega, rfl, rfl⟩
      case round =>
        obtain ⟨N, k, hN0, hN1, hk, rfl, rfl⟩ := hrel
        by_cases hlt : k < n
        · obtain ⟨s, hs⟩ : ∃ s, K[k]? = some s := ⟨K[k]'(by rw [HN.out.1]; exact hlt), by simp⟩
          have hc := HK.out k s hs
          have hix := index_strs (cap := kc) Hka.out k hlt
          have hz : s.size ≤ 1048576 := HSH.out.1 s (List.mem_of_getElem? hs)
          clear hs
          go_wp2_with fail
          · go_ret
            exact ⟨rfl, Below.refl _ _⟩
          · exact ⟨⟨_, k + 1, by omega, by omega, by omega, rfl, by go_num⟩, by simp [intOf]; omega⟩
        · go_wp2_with fail
          go_loop [17, 19] (fun a i => ∃ (N : Int) (k : Nat), 0 ≤ N ∧ N ≤ 1048576 ∧ k ≤ n' ∧ a = .int .i64 N ∧ i = .int .i64 k) (fun _ i => n' - (intOf i).toNat)
          case atStart => exact ⟨_, 0, by omega, by omega, by omega, rfl, rfl⟩
          case round =>
            obtain ⟨N', k', hN0', hN1', hk', rfl, rfl⟩ := hrel
            by_cases hlt' : k' < n'
            · obtain ⟨s, hs⟩ : ∃ s, K'[k']? = some s := ⟨K'[k']'(by rw [HN.out.2]; exact hlt'), by simp⟩
              have hc := HK'.out k' s hs
              have hix := index_strs (cap := kc') Hka'.out k' hlt'
              have hz : s.size ≤ 1048576 := HSH.out.2 s (List.mem_of_getElem? hs)
              clear hs
              go_wp2_with fail
              · go_ret
                exact ⟨rfl, Below.refl _ _⟩
              · exact ⟨⟨_, k' + 1, by omega, by omega, by omega, rfl, by go_num⟩, by simp [intOf]; omega⟩
            · clear hk hlt
              obtain ⟨p, hpn, hpn', hpc⟩ : ∃ p, p ≤ n ∧ p ≤ n' ∧ ((n' < n ∧ p = n') ∨ (¬ n' < n ∧ p = n)) := by
                by_cases hq : n' < n
                · exact ⟨n', by omega, by omega, .inl ⟨hq, rfl⟩⟩
                · exact ⟨n, by omega, by omega, .inr ⟨hq, rfl⟩⟩
              have hp16 : p ≤ 65536 := by omega
              rcases hpc with ⟨hq, hpe⟩ | ⟨hq, hpe⟩
              all_goals
                obtain rfl := hpe
                rcases Nat.eq_zero_or_pos p with hp0 | hp0
                · obtain rfl := hp0
                  have hd1 : decide ((0 : Int) < ((0 : Nat) : Int)) = false := by simp
                  go_wp2_with fail
                  refine (newReader_calls mark w0).mono ?_
                  rintro e w1 ⟨rfl, hw1⟩
                  have hb1 : Below w0.heap.size w0 w1 := by rw [hw1]; exact (Below.refl _ _).alloc (Nat.le_refl _) _
                  have hrd : RdAt w1 w0.heap.size (.slice none 0 0) mark := by rw [hw1]; exact heap_new w0 _
                  have HB1 := hide hb1
                  have HRD := hide hrd
                  clear hw1 hb1 hrd
                  go_wp2_with fail
                  go_loopw [22, 23] (fun tp i wr => tp = .pointer none ∧ i = .int .i64 0 ∧ wr = w1) (fun _ _ _ => 0)
                  case atStart => exact ⟨rfl, rfl, rfl⟩
                  case round =>
                    obtain ⟨rfl, rfl, rfl⟩ := hrel
                    go_wp2_with fail
                    refine (zzend_calls w0.heap.size ws wl at_ next line _ (by rintro e w' ⟨⟨a, rfl⟩, _⟩; exact ⟨_, rfl⟩) (end_empty F ga gt w0.heap.size none 0 mark ws wl hz1 hz2 at_ next line _ (HT.out.below HB1.out) HRD.out)).mono ?_
                    rintro e w2 ⟨⟨x, rfl⟩, hb2⟩
                    have HB2 := hide (HB1.out.trans (hb2.mono HB1.out.size))
                    have HRD2 := hide ((hb2.block _ (lt_of_heap HRD.out)).trans HRD.out)
                    clear hb2
                    go_wp2_with fail
                    refine (openLen_calls w0.heap.size none 0 0 mark w2 HRD2.out).mono ?_
                    rintro e w3 ⟨rfl, rfl⟩
                    go_wp2_with fail
                    go_ret
                    exact ⟨rfl, HB2.out⟩
                · obtain ⟨q, hqp⟩ : ∃ q, p = q + 1 := ⟨p - 1, by omega⟩
                  have hqi : (q : Int) = (p : Int) - 1 := by omega
                  obtain ⟨s0, hs0⟩ : ∃ s, K[q]? = some s := ⟨K[q]'(by rw [HN.out.1]; omega), by simp⟩
                  obtain ⟨l0, hl0⟩ : ∃ s, K'[q]? = some s := ⟨K'[q]'(by rw [HN.out.2]; omega), by simp⟩
                  have cs := HK.out q s0 hs0
                  have cl := HK'.out q l0 hl0
                  have xs := index_strs (cap := kc) Hka.out q (by omega)
                  have xl := index_strs (cap := kc') Hka'.out q (by omega)
                  rw [hqi] at xs xl
                  have hzs : s0.size ≤ 1048576 := HSH.out.1 s0 (List.mem_of_getElem? hs0)
                  have hzl : l0.size ≤ 1048576 := HSH.out.2 l0 (List.mem_of_getElem? hl0)
                  have HS0 := hide (And.intro hs0 hl0)
                  have HQP := hide hqp
                  have hw : IntKind.i64.wrap ((p : Int) - 1) = (p : Int) - 1 := wrap_small _ (by omega) (by omega)
                  clear hs0 hl0 hqp hqi
                  by_cases heq : ws = s0 ∧ wl = l0
                  · obtain ⟨rfl, rfl⟩ := heq
                    go_wp2_with fail
                    go_ret
                    exact ⟨rfl, Below.refl _ _⟩
                  · have hcs : ¬ ws.toList = s0.toList ∨ (ws.toList = s0.toList ∧ ¬ wl.toList = l0.toList) := by
                      by_cases h1 : ws.toList = s0.toList
                      · exact .inr ⟨h1, fun h2 => heq ⟨str_inj h1, str_inj h2⟩⟩
                      · exact .inl h1
                    have HNE := hide (fun (hx : s0 = ws ∧ l0 = wl) => heq ⟨hx.1.symm, hx.2.symm⟩)
                    clear heq
                    rcases hcs with hc1 | ⟨hc1, hc2⟩
                    all_goals
                      go_wp2_with fail
                      all_goals (try (go_ret; exact ⟨rfl, Below.refl _ _⟩))
                      refine (newReader_calls mark w0).mono ?_
                      rintro e w1 ⟨rfl, hw1⟩
                      have hb1 : Below w0.heap.size w0 w1 := by rw [hw1]; exact (Below.refl _ _).alloc (Nat.le_refl _) _
                      have hst : St w0.heap.size w1 w0.heap.size [] mark (.slice none 0 0) := by rw [hw1]; exact St.start mark rfl
                      have HB1 := hide hb1
                      have HST := hide hst
                      clear hw1 hb1 hst
                      go_wp2_with fail
                      go_loopw [22, 23] (fun tp i wr => ∃ (k : Nat) (L : List Ent) (v : Value), k ≤ p ∧ i = .int .i64 k ∧ Hid (L.length = k ∧ St w0.heap.size wr w0.heap.size L mark v ∧ Named K K' L ∧ TopIs L tp ∧ Below w0.heap.size w0 wr)) (fun _ i _ => p - (intOf i).toNat)
                      case atStart => exact ⟨0, [], _, by omega, rfl, hide ⟨rfl, HST.out, fun j x hx => by simp at hx, .inl ⟨rfl, rfl⟩, HB1.out⟩⟩
                      case round =>
                        obtain ⟨k1, L, v1, hk1, rfl, HL⟩ := hrel
                        by_cases hlt1 : k1 < p
                        · obtain ⟨s1, hs1⟩ : ∃ s, K[k1]? = some s := ⟨K[k1]'(by rw [HN.out.1]; omega), by simp⟩
                          obtain ⟨l1, hl1⟩ : ∃ s, K'[k1]? = some s := ⟨K'[k1]'(by rw [HN.out.2]; omega), by simp⟩
                          have c1 := cell_later HL.out.2.2.2.2 (HK.out k1 s1 hs1)
                          have c2 := cell_later HL.out.2.2.2.2 (HK'.out k1 l1 hl1)
                          have x1 := index_strs (cap := kc) Hka.out k1 (by omega)
                          have x2 := index_strs (cap := kc') Hka'.out k1 (by omega)
                          have HS1 := hide (And.intro hs1 hl1)
                          have HP := hide (push_calls w0.heap.size w0.heap.size L mark v1 s1 l1 wr.drew (HL.out.2.1.below (Below.refl _ _).drew) (by rw [HL.out.1]; omega))
                          clear hs1 hl1
                          go_wp2_with fail
                          go_region_held3 (fun w' => w'.cell? ⟨kb, ko + k1, none⟩ = some (.string s1) ∧ w'.cell? ⟨kb', ko' + k1, none⟩ = some (.string l1))
                            (first | exact ⟨c1, c2⟩ | exact ⟨cell_later hbA' (HK.out k1 s1 HS1.out.1), cell_later hbA' (HK'.out k1 l1 HS1.out.2)⟩)
                            (first | (go_at_call 7; have hcall := HP.out; refine hcall.mono ?_; clear hcall; rintro e wA ⟨rfl, ⟨vA, hStA⟩, hbA⟩; have hbA' := HL.out.2.2.2.2.trans ((Below.refl _ _).drew.trans hbA)))
                          have HA : Hid ((L ++ [(wr.drew.heap.size, s1, l1)]).length = k1 + 1 ∧ St w0.heap.size wA w0.heap.size (L ++ [(wr.drew.heap.size, s1, l1)]) mark vA ∧ Named K K' (L ++ [(wr.drew.heap.size, s1, l1)]) ∧ TopIs (L ++ [(wr.drew.heap.size, s1, l1)]) (.pointer (some ⟨wr.drew.heap.size, 0, none⟩)) ∧ Below w0.heap.size w0 wA) :=
                            hide ⟨by rw [List.length_append, HL.out.1]; rfl, hStA, HL.out.2.2.1.step HL.out.1 HS1.out.1 HS1.out.2 _, TopIs.step L (wr.drew.heap.size, s1, l1), hbA'⟩
                          clear hStA hbA hbA' HP c1 c2
                          go_wp2_with fail
                          go_roundw
                          case rel => exact ⟨k1 + 1, L ++ [(wr.drew.heap.size, s1, l1)], vA, by omega, by go_num, HA⟩
                          case measure => simp [intOf]; omega
                        · obtain ⟨e1, g, cap, rfl, hcap, hBe, heR, hel, htop⟩ := HL.out.2.1.last (q := q) (by rw [HL.out.1, ← HQP.out]; omega) HL.out.2.2.1 HS0.out.1 HS0.out.2 HL.out.2.2.2.1
                          have hbr := HL.out.2.2.2.2
                          have HBR := hide hbr
                          have HTOP := hide htop
                          have HEL := hide hel
                          have hrl : w0.heap.size ≤ wr.heap.size := hbr.size
                          clear hbr htop hel HL hc1
                          go_wp2_with fail
                          refine (zzend_calls w0.heap.size ws wl at_ next line _ (by rintro e w' ⟨⟨a, rfl⟩, _⟩; exact ⟨_, rfl⟩) (end_mismatch F ga gt w0.heap.size g q cap e1 s0 l0 mark ws wl hz1 hz2 hzs hzl (by have := HQP.out; omega) HNE.out at_ next line wr (HT.out.below HBR.out) HTOP.out)).mono ?_
                          rintro e w2 ⟨⟨y, rfl⟩, hb2⟩
                          have HT2 := hide (HTOP.out.below hb2)
                          have HE2 := hide (HEL.out.kept (hb2.block _ HEL.out.lt))
                          have HB2 := hide (HBR.out.trans (hb2.mono hrl))
                          have hrd2 : RdAt w2 w0.heap.size (.slice (some ⟨g, 0, none⟩) p cap) mark := by rw [HQP.out]; exact HT2.out.rd
                          have HR2 := hide hrd2
                          have hpz : ((p : Int) == 0) = false := by simp; omega
                          clear hb2 hrd2
                          go_wp2_with fail
                          refine (openLen_calls w0.heap.size _ p cap mark w2 HR2.out).mono ?_
                          rintro e w3 ⟨rfl, rfl⟩
                          go_wp2_with fail
                          refine (ends_calls e1 0 0 0 _ HE2.out).mono ?_
                          rintro e w4 ⟨rfl, hb4⟩
                          have HT4 := hide (HT2.out.below hb4)
                          have HE4 := hide (HE2.out.kept (hb4.block _ HE2.out.lt))
                          have HB4 := hide (HB2.out.trans (hb4.mono HB2.out.size))
                          clear hb4
                          have c1 := cell_later HB4.out (HK.out q s0 HS0.out.1)
                          have c2 := cell_later HB4.out (HK'.out q l0 HS0.out.2)
                          have HCALL := hide (zzend_calls w0.heap.size s0 l0 at_ next line w4.drew (by rintro e w' ⟨rfl, _⟩; exact ⟨_, rfl⟩) (end_match w0.heap.size w0.heap.size g q cap e1 mark s0 l0 (by have := HQP.out; omega) hcap at_ next line w4.drew (HT4.out.below (Below.refl _ _).drew) (Nat.le_refl _) hBe heR (HE4.out.kept rfl)))
                          go_wp2_with fail
                          go_region_held3 (fun w' => w'.cell? ⟨kb, ko + q, none⟩ = some (.string s0) ∧ w'.cell? ⟨kb', ko' + q, none⟩ = some (.string l0))
                            (first | exact ⟨c1, c2⟩ | exact ⟨cell_later hbA' (HK.out q s0 HS0.out.1), cell_later hbA' (HK'.out q l0 HS0.out.2)⟩)
                            (first | (go_at_call 9; have hcall := HCALL.out; refine hcall.mono ?_; clear hcall; rintro e wA ⟨rfl, hrdA, helA, hbA, hothA⟩; have hbA' := HB4.out.trans ((Below.refl _ _).drew.trans hbA)))
                          have HRA := hide hrdA
                          have HEA := hide helA
                          have HBA := hide hbA'
                          clear hrdA helA hbA hbA' hothA HCALL c1 c2
                          go_wp2_with fail
                          refine (openLen_calls w0.heap.size _ q cap mark wA HRA.out).mono ?_
                          rintro e w5 ⟨he5, rfl⟩
                          have hqi : (q : Int) = (p : Int) - 1 := by have := HQP.out; omega
                          rw [hqi] at he5
                          subst he5
                          clear hqi
                          go_wp2_with fail
                          refine (ends_calls e1 at_ mark next _ HEA.out).mono ?_
                          rintro e w6 ⟨rfl, hb6⟩
                          have HB6 := hide (HBA.out.trans (hb6.mono HBA.out.size))
                          clear hb6
                          go_wp2_with fail
                          go_ret
                          exact ⟨rfl, HB6.out⟩
    · have hA' : 65536 < n ∨ (n ≤ 65536 ∧ 65536 < n') := by omega
      clear hA
      rcases hA' with hA | ⟨hA, hA2⟩
      all_goals
        go_wp2_with fail
        go_ret
        exact ⟨rfl, Below.refl _ _⟩
end Go.Proofs.Qxb6616107aFmt
