/- A push that says which blocks it leaves alone; zzBytes of the second law; the slice of elements. -/
import Derived.Test.Qxb6616107aFmtOne
import Derived.Deep.DeepCutAuto
namespace Go.Proofs.Qxb6616107aFmt
open Go.RowKit Go.Extern.Stop Go.Stop Go.Extern

set_option maxRecDepth 100000 in
set_option maxHeartbeats 2000000 in
theorem push2_calls (B R : Nat) (L : List Ent) (m : Int) (v : Value) (s l : ByteArray) (w : World) (h : St B w R L m v) (hn : L.length ≤ 65536) :
    Calls Tryf.prog 7 #[.pointer (some ⟨R, 0, none⟩), .string s, .string l] w fun e w' => e = .returned (.pointer (some ⟨w.heap.size, 0, none⟩)) ∧ (∃ v', St B w' R (L ++ [(w.heap.size, s, l)]) m v' ∧ (∀ b, b < w.heap.size → v.ownBlock ≠ some b → v'.ownBlock ≠ some b)) ∧ Below B w w' ∧ (∀ b, b < w.heap.size → b ≠ R → v.ownBlock ≠ some b → w'.heap[b]? = w.heap[b]?) := by
  have hRl := lt_of_heap h.rd
  have hBw : B ≤ w.heap.size := Nat.le_trans h.hR (Nat.le_of_lt hRl)
  have h1 : w.cell? ⟨R, 1, none⟩ = some v := by have := h.rd; unfold RdAt at this; simp [World.cell?, this]
  have H := hide h
  clear h
  obtain ⟨i, hi, hiz, his, hib⟩ : ∃ i, Tryf.prog.info? 56 = some i ∧ i.zero = some (.agg #[.pointer none, .string ByteArray.empty, .string ByteArray.empty, .map none]) ∧ i.size = 4 ∧ i.bytes = 48 := by
    have : (Tryf.prog.info? 56).map (fun i => (i.zero, i.size, i.bytes)) = some (some (.agg #[.pointer none, .string ByteArray.empty, .string ByteArray.empty, .map none]), 4, 48) := by kernel_rfl
    cases hq : Tryf.prog.info? 56 with
    | none => simp [hq] at this
    | some i => simp [hq] at this; exact ⟨i, rfl, this.1, this.2.1, this.2.2⟩
  have hzero : Hid ((((w.alloc (.cells #[.string { data := #[] }, .string { data := #[] }, .slice none 0 0, .slice none 0 0, .pointer none, .slice none 0 0, .bool false, .int .i64 0, .int .i64 0, .int .i64 0, .int .i64 0, .int .i64 0, .int .i64 0, .int .i64 0, .slice none 0 0, .int .i64 0] 53)).alloc (.cells #[.pointer (some ⟨w.heap.size, 0, none⟩), .string s, .string l, .map none] 56)).heap.size) = w.heap.size + 2) := hide (by simp)
  go_enter Tryf.func7, Tryf.ntmps7
  go_wp2_with (first | (at_builtin; refine wpList_append_lies _ (by rfl) _ _ 39 (by rfl) B 56 i _ 4 48 Tryf.underlying39 hi hiz his hib rfl (by omega) v L.length _ (by rfl) ((H.out.own.alloc _).alloc _) ⟨w.heap.size + 1, 0, none⟩ 1 1 [.pointer (some ⟨w.heap.size, 0, none⟩), .string s, .string l, .map none] (by rfl) (by rfl) (World.news_of_block (cs := #[.pointer (some ⟨w.heap.size, 0, none⟩), .string s, .string l, .map none]) (t := 56) (fr := (0, 0)) (heap_new_at _ _ (by simp))) (by simp [Value.oneCell']) (by omega) (by unfold maxLen; omega) (by omega) (by simp; omega) (w.heap.size + 2) hzero.out ?_; intro g cap w3 hown hgrow hat hlt3; have hold : ∀ b, b < w.heap.size → v.ownBlock ≠ some b → w3.heap[b]? = w.heap[b]? := (fun b hb hne => (hgrow.block b (by simp; omega) (fun e => hne e.symm)).trans (((((Below.refl w.heap.size w).alloc (Nat.le_refl _) _).alloc (by simp) _).block b hb))); have hRd : RdAt w3 R v m := ((hold R hRl H.out.sep).trans H.out.rd); have r1 : w3.cell? ⟨R, 1, none⟩ = some v := (by unfold RdAt at hRd; simp [World.cell?, hRd]); have r2 : w3.frozen? ⟨R, 1, none⟩ = false := (by unfold RdAt at hRd; simp [World.frozen?, hRd])))
  go_ret
  have hgR : g ≠ R := by
    rcases hat with h | h
    · intro e; subst e; exact H.out.sep h
    · omega
  have hgs : g ≠ w.heap.size := by
    rcases hat with h | h
    · have := (own_lt H.out.own h).2; omega
    · omega
  have hnew : w3.heap[w.heap.size]? = some (.cells #[.string { data := #[] }, .string { data := #[] }, .slice none 0 0, .slice none 0 0, .pointer none, .slice none 0 0, .bool false, .int .i64 0, .int .i64 0, .int .i64 0, .int .i64 0, .int .i64 0, .int .i64 0, .int .i64 0, .slice none 0 0, .int .i64 0] 53) := by
    refine (hgrow.block w.heap.size (by simp; omega) (fun e => ?_)).trans ?_
    · have := (own_lt H.out.own e.symm).2; omega
    · rw [Below.heap_alloc _ _ _ (by simp)]; exact heap_new w _
  refine ⟨rfl, ⟨_, ⟨(heap_setCell_same hRd 1 _).trans rfl, H.out.hR, ?_, fun e => hgR (by simpa [Value.ownBlock] using e), ?_, ?_⟩, fun b hb hne e => ?_⟩, ?_, fun b hb h1 h2 => (heap_setCell_other h1 _).trans (hold b hb h2)⟩
  · rw [List.length_append, ents_snoc]
    exact own_stays hown (fun g' hg' => heap_setCell_other (by have : g = g' := (by simpa [Value.ownBlock] using hg'); show g' ≠ R; omega) _)
  · intro x hx
    rcases List.mem_append.1 hx with hx | hx
    · obtain ⟨a1, a2, a3, a4⟩ := H.out.els x hx
      have hxl := a4.lt
      refine ⟨a1, a2, fun e => ?_, a4.kept ((heap_setCell_other a2 _).trans (hold x.1 hxl a3))⟩
      have e' : g = x.1 := by simpa [Value.ownBlock] using e
      rcases hat with h | h
      · rw [e'] at h; exact a3 h
      · omega
    · obtain rfl := List.mem_singleton.1 hx
      refine ⟨hBw, by show w.heap.size ≠ R; omega, fun e => hgs (by simpa [Value.ownBlock] using e), ⟨_, (heap_setCell_other (by show w.heap.size ≠ R; omega) _).trans hnew, rfl, rfl, rfl, rfl⟩⟩
  · rw [List.map_append, List.nodup_append]
    refine ⟨H.out.nd, by simp, ?_⟩
    intro a ha b hb
    obtain ⟨x, hx, rfl⟩ := List.mem_map.1 ha
    simp at hb
    subst hb
    have := (H.out.els x hx).2.2.2.lt
    omega
  · have e' : g = b := by simpa [Value.ownBlock] using e
    rcases hat with h | h
    · rw [e'] at h; exact hne h
    · omega
  · exact (((((Below.refl B w).alloc hBw _).alloc (by simp; omega) _).grown hgrow (by simp; omega) (fun k hk => (own_lt H.out.own hk).1)).setCell (p := ⟨R, 1, none⟩) H.out.hR _)

def Fit5 (K K' : List ByteArray) : Prop := Short K ∧ Short K'

set_option maxHeartbeats 2000000 in
theorem bytes5_calls (K K' : List ByteArray) (v v' : Value) (a1 a2 a3 : Option Addr) (m1 m2 m3 c1 c2 c3 : Nat) (t : Int) (w : World) (h : StrsAt w v K) (h' : StrsAt w v' K') (hm1 : m1 ≤ maxLen) (hm2 : m2 ≤ maxLen) (hm3 : m3 ≤ maxLen) :
    Calls Tryf.prog 5 #[v, v', .slice a1 m1 c1, .slice a2 m2 c2, .slice a3 m3 c3, .int .i64 t] w (Says (Fit5 K K') w) := by
  obtain ⟨kb, ko, ⟨ka, kc, rfl, hkc, hkm, hka⟩, hks⟩ := h
  obtain ⟨kb', ko', ⟨ka', kc', rfl, hkc', hkm', hka'⟩, hks'⟩ := h'
  generalize hn : K.length = n at *
  generalize hn' : K'.length = n' at *
  have HN := hide (And.intro hn hn')
  have HK := hide hks
  have HK' := hide hks'
  have Hka := hide hka
  have Hka' := hide hka'
  clear hn hn' hks hks' hka hka'
  unfold maxLen at hm1 hm2 hm3
  go_enter Tryf.func5, Tryf.ntmps5
  go_wp2_with fail
  all_goals (try (go_ret; exact Says.no))
  go_loop [13, 14] (fun a i => ∃ (N : Int) (k : Nat), 0 ≤ N ∧ N ≤ 1048576 ∧ k ≤ n ∧ a = .int .i64 N ∧ i = .int .i64 k ∧ Hid (∀ (j : Nat) x, j < k → K[j]? = some x → x.size ≤ 1048576)) (fun _ i => n - (intOf i).toNat)
  case atStart => exact ⟨_, 0, by omega, by omega, by omega, rfl, rfl, hide (fun j x hj => by omega)⟩
  case round =>
    obtain ⟨N, k, hN0, hN1, hk, rfl, rfl, hS⟩ := hrel
    by_cases hlt : k < n
    · obtain ⟨s, hs⟩ : ∃ s, K[k]? = some s := ⟨K[k]'(by rw [HN.out.1]; exact hlt), by simp⟩
      have hc := HK.out k s hs
      have hix := index_strs (cap := kc) Hka.out k hlt
      have HS := hide hs
      clear hs
      by_cases hz : s.size ≤ 1048576
      · have HST := hide (short_step HS.out hz hS.out)
        go_wp2_with fail
        · go_ret
          exact Says.no
        · exact ⟨⟨_, k + 1, by omega, by omega, by omega, rfl, by go_num, HST⟩, by simp [intOf]; omega⟩
      · have hz' : (1048576 : Int) < (s.size : Int) := by omega
        go_wp2_with fail
        go_ret
        exact Says.no
    · have HSK := hide (short_of (l := K) (n := k) (by rw [HN.out.1]; omega) hS.out)
      clear hS
      go_wp2_with fail
      all_goals (try (go_ret; exact Says.no))
      go_loop [13, 15] (fun a i => ∃ (N : Int) (k : Nat), 0 ≤ N ∧ N ≤ 1048576 ∧ k ≤ n' ∧ a = .int .i64 N ∧ i = .int .i64 k ∧ Hid (∀ (j : Nat) x, j < k → K'[j]? = some x → x.size ≤ 1048576)) (fun _ i => n' - (intOf i).toNat)
      case atStart => exact ⟨_, 0, by omega, by omega, by omega, rfl, rfl, hide (fun j x hj => by omega)⟩
      case round =>
        obtain ⟨N', k', hN0', hN1', hk', rfl, rfl, hS'⟩ := hrel
        by_cases hlt' : k' < n'
        · obtain ⟨s, hs⟩ : ∃ s, K'[k']? = some s := ⟨K'[k']'(by rw [HN.out.2]; exact hlt'), by simp⟩
          have hc := HK'.out k' s hs
          have hix := index_strs (cap := kc') Hka'.out k' hlt'
          have HS := hide hs
          clear hs
          by_cases hz : s.size ≤ 1048576
          · have HST := hide (short_step HS.out hz hS'.out)
            go_wp2_with fail
            · go_ret
              exact Says.no
            · exact ⟨⟨_, k' + 1, by omega, by omega, by omega, rfl, by go_num, HST⟩, by simp [intOf]; omega⟩
          · have hz' : (1048576 : Int) < (s.size : Int) := by omega
            go_wp2_with fail
            go_ret
            exact Says.no
        · have HSK' := hide (short_of (l := K') (n := k') (by rw [HN.out.2]; omega) hS'.out)
          clear hS'
          go_wp2_with fail
          all_goals (try (go_ret; exact Says.no))
          go_ret
          exact Says.yes ⟨HSK.out, HSK'.out⟩

theorem index_ptrs {n cap b : Nat} (k : Nat) (hk : k < n) (w : World) :
    (Instr.indexAt 27 (.slice (some ⟨b, 0, none⟩) n cap) (.int .i64 (k : Int))).run Tryf.prog w = .ok (.pointer (some ⟨b, k, none⟩)) w := by
  have hi : (Tryf.prog.info? 28).map (fun i => i.size) = some 1 := by kernel_rfl
  cases hq : Tryf.prog.info? 28 with
  | none => simp [hq] at hi
  | some i =>
    simp [hq] at hi
    simp [Instr.indexAt, asIntOf, run_underlying Tryf.underlying27, sizeOf, typeInfo, hq, hi, hk, Addr.add_mid]
theorem make_ptrs (n : Nat) (hn : n ≤ 65536) (w : World) :
    (Instr.makeSlice 27 (.int .i64 (n : Int)) (.int .i64 (n : Int))).run Tryf.prog w = .ok (.slice (some ⟨w.heap.size, 0, none⟩) n n) (w.alloc (.cells (madeCells #[.pointer none] n) 28)) := by
  have hi : (Tryf.prog.info? 28).map (fun i => (i.zero, i.size, i.bytes)) = some (some (.pointer none), 1, 8) := by kernel_rfl
  cases hq : Tryf.prog.info? 28 with
  | none => simp [hq] at hi
  | some i =>
    simp [hq] at hi
    have hb' : (i.bytes : Int) * (n : Int) ≤ 281474976710656 := by rw [hi.2.2]; omega
    have := run_make (P := Tryf.prog) w 27 28 i (.pointer none) Tryf.underlying27 hq hi.1 .i64 .i64 n n (by omega) (Int.le_refl _) hb' (by omega)
    have e : (Value.pointer none).cells = #[.pointer none] := rfl
    simpa [hi.2.1, e] using this
end Go.Proofs.Qxb6616107aFmt
