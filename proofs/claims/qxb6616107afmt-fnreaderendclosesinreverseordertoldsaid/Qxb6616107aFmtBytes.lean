/- ZZend; zzBytes of the two laws: where it says true, every string is short. -/
import Derived.Test.Qxb6616107aFmtEnd2
namespace Go.Proofs.Qxb6616107aFmt
open Go.RowKit Go.Extern.Stop Go.Stop Go.Extern

theorem zzend_calls {Q : Ending → World → Prop} (R : Nat) (s l : ByteArray) (at_ next line : Int) (w : World) (hQ : ∀ e w', Q e w' → ∃ v, e = .returned v)
    (h : Calls Tryf.prog 13 #[.pointer (some ⟨R, 0, none⟩), .agg #[.string s, .string l], .int .i64 at_, .int .i64 next, .int .i64 line] w Q) :
    Calls Tryf.prog 9 #[.pointer (some ⟨R, 0, none⟩), .string s, .string l, .int .i64 at_, .int .i64 next, .int .i64 line] w Q := by
  have H := hide h
  have HQ := hide hQ
  clear h hQ
  go_enter Tryf.func9, Tryf.ntmps9
  go_wp2_with fail
  have h := H.out
  refine h.mono ?_
  clear h
  intro e w' hq
  obtain ⟨v, rfl⟩ := HQ.out e w' hq
  have Hq := hide hq
  clear hq
  go_wp2_with fail
  exact Hq.out

/-- a bool is returned, nothing is written; where it is true, P -/
def Says (P : Prop) (w : World) (e : Ending) (w' : World) : Prop := ∃ b, e = .returned (.bool b) ∧ w' = w ∧ (b = true → P)
theorem Says.no {P : Prop} {w : World} : Says P w (.returned (.bool false)) w := ⟨_, rfl, rfl, fun h => by cases h⟩
theorem Says.yes {P : Prop} {w : World} (h : P) : Says P w (.returned (.bool true)) w := ⟨_, rfl, rfl, fun _ => h⟩

theorem index_strs {a : Option Addr} {n cap b o : Nat} (hl : n = 0 ∨ a = some ⟨b, o, none⟩) (k : Nat) (hk : k < n) (w : World) :
    (Instr.indexAt 22 (.slice a n cap) (.int .i64 (k : Int))).run Tryf.prog w = .ok (.pointer (some ⟨b, o + k, none⟩)) w := by
  rcases hl with h | rfl
  · omega
  have hi : (Tryf.prog.info? 9).map (fun i => i.size) = some 1 := by kernel_rfl
  cases hq : Tryf.prog.info? 9 with
  | none => simp [hq] at hi
  | some i =>
    simp [hq] at hi
    simp [Instr.indexAt, asIntOf, run_underlying Tryf.underlying22, sizeOf, typeInfo, hq, hi, hk, Addr.add_mid]
theorem index_ints {a : Option Addr} {n cap b o : Nat} (hl : n = 0 ∨ a = some ⟨b, o, none⟩) (k : Nat) (hk : k < n) (w : World) :
    (Instr.indexAt 23 (.slice a n cap) (.int .i64 (k : Int))).run Tryf.prog w = .ok (.pointer (some ⟨b, o + k, none⟩)) w := by
  rcases hl with h | rfl
  · omega
  have hi : (Tryf.prog.info? 3).map (fun i => i.size) = some 1 := by kernel_rfl
  cases hq : Tryf.prog.info? 3 with
  | none => simp [hq] at hi
  | some i =>
    simp [hq] at hi
    simp [Instr.indexAt, asIntOf, run_underlying Tryf.underlying23, sizeOf, typeInfo, hq, hi, hk, Addr.add_mid]

/-- short strings -/
def Short (l : List ByteArray) : Prop := ∀ x ∈ l, x.size ≤ 1048576
theorem short_of {l : List ByteArray} {n : Nat} (hn : l.length ≤ n) (h : ∀ (j : Nat) x, j < n → l[j]? = some x → x.size ≤ 1048576) : Short l := by
  intro x hx
  obtain ⟨j, hj⟩ := List.getElem?_of_mem hx
  exact h j x (Nat.lt_of_lt_of_le (List.getElem?_eq_some_iff.1 hj).1 hn) hj
theorem short_step {l : List ByteArray} {k : Nat} {s : ByteArray} (hs : l[k]? = some s) (hz : s.size ≤ 1048576) (h : ∀ (j : Nat) x, j < k → l[j]? = some x → x.size ≤ 1048576) : ∀ (j : Nat) x, j < k + 1 → l[j]? = some x → x.size ≤ 1048576 := by
  intro j x hj hx
  rcases Nat.lt_succ_iff_lt_or_eq.1 hj with h1 | rfl
  · exact h j x h1 hx
  · rw [hs] at hx; cases hx; exact hz

def Fit12 (K K' : List ByteArray) (ws wl : ByteArray) : Prop := Short K ∧ Short K' ∧ ws.size ≤ 1048576 ∧ wl.size ≤ 1048576

set_option maxHeartbeats 2000000 in
theorem bytes12_calls (K K' : List ByteArray) (v v' : Value) (ws wl : ByteArray) (p q r t : Int) (w : World) (h : StrsAt w v K) (h' : StrsAt w v' K') :
    Calls Tryf.prog 12 #[v, v', .string ws, .string wl, .int .i64 p, .int .i64 q, .int .i64 r, .int .i64 t] w (Says (Fit12 K K' ws wl) w) := by
  obtain ⟨kb, ko, ⟨ka, kc, rfl, hkc, hkm, hka⟩, hks⟩ := h
  obtain ⟨kb', ko', ⟨ka', kc', rfl, hkc', hkm', hka'⟩, hks'⟩ := h'
  generalize hn : K.length = n at *
  generalize hn' : K'.length = n' at *
  have HN := hide (And.intro hn hn')
  have HK := hide hks
  have HK' := hide hks'
  have Hka := hide hka
  have Hka' := hide hka'
  clear hn hn' hks hks' hka hka'
  go_enter Tryf.func12, Tryf.ntmps12
  go_wp2_with fail
  all_goals (try (go_ret; exact Says.no))
  go_loop [17, 18] (fun a i => ∃ (N : Int) (k : Nat), 0 ≤ N ∧ N ≤ 1048576 ∧ k ≤ n ∧ a = .int .i64 N ∧ i = .int .i64 k ∧ Hid (∀ (j : Nat) x, j < k → K[j]? = some x → x.size ≤ 1048576)) (fun _ i => n - (intOf i).toNat)
  case atStart => exact ⟨_, 0, by omega, by omega, by omega, rfl, rfl, hide (fun j x hj => by omega)⟩
  case round =>
    obtain ⟨N, k, hN0, hN1, hk, rfl, rfl, hS⟩ := hrel
    by_cases hlt : k < n
    · obtain ⟨s, hs⟩ : ∃ s, K[k]? = some s := ⟨K[k]'(by rw [HN.out.1]; exact hlt), by simp⟩
      have hc := HK.out k s hs
      have hix := index_strs (cap := kc) Hka.out k hlt
      have HS := hide hs
      clear hs
      by_cases hz : s.size ≤ 1048576
      · have HST := hide (short_step HS.out hz hS.out)
        go_wp2_with fail
        · go_ret
          exact Says.no
        · exact ⟨⟨_, k + 1, by omega, by omega, by omega, rfl, by go_num, HST⟩, by simp [intOf]; omega⟩
      · have hz' : (1048576 : Int) < (s.size : Int) := by omega
        go_wp2_with fail
        go_ret
        exact Says.no
    · have HSK := hide (short_of (l := K) (n := k) (by rw [HN.out.1]; omega) hS.out)
      clear hS
      go_wp2_with fail
      all_goals (try (go_ret; exact Says.no))
      go_loop [17, 19] (fun a i => ∃ (N : Int) (k : Nat), 0 ≤ N ∧ N ≤ 1048576 ∧ k ≤ n' ∧ a = .int .i64 N ∧ i = .int .i64 k ∧ Hid (∀ (j : Nat) x, j < k → K'[j]? = some x → x.size ≤ 1048576)) (fun _ i => n' - (intOf i).toNat)
      case atStart => exact ⟨_, 0, by omega, by omega, by omega, rfl, rfl, hide (fun j x hj => by omega)⟩
      case round =>
        obtain ⟨N', k', hN0', hN1', hk', rfl, rfl, hS'⟩ := hrel
        by_cases hlt' : k' < n'
        · obtain ⟨s, hs⟩ : ∃ s, K'[k']? = some s := ⟨K'[k']'(by rw [HN.out.2]; exact hlt'), by simp⟩
          have hc := HK'.out k' s hs
          have hix := index_strs (cap := kc') Hka'.out k' hlt'
          have HS := hide hs
          clear hs
          by_cases hz : s.size ≤ 1048576
          · have HST := hide (short_step HS.out hz hS'.out)
            go_wp2_with fail
            · go_ret
              exact Says.no
            · exact ⟨⟨_, k' + 1, by omega, by omega, by omega, rfl, by go_num, HST⟩, by simp [intOf]; omega⟩
          · have hz' : (1048576 : Int) < (s.size : Int) := by omega
            go_wp2_with fail
            go_ret
            exact Says.no
        · have HSK' := hide (short_of (l := K') (n := k') (by rw [HN.out.2]; omega) hS'.out)
          clear hS'
          by_cases hz1 : ws.size ≤ 1048576
          · by_cases hz2 : wl.size ≤ 1048576
            · go_wp2_with fail
              all_goals (try (go_ret; exact Says.no))
              go_ret
              exact Says.yes ⟨HSK.out, HSK'.out, hz1, hz2⟩
            · have hz' : (1048576 : Int) < (wl.size : Int) := by omega
              go_wp2_with fail
              all_goals (go_ret; exact Says.no)
          · have hz' : (1048576 : Int) < (ws.size : Int) := by omega
            go_wp2_with fail
            all_goals (go_ret; exact Says.no)
end Go.Proofs.Qxb6616107aFmt
