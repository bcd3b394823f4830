/- THE PLAIN LAW of FnFlagLaterLayersOverride; a row of layers that is appended to; zzBytes_FnFlagLaterLayersOverride, walked. -/
import Derived.Test.Qxb6616028aFmtLast
import Derived.OwnWalk
namespace Go.Proofs.Qxb6616028aFmt
open Go.RowKit Go.Extern.Stop Go.Stop Go.Extern

theorem flagR_cons (key : ByteArray) (f : Bool) (x : ByteArray × Int) (l : List (ByteArray × Int)) :
    flagR key f (x :: l) = if x.1 = key then (if x.2 = 0 then flagR key f l else if x.2 = 1 then flagR key false l else if x.2 = 2 then flagR key true l else none) else flagR key f l := rfl
theorem flagR_append (key : ByteArray) (l2 : List (ByteArray × Int)) : ∀ (l1 : List (ByteArray × Int)) (f : Bool), flagR key f (l1 ++ l2) = (flagR key f l1).bind fun g => flagR key g l2
  | [], f => rfl
  | x :: l1, f => by
    have ih := flagR_append key l2 l1
    rw [List.cons_append, flagR_cons, flagR_cons]
    by_cases h1 : x.1 = key
    · rw [if_pos h1, if_pos h1]
      by_cases h2 : x.2 = 0
      · rw [if_pos h2, if_pos h2]; exact ih f
      · rw [if_neg h2, if_neg h2]
        by_cases h3 : x.2 = 1
        · rw [if_pos h3, if_pos h3]; exact ih false
        · rw [if_neg h3, if_neg h3]
          by_cases h4 : x.2 = 2
          · rw [if_pos h4, if_pos h4]; exact ih true
          · rw [if_neg h4, if_neg h4]; rfl
    · rw [if_neg h1, if_neg h1]; exact ih f
theorem flagB_from (key : ByteArray) : ∀ (l : List (ByteArray × Int)) (g : Bool), flagB key g l = if l.any (boolAt key) = true then flagB key false l else g
  | [], g => rfl
  | x :: l, g => by
    have hany : (x :: l).any (boolAt key) = (boolAt key x || l.any (boolAt key)) := rfl
    rw [hany]
    unfold flagB
    cases hb : boolAt key x with
    | true => simp
    | false =>
      rw [Bool.false_or]
      exact flagB_from key l g

/-- the four answers, side by side -/
def Fits (ra rb rj re : Option Bool) (bs v : Bool) : Prop :=
  (ra = none ∧ rj = none ∧ re = none) ∨ (∃ fa, ra = some fa ∧ rb = none ∧ rj = none ∧ re = some v) ∨
  (∃ fa fb, ra = some fa ∧ rb = some fb ∧ rj = some (if bs = true then fb else fa) ∧ re = some v)

theorem fits (key : ByteArray) (la lb : List (ByteArray × Int)) (v : Bool) :
    Fits (flagR key false la) (flagR key false lb) (flagR key false (la ++ lb)) (flagR key false (la ++ [(key, if v = true then 2 else 1)])) (lb.any (boolAt key)) v := by
  have he : ∀ g, flagR key g [(key, if v = true then 2 else 1)] = some v := by
    intro g
    cases v <;> simp [flagR]
  rw [flagR_append, flagR_append]
  cases ha : flagR key false la with
  | none => exact .inl ⟨rfl, rfl, rfl⟩
  | some fa =>
    right
    have e2 : ((some fa).bind fun g => flagR key g [(key, if v = true then 2 else 1)]) = some v := he fa
    have e1 : ((some fa).bind fun g => flagR key g lb) = flagR key fa lb := rfl
    rw [e1, e2, flagR_eq key lb fa, flagR_eq key lb false]
    by_cases hr : lb.any (refusedAt key) = true
    · rw [if_pos hr, if_pos hr]
      exact .inl ⟨fa, rfl, rfl, rfl, rfl⟩
    · rw [if_neg hr, if_neg hr]
      exact .inr ⟨fa, _, rfl, rfl, by rw [flagB_from key lb fa], rfl⟩

/-! ### a row of layers that is appended to -/
def cells2 (l : List (ByteArray × Int)) : List Value := l.flatMap fun x => [.string x.1, .int .i8 x.2]
theorem cells2_snoc (l : List (ByteArray × Int)) (x : ByteArray × Int) : cells2 (l ++ [x]) = cells2 l ++ [.string x.1, .int .i8 x.2] := by simp [cells2]
theorem cells2_at : ∀ (l : List (ByteArray × Int)) (i : Nat) (x : ByteArray × Int), l[i]? = some x → (cells2 l)[i * 2]? = some (.string x.1) ∧ (cells2 l)[i * 2 + 1]? = some (.int .i8 x.2)
  | [], i, x, h => by simp at h
  | y :: l, 0, x, h => by
    simp at h
    subst h
    simp [cells2]
  | y :: l, i + 1, x, h => by
    have ih := cells2_at l i x (by simpa using h)
    have e : cells2 (y :: l) = .string y.1 :: .int .i8 y.2 :: cells2 l := rfl
    rw [e, show (i + 1) * 2 = i * 2 + 1 + 1 by omega]
    simpa using ih
theorem cell_two_new (w : World) (c0 c1 : Value) (e : TypeId) : ∀ (j : Nat) u, [c0, c1][j]? = some u → (w.alloc (.cells #[c0, c1] e)).cell? ((⟨w.heap.size, 0, none⟩ : Addr).add j) = some u := by
  intro j u h
  rw [Addr.add_mid, Nat.zero_add]
  exact cell_new w _ e j u (by simpa using h)
theorem lays_of_own {w : World} {base g n cap : Nat} {l : List (ByteArray × Int)} (h : w.ownsRow base 27 2 (.slice (some ⟨g, 0, none⟩) n cap) n (cells2 l)) (hl : l.length = n) : LaysAt w (.slice (some ⟨g, 0, none⟩) n cap) l := by
  obtain ⟨_, h2⟩ := h
  rcases h2 with ⟨h2, _⟩ | ⟨g', cap', cur, hv, _, hh, hc, hm, hs, ht⟩
  · cases h2
  · cases hv
    refine ⟨g, 0, ⟨_, cap, by rw [hl], by omega, hm, .inr rfl⟩, fun i x hx => ?_⟩
    have hi : i < n := by rw [← hl]; exact (List.getElem?_eq_some_iff.1 hx).1
    obtain ⟨q1, q2⟩ := cells2_at l i x hx
    rw [← ht, List.getElem?_take_of_lt (by omega)] at q1 q2
    rw [Nat.zero_add]
    unfold World.cell?
    simp only [hh]
    exact ⟨by simpa using q1, by simpa using q2⟩

theorem zzbytes9_calls (la lb : List (ByteArray × Int)) (va vb : Value) (key : ByteArray) (v : Bool) (w : World) (h : LaysAt w va la) (h' : LaysAt w vb lb) :
    Calls Tryf.prog 9 #[va, vb, .string key, .bool v] w fun e w' => IsBool e ∧ w' = w := by
  obtain ⟨b, o, ⟨a, p, rfl, hp0, hm1, ha⟩, hd⟩ := h
  have HA := hide ha
  have HD := hide hd
  clear ha hd
  obtain ⟨n, hnl⟩ : ∃ n, n = la.length := ⟨_, rfl⟩
  rw [← hnl] at HA hp0 ⊢
  have HN := hide hnl
  unfold maxLen at hm1
  clear hnl
  obtain ⟨b', o', ⟨a', p', rfl, hp0', hm1', ha'⟩, hd'⟩ := h'
  have HA' := hide ha'
  have HD' := hide hd'
  clear ha' hd'
  obtain ⟨n', hnl'⟩ : ∃ n', n' = lb.length := ⟨_, rfl⟩
  rw [← hnl'] at HA' hp0' ⊢
  have HN' := hide hnl'
  unfold maxLen at hm1'
  clear hnl'
  go_enter Tryf.func9, Tryf.ntmps9
  go_wp2_with fail
  all_goals (try (go_ret; exact ⟨⟨_, rfl⟩, rfl⟩))
  go_loop [9, 10] (fun c i => ∃ (k : Nat) (N : Int), k ≤ n ∧ i = .int .i64 k ∧ c = .int .i64 N ∧ 0 ≤ N ∧ N ≤ 1048576) (fun _ i => n - (intOf i).toNat)
  case atStart => exact ⟨0, _, by omega, rfl, rfl, by omega, by omega⟩
  case round =>
    obtain ⟨k, N, hk, rfl, rfl, hN0, hN1⟩ := hrel
    by_cases hlt : k < n
    · obtain ⟨x, hx⟩ : ∃ x, la[k]? = some x := ⟨la[k]'(by rw [← HN.out]; exact hlt), by simp⟩
      obtain ⟨hc1, _⟩ := HD.out k x hx
      have hi1 := index_lays (cap := p) HA.out k hlt
      clear hx
      go_wp2_with fail
      all_goals (try (go_ret; exact ⟨⟨_, rfl⟩, rfl⟩))
      exact ⟨⟨k + 1, _, by omega, by go_num, rfl, by omega, by omega⟩, by simp [intOf]; omega⟩
    · go_wp2_with fail
      all_goals (try (go_ret; exact ⟨⟨_, rfl⟩, rfl⟩))
      go_loop [9, 11] (fun c i => ∃ (k : Nat) (N : Int), k ≤ n' ∧ i = .int .i64 k ∧ c = .int .i64 N ∧ 0 ≤ N ∧ N ≤ 1048576) (fun _ i => n' - (intOf i).toNat)
      case atStart => exact ⟨0, _, by omega, rfl, rfl, by omega, by omega⟩
      case round =>
        obtain ⟨k', N', hk', rfl, rfl, hN0', hN1'⟩ := hrel
        by_cases hlt' : k' < n'
        · obtain ⟨x, hx⟩ : ∃ x, lb[k']? = some x := ⟨lb[k']'(by rw [← HN'.out]; exact hlt'), by simp⟩
          obtain ⟨hc1, _⟩ := HD'.out k' x hx
          have hi1 := index_lays (cap := p') HA'.out k' hlt'
          clear hx
          go_wp2_with fail
          all_goals (try (go_ret; exact ⟨⟨_, rfl⟩, rfl⟩))
          exact ⟨⟨k' + 1, _, by omega, by go_num, rfl, by omega, by omega⟩, by simp [intOf]; omega⟩
        · go_wp2_with fail
          all_goals (go_ret; exact ⟨⟨_, rfl⟩, rfl⟩)
end Go.Proofs.Qxb6616028aFmt
