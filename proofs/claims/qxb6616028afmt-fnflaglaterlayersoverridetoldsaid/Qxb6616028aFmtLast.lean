/- FnFlagLastBooleanLayerDecides, walked. -/
import Derived.Test.Qxb6616028aFmtCall
namespace Go.Proofs.Qxb6616028aFmt
open Go.RowKit Go.Extern.Stop Go.Stop Go.Extern

/-! ### the plain law -/
def refusedAt (key : ByteArray) (x : ByteArray × Int) : Bool := decide (x.1 = key) && decide (kindOf x.2 = 2)
def boolAt (key : ByteArray) (x : ByteArray × Int) : Bool := decide (x.1 = key) && decide (kindOf x.2 = 1)
def flagB (key : ByteArray) : Bool → List (ByteArray × Int) → Bool
  | f, [] => f
  | f, x :: l => flagB key (if boolAt key x = true then decide (x.2 = 2) else f) l
theorem flagR_eq (key : ByteArray) : ∀ (l : List (ByteArray × Int)) (f : Bool), flagR key f l = if l.any (refusedAt key) = true then none else some (flagB key f l)
  | [], f => rfl
  | x :: l, f => by
    have ih := flagR_eq key l
    have hany : (x :: l).any (refusedAt key) = (refusedAt key x || l.any (refusedAt key)) := rfl
    have hrx : refusedAt key x = (decide (x.1 = key) && decide (kindOf x.2 = 2)) := rfl
    have hbx : boolAt key x = (decide (x.1 = key) && decide (kindOf x.2 = 1)) := rfl
    unfold flagR flagB
    rw [hany, hrx, hbx]
    by_cases h1 : x.1 = key
    · rw [if_pos h1, decide_eq_true h1, Bool.true_and, Bool.true_and]
      by_cases h2 : x.2 = 0
      · have hk : kindOf x.2 = 0 := by rw [h2]; rfl
        rw [if_pos h2, hk, ih]; rfl
      · by_cases h3 : x.2 = 1
        · have hk : kindOf x.2 = 1 := by rw [h3]; rfl
          rw [if_neg h2, if_pos h3, hk, ih, decide_eq_false (show ¬ x.2 = 2 by omega)]; rfl
        · by_cases h4 : x.2 = 2
          · have hk : kindOf x.2 = 1 := by rw [h4]; rfl
            rw [if_neg h2, if_neg h3, if_pos h4, hk, ih, decide_eq_true h4]; rfl
          · have hk : kindOf x.2 = 2 := by unfold kindOf; rw [if_neg h2, if_neg (by omega)]
            rw [if_neg h2, if_neg h3, if_neg h4, hk]; rfl
    · rw [if_neg h1, decide_eq_false h1, Bool.false_and, Bool.false_and, Bool.false_or, ih]
      rfl
theorem flagB_snoc (key : ByteArray) (x : ByteArray × Int) : ∀ (l : List (ByteArray × Int)) (f : Bool), flagB key f (l ++ [x]) = if boolAt key x = true then decide (x.2 = 2) else flagB key f l
  | [], f => rfl
  | y :: l, f => by
    rw [List.cons_append, flagB, flagB_snoc key x l]
    rfl
theorem any_drop {α : Type} (p : α → Bool) {l : List α} {k : Nat} {x : α} (hx : l[k]? = some x) : (l.drop k).any p = (p x || (l.drop (k + 1)).any p) := by
  have h1 : k < l.length := (List.getElem?_eq_some_iff.1 hx).1
  rw [List.drop_eq_getElem_cons h1]
  have : l[k] = x := (List.getElem?_eq_some_iff.1 hx).2
  rw [this]
  rfl
theorem take_snoc {α : Type} {l : List α} {k : Nat} {x : α} (hx : l[k]? = some x) : l.take (k + 1) = l.take k ++ [x] := by
  have h1 : k < l.length := (List.getElem?_eq_some_iff.1 hx).1
  rw [List.take_add_one, hx]
  rfl
theorem beq_true {a b : ByteArray} (h : a = b) : (a == b) = true := by rw [h, beq_toListBytes]; simp
theorem beq_false {a b : ByteArray} (h : ¬ a = b) : (a == b) = false := by rw [beq_toListBytes, beq_eq_false_iff_ne]; exact fun e => h (str_inj e)

set_option maxHeartbeats 2000000 in
theorem last_calls (F : Interp) (l : List (ByteArray × Int)) (v : Value) (key : ByteArray) (w : World) (hF : F.answers w.tape) (h : LaysAt w v l) :
    Calls Tryf.prog 3 #[v, .string key] w fun e w' => e = .returned (.bool true) ∧ Below w.heap.size w w' := by
  have HL := hide h
  have HF := hide hF
  obtain ⟨b, o, ⟨a, p, rfl, hp0, hm1, ha⟩, hd⟩ := h
  have HA := hide ha
  have HD := hide hd
  clear ha hd hF
  unfold maxLen at hm1
  obtain ⟨n, hnl⟩ : ∃ n, n = l.length := ⟨_, rfl⟩
  rw [← hnl] at HA HL hp0 ⊢
  have HN := hide hnl
  clear hnl
  go_enter Tryf.func3, Tryf.ntmps3
  go_wp2_with (first | (go_at_call 5; refine (zzbytes_calls l _ key _ HL.out).mono ?_; rintro e w4 ⟨⟨r5, rfl⟩, hw⟩; obtain rfl := hw.symm; clear hw; cases r5) | (go_at_call 6; refine (bytes_calls l _ 1048576 _ HL.out (by omega) (by omega)).mono ?_; rintro e w4 ⟨r6, rfl, hr0, hr1, hr2, hw⟩; obtain rfl := hw.symm; clear hw; have HR2 := hide hr2; clear hr2))
  all_goals (try (go_ret; exact ⟨rfl, Below.refl _ _⟩))
  have hn16 : n ≤ 65536 := by have := HR2.out (by omega); have := HN.out; omega
  clear HR2
  go_loop [6, 7] (fun c i => ∃ (k : Nat) (r : Bool), k ≤ n ∧ i = .int .i64 k ∧ c = .bool r ∧ Hid (l.any (refusedAt key) = (r || (l.drop k).any (refusedAt key)))) (fun _ i => n - (intOf i).toNat)
  case atStart => exact ⟨0, false, by omega, rfl, rfl, hide rfl⟩
  case round =>
    obtain ⟨k, r, hk, rfl, rfl, HR⟩ := hrel
    by_cases hlt : k < n
    · obtain ⟨x, hx⟩ : ∃ x, l[k]? = some x := ⟨l[k]'(by rw [← HN.out]; exact hlt), by simp⟩
      obtain ⟨hc1, hc2⟩ := HD.out k x hx
      have hi1 := index_lays (cap := p) HA.out k hlt
      have hst := any_drop (refusedAt key) hx
      have hrx : refusedAt key x = (decide (x.1 = key) && decide (kindOf x.2 = 2)) := rfl
      by_cases hke : x.1 = key
      · have hbe : x.1.toList = key.toList := by rw [hke]
        by_cases hkd : kindOf x.2 = 2
        · have HR1 : Hid (l.any (refusedAt key) = (true || (l.drop (k + 1)).any (refusedAt key))) := by refine hide ?_; rw [HR.out, hst, hrx, decide_eq_true hke, decide_eq_true hkd]; simp
          have hkb : (kindOf x.2 == 2) = true := by simpa using hkd
          clear hx hst hrx hke HR hkd
          go_wp2_with (first | (go_at_call 7; refine (kindOf_calls x.2 _).mono ?_; rintro e w4 ⟨rfl, hw⟩; obtain rfl := hw.symm; clear hw))
          exact ⟨⟨k + 1, _, by omega, by go_num, rfl, HR1⟩, by simp [intOf]; omega⟩
        · have HR1 : Hid (l.any (refusedAt key) = (r || (l.drop (k + 1)).any (refusedAt key))) := by refine hide ?_; rw [HR.out, hst, hrx, decide_eq_true hke, decide_eq_false hkd]; simp
          have hkb : (kindOf x.2 == 2) = false := by simpa using hkd
          clear hx hst hrx hke HR hkd
          go_wp2_with (first | (go_at_call 7; refine (kindOf_calls x.2 _).mono ?_; rintro e w4 ⟨rfl, hw⟩; obtain rfl := hw.symm; clear hw))
          exact ⟨⟨k + 1, _, by omega, by go_num, rfl, HR1⟩, by simp [intOf]; omega⟩
      · have hbe : ¬ x.1.toList = key.toList := fun e => hke (str_inj e)
        have HR1 : Hid (l.any (refusedAt key) = (r || (l.drop (k + 1)).any (refusedAt key))) := by refine hide ?_; rw [HR.out, hst, hrx, decide_eq_false hke]; simp
        clear hx hst hrx hke HR
        go_wp2_with (first | (go_at_call 7; refine (kindOf_calls x.2 _).mono ?_; rintro e w4 ⟨rfl, hw⟩; obtain rfl := hw.symm; clear hw))
        exact ⟨⟨k + 1, _, by omega, by go_num, rfl, HR1⟩, by simp [intOf]; omega⟩
    · obtain rfl : k = n := by omega
      have HRF : Hid (l.any (refusedAt key) = r) := by refine hide ?_; rw [HR.out, List.drop_eq_nil_of_le (by rw [← HN.out]; exact Nat.le_refl _)]; simp
      clear HR
      go_wp2_with fail
      go_loop [8, 9] (fun c i => ∃ (j : Nat), j ≤ k ∧ i = .int .i64 ((j : Int) - 1) ∧ c = .bool false ∧ Hid (flagB key false l = flagB key false (l.take j))) (fun _ i => (intOf i + 1).toNat)
      case atStart => exact ⟨k, Nat.le_refl _, rfl, rfl, hide (by rw [List.take_of_length_le (by rw [← HN.out]; exact Nat.le_refl _)])⟩
      case round =>
        obtain ⟨j, hj, rfl, rfl, HB⟩ := hrel
        cases j with
        | zero =>
          have HW : Hid (flagR key false l = if r = true then none else some false) := hide (by rw [flagR_eq, HRF.out, HB.out]; rfl)
          have e0 : (((0 : Nat) : Int) - 1) = -1 := by omega
          rw [e0]
          clear HB HRF
          cases r with
          | true =>
            go_wp2_with (first | (go_at_call 8; refine (call_calls F l _ key _ HF.out HL.out (by rw [← HN.out]; omega)).mono ?_; rintro e w4 ⟨rfl, hb4⟩; rw [HW.out]; simp only [pairOf]))
            go_ret
            exact ⟨rfl, hb4⟩
          | false =>
            go_wp2_with (first | (go_at_call 8; refine (call_calls F l _ key _ HF.out HL.out (by rw [← HN.out]; omega)).mono ?_; rintro e w4 ⟨rfl, hb4⟩; rw [HW.out]; simp only [pairOf]))
            go_ret
            exact ⟨rfl, hb4⟩
        | succ m =>
          have e0 : (((m + 1 : Nat) : Int) - 1) = (m : Int) := by omega
          rw [e0]
          have hlt2 : m < k := by omega
          obtain ⟨x, hx⟩ : ∃ x, l[m]? = some x := ⟨l[m]'(by rw [← HN.out]; exact hlt2), by simp⟩
          obtain ⟨hc1, hc2⟩ := HD.out m x hx
          have hi1 := index_lays (cap := p) HA.out m hlt2
          have hst : flagB key false l = if boolAt key x = true then decide (x.2 = 2) else flagB key false (l.take m) := by rw [HB.out, take_snoc hx, flagB_snoc]
          have hrx : boolAt key x = (decide (x.1 = key) && decide (kindOf x.2 = 1)) := rfl
          by_cases hke : x.1 = key
          · have hbe : x.1.toList = key.toList := by rw [hke]
            by_cases hkd : kindOf x.2 = 1
            · have HW : Hid (flagR key false l = if r = true then none else some (decide (x.2 = 2))) := hide (by rw [flagR_eq, HRF.out, hst, hrx, decide_eq_true hke, decide_eq_true hkd]; rfl)
              have hcs : x.2 = 1 ∨ x.2 = 2 := by
                unfold kindOf at hkd
                by_cases h2 : x.2 = 0
                · rw [if_pos h2] at hkd; omega
                · rw [if_neg h2] at hkd
                  by_cases h3 : x.2 = 1 ∨ x.2 = 2
                  · exact h3
                  · rw [if_neg h3] at hkd; omega
              clear hx hst hrx hke hkd HB HRF
              generalize x.1 = xk at *
              generalize x.2 = c at *
              rcases hcs with rfl | rfl
              · have hk1 : kindOf 1 = 1 := rfl
                cases r with
                | true =>
                  go_wp2_with (first | (go_at_call 7; refine (kindOf_calls 1 _).mono ?_; rintro e w4 ⟨rfl, hw⟩; obtain rfl := hw.symm; clear hw) | (go_at_call 8; refine (call_calls F l _ key _ HF.out HL.out (by rw [← HN.out]; omega)).mono ?_; rintro e w4 ⟨rfl, hb4⟩; rw [HW.out]; simp only [pairOf]))
                  go_ret
                  exact ⟨rfl, hb4⟩
                | false =>
                  go_wp2_with (first | (go_at_call 7; refine (kindOf_calls 1 _).mono ?_; rintro e w4 ⟨rfl, hw⟩; obtain rfl := hw.symm; clear hw) | (go_at_call 8; refine (call_calls F l _ key _ HF.out HL.out (by rw [← HN.out]; omega)).mono ?_; rintro e w4 ⟨rfl, hb4⟩; rw [HW.out]; simp only [pairOf]))
                  go_ret
                  exact ⟨rfl, hb4⟩
              · have hk1 : kindOf 2 = 1 := rfl
                cases r with
                | true =>
                  go_wp2_with (first | (go_at_call 7; refine (kindOf_calls 2 _).mono ?_; rintro e w4 ⟨rfl, hw⟩; obtain rfl := hw.symm; clear hw) | (go_at_call 8; refine (call_calls F l _ key _ HF.out HL.out (by rw [← HN.out]; omega)).mono ?_; rintro e w4 ⟨rfl, hb4⟩; rw [HW.out]; simp only [pairOf]))
                  go_ret
                  exact ⟨rfl, hb4⟩
                | false =>
                  go_wp2_with (first | (go_at_call 7; refine (kindOf_calls 2 _).mono ?_; rintro e w4 ⟨rfl, hw⟩; obtain rfl := hw.symm; clear hw) | (go_at_call 8; refine (call_calls F l _ key _ HF.out HL.out (by rw [← HN.out]; omega)).mono ?_; rintro e w4 ⟨rfl, hb4⟩; rw [HW.out]; simp only [pairOf]))
                  go_ret
                  exact ⟨rfl, hb4⟩
            · have hkb : (kindOf x.2 == 1) = false := by simpa using hkd
              have HB1 : Hid (flagB key false l = flagB key false (l.take m)) := hide (by rw [hst, hrx, decide_eq_true hke, decide_eq_false hkd]; rfl)
              clear hx hst hrx hke hkd HB
              go_wp2_with (first | (go_at_call 7; refine (kindOf_calls x.2 _).mono ?_; rintro e w4 ⟨rfl, hw⟩; obtain rfl := hw.symm; clear hw))
              exact ⟨⟨m, by omega, rfl, rfl, HB1⟩, by simp [intOf]⟩
          · have hbe : ¬ x.1.toList = key.toList := fun e => hke (str_inj e)
            have HB1 : Hid (flagB key false l = flagB key false (l.take m)) := hide (by rw [hst, hrx, decide_eq_false hke]; rfl)
            clear hx hst hrx hke HB
            go_wp2_with (first | (go_at_call 7; refine (kindOf_calls x.2 _).mono ?_; rintro e w4 ⟨rfl, hw⟩; obtain rfl := hw.symm; clear hw))
            exact ⟨⟨m, by omega, rfl, rfl, HB1⟩, by simp [intOf]⟩
end Go.Proofs.Qxb6616028aFmt
