/- zzCountsT, zzCountsZZ: the strings, numbers, trues and falses of a tree. -/
import Derived.Test.Qxb6616028aHeap
import Derived.Test.Qxb6616028aNF
import Derived.Deep.LoopGhost
import Derived.Deep.RegionHeld3
namespace Go.Proofs.Qxb6616028a
open Go.RowKit

structure C4 where
  s : Int
  n : Int
  t : Int
  f : Int
def C4.zero : C4 := ⟨0, 0, 0, 0⟩
def wadd (a b : Int) : Int := wrap64 (a + b)
def C4.add (a b : C4) : C4 := ⟨wadd a.s b.s, wadd a.n b.n, wadd a.t b.t, wadd a.f b.f⟩
def c4V (c : C4) : Value := .tuple #[.int .i64 c.s, .int .i64 c.n, .int .i64 c.t, .int .i64 c.f]

def cnt : (n : Nat) → Tr n → C4
  | 0, _ => C4.zero
  | n + 1, t =>
    let t : Node (Tr n) := t
    if t.kind = 1 then (if t.flag then ⟨0, 0, 1, 0⟩ else ⟨0, 0, 0, 1⟩)
    else if t.kind = 2 then ⟨1, 0, 0, 0⟩
    else if t.kind = 3 then ⟨0, 1, 0, 0⟩
    else if t.kind = 4 ∨ t.kind = 5 then (t.kids.map (cnt n)).foldl C4.add C4.zero
    else C4.zero
theorem cnt_succ (n : Nat) (t : Node (Tr n)) : cnt (n + 1) t = if t.kind = 1 then (if t.flag then ⟨0, 0, 1, 0⟩ else ⟨0, 0, 0, 1⟩)
    else if t.kind = 2 then ⟨1, 0, 0, 0⟩
    else if t.kind = 3 then ⟨0, 1, 0, 0⟩
    else if t.kind = 4 ∨ t.kind = 5 then (t.kids.map (cnt n)).foldl C4.add C4.zero
    else C4.zero := rfl
theorem take_succ_of {α : Type} {l : List α} {k : Nat} {x : α} (h : l[k]? = some x) : l.take (k + 1) = l.take k ++ [x] := by
  rw [List.take_add_one, h]; rfl

theorem ret4 {fn : Func} {p q r s : Tmp} (h : fn.results = #[.tmp p, .tmp q, .tmp r, .tmp s]) {a : Act} {w : World} {x y z u : Value} {R : Ending → World → Prop}
    (hp : a.tmps.getD p undef = x) (hq : a.tmps.getD q undef = y) (hr : a.tmps.getD r undef = z) (hs : a.tmps.getD s undef = u) (hd : a.defers = [])
    (hR : R (.returned (.tuple #[x, y, z, u])) w) : bodyPost Try.prog fn R .ret a w := by
  refine bodyPost_ret (v := .tuple #[x, y, z, u]) ?_ hd hR
  simp only [Array.getD_eq_getD_getElem?] at hp hq hr hs
  simp [results, h, hp, hq, hr, hs]

set_option maxHeartbeats 2000000 in
theorem countsT_calls (n : Nat) : ∀ (t : Tr n) (v : Value) (w : World), TreeAt Whole w n v t →
    Calls Try.prog 20 #[v] w (fun e w' => e = .returned (c4V (cnt n t)) ∧ Below w.heap.size w w') := by
  induction n with
  | zero => intro t v w h; exact h.elim
  | succ n ih =>
    intro t v w hT
    have IH := hide ih
    clear ih
    obtain ⟨ks, kd, rfl, ⟨kb, ko, ⟨ka, kc, rfl, hkc, hkm, hka, _⟩, hks⟩, ⟨db, dof, ⟨da, dc, rfl, hdc, hdm, hda, _⟩, hkd⟩⟩ := hT
    have hdef := cnt_succ n t
    generalize hkn : t.keys.length = kn at *
    generalize hdn : t.kids.length = dn at *
    generalize t.kind = kind at *
    generalize t.flag = flag at *
    generalize t.text = text at *
    have hdl : dn ≤ maxLen := Nat.le_trans hdc hdm
    unfold maxLen at hdl
    have Hdn := hide hdn
    have HDEF := hide hdef
    clear hkn hdn hdef
    have hid2 := hide hkd
    clear hks hkd
    have hda' := hide hda
    clear hka hda
    have hbW := (Below.refl w.heap.size w).alloc (Nat.le_refl _) (.cells #[.int .i8 kind, .bool flag, .string text, .slice ka kn kc, .slice da dn dc] 26)
    have HBW := hide hbW
    clear hbW
    by_cases h1 : kind = 1
    · subst h1
      have hd := HDEF.out
      rw [if_pos rfl] at hd
      have HD := hide hd
      clear hd HDEF
      cases flag
      · go_enter Try.func20, Try.ntmps20
        go_wp2_with fail
        refine ret4 Try.results20 rfl rfl rfl rfl rfl ⟨by rw [HD.out]; rfl, HBW.out⟩
      · go_enter Try.func20, Try.ntmps20
        go_wp2_with fail
        refine ret4 Try.results20 rfl rfl rfl rfl rfl ⟨by rw [HD.out]; rfl, HBW.out⟩
    by_cases h2 : kind = 2
    · subst h2
      have HD := hide (HDEF.out.trans ((if_neg (by decide)).trans (if_pos rfl)))
      clear HDEF h1
      go_enter Try.func20, Try.ntmps20
      go_wp2_with fail
      refine ret4 Try.results20 rfl rfl rfl rfl rfl ⟨by rw [HD.out]; rfl, HBW.out⟩
    by_cases h3 : kind = 3
    · subst h3
      have HD := hide (HDEF.out.trans ((if_neg (by decide)).trans ((if_neg (by decide)).trans (if_pos rfl))))
      clear HDEF h1 h2
      go_enter Try.func20, Try.ntmps20
      go_wp2_with fail
      refine ret4 Try.results20 rfl rfl rfl rfl rfl ⟨by rw [HD.out]; rfl, HBW.out⟩
    by_cases h45 : kind = 4 ∨ kind = 5
    · have HD := hide (HDEF.out.trans ((if_neg h1).trans ((if_neg h2).trans ((if_neg h3).trans (if_pos h45)))))
      clear HDEF h1 h2 h3
      rcases h45 with rfl | rfl
      · go_enter Try.func20, Try.ntmps20
        go_wp2_with fail
        go_loopw [6, 7, 8, 9, 31] (fun p q r s i wr => ∃ (k : Nat) (c : C4), k ≤ dn ∧ i = .int .i64 k ∧ p = .int .i64 c.s ∧ q = .int .i64 c.n ∧ r = .int .i64 c.t ∧ s = .int .i64 c.f ∧ Below (w.heap.size + 1) (w.alloc (.cells #[.int .i8 4, .bool flag, .string text, .slice ka kn kc, .slice da dn dc] 26)) wr ∧ Hid (((t.kids.take k).map (cnt n)).foldl C4.add C4.zero = c)) (fun _ _ _ _ i _ => dn - (intOf i).toNat)
        case atStart => exact ⟨0, C4.zero, Nat.zero_le _, rfl, rfl, rfl, rfl, rfl, Below.refl _ _, hide rfl⟩
        case round =>
          obtain ⟨k, c, hk, rfl, rfl, rfl, rfl, rfl, hB, hS⟩ := hrel
          have hb0 : Below w.heap.size w wr := HBW.out.trans (hB.mono (by omega))
          have hbox : wr.cell? ⟨w.heap.size, 4, none⟩ = some (.slice da dn dc) := by rw [hB.cell (by simp)]; simp
          have HB := hide hB
          clear hB
          by_cases hlt : k < dn
          · obtain ⟨x, hx⟩ : ∃ x, t.kids[k]? = some x := ⟨t.kids[k]'(by rw [Hdn.out]; exact hlt), by simp⟩
            obtain ⟨c0, c1, c2, c3, c4, hr, htr⟩ := hid2.out k x hx
            have hix := index_trees (cap := dc) hda'.out k hlt
            have hrr := rangeAt_later hb0 hr
            have e0 : wr.cell? ⟨db, dof + k * 5, none⟩ = some c0 := hrr 0 c0 rfl
            have e1 : wr.cell? ⟨db, dof + k * 5 + 1, none⟩ = some c1 := hrr 1 c1 rfl
            have e2 : wr.cell? ⟨db, dof + k * 5 + 2, none⟩ = some c2 := hrr 2 c2 rfl
            have e3 : wr.cell? ⟨db, dof + k * 5 + 3, none⟩ = some c3 := hrr 3 c3 rfl
            have e4 : wr.cell? ⟨db, dof + k * 5 + 4, none⟩ = some c4 := hrr 4 c4 rfl
            clear hrr
            have HX := hide hx
            have HR := hide htr
            clear hx htr hr
            go_wp2_with fail
            refine (IH.out x _ _ (HR.out.below hb0)).mono ?_
            rintro e w1 ⟨rfl, hb1⟩
            have HB1 := hide (HB.out.trans (hb1.mono (by have := HB.out.size; simpa using this)))
            have HCX : Hid (((t.kids.take (k + 1)).map (cnt n)).foldl C4.add C4.zero = C4.add c (cnt n x)) := hide (by
              rw [take_succ_of HX.out, List.map_append, List.foldl_append, hS.out]; rfl)
            clear hb1 hS
            generalize cnt n x = d at *
            obtain ⟨ds, dn', dt, df⟩ := d
            obtain ⟨cs, cn, ct, cf⟩ := c
            dsimp only [c4V]
            go_wp2_with fail
            go_roundw
            case rel => exact ⟨k + 1, _, by omega, by go_num, rfl, rfl, rfl, rfl, HB1.out, HCX⟩
            case measure => simp [intOf]; omega
          · obtain rfl : k = dn := by omega
            go_wp2_with fail
            refine ret4 Try.results20 rfl rfl rfl rfl rfl ⟨?_, hb0⟩
            rw [HD.out, ← hS.out, ← Hdn.out, List.take_length]
            rfl
      · go_enter Try.func20, Try.ntmps20
        go_wp2_with fail
        go_loopw [6, 7, 8, 9, 31] (fun p q r s i wr => ∃ (k : Nat) (c : C4), k ≤ dn ∧ i = .int .i64 k ∧ p = .int .i64 c.s ∧ q = .int .i64 c.n ∧ r = .int .i64 c.t ∧ s = .int .i64 c.f ∧ Below (w.heap.size + 1) (w.alloc (.cells #[.int .i8 5, .bool flag, .string text, .slice ka kn kc, .slice da dn dc] 26)) wr ∧ Hid (((t.kids.take k).map (cnt n)).foldl C4.add C4.zero = c)) (fun _ _ _ _ i _ => dn - (intOf i).toNat)
        case atStart => exact ⟨0, C4.zero, Nat.zero_le _, rfl, rfl, rfl, rfl, rfl, Below.refl _ _, hide rfl⟩
        case round =>
          obtain ⟨k, c, hk, rfl, rfl, rfl, rfl, rfl, hB, hS⟩ := hrel
          have hb0 : Below w.heap.size w wr := HBW.out.trans (hB.mono (by omega))
          have hbox : wr.cell? ⟨w.heap.size, 4, none⟩ = some (.slice da dn dc) := by rw [hB.cell (by simp)]; simp
          have HB := hide hB
          clear hB
          by_cases hlt : k < dn
          · obtain ⟨x, hx⟩ : ∃ x, t.kids[k]? = some x := ⟨t.kids[k]'(by rw [Hdn.out]; exact hlt), by simp⟩
            obtain ⟨c0, c1, c2, c3, c4, hr, htr⟩ := hid2.out k x hx
            have hix := index_trees (cap := dc) hda'.out k hlt
            have hrr := rangeAt_later hb0 hr
            have e0 : wr.cell? ⟨db, dof + k * 5, none⟩ = some c0 := hrr 0 c0 rfl
            have e1 : wr.cell? ⟨db, dof + k * 5 + 1, none⟩ = some c1 := hrr 1 c1 rfl
            have e2 : wr.cell? ⟨db, dof + k * 5 + 2, none⟩ = some c2 := hrr 2 c2 rfl
            have e3 : wr.cell? ⟨db, dof + k * 5 + 3, none⟩ = some c3 := hrr 3 c3 rfl
            have e4 : wr.cell? ⟨db, dof + k * 5 + 4, none⟩ = some c4 := hrr 4 c4 rfl
            clear hrr
            have HX := hide hx
            have HR := hide htr
            clear hx htr hr
            go_wp2_with fail
            refine (IH.out x _ _ (HR.out.below hb0)).mono ?_
            rintro e w1 ⟨rfl, hb1⟩
            have HB1 := hide (HB.out.trans (hb1.mono (by have := HB.out.size; simpa using this)))
            have HCX : Hid (((t.kids.take (k + 1)).map (cnt n)).foldl C4.add C4.zero = C4.add c (cnt n x)) := hide (by
              rw [take_succ_of HX.out, List.map_append, List.foldl_append, hS.out]; rfl)
            clear hb1 hS
            generalize cnt n x = d at *
            obtain ⟨ds, dn', dt, df⟩ := d
            obtain ⟨cs, cn, ct, cf⟩ := c
            dsimp only [c4V]
            go_wp2_with fail
            go_roundw
            case rel => exact ⟨k + 1, _, by omega, by go_num, rfl, rfl, rfl, rfl, HB1.out, HCX⟩
            case measure => simp [intOf]; omega
          · obtain rfl : k = dn := by omega
            go_wp2_with fail
            refine ret4 Try.results20 rfl rfl rfl rfl rfl ⟨?_, hb0⟩
            rw [HD.out, ← hS.out, ← Hdn.out, List.take_length]
            rfl
    · have HD := hide (HDEF.out.trans ((if_neg h1).trans ((if_neg h2).trans ((if_neg h3).trans (if_neg h45)))))
      have h4 : kind ≠ 4 := fun h => h45 (.inl h)
      have h5 : kind ≠ 5 := fun h => h45 (.inr h)
      clear HDEF h45
      go_enter Try.func20, Try.ntmps20
      go_wp2_with fail
      refine ret4 Try.results20 rfl rfl rfl rfl rfl ⟨by rw [HD.out]; rfl, HBW.out⟩

set_option maxHeartbeats 2000000 in
theorem countsZZ_calls (n : Nat) : ∀ (t : Tr n) (v : Value) (w : World), TreeAt Whole w n v t →
    Calls Try.prog 19 #[v] w (fun e w' => e = .returned (c4V (cnt n t)) ∧ Below w.heap.size w w') := by
  induction n with
  | zero => intro t v w h; exact h.elim
  | succ n ih =>
    intro t v w hT
    have IH := hide ih
    clear ih
    obtain ⟨ks, kd, rfl, ⟨kb, ko, ⟨ka, kc, rfl, hkc, hkm, hka, _⟩, hks⟩, ⟨db, dof, ⟨da, dc, rfl, hdc, hdm, hda, _⟩, hkd⟩⟩ := hT
    have hdef := cnt_succ n t
    generalize hkn : t.keys.length = kn at *
    generalize hdn : t.kids.length = dn at *
    generalize t.kind = kind at *
    generalize t.flag = flag at *
    generalize t.text = text at *
    have hdl : dn ≤ maxLen := Nat.le_trans hdc hdm
    unfold maxLen at hdl
    have Hdn := hide hdn
    have HDEF := hide hdef
    clear hkn hdn hdef
    have hid2 := hide hkd
    clear hks hkd
    have hda' := hide hda
    clear hka hda
    have hbW := (Below.refl w.heap.size w).alloc (Nat.le_refl _) (.cells #[.int .i8 kind, .bool flag, .string text, .slice ka kn kc, .slice da dn dc] 31)
    have HBW := hide hbW
    clear hbW
    by_cases h1 : kind = 1
    · subst h1
      have hd := HDEF.out
      rw [if_pos rfl] at hd
      have HD := hide hd
      clear hd HDEF
      cases flag
      · go_enter Try.func19, Try.ntmps19
        go_wp2_with fail
        refine ret4 Try.results19 rfl rfl rfl rfl rfl ⟨by rw [HD.out]; rfl, HBW.out⟩
      · go_enter Try.func19, Try.ntmps19
        go_wp2_with fail
        refine ret4 Try.results19 rfl rfl rfl rfl rfl ⟨by rw [HD.out]; rfl, HBW.out⟩
    by_cases h2 : kind = 2
    · subst h2
      have HD := hide (HDEF.out.trans ((if_neg (by decide)).trans (if_pos rfl)))
      clear HDEF h1
      go_enter Try.func19, Try.ntmps19
      go_wp2_with fail
      refine ret4 Try.results19 rfl rfl rfl rfl rfl ⟨by rw [HD.out]; rfl, HBW.out⟩
    by_cases h3 : kind = 3
    · subst h3
      have HD := hide (HDEF.out.trans ((if_neg (by decide)).trans ((if_neg (by decide)).trans (if_pos rfl))))
      clear HDEF h1 h2
      go_enter Try.func19, Try.ntmps19
      go_wp2_with fail
      refine ret4 Try.results19 rfl rfl rfl rfl rfl ⟨by rw [HD.out]; rfl, HBW.out⟩
    by_cases h45 : kind = 4 ∨ kind = 5
    · have HD := hide (HDEF.out.trans ((if_neg h1).trans ((if_neg h2).trans ((if_neg h3).trans (if_pos h45)))))
      clear HDEF h1 h2 h3
      rcases h45 with rfl | rfl
      · go_enter Try.func19, Try.ntmps19
        go_wp2_with fail
        go_loopw [6, 7, 8, 9, 31] (fun p q r s i wr => ∃ (k : Nat) (c : C4), k ≤ dn ∧ i = .int .i64 k ∧ p = .int .i64 c.s ∧ q = .int .i64 c.n ∧ r = .int .i64 c.t ∧ s = .int .i64 c.f ∧ Below (w.heap.size + 1) (w.alloc (.cells #[.int .i8 4, .bool flag, .string text, .slice ka kn kc, .slice da dn dc] 31)) wr ∧ Hid (((t.kids.take k).map (cnt n)).foldl C4.add C4.zero = c)) (fun _ _ _ _ i _ => dn - (intOf i).toNat)
        case atStart => exact ⟨0, C4.zero, Nat.zero_le _, rfl, rfl, rfl, rfl, rfl, Below.refl _ _, hide rfl⟩
        case round =>
          obtain ⟨k, c, hk, rfl, rfl, rfl, rfl, rfl, hB, hS⟩ := hrel
          have hb0 : Below w.heap.size w wr := HBW.out.trans (hB.mono (by omega))
          have hbox : wr.cell? ⟨w.heap.size, 4, none⟩ = some (.slice da dn dc) := by rw [hB.cell (by simp)]; simp
          have HB := hide hB
          clear hB
          by_cases hlt : k < dn
          · obtain ⟨x, hx⟩ : ∃ x, t.kids[k]? = some x := ⟨t.kids[k]'(by rw [Hdn.out]; exact hlt), by simp⟩
            obtain ⟨c0, c1, c2, c3, c4, hr, htr⟩ := hid2.out k x hx
            have hix := index_zz (cap := dc) hda'.out k hlt
            have hrr := rangeAt_later hb0 hr
            have e0 : wr.cell? ⟨db, dof + k * 5, none⟩ = some c0 := hrr 0 c0 rfl
            have e1 : wr.cell? ⟨db, dof + k * 5 + 1, none⟩ = some c1 := hrr 1 c1 rfl
            have e2 : wr.cell? ⟨db, dof + k * 5 + 2, none⟩ = some c2 := hrr 2 c2 rfl
            have e3 : wr.cell? ⟨db, dof + k * 5 + 3, none⟩ = some c3 := hrr 3 c3 rfl
            have e4 : wr.cell? ⟨db, dof + k * 5 + 4, none⟩ = some c4 := hrr 4 c4 rfl
            clear hrr
            have HX := hide hx
            have HR := hide htr
            clear hx htr hr
            go_wp2_with fail
            refine (IH.out x _ _ (HR.out.below hb0)).mono ?_
            rintro e w1 ⟨rfl, hb1⟩
            have HB1 := hide (HB.out.trans (hb1.mono (by have := HB.out.size; simpa using this)))
            have HCX : Hid (((t.kids.take (k + 1)).map (cnt n)).foldl C4.add C4.zero = C4.add c (cnt n x)) := hide (by
              rw [take_succ_of HX.out, List.map_append, List.foldl_append, hS.out]; rfl)
            clear hb1 hS
            generalize cnt n x = d at *
            obtain ⟨ds, dn', dt, df⟩ := d
            obtain ⟨cs, cn, ct, cf⟩ := c
            dsimp only [c4V]
            go_wp2_with fail
            go_roundw
            case rel => exact ⟨k + 1, _, by omega, by go_num, rfl, rfl, rfl, rfl, HB1.out, HCX⟩
            case measure => simp [intOf]; omega
          · obtain rfl : k = dn := by omega
            go_wp2_with fail
            refine ret4 Try.results19 rfl rfl rfl rfl rfl ⟨?_, hb0⟩
            rw [HD.out, ← hS.out, ← Hdn.out, List.take_length]
            rfl
      · go_enter Try.func19, Try.ntmps19
        go_wp2_with fail
        go_loopw [6, 7, 8, 9, 31] (fun p q r s i wr => ∃ (k : Nat) (c : C4), k ≤ dn ∧ i = .int .i64 k ∧ p = .int .i64 c.s ∧ q = .int .i64 c.n ∧ r = .int .i64 c.t ∧ s = .int .i64 c.f ∧ Below (w.heap.size + 1) (w.alloc (.cells #[.int .i8 5, .bool flag, .string text, .slice ka kn kc, .slice da dn dc] 31)) wr ∧ Hid (((t.kids.take k).map (cnt n)).foldl C4.add C4.zero = c)) (fun _ _ _ _ i _ => dn - (intOf i).toNat)
        case atStart => exact ⟨0, C4.zero, Nat.zero_le _, rfl, rfl, rfl, rfl, rfl, Below.refl _ _, hide rfl⟩
        case round =>
          obtain ⟨k, c, hk, rfl, rfl, rfl, rfl, rfl, hB, hS⟩ := hrel
          have hb0 : Below w.heap.size w wr := HBW.out.trans (hB.mono (by omega))
          have hbox : wr.cell? ⟨w.heap.size, 4, none⟩ = some (.slice da dn dc) := by rw [hB.cell (by simp)]; simp
          have HB := hide hB
          clear hB
          by_cases hlt : k < dn
          · obtain ⟨x, hx⟩ : ∃ x, t.kids[k]? = some x := ⟨t.kids[k]'(by rw [Hdn.out]; exact hlt), by simp⟩
            obtain ⟨c0, c1, c2, c3, c4, hr, htr⟩ := hid2.out k x hx
            have hix := index_zz (cap := dc) hda'.out k hlt
            have hrr := rangeAt_later hb0 hr
            have e0 : wr.cell? ⟨db, dof + k * 5, none⟩ = some c0 := hrr 0 c0 rfl
            have e1 : wr.cell? ⟨db, dof + k * 5 + 1, none⟩ = some c1 := hrr 1 c1 rfl
            have e2 : wr.cell? ⟨db, dof + k * 5 + 2, none⟩ = some c2 := hrr 2 c2 rfl
            have e3 : wr.cell? ⟨db, dof + k * 5 + 3, none⟩ = some c3 := hrr 3 c3 rfl
            have e4 : wr.cell? ⟨db, dof + k * 5 + 4, none⟩ = some c4 := hrr 4 c4 rfl
            clear hrr
            have HX := hide hx
            have HR := hide htr
            clear hx htr hr
            go_wp2_with fail
            refine (IH.out x _ _ (HR.out.below hb0)).mono ?_
            rintro e w1 ⟨rfl, hb1⟩
            have HB1 := hide (HB.out.trans (hb1.mono (by have := HB.out.size; simpa using this)))
            have HCX : Hid (((t.kids.take (k + 1)).map (cnt n)).foldl C4.add C4.zero = C4.add c (cnt n x)) := hide (by
              rw [take_succ_of HX.out, List.map_append, List.foldl_append, hS.out]; rfl)
            clear hb1 hS
            generalize cnt n x = d at *
            obtain ⟨ds, dn', dt, df⟩ := d
            obtain ⟨cs, cn, ct, cf⟩ := c
            dsimp only [c4V]
            go_wp2_with fail
            go_roundw
            case rel => exact ⟨k + 1, _, by omega, by go_num, rfl, rfl, rfl, rfl, HB1.out, HCX⟩
            case measure => simp [intOf]; omega
          · obtain rfl : k = dn := by omega
            go_wp2_with fail
            refine ret4 Try.results19 rfl rfl rfl rfl rfl ⟨?_, hb0⟩
            rw [HD.out, ← hS.out, ← Hdn.out, List.take_length]
            rfl
    · have HD := hide (HDEF.out.trans ((if_neg h1).trans ((if_neg h2).trans ((if_neg h3).trans (if_neg h45)))))
      have h4 : kind ≠ 4 := fun h => h45 (.inl h)
      have h5 : kind ≠ 5 := fun h => h45 (.inr h)
      clear HDEF h45
      go_enter Try.func19, Try.ntmps19
      go_wp2_with fail
      refine ret4 Try.results19 rfl rfl rfl rfl rfl ⟨by rw [HD.out]; rfl, HBW.out⟩
end Go.Proofs.Qxb6616028a
