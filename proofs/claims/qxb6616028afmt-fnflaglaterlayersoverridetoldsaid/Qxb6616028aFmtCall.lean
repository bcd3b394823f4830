/- zzFlagCall, zzFlagBytes, zzBytes_FnFlagLastBooleanLayerDecides, walked. -/
import Derived.Test.Qxb6616028aFmtZZ
namespace Go.Proofs.Qxb6616028aFmt
open Go.RowKit Go.Extern.Stop Go.Stop Go.Extern

/-- block b is a row of 'size' cells of type e; the first k hold what Q says -/
def RowF (w : World) (b : Nat) (e : TypeId) (size k : Nat) (Q : Nat → Value → Prop) : Prop :=
  ∃ C : Array Value, w.heap[b]? = some (.cells C e) ∧ C.size = size ∧ ∀ j, j < k → ∃ v, C[j]? = some v ∧ Q j v
section
variable {w w' : World} {b : Nat} {e : TypeId} {size k : Nat} {Q : Nat → Value → Prop}
theorem RowF.lt (h : RowF w b e size k Q) : b < w.heap.size := by
  obtain ⟨C, h1, _⟩ := h
  exact (Array.getElem?_eq_some_iff.1 h1).1
theorem RowF.old (h : RowF w b e size k Q) {j : Nat} (hj : j < size) : ∃ u, w.cell? ⟨b, j, none⟩ = some u := by
  obtain ⟨C, h1, h2, _⟩ := h
  have : j < C.size := by omega
  exact ⟨C[j], by simp [World.cell?, h1]⟩
theorem RowF.frozen (h : RowF w b e size k Q) (j : Nat) : w.frozen? ⟨b, j, none⟩ = false := by
  obtain ⟨C, h1, h2, _⟩ := h
  simp [World.frozen?, h1]
theorem RowF.at (h : RowF w b e size k Q) {j : Nat} (hj : j < k) : ∃ v, w.cell? ⟨b, j, none⟩ = some v ∧ Q j v := by
  obtain ⟨C, h1, _, h3⟩ := h
  obtain ⟨v, h4, h5⟩ := h3 j hj
  exact ⟨v, by simp [World.cell?, h1, h4], h5⟩
theorem RowF.kept (h : RowF w b e size k Q) (he : w'.heap[b]? = w.heap[b]?) : RowF w' b e size k Q := by
  obtain ⟨C, h1, h2⟩ := h
  exact ⟨C, he.trans h1, h2⟩
theorem RowF.step (h : RowF w b e size k Q) (hk : k < size) {v : Value} (hv : Q k v) : RowF (w.setCell ⟨b, k, none⟩ v) b e size (k + 1) Q := by
  obtain ⟨C, h1, h2, h3⟩ := h
  refine ⟨C.setIfInBounds k v, by simp [World.setCell, Array.getElem?_modify, h1], by simp [h2], fun j hj => ?_⟩
  rw [Array.getElem?_setIfInBounds]
  by_cases e : k = j
  · subst e; exact ⟨v, by simp [h2, hk], hv⟩
  · rw [if_neg e]; exact h3 j (by omega)
end

set_option maxHeartbeats 1000000 in
theorem call_calls (F : Interp) (l : List (ByteArray × Int)) (v : Value) (key : ByteArray) (w : World) (hF : F.answers w.tape) (h : LaysAt w v l) (hn : l.length ≤ 1048576) :
    Calls Tryf.prog 8 #[v, .string key] w fun e w' => e = .returned (pairOf (flagR key false l)) ∧ Below w.heap.size w w' := by
  obtain ⟨b, o, ⟨a, p, rfl, _, hm1, ha⟩, hd⟩ := h
  have HA := hide ha
  have HD := hide hd
  have HF := hide hF
  clear ha hd hF hm1
  obtain ⟨n, hnl⟩ : ∃ n, n = l.length := ⟨_, rfl⟩
  rw [← hnl] at HA hn ⊢
  have HN := hide hnl
  clear hnl
  have hmk := make_strs n (by omega)
  have hmc := make_codes n (by omega)
  go_enter Tryf.func8, Tryf.ntmps8
  go_wp2_with fail
  clear hmk hmc
  go_loopw [17] (fun i wr => ∃ (k : Nat), k ≤ n ∧ i = .int .i64 k ∧ Below w.heap.size w wr ∧ Hid (RowF wr w.heap.size 9 n k (fun j v => ∀ x, l[j]? = some x → v = .string x.1)) ∧ Hid (RowF wr (w.heap.size + 1) 25 n k (fun j v => ∀ x, l[j]? = some x → v = .int .i8 x.2))) (fun i _ => n - (intOf i).toNat)
  case atStart =>
    refine ⟨0, by omega, rfl, ((Below.refl _ _).alloc (Nat.le_refl _) _).alloc (by simp) _, hide ⟨_, (Below.heap_alloc _ _ _ (by simp)).trans (heap_new _ _), size_madeCells _ _, fun j hj => by omega⟩, hide ⟨madeCells #[.int .i8 0] n, ?_, size_madeCells _ _, fun j hj => by omega⟩⟩
    have := heap_new (w.alloc (.cells (madeCells #[.string ByteArray.empty] n) 9)) (.cells (madeCells #[.int .i8 0] n) 25)
    simpa using this
  case round =>
    obtain ⟨k, hk, rfl, hb, HI1, HI2⟩ := hrel
    by_cases hlt : k < n
    · obtain ⟨x, hx⟩ : ∃ x, l[k]? = some x := ⟨l[k]'(by rw [← HN.out]; exact hlt), by simp⟩
      obtain ⟨hc1, hc2⟩ := HD.out k x hx
      have hbl : b < w.heap.size := World.block_lt_of_cell? w _ hc1
      have e1 := cell_later hb hc1
      have e2 := cell_later hb hc2
      have hi1 := index_lays (cap := p) HA.out k hlt
      have hi2 := index_strs (cap := n) (n := n) (b := w.heap.size) (o := 0) (.inr rfl) k hlt
      have hi3 := index_codes (cap := n) (n := n) (b := w.heap.size + 1) (o := 0) (.inr rfl) k hlt
      simp only [Nat.zero_add] at hi2 hi3
      obtain ⟨u0, hu0⟩ := HI1.out.old (j := k) hlt
      obtain ⟨u1, hu1⟩ := HI2.out.old (j := k) hlt
      have hf0 := HI1.out.frozen k
      have hf1 := HI2.out.frozen k
      have HJ1 := hide ((HI1.out.step hlt (v := .string x.1) (fun y hy => by rw [hx] at hy; cases hy; rfl)).kept (w' := (wr.setCell ⟨w.heap.size, k, none⟩ (.string x.1)).setCell ⟨w.heap.size + 1, k, none⟩ (.int .i8 x.2)) (Below.heap_setCell _ _ _ _ (by simp)))
      have HJ2 := hide ((HI2.out.kept (w' := wr.setCell ⟨w.heap.size, k, none⟩ (.string x.1)) (Below.heap_setCell _ _ _ _ (by simp))).step hlt (v := .int .i8 x.2) (fun y hy => by rw [hx] at hy; cases hy; rfl))
      have HB2 := hide ((hb.setCell (p := ⟨w.heap.size, k, none⟩) (Nat.le_refl _) (.string x.1)).setCell (p := ⟨w.heap.size + 1, k, none⟩) (Nat.le_succ _) (.int .i8 x.2))
      have e2' : (wr.setCell ⟨w.heap.size, k, none⟩ (.string x.1)).cell? ⟨b, o + k * 2 + 1, none⟩ = some (.int .i8 x.2) := (World.cell?_of_block (Below.heap_setCell _ _ _ _ (by show b ≠ w.heap.size; omega))).trans e2
      clear hx hc1 hc2 HI1 HI2 hb
      go_wp2_with fail
      go_roundw
      case rel => exact ⟨k + 1, by omega, by go_num, HB2.out, HJ1, HJ2⟩
      case measure => simp [intOf]; omega
    · obtain rfl : k = n := by omega
      have HS1 : Hid (StrsAt wr (.slice (some ⟨w.heap.size, 0, none⟩) k k) l) := hide ⟨w.heap.size, 0, ⟨_, _, by rw [← HN.out], by rw [← HN.out]; exact Nat.le_refl _, by unfold maxLen; omega, .inr rfl⟩, fun i x hx => by
        obtain ⟨u, h1, h2⟩ := HI1.out.at (j := i) (by rw [HN.out]; exact (List.getElem?_eq_some_iff.1 hx).1)
        rw [Nat.zero_add, h1, h2 x hx]⟩
      have HS2 : Hid (CodesAt wr (.slice (some ⟨w.heap.size + 1, 0, none⟩) k k) l) := hide ⟨w.heap.size + 1, 0, ⟨_, _, by rw [← HN.out], by rw [← HN.out]; exact Nat.le_refl _, by unfold maxLen; omega, .inr rfl⟩, fun i x hx => by
        obtain ⟨u, h1, h2⟩ := HI2.out.at (j := i) (by rw [HN.out]; exact (List.getElem?_eq_some_iff.1 hx).1)
        rw [Nat.zero_add, h1, h2 x hx]⟩
      have HF1 : Hid (F.answers wr.tape) := by have := HF.out; rw [← hb.tape] at this; exact this
      clear HI1 HI2
      go_wp2_with (first | (go_at_call 10; refine (zzflag_calls F l _ _ key _ HF1.out HS1.out HS2.out (by rw [← HN.out]; omega)).mono ?_; rintro e w4 ⟨rfl, hb4⟩; unfold pairOf))
      go_ret2
      exact ⟨rfl, hb.trans (hb4.mono hb.size)⟩

/-- zzFlagBytes: within the limit, or past it -/
theorem bytes_calls (l : List (ByteArray × Int)) (v : Value) (limit : Int) (w : World) (h : LaysAt w v l) (h0 : 0 ≤ limit) (h1 : limit ≤ 1048576) :
    Calls Tryf.prog 6 #[v, .int .i64 limit] w fun e w' => ∃ r : Int, e = .returned (.int .i64 r) ∧ 0 ≤ r ∧ (limit < r → r = limit + 1) ∧ (r ≤ limit → 16 * (l.length : Int) ≤ r) ∧ w' = w := by
  obtain ⟨b, o, ⟨a, p, rfl, hp0, hm1, ha⟩, hd⟩ := h
  have HA := hide ha
  have HD := hide hd
  clear ha hd
  obtain ⟨n, hnl⟩ : ∃ n, n = l.length := ⟨_, rfl⟩
  rw [← hnl] at HA hp0 ⊢
  have HN := hide hnl
  unfold maxLen at hm1
  clear hnl
  go_enter Tryf.func6, Tryf.ntmps6
  go_wp2_with fail
  go_loop [5, 6] (fun c i => ∃ (k : Nat) (N : Int), k ≤ n ∧ i = .int .i64 k ∧ c = .int .i64 N ∧ 0 ≤ N ∧ N ≤ limit ∧ Hid (16 * (k : Int) ≤ N)) (fun _ i => n - (intOf i).toNat)
  case atStart => exact ⟨0, 0, by omega, rfl, rfl, by omega, by omega, hide (by omega)⟩
  case round =>
    obtain ⟨k, N, hk, rfl, rfl, hN0, hN1, hS⟩ := hrel
    by_cases hlt : k < n
    · obtain ⟨x, hx⟩ : ∃ x, l[k]? = some x := ⟨l[k]'(by rw [← HN.out]; exact hlt), by simp⟩
      obtain ⟨hc1, _⟩ := HD.out k x hx
      have hi1 := index_lays (cap := p) HA.out k hlt
      clear hx
      go_wp2_with fail
      · go_ret
        exact ⟨_, rfl, by omega, fun _ => rfl, fun _ => by omega, rfl⟩
      · have := hS.out
        exact ⟨⟨k + 1, _, by omega, by go_num, rfl, by omega, by omega, hide (by omega)⟩, by simp [intOf]; omega⟩
      · go_ret
        exact ⟨_, rfl, by omega, fun _ => rfl, fun _ => by omega, rfl⟩
    · go_wp2_with fail
      go_ret
      have := hS.out
      exact ⟨_, rfl, by omega, fun _ => by omega, fun _ => by omega, rfl⟩

/-- some bool -/
def IsBool (e : Ending) : Prop := ∃ r : Bool, e = .returned (.bool r)

/-- zzBytes_FnFlagLastBooleanLayerDecides: some bool -/
theorem zzbytes_calls (l : List (ByteArray × Int)) (v : Value) (key : ByteArray) (w : World) (h : LaysAt w v l) :
    Calls Tryf.prog 5 #[v, .string key] w fun e w' => IsBool e ∧ w' = w := by
  obtain ⟨b, o, ⟨a, p, rfl, hp0, hm1, ha⟩, hd⟩ := h
  have HA := hide ha
  have HD := hide hd
  clear ha hd
  obtain ⟨n, hnl⟩ : ∃ n, n = l.length := ⟨_, rfl⟩
  rw [← hnl] at HA hp0 ⊢
  have HN := hide hnl
  unfold maxLen at hm1
  clear hnl
  go_enter Tryf.func5, Tryf.ntmps5
  go_wp2_with fail
  all_goals (try (go_ret; exact ⟨⟨_, rfl⟩, rfl⟩))
  go_loop [5, 6] (fun c i => ∃ (k : Nat) (N : Int), k ≤ n ∧ i = .int .i64 k ∧ c = .int .i64 N ∧ 0 ≤ N ∧ N ≤ 1048576) (fun _ i => n - (intOf i).toNat)
  case atStart => exact ⟨0, _, by omega, rfl, rfl, by omega, by omega⟩
  case round =>
    obtain ⟨k, N, hk, rfl, rfl, hN0, hN1⟩ := hrel
    by_cases hlt : k < n
    · obtain ⟨x, hx⟩ : ∃ x, l[k]? = some x := ⟨l[k]'(by rw [← HN.out]; exact hlt), by simp⟩
      obtain ⟨hc1, _⟩ := HD.out k x hx
      have hi1 := index_lays (cap := p) HA.out k hlt
      clear hx
      go_wp2_with fail
      all_goals (try (go_ret; exact ⟨⟨_, rfl⟩, rfl⟩))
      exact ⟨⟨k + 1, _, by omega, by go_num, rfl, by omega, by omega⟩, by simp [intOf]; omega⟩
    · go_wp2_with fail
      all_goals (go_ret; exact ⟨⟨_, rfl⟩, rfl⟩)
end Go.Proofs.Qxb6616028aFmt
