/- ZZFlag, walked: one layer a code; then Flag. -/
import Derived.Test.Qxb6616028aFmtFlag
namespace Go.Proofs.Qxb6616028aFmt
open Go.RowKit Go.Extern.Stop Go.Stop Go.Extern
open Go.ChangeMaps (setBlock)

theorem info_parts {t : TypeId} {z : Value} {s by_ : Nat} (h : (Tryf.prog.info? t).map (fun i => (i.zero, i.size, i.bytes)) = some (some z, s, by_)) : ∃ i, Tryf.prog.info? t = some i ∧ i.zero = some z ∧ i.size = s ∧ i.bytes = by_ := by
  cases hq : Tryf.prog.info? t with
  | none => simp [hq] at h
  | some i => simp [hq] at h; exact ⟨i, rfl, h.1, h.2.1, h.2.2⟩
theorem info9 : (Tryf.prog.info? 9).map (fun i => (i.zero, i.size, i.bytes)) = some (some (.string ByteArray.empty), 1, 16) := by kernel_rfl
theorem info25 : (Tryf.prog.info? 25).map (fun i => (i.zero, i.size, i.bytes)) = some (some (.int .i8 0), 1, 1) := by kernel_rfl
theorem info39 : (Tryf.prog.info? 39).map (fun i => (i.zero, i.size, i.bytes)) = some (some (.agg #[.string ByteArray.empty, .map none]), 2, 24) := by kernel_rfl
theorem info27 : (Tryf.prog.info? 27).map (fun i => (i.zero, i.size, i.bytes)) = some (some (.agg #[.string ByteArray.empty, .int .i8 0]), 2, 24) := by kernel_rfl

/-- 'make([]T, n)' -/
theorem run_make_n (t e : TypeId) (z : Value) (size bytes : Nat) (ht : Tryf.prog.underlying t = some (.slice e)) (hi : (Tryf.prog.info? e).map (fun i => (i.zero, i.size, i.bytes)) = some (some z, size, bytes))
    (n : Nat) (hb : bytes * n ≤ 140737488355328) (hn : n ≤ 1073741824) (w : World) :
    (Instr.makeSlice t (.int .i64 (n : Int)) (.int .i64 (n : Int))).run Tryf.prog w = .ok (.slice (some ⟨w.heap.size, 0, none⟩) n n) (w.alloc (.cells (madeCells z.cells (n * size)) e)) := by
  obtain ⟨i, h1, h2, h3, h4⟩ := info_parts hi
  have hb' : (i.bytes : Int) * (n : Int) ≤ 281474976710656 := by
    rw [h4]
    have h : ((bytes * n : Nat) : Int) ≤ 140737488355328 := by omega
    rw [Int.natCast_mul] at h
    omega
  have := run_make (P := Tryf.prog) w t e i z ht h1 h2 .i64 .i64 n n (by omega) (Int.le_refl _) hb' (by omega)
  simpa [h3] using this
theorem make_strs (n : Nat) (hn : n ≤ 1073741824) (w : World) :
    (Instr.makeSlice 32 (.int .i64 (n : Int)) (.int .i64 (n : Int))).run Tryf.prog w = .ok (.slice (some ⟨w.heap.size, 0, none⟩) n n) (w.alloc (.cells (madeCells #[.string ByteArray.empty] n) 9)) := by
  have := run_make_n 32 9 _ 1 16 Tryf.underlying32 info9 n (by omega) hn w
  rwa [Nat.mul_one] at this
theorem make_codes (n : Nat) (hn : n ≤ 1073741824) (w : World) :
    (Instr.makeSlice 33 (.int .i64 (n : Int)) (.int .i64 (n : Int))).run Tryf.prog w = .ok (.slice (some ⟨w.heap.size, 0, none⟩) n n) (w.alloc (.cells (madeCells #[.int .i8 0] n) 25)) := by
  have := run_make_n 33 25 _ 1 1 Tryf.underlying33 info25 n (by omega) hn w
  rwa [Nat.mul_one] at this
/-- the cells of 'make([]Layer, n)' -/
def zeros2 (n : Nat) : Array Value := madeCells #[.string ByteArray.empty, .map none] (n * 2)
theorem size_zeros2 (n : Nat) : (zeros2 n).size = n * 2 := size_madeCells _ _
theorem make_docs (n : Nat) (hn : n ≤ 1073741824) (w : World) :
    (Instr.makeSlice 35 (.int .i64 (n : Int)) (.int .i64 (n : Int))).run Tryf.prog w = .ok (.slice (some ⟨w.heap.size, 0, none⟩) n n) (w.alloc (.cells (zeros2 n) 39)) :=
  run_make_n 35 39 _ 2 24 Tryf.underlying35 info39 n (by omega) hn w

theorem heap_new (w : World) (o : Obj) : (w.alloc o).heap[w.heap.size]? = some o := by
  show (w.heap.push o)[w.heap.size]? = some o
  simp
theorem heap_setBlock_ne {w : World} {m b : Nat} (h : b ≠ m) (o : Obj) : (setBlock w m o).heap[b]? = w.heap[b]? := by
  simp only [setBlock, Array.getElem?_setIfInBounds]
  rw [if_neg (fun e => h e.symm)]
theorem size_setBlock {w : World} {m : Nat} (o : Obj) : (setBlock w m o).heap.size = w.heap.size := by simp [setBlock]
theorem below_setBlock {w : World} {m B : Nat} (h : B ≤ m) (o : Obj) : Below B w (setBlock w m o) := ⟨rfl, rfl, rfl, by rw [size_setBlock]; exact Nat.le_refl _, fun k hk => heap_setBlock_ne (by omega) o⟩
theorem run_makeMap37 (w : World) : (Instr.makeMap 37 none).run Tryf.prog w = .ok (.map (some w.heap.size)) (w.alloc (.map #[] 0)) := by
  simp [Instr.makeMap, newObj, Sem.run]
/-- a new map's one entry -/
theorem run_fill (w : World) (k : ByteArray) (v : Value) :
    (Instr.mapUpdate 37 (.map (some w.heap.size)) (.string k) v).run Tryf.prog (w.alloc (.map #[] 0)) = .ok () (setBlock (w.alloc (.map #[] 0)) w.heap.size (.map #[⟨.string k, v, 0⟩] 1)) := by
  have hb := heap_new w (.map #[] 0)
  simp [Instr.mapUpdate, run_underlying Tryf.underlying37, MapKept.run_getObj_map hb, check_str, Instr.findKey, run_underlying Tryf.underlying9, Instr.findNow, MapKept.run_setObj_map _ hb, Result.andThen, setBlock]

/-- the row of layers: the first k are laid -/
def DocsF (w : World) (b n k : Nat) (l : List (ByteArray × Int)) : Prop :=
  ∃ C : Array Value, w.heap[b]? = some (.cells C 39) ∧ C.size = n * 2 ∧ ∀ (j : Nat) x, j < k → l[j]? = some x → ∃ m, C[j * 2]? = some (.string ⟨#[122, 122]⟩) ∧ C[j * 2 + 1]? = some (.map (some m)) ∧ DocAt w m x

theorem DocsF.step {w w1 : World} {b n k m : Nat} {l : List (ByteArray × Int)} {x : ByteArray × Int} (h : DocsF w b n k l) (hk : k < n) (hx : l[k]? = some x) (hs : ∀ i, i < w.heap.size → w1.heap[i]? = w.heap[i]?) (hm : DocAt w1 m x) (hmb : m ≠ b) :
    DocsF ((w1.setCell ⟨b, k * 2, none⟩ (.string ⟨#[122, 122]⟩)).setCell ⟨b, k * 2 + 1, none⟩ (.map (some m))) b n (k + 1) l := by
  obtain ⟨C, h1, h2, h3⟩ := h
  have hlt := (Array.getElem?_eq_some_iff.1 h1).1
  have e1 := (hs b hlt).trans h1
  have st : ∀ {w : World} {C : Array Value} (h : w.heap[b]? = some (.cells C 39)) (j : Nat) (v : Value), (w.setCell ⟨b, j, none⟩ v).heap[b]? = some (.cells (C.setIfInBounds j v) 39) := by
    intro w C h j v
    simp [World.setCell, Array.getElem?_modify, h]
  have e2 := st (st e1 (k * 2) (.string ⟨#[122, 122]⟩)) (k * 2 + 1) (.map (some m))
  have keep : ∀ i, i ≠ b → ((w1.setCell ⟨b, k * 2, none⟩ (.string ⟨#[122, 122]⟩)).setCell ⟨b, k * 2 + 1, none⟩ (.map (some m))).heap[i]? = w1.heap[i]? := fun i hi =>
    (Below.heap_setCell _ _ _ _ hi).trans (Below.heap_setCell _ _ _ _ hi)
  refine ⟨_, e2, by simp [h2], fun j y hj hy => ?_⟩
  simp only [Array.getElem?_setIfInBounds, Array.size_setIfInBounds]
  by_cases e : j = k
  · subst e
    rw [hx] at hy
    cases hy
    refine ⟨m, ?_, ?_, (keep m hmb).trans hm⟩
    · rw [if_neg (by omega), if_pos rfl, if_pos (by omega)]
    · rw [if_pos rfl, if_pos (by omega)]
  · obtain ⟨m', g1, g2, g3⟩ := h3 j y (by omega) hy
    have hlt' := g3.lt
    have hne : m' ≠ b := by
      intro e'
      subst e'
      unfold DocAt at g3
      rw [h1] at g3
      cases g3
    refine ⟨m', ?_, ?_, (keep m' hne).trans ((hs m' hlt').trans g3)⟩
    · rw [if_neg (by omega), if_neg (by omega)]; exact g1
    · rw [if_neg (by omega), if_neg (by omega)]; exact g2
theorem DocsF.old {w : World} {b n k : Nat} {l : List (ByteArray × Int)} (h : DocsF w b n k l) {j : Nat} (hj : j < n * 2) : ∃ u, w.cell? ⟨b, j, none⟩ = some u := by
  obtain ⟨C, h1, h2, _⟩ := h
  have : j < C.size := by omega
  exact ⟨C[j], by simp [World.cell?, h1]⟩
theorem DocsF.frozen {w : World} {b n k : Nat} {l : List (ByteArray × Int)} (h : DocsF w b n k l) (j : Nat) : w.frozen? ⟨b, j, none⟩ = false := by
  obtain ⟨C, h1, h2, _⟩ := h
  simp [World.frozen?, h1]
theorem DocsF.lt {w : World} {b n k : Nat} {l : List (ByteArray × Int)} (h : DocsF w b n k l) : b < w.heap.size := by
  obtain ⟨C, h1, h2, _⟩ := h
  exact (Array.getElem?_eq_some_iff.1 h1).1
theorem DocsF.done {w : World} {b n : Nat} {l : List (ByteArray × Int)} (h : DocsF w b n n l) (hl : n = l.length) (hn : n ≤ 1073741824) : DocsAt w (.slice (some ⟨b, 0, none⟩) n n) l := by
  obtain ⟨C, h1, h2, h3⟩ := h
  refine ⟨b, 0, ⟨_, _, by rw [hl], by omega, by unfold maxLen; omega, .inr rfl⟩, fun i x hx => ?_⟩
  obtain ⟨m, g1, g2, g3⟩ := h3 i x (by rw [hl]; exact (List.getElem?_eq_some_iff.1 hx).1) hx
  exact ⟨m, by simp [World.cell?, h1, g1], by simp [World.cell?, h1, g2], g3⟩

/-- how ZZFlag and zzFlagCall end: the flag, and whether there was an error -/
def pairOf (r : Option Bool) : Value := .tuple #[.bool (r.getD false), .bool r.isNone]

set_option maxHeartbeats 1000000 in
theorem zzflag_calls (F : Interp) (l : List (ByteArray × Int)) (v1 v2 : Value) (key : ByteArray) (w : World) (hF : F.answers w.tape) (h1 : StrsAt w v1 l) (h2 : CodesAt w v2 l) (hn : l.length ≤ 1048576) :
    Calls Tryf.prog 10 #[v1, v2, .string key] w fun e w' => e = .returned (pairOf (flagR key false l)) ∧ Below w.heap.size w w' := by
  obtain ⟨b1, o1, ⟨a1, p1, rfl, _, hm1, ha1⟩, hd1⟩ := h1
  obtain ⟨b2, o2, ⟨a2, p2, rfl, _, hm2, ha2⟩, hd2⟩ := h2
  have HA1 := hide ha1
  have HA2 := hide ha2
  have HD1 := hide hd1
  have HD2 := hide hd2
  have HF := hide hF
  clear ha1 ha2 hd1 hd2 hF hm1 hm2
  obtain ⟨n, hnl⟩ : ∃ n, n = l.length := ⟨_, rfl⟩
  rw [← hnl] at HA1 HA2 hn ⊢
  have HN := hide hnl
  clear hnl
  have hmk := make_docs n (by omega)
  have hmm := run_makeMap37
  go_enter Tryf.func10, Tryf.ntmps10
  go_wp2_with fail
  clear hmk
  go_loopw [18] (fun i wr => ∃ (k : Nat), k ≤ n ∧ i = .int .i64 k ∧ Below w.heap.size w wr ∧ Hid (DocsF wr w.heap.size n k l)) (fun i _ => n - (intOf i).toNat)
  case atStart =>
    exact ⟨0, by omega, rfl, (Below.refl _ _).alloc (Nat.le_refl _) _, hide ⟨_, heap_new _ _, size_zeros2 n, fun j x hj => by omega⟩⟩
  case round =>
    obtain ⟨k, hk, rfl, hb, HI⟩ := hrel
    by_cases hlt : k < n
    · obtain ⟨x, hx⟩ : ∃ x, l[k]? = some x := ⟨l[k]'(by rw [← HN.out]; exact hlt), by simp⟩
      have hc1 := cell_later hb (HD1.out k x hx)
      have hc2 := cell_later hb (HD2.out k x hx)
      have hc2' : (wr.alloc (.map #[] 0)).cell? ⟨b2, o2 + k, none⟩ = some (.int .i8 x.2) := cell_later ((Below.refl _ _).alloc (Nat.le_refl _) _) hc2
      have hi1 := index_strs (cap := p1) HA1.out k hlt
      have hi2 := index_codes (cap := p2) HA2.out k hlt
      have hi3 := index_docs (cap := n) (n := n) (b := w.heap.size) (o := 0) (.inr rfl) k hlt
      simp only [Nat.zero_add] at hi3
      obtain ⟨W2, hfl, hW2⟩ : ∃ W2, (Instr.mapUpdate 37 (.map (some wr.heap.size)) (.string x.1) (scalar x.2)).run Tryf.prog (wr.alloc (.map #[] 0)) = .ok () W2 ∧ W2 = setBlock (wr.alloc (.map #[] 0)) wr.heap.size (.map #[⟨.string x.1, scalar x.2, 0⟩] 1) := ⟨_, run_fill wr x.1 (scalar x.2), rfl⟩
      have hbs := hb.size
      have hstay : ∀ i, i < wr.heap.size → W2.heap[i]? = wr.heap[i]? := fun i hi => by
        rw [hW2, heap_setBlock_ne (by omega)]; exact Below.heap_alloc _ _ _ hi
      have hdoc : DocAt W2 wr.heap.size x := by
        unfold DocAt
        rw [hW2]
        simp [setBlock]
      have hB2 : Below w.heap.size w W2 := by
        rw [hW2]
        exact (hb.alloc hb.size _).trans (below_setBlock (by omega) _)
      have hbl := HI.out.lt
      obtain ⟨u0, hu0⟩ := HI.out.old (j := k * 2) (by omega)
      obtain ⟨u1, hu1⟩ := HI.out.old (j := k * 2 + 1) (by omega)
      have hf0 := HI.out.frozen (k * 2)
      have hf1 := HI.out.frozen (k * 2 + 1)
      have hu0' : W2.cell? ⟨w.heap.size, k * 2, none⟩ = some u0 := (World.cell?_of_block (hstay _ hbl)).trans hu0
      have hu1' : W2.cell? ⟨w.heap.size, k * 2 + 1, none⟩ = some u1 := (World.cell?_of_block (hstay _ hbl)).trans hu1
      have hf0' : W2.frozen? ⟨w.heap.size, k * 2, none⟩ = false := (World.frozen?_of_block (hstay _ hbl)).trans hf0
      have hf1' : W2.frozen? ⟨w.heap.size, k * 2 + 1, none⟩ = false := (World.frozen?_of_block (hstay _ hbl)).trans hf1
      have HI2 := hide (HI.out.step hlt hx hstay hdoc (by omega))
      have HB2 := hide ((hB2.setCell (p := ⟨w.heap.size, k * 2, none⟩) (Nat.le_refl _) (.string ⟨#[122, 122]⟩)).setCell (p := ⟨w.heap.size, k * 2 + 1, none⟩) (Nat.le_refl _) (.map (some wr.heap.size)))
      clear hx hW2 hstay hdoc hB2 hu0 hu1 hf0 hf1 HI hb
      go_wp2_with (first | (go_at_call 11; refine (scalar_calls x.2 _).mono ?_; rintro e w4 ⟨rfl, rfl⟩))
      go_roundw
      case rel => exact ⟨k + 1, by omega, by go_num, HB2.out, HI2⟩
      case measure => simp [intOf]; omega
    · obtain rfl : k = n := by omega
      have HDS := hide (HI.out.done HN.out (by omega))
      have HF1 : Hid (F.answers wr.tape) := by have := HF.out; rw [← hb.tape] at this; exact this
      cases hr : flagR key false l with
      | none =>
        have HR := hide hr
        clear hr
        go_wp2_with (first | (go_at_call 12; refine (flag_calls F l _ key _ HF1.out HDS.out).mono ?_; rintro e w4 ⟨he, hb4⟩; rw [HR.out] at he; obtain ⟨a4, rfl⟩ := he))
        go_region
        go_wp2_with fail
        go_ret2
        exact ⟨by rw [HR.out]; rfl, hb.trans (hb4.mono hb.size).drew⟩
      | some f =>
        have HR := hide hr
        clear hr
        go_wp2_with (first | (go_at_call 12; refine (flag_calls F l _ key _ HF1.out HDS.out).mono ?_; rintro e w4 ⟨he, hb4⟩; rw [HR.out] at he; obtain rfl := he))
        go_region
        go_wp2_with fail
        go_ret2
        exact ⟨by rw [HR.out]; rfl, hb.trans (hb4.mono hb.size).drew⟩
end Go.Proofs.Qxb6616028aFmt
