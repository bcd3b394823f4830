/- Flag, walked. -/
import Derived.Test.Qxb6616028aFmtBase
namespace Go.Proofs.Qxb6616028aFmt
open Go.RowKit Go.Extern.Stop Go.Stop Go.Extern
open Go.ChangeMaps (setBlock)

theorem cell_new (w : World) (C : Array Value) (e : TypeId) (j : Nat) (v : Value) (h : C[j]? = some v) : (w.alloc (.cells C e)).cell? ⟨w.heap.size, j, none⟩ = some v := by
  have : (w.alloc (.cells C e)).heap[w.heap.size]? = some (.cells C e) := by
    show (w.heap.push _)[w.heap.size]? = _
    simp
  unfold World.cell?
  rw [this]
  exact h

/-- how Flag ends -/
def FlagEnd (r : Option Bool) (e : Ending) : Prop :=
  match r with
  | some f => e = .returned (.tuple #[.bool f, .nilIface])
  | none => ∃ a, e = .returned (.tuple #[.bool false, .iface 51 (.pointer a)])

theorem flagR_drop {key : ByteArray} {f : Bool} {l : List (ByteArray × Int)} {k : Nat} {x : ByteArray × Int} (hx : l[k]? = some x) :
    flagR key f (l.drop k) = if x.1 = key then (if x.2 = 0 then flagR key f (l.drop (k + 1)) else if x.2 = 1 then flagR key false (l.drop (k + 1)) else if x.2 = 2 then flagR key true (l.drop (k + 1)) else none) else flagR key f (l.drop (k + 1)) := by
  have h1 : k < l.length := (List.getElem?_eq_some_iff.1 hx).1
  rw [List.drop_eq_getElem_cons h1]
  have : l[k] = x := (List.getElem?_eq_some_iff.1 hx).2
  rw [this]
  rfl

set_option maxHeartbeats 1000000 in
theorem flag_calls (F : Interp) (l : List (ByteArray × Int)) (v : Value) (key : ByteArray) (w : World) (hF : F.answers w.tape) (h : DocsAt w v l) :
    Calls Tryf.prog 12 #[v, .string key] w fun e w' => FlagEnd (flagR key false l) e ∧ Below w.heap.size w w' := by
  obtain ⟨b, o, ⟨a, cap, rfl, hcap, hmax, ha⟩, hd⟩ := h
  have HA := hide ha
  have HD := hide hd
  have HF := hide hF
  clear ha hd hF
  obtain ⟨n, hn⟩ : ∃ n, n = l.length := ⟨_, rfl⟩
  rw [← hn] at HA hcap ⊢
  have HN := hide hn
  clear hn
  unfold maxLen at hmax
  go_enter Tryf.func12, Tryf.ntmps12
  go_wp2_with fail
  go_loopw [6, 15] (fun f i wr => ∃ (k : Nat) (f0 : Bool), k ≤ n ∧ i = .int .i64 k ∧ f = .bool f0 ∧ Below w.heap.size w wr ∧ Hid (flagR key false l = flagR key f0 (l.drop k))) (fun _ i _ => n - (intOf i).toNat)
  case atStart => exact ⟨0, false, by omega, rfl, rfl, Below.refl _ _, hide rfl⟩
  case round =>
    obtain ⟨k, f0, hk, rfl, rfl, hb, HR⟩ := hrel
    by_cases hlt : k < n
    · obtain ⟨x, hx⟩ : ∃ x, l[k]? = some x := ⟨l[k]'(by rw [← HN.out]; exact hlt), by simp⟩
      obtain ⟨m, hc0, hc1, hm⟩ := HD.out k x hx
      have e0 : wr.cell? ⟨b, o + k * 2, none⟩ = some (.string ⟨#[122, 122]⟩) := cell_later hb hc0
      have e1 : wr.cell? ⟨b, o + k * 2 + 1, none⟩ = some (.map (some m)) := cell_later hb hc1
      have hix := index_docs (cap := cap) HA.out k hlt
      have HM := hide hm
      have HX := hide (flagR_drop (key := key) (f := f0) hx)
      have hbs := hb.size
      have hml := hm.lt
      clear hc0 hc1 hm hx
      have hlk0 := fun o => look_one (w := wr.alloc o) (m := m) (x := x) ((Below.heap_alloc _ _ _ (by omega)).trans ((hb.block m hml).trans HM.out)) key
      have hcase : ((if x.1 = key then scalar x.2 else .nilIface) = .nilIface ∧ flagR key f0 (l.drop k) = flagR key f0 (l.drop (k + 1))) ∨
          (∃ f1, (if x.1 = key then scalar x.2 else .nilIface) = .iface 4 (.bool f1) ∧ flagR key f0 (l.drop k) = flagR key f1 (l.drop (k + 1))) ∨
          ((if x.1 = key then scalar x.2 else .nilIface) = .iface 9 (.string ⟨#[116, 114, 117, 101]⟩) ∧ flagR key f0 (l.drop k) = none) := by
        rw [HX.out]
        unfold scalar
        by_cases h1 : x.1 = key
        · by_cases h2 : x.2 = 0
          · simp [h1, h2]
          · by_cases h3 : x.2 = 1
            · simp [h1, h3]
            · by_cases h4 : x.2 = 2
              · simp [h1, h4]
              · simp [h1, h2, h3, h4]
        · simp [h1]
      clear HX
      rcases hcase with ⟨hv, hr⟩ | ⟨f1, hv, hr⟩ | ⟨hv, hr⟩
      · rw [hv] at hlk0
        have HR1 := hide (HR.out.trans hr)
        clear hv hr HR
        go_wp2_with fail
        go_roundw
        case rel => exact ⟨k + 1, f0, by omega, by go_num, rfl, hb.alloc hb.size _, HR1⟩
        case measure => simp [intOf]; omega
      · rw [hv] at hlk0
        have HR1 := hide (HR.out.trans hr)
        clear hv hr HR
        have h3 := fun w => assert_hit 4 _ Tryf.underlying4 (by simp) (.bool f1) w
        go_wp2_with fail
        go_roundw
        case rel => exact ⟨k + 1, f1, by omega, by go_num, rfl, hb.alloc hb.size _, HR1⟩
        case measure => simp [intOf]; omega
      · rw [hv] at hlk0
        have HR1 := hide (HR.out.trans hr)
        clear hv hr HR
        have h3 := fun w => assert_miss 4 9 _ Tryf.underlying4 (by simp) (by decide) (.string ⟨#[116, 114, 117, 101]⟩) _ w (zero4 w)
        go_wp2_with fail
        have c0 : (wr.alloc (.cells #[.string { data := #[122, 122] }, .map (some m)] 39)).cell? ⟨wr.heap.size, 0, none⟩ = some (.string ⟨#[122, 122]⟩) := by simp
        have HB1 := hide (hb.alloc hb.size (.cells #[.string { data := #[122, 122] }, .map (some m)] 39))
        clear hlk0
        generalize wr.alloc (.cells #[.string { data := #[122, 122] }, .map (some m)] 39) = W1 at *
        generalize wr.heap.size = B1 at *
        clear hb hbs e0 e1 hix h3
        have HF1 : Hid (F.answers W1.tape) := by have := HF.out; rw [← HB1.out.tape] at this; exact this
        have HE := hide (errorf_calls F ⟨#[122, 122]⟩ key ⟨#[115, 116, 114, 105, 110, 103]⟩ W1.heap.size (W1.drew.alloc (.cells #[.iface 9 (.string ⟨#[122, 122]⟩), .iface 9 (.string key), .iface 9 (.string ⟨#[115, 116, 114, 105, 110, 103]⟩)] 20)) HF1.out (cell_new W1.drew _ _ 0 _ rfl) (cell_new W1.drew _ _ 1 _ rfl) (cell_new W1.drew _ _ 2 _ rfl))
        go_region_held3 (fun w' => w'.cell? ⟨B1, 0, none⟩ = some (.string ⟨#[122, 122]⟩))
          (first | exact c0 | exact cell_later ((Below.refl _ _).alloc (Nat.le_refl _) _) c0 | exact cell_later hb5 (cell_later ((Below.refl _ _).alloc (Nat.le_refl _) _) c0))
          (first | (go_at_call 14; have hcall := kind_calls ⟨#[116, 114, 117, 101]⟩ W1.drew; refine hcall.mono ?_; clear hcall; rintro e w4 ⟨rfl, rfl⟩) | (go_at_call 13; have hcall := HE.out; refine hcall.mono ?_; clear hcall; rintro e w5 ⟨⟨a5, rfl⟩, hb5⟩))
        go_wp2_with fail
        go_ret2
        refine ⟨?_, ?_⟩
        · rw [HR1.out]
          exact ⟨_, rfl⟩
        · exact ((HB1.out.drew.alloc HB1.out.size _).trans (hb5.mono (by have := HB1.out.size; simp; omega)))
    · go_wp2_with fail
      go_ret2
      have : l.drop k = [] := List.drop_eq_nil_of_le (by rw [← HN.out]; omega)
      refine ⟨?_, hb⟩
      rw [HR.out, this]
      rfl
end Go.Proofs.Qxb6616028aFmt
