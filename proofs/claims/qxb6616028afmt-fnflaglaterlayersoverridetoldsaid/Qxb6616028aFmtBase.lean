/- THE CLOSED FACTS OF THIS DUMP, and what lies in memory: slices of layers, strings, codes; a layer's map of one key. -/
import Derived.Test.Qxb6616028aFmtCards
import Derived.WalkKit
import Derived.WalkSpells
import Derived.WalkLawsBesides
import Derived.Deep.MidRow
import Derived.Deep.LoopGhost
import Derived.Deep.RegionHeld3
import Derived.Maps.RangeRun
import Derived.Stop.CallBack
import Derived.Stop.IfaceNil
namespace Go.Proofs.Qxb6616028aFmt
open Go.RowKit Go.Extern.Stop Go.Stop Go.Extern
open Go.ChangeMaps (setBlock)

/-! ### fmt.errorf, as the model has it -/
theorem call15 (args : Array Value) (w : World) : (callFunc 15 args).run Tryf.prog w = ((FmtStop.errorf #[9, 46] #[41] args).run Tryf.prog w).andThen fun v w' => .ok (.value v) w' :=
  run_callFunc_extern Tryf.func15 (by kernel_rfl) (by kernel_rfl) (by kernel_rfl) (by kernel_rfl) args w
theorem guard (name : String) (w : World) : (FmtStop.guard name).run Tryf.prog w = .ok () w := by kernel_rfl
theorem fmt0 : FmtStop.printed? ⟨#[37, 115, 58, 32, 37, 113, 32, 105, 115, 32, 97, 32, 37, 115, 44, 32, 110, 111, 116, 32, 97, 32, 98, 111, 111, 108, 101, 97, 110]⟩ 3 = some [(0, 115, false), (1, 113, false), (2, 115, false)] := by kernel_rfl
theorem fmt0r (w : World) : (FmtDoors.printed ⟨#[37, 115, 58, 32, 37, 113, 32, 105, 115, 32, 97, 32, 37, 115, 44, 32, 110, 111, 116, 32, 97, 32, 98, 111, 111, 108, 101, 97, 110]⟩ 3).run Tryf.prog w = .ok [(0, 115, false), (1, 113, false), (2, 115, false)] w := by kernel_rfl
def shape9 : List UInt8 := [12, 6, 0, 0, 0, 0, 0, 0, 0, 115, 116, 114, 105, 110, 103]
theorem op9_115 (name : String) (x : ByteArray) (w : World) : (FmtStop.operand name false 115 false (.iface 9 (.string x))).run Tryf.prog w = .ok (shape9, FmtStop.pack x.data.toList) w := by kernel_rfl
theorem op9_113 (name : String) (x : ByteArray) (w : World) : (FmtStop.operand name false 113 false (.iface 9 (.string x))).run Tryf.prog w = .ok (shape9, FmtStop.pack x.data.toList) w := by kernel_rfl
theorem op9_115w (name : String) (x : ByteArray) (w : World) : (FmtStop.operand name true 115 false (.iface 9 (.string x))).run Tryf.prog w = .ok (shape9, FmtStop.pack x.data.toList) w := by kernel_rfl
theorem op9_113w (name : String) (x : ByteArray) (w : World) : (FmtStop.operand name true 113 false (.iface 9 (.string x))).run Tryf.prog w = .ok (shape9, FmtStop.pack x.data.toList) w := by kernel_rfl
theorem ptr51 (w : World) : (FmtStop.ptrTo "errors.errorString").run Tryf.prog w = .ok 51 w := by kernel_rfl
theorem elem51 (w : World) : (elemOf 51).run Tryf.prog w = .ok 53 w := by kernel_rfl
theorem isError51 (w : World) : (FmtDoors.textMethod 51 "Error").run Tryf.prog w = .ok true w := by kernel_rfl
theorem ptr48 (w : World) : (FmtStop.ptrTo "fmt.wrapError").run Tryf.prog w = .ok 48 w := by kernel_rfl
theorem elem48 (w : World) : (elemOf 48).run Tryf.prog w = .ok 71 w := by kernel_rfl
theorem isError48 (w : World) : (FmtDoors.textMethod 48 "Error").run Tryf.prog w = .ok true w := by kernel_rfl

attribute [local go_sem] call15 guard fmt0 fmt0r op9_115 op9_113 op9_115w op9_113w ptr51 elem51 isError51 ptr48 elem48 isError48

/-- the one call of fmt.Errorf: an error that is not nil -/
theorem errorf_calls (F : Interp) (s1 s2 s3 : ByteArray) (blk : Nat) (w : World) (hF : F.answers w.tape)
    (hc0 : w.cell? ⟨blk, 0, none⟩ = some (.iface 9 (.string s1))) (hc1 : w.cell? ⟨blk, 1, none⟩ = some (.iface 9 (.string s2))) (hc2 : w.cell? ⟨blk, 2, none⟩ = some (.iface 9 (.string s3))) :
    Calls Tryf.prog 13 #[.string ⟨#[37, 115, 58, 32, 37, 113, 32, 105, 115, 32, 97, 32, 37, 115, 44, 32, 110, 111, 116, 32, 97, 32, 98, 111, 111, 108, 101, 97, 110]⟩, .slice (some ⟨blk, 0, none⟩) 3 3] w fun e w' =>
      (∃ a, e = .returned (.iface 51 (.pointer a))) ∧ Below w.heap.size w w' := by
  have hF' := hF
  unfold Interp.answers at hF'
  go_enter Tryf.func13, Tryf.ntmps13
  go_wp2
  go_ret
  exact ⟨⟨_, rfl⟩, ((Below.refl _ _).alloc (Nat.le_refl _) _).drew⟩

theorem hide {p : Prop} (h : p) : Hid p := h

/-! ### the plain law -/
/-- what zzFlagScalar gives -/
def scalar (c : Int) : Value := if c = 0 then .nilIface else if c = 1 then .iface 4 (.bool false) else if c = 2 then .iface 4 (.bool true) else .iface 9 (.string ⟨#[116, 114, 117, 101]⟩)
def kindOf (c : Int) : Int := if c = 0 then 0 else if c = 1 ∨ c = 2 then 1 else 2
/-- what Flag gives: 'none' for an error -/
def flagR (key : ByteArray) : Bool → List (ByteArray × Int) → Option Bool
  | f, [] => some f
  | f, x :: l => if x.1 = key then (if x.2 = 0 then flagR key f l else if x.2 = 1 then flagR key false l else if x.2 = 2 then flagR key true l else none) else flagR key f l

/-! ### small calls -/
theorem zero9 (w : World) : (zeroValue 9).run Tryf.prog w = .ok (.string ByteArray.empty) w := by kernel_rfl
theorem zero4 (w : World) : (zeroValue 4).run Tryf.prog w = .ok (.bool false) w := by kernel_rfl
theorem zero37 (w : World) : (zeroValue 37).run Tryf.prog w = .ok (.map none) w := by kernel_rfl
theorem zero46 (w : World) : (zeroValue 46).run Tryf.prog w = .ok (.slice none 0 0) w := by kernel_rfl
theorem assert_hit (t : TypeId) (d : TypeDesc) (hu : Tryf.prog.underlying t = some d) (hd : ∀ ms, d ≠ .interface ms) (v : Value) (w : World) :
    (Instr.typeAssert (.iface t v) 20 t true).run Tryf.prog w = .ok (.tuple #[v, .bool true]) w := by
  simp only [Instr.typeAssert, Sem.run_bind, run_underlying hu, Result.andThen_ok]
  cases d <;> first | exact absurd rfl (hd _) | simp
theorem assert_miss (t u : TypeId) (d : TypeDesc) (hu : Tryf.prog.underlying t = some d) (hd : ∀ ms, d ≠ .interface ms) (hne : u ≠ t) (v z : Value) (w : World) (hz : (zeroValue t).run Tryf.prog w = .ok z w) :
    (Instr.typeAssert (.iface u v) 20 t true).run Tryf.prog w = .ok (.tuple #[z, .bool false]) w := by
  simp only [Instr.typeAssert, Sem.run_bind, run_underlying hu, Result.andThen_ok]
  cases d <;> first | exact absurd rfl (hd _) | simp [hne, hz]

theorem kind_calls (s : ByteArray) (w : World) : Calls Tryf.prog 14 #[.iface 9 (.string s)] w fun e w' => e = .returned (.string ⟨#[115, 116, 114, 105, 110, 103]⟩) ∧ w' = w := by
  have h1 := fun w => assert_miss 37 9 _ Tryf.underlying37 (by simp) (by decide) (.string s) _ w (zero37 w)
  have h2 := fun w => assert_miss 46 9 _ Tryf.underlying46 (by simp) (by decide) (.string s) _ w (zero46 w)
  have h3 := fun w => assert_hit 9 _ Tryf.underlying9 (by simp) (.string s) w
  go_enter Tryf.func14, Tryf.ntmps14
  go_wp2
  go_ret
  exact ⟨rfl, rfl⟩
theorem scalar_calls (c : Int) (w : World) : Calls Tryf.prog 11 #[.int .i8 c] w fun e w' => e = .returned (scalar c) ∧ w' = w := by
  unfold scalar
  by_cases h0 : c = 0
  · subst h0
    go_enter Tryf.func11, Tryf.ntmps11
    go_wp2
    go_ret
    exact ⟨rfl, rfl⟩
  by_cases h1 : c = 1
  · subst h1
    go_enter Tryf.func11, Tryf.ntmps11
    go_wp2
    go_ret
    exact ⟨rfl, rfl⟩
  by_cases h2 : c = 2
  · subst h2
    go_enter Tryf.func11, Tryf.ntmps11
    go_wp2
    go_ret
    exact ⟨rfl, rfl⟩
  have e0 : (c == 0) = false := by simpa using h0
  have e1 : (c == 1) = false := by simpa using h1
  have e2 : (c == 2) = false := by simpa using h2
  rw [if_neg h0, if_neg h1, if_neg h2]
  clear h0 h1 h2
  go_enter Tryf.func11, Tryf.ntmps11
  go_wp2
  go_ret
  exact ⟨rfl, rfl⟩
theorem kindOf_calls (c : Int) (w : World) : Calls Tryf.prog 7 #[.int .i8 c] w fun e w' => e = .returned (.int .i64 (kindOf c)) ∧ w' = w := by
  unfold kindOf
  by_cases h0 : c = 0
  · subst h0
    go_enter Tryf.func7, Tryf.ntmps7
    go_wp2
    go_ret
    exact ⟨rfl, rfl⟩
  by_cases h1 : c = 1
  · subst h1
    go_enter Tryf.func7, Tryf.ntmps7
    go_wp2
    go_ret
    exact ⟨rfl, rfl⟩
  by_cases h2 : c = 2
  · subst h2
    go_enter Tryf.func7, Tryf.ntmps7
    go_wp2
    go_ret
    exact ⟨rfl, rfl⟩
  have e0 : (c == 0) = false := by simpa using h0
  have e1 : (c == 1) = false := by simpa using h1
  have e2 : (c == 2) = false := by simpa using h2
  rw [if_neg h0, if_neg (by simp [h1, h2])]
  clear h0 h1 h2
  go_enter Tryf.func7, Tryf.ntmps7
  go_wp2
  go_ret
  exact ⟨rfl, rfl⟩

/-! ### in memory -/
def SlAt (v : Value) (n b o : Nat) : Prop := ∃ a cap, v = .slice a n cap ∧ n ≤ cap ∧ cap ≤ maxLen ∧ (n = 0 ∨ a = some ⟨b, o, none⟩)
/-- []FlagLayer -/
def LaysAt (w : World) (v : Value) (l : List (ByteArray × Int)) : Prop :=
  ∃ b o, SlAt v l.length b o ∧ ∀ (i : Nat) (x : ByteArray × Int), l[i]? = some x → w.cell? ⟨b, o + i * 2, none⟩ = some (.string x.1) ∧ w.cell? ⟨b, o + i * 2 + 1, none⟩ = some (.int .i8 x.2)
/-- []string -/
def StrsAt (w : World) (v : Value) (l : List (ByteArray × Int)) : Prop :=
  ∃ b o, SlAt v l.length b o ∧ ∀ (i : Nat) (x : ByteArray × Int), l[i]? = some x → w.cell? ⟨b, o + i, none⟩ = some (.string x.1)
/-- []int8 -/
def CodesAt (w : World) (v : Value) (l : List (ByteArray × Int)) : Prop :=
  ∃ b o, SlAt v l.length b o ∧ ∀ (i : Nat) (x : ByteArray × Int), l[i]? = some x → w.cell? ⟨b, o + i, none⟩ = some (.int .i8 x.2)
/-- a layer's document: a map of one key -/
def DocAt (w : World) (m : Nat) (x : ByteArray × Int) : Prop := w.heap[m]? = some (.map #[⟨.string x.1, scalar x.2, 0⟩] 1)
/-- []Layer -/
def DocsAt (w : World) (v : Value) (l : List (ByteArray × Int)) : Prop :=
  ∃ b o, SlAt v l.length b o ∧ ∀ (i : Nat) (x : ByteArray × Int), l[i]? = some x → ∃ m, w.cell? ⟨b, o + i * 2, none⟩ = some (.string ⟨#[122, 122]⟩) ∧ w.cell? ⟨b, o + i * 2 + 1, none⟩ = some (.map (some m)) ∧ DocAt w m x

theorem cell_later {w w' : World} (hb : Below w.heap.size w w') {a : Addr} {v : Value} (h : w.cell? a = some v) : w'.cell? a = some v := by
  rw [hb.cell (World.block_lt_of_cell? w _ h)]; exact h
theorem LaysAt.below {w w' : World} (hb : Below w.heap.size w w') {v : Value} {l : List (ByteArray × Int)} (h : LaysAt w v l) : LaysAt w' v l := by
  obtain ⟨b, o, h1, h2⟩ := h
  exact ⟨b, o, h1, fun i x hx => ⟨cell_later hb (h2 i x hx).1, cell_later hb (h2 i x hx).2⟩⟩
theorem DocAt.lt {w : World} {m : Nat} {x : ByteArray × Int} (h : DocAt w m x) : m < w.heap.size := (Array.getElem?_eq_some_iff.1 h).1

/-- the address of an element that is there -/
theorem run_indexAt_sl (t e : TypeId) (size : Nat) (ht : Tryf.prog.underlying t = some (.slice e)) (hi : (Tryf.prog.info? e).map (fun i => i.size) = some size)
    {a : Option Addr} {n cap b o : Nat} (hl : n = 0 ∨ a = some ⟨b, o, none⟩) (k : Nat) (hk : k < n) (w : World) :
    (Instr.indexAt t (.slice a n cap) (.int .i64 (k : Int))).run Tryf.prog w = .ok (.pointer (some ⟨b, o + k * size, none⟩)) w := by
  rcases hl with h | rfl
  · omega
  cases hq : Tryf.prog.info? e with
  | none => simp [hq] at hi
  | some i =>
    simp [hq] at hi
    simp [Instr.indexAt, asIntOf, run_underlying ht, sizeOf, typeInfo, hq, hi, hk, Addr.add_mid]
theorem index_lays {a : Option Addr} {n cap b o : Nat} (hl : n = 0 ∨ a = some ⟨b, o, none⟩) (k : Nat) (hk : k < n) (w : World) :
    (Instr.indexAt 22 (.slice a n cap) (.int .i64 (k : Int))).run Tryf.prog w = .ok (.pointer (some ⟨b, o + k * 2, none⟩)) w := run_indexAt_sl 22 27 2 Tryf.underlying22 (by kernel_rfl) hl k hk w
theorem index_docs {a : Option Addr} {n cap b o : Nat} (hl : n = 0 ∨ a = some ⟨b, o, none⟩) (k : Nat) (hk : k < n) (w : World) :
    (Instr.indexAt 35 (.slice a n cap) (.int .i64 (k : Int))).run Tryf.prog w = .ok (.pointer (some ⟨b, o + k * 2, none⟩)) w := run_indexAt_sl 35 39 2 Tryf.underlying35 (by kernel_rfl) hl k hk w
theorem index_strs {a : Option Addr} {n cap b o : Nat} (hl : n = 0 ∨ a = some ⟨b, o, none⟩) (k : Nat) (hk : k < n) (w : World) :
    (Instr.indexAt 32 (.slice a n cap) (.int .i64 (k : Int))).run Tryf.prog w = .ok (.pointer (some ⟨b, o + k, none⟩)) w := by
  have := run_indexAt_sl 32 9 1 Tryf.underlying32 (by kernel_rfl) (cap := cap) hl k hk w
  rwa [Nat.mul_one] at this
theorem index_codes {a : Option Addr} {n cap b o : Nat} (hl : n = 0 ∨ a = some ⟨b, o, none⟩) (k : Nat) (hk : k < n) (w : World) :
    (Instr.indexAt 33 (.slice a n cap) (.int .i64 (k : Int))).run Tryf.prog w = .ok (.pointer (some ⟨b, o + k, none⟩)) w := by
  have := run_indexAt_sl 33 25 1 Tryf.underlying33 (by kernel_rfl) (cap := cap) hl k hk w
  rwa [Nat.mul_one] at this

/-! ### maps of one key -/
theorem str_inj {a b : ByteArray} (h : a.toList = b.toList) : a = b := by
  rw [ByteArray.toList_eq, ByteArray.toList_eq] at h
  exact ByteArray.ext (Array.toList_inj.1 h)
theorem check_str (em : Bool) (k : ByteArray) (w : World) : (Instr.checkKey em 10000 9 (.string k)).run Tryf.prog w = .ok () w := by
  rw [show (10000 : Nat) = 9999 + 1 from rfl, Instr.checkKey]
  simp [run_underlying Tryf.underlying9]
theorem look_one {w : World} {m : Nat} {x : ByteArray × Int} (h : DocAt w m x) (key : ByteArray) :
    (Instr.lookup 37 (.map (some m)) (.string key) false).run Tryf.prog w = .ok (if x.1 = key then scalar x.2 else .nilIface) w := by
  have hz : (zeroValue 20).run Tryf.prog w = .ok .nilIface w := by kernel_rfl
  by_cases e : x.1 = key
  · have hb : (key == x.1) = true := by rw [e, beq_toListBytes]; simp
    rw [if_pos e]
    simp [Instr.lookup, run_underlying Tryf.underlying37, MapKept.run_getObj_map h, check_str, Instr.findKey, run_underlying Tryf.underlying9, Instr.findNow, Instr.sameNow, hb, Result.andThen]
  · have hb : (key == x.1) = false := by rw [beq_toListBytes, beq_eq_false_iff_ne]; exact fun h => e (str_inj h.symm)
    rw [if_neg e]
    simp [Instr.lookup, run_underlying Tryf.underlying37, MapKept.run_getObj_map h, check_str, Instr.findKey, run_underlying Tryf.underlying9, Instr.findNow, Instr.sameNow, hb, Result.andThen, hz]
end Go.Proofs.Qxb6616028aFmt
