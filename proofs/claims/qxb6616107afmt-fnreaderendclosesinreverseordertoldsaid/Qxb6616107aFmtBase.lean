/- THE CLOSED FACTS OF THIS DUMP on fmt; the error that 'refuse' makes is not nil. -/
import Derived.Test.Qxb6616107aFmtCards
import Derived.WalkKit
import Derived.WalkSpells
import Derived.WalkLawsBesides
import Derived.Deep.MidRow
import Derived.Deep.LoopGhost
import Derived.Deep.RegionHeld3
import Derived.Stop.CallBack
import Derived.Stop.IfaceNil
namespace Go.Proofs.Qxb6616107aFmt
open Go.RowKit Go.Extern.Stop Go.Stop Go.Extern

theorem hide {p : Prop} (h : p) : Hid p := h

/-! ### fmt.Sprintf, fmt.errorf, as the model has them -/
theorem call17 (args : Array Value) (w : World) : (callFunc 17 args).run Tryf.prog w = (FmtCalls.sprintf #[9, 62] #[9] args).run Tryf.prog w :=
  run_callFunc_next Tryf.func17 (by kernel_rfl) (by kernel_rfl) (by kernel_rfl) args w
theorem call18 (args : Array Value) (w : World) : (callFunc 18 args).run Tryf.prog w = ((FmtStop.errorf #[9, 62] #[32] args).run Tryf.prog w).andThen fun v w' => .ok (.value v) w' :=
  run_callFunc_extern Tryf.func18 (by kernel_rfl) (by kernel_rfl) (by kernel_rfl) (by kernel_rfl) args w
theorem guard (name : String) (w : World) : (FmtStop.guard name).run Tryf.prog w = .ok () w := by kernel_rfl
theorem nextTurns : Extern.next FmtCalls.turnsRow = some (FmtCalls.begun #[] #[]) := by kernel_rfl
-- the two formats of 'end', the one of 'refuse'
theorem fmt0 : FmtStop.printed? ⟨#[116, 104, 101, 32, 101, 110, 100, 32, 116, 97, 103, 32, 60, 47, 37, 115, 62, 32, 99, 108, 111, 115, 101, 115, 32, 110, 111, 32, 101, 108, 101, 109, 101, 110, 116]⟩ 1 = some [(0, 115, false)] := by kernel_rfl
theorem fmt1 : FmtStop.printed? ⟨#[116, 104, 101, 32, 101, 110, 100, 32, 116, 97, 103, 32, 60, 47, 37, 115, 62, 32, 100, 111, 101, 115, 32, 110, 111, 116, 32, 99, 108, 111, 115, 101, 32, 60, 37, 115, 62]⟩ 2 = some [(0, 115, false), (1, 115, false)] := by kernel_rfl
theorem fmt2r (w : World) : (FmtDoors.printed ⟨#[37, 119, 58, 32, 108, 105, 110, 101, 32, 37, 100, 58, 32, 37, 115]⟩ 3).run Tryf.prog w = .ok [(0, 119, false), (1, 100, false), (2, 115, false)] w := by kernel_rfl
def shape9 : List UInt8 := [12, 6, 0, 0, 0, 0, 0, 0, 0, 115, 116, 114, 105, 110, 103]
def shape3 : List UInt8 := [5, 3, 0, 0, 0, 0, 0, 0, 0, 105, 110, 116]
theorem act9_115 (name : String) (x : Value) (w : World) : (FmtCalls.act name false 115 false (.iface 9 x)).run Tryf.prog w = .ok (.closed false) w := by kernel_rfl
theorem op9_115 (name : String) (x : ByteArray) (w : World) : (FmtStop.operand name false 115 false (.iface 9 (.string x))).run Tryf.prog w = .ok (shape9, FmtStop.pack x.data.toList) w := by kernel_rfl
theorem op9_115w (name : String) (x : ByteArray) (w : World) : (FmtStop.operand name true 115 false (.iface 9 (.string x))).run Tryf.prog w = .ok (shape9, FmtStop.pack x.data.toList) w := by kernel_rfl
theorem op3_100w (name : String) (x : Int) (w : World) : (FmtStop.operand name true 100 false (.iface 3 (.int .i64 x))).run Tryf.prog w = .ok (shape3, Go.Extern.Stop.digits 8 (x % 2 ^ 64).toNat) w := by kernel_rfl
/-- the name of the pointer type that errors.New makes, off the given row -/
def star67 : String := match (Rows.laid_example_com_portcullis_portcullis_pkg_simservs_ErrNotWellFormed : DataW Unit) with
  | .iface nm _ => nm
  | _ => ""
def plain67 : List UInt8 := 14 :: FmtStop.pack star67.toUTF8.data.toList
theorem opPlain67_119w (name : String) (a : Addr) (s : ByteArray) (w : World) (hc : w.cell? a = some (.string s)) :
    (FmtStop.operand name true 119 false (.iface 67 (.pointer (some a)))).run Tryf.prog w = .ok (plain67, s.data.toList) w := by
  have h1 : (typeStr 67).run Tryf.prog w = .ok star67 w := by kernel_rfl
  have d2 : Tryf.t67.desc = .pointer 69 := rfl
  have d3 : Tryf.t69.desc = .named "errors.errorString" 68 := rfl
  simp [FmtStop.operand, h1, d2, d3, run_load, hc, plain67]
theorem ptr66 (w : World) : (FmtStop.ptrTo "fmt.wrapError").run Tryf.prog w = .ok 66 w := by kernel_rfl
theorem elem66 (w : World) : (elemOf 66).run Tryf.prog w = .ok 108 w := by kernel_rfl
theorem isError67 (w : World) : (FmtDoors.textMethod 67 "Error").run Tryf.prog w = .ok true w := by kernel_rfl

attribute [local go_sem] call17 call18 guard fmt0 fmt1 fmt2r act9_115 op9_115 op9_115w op3_100w ptr66 elem66 isError67

set_option maxHeartbeats 1000000 in
/-- the one call of fmt.Errorf: an error that is not nil -/
theorem errorf_calls (F : Interp) (s : ByteArray) (p : Int) (blk : Nat) (a : Addr) (t : ByteArray) (w : World) (hF : F.answers w.tape)
    (hc0 : w.cell? ⟨blk, 0, none⟩ = some (.iface 67 (.pointer (some a)))) (hc1 : w.cell? ⟨blk, 1, none⟩ = some (.iface 3 (.int .i64 p))) (hc2 : w.cell? ⟨blk, 2, none⟩ = some (.iface 9 (.string s))) (hs : w.cell? a = some (.string t)) :
    Calls Tryf.prog 16 #[.string ⟨#[37, 119, 58, 32, 108, 105, 110, 101, 32, 37, 100, 58, 32, 37, 115]⟩, .slice (some ⟨blk, 0, none⟩) 3 3] w fun e w' =>
      (∃ a, e = .returned (.iface 66 (.pointer a))) ∧ Below w.heap.size w w' := by
  have hF' := hF
  unfold Interp.answers at hF'
  have hop := opPlain67_119w "fmt.errorf" a t w hs
  go_enter Tryf.func16, Tryf.ntmps16
  go_wp2
  go_ret
  exact ⟨⟨_, rfl⟩, ((Below.refl _ _).alloc (Nat.le_refl _) _).drew⟩
end Go.Proofs.Qxb6616107aFmt
