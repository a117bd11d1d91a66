/-
  THE CLOSED FACTS for the walk over fmt.errorf's stop, after the kit's worked texts; fmt.Errorf's contract at the two formats of checkKey: whatever fmt's text is, the error is not nil.
-/
import Derived.Test.Qxb6605882aFmtWalkD
import Derived.Stop.CallBack
import Derived.Stop.IfaceNil
import Derived.WalkSpells
namespace Go.Proofs.Qxb6605882aFmt
open Go.RowKit Go.Extern.Stop Go.Stop Go.Extern

@[go_sem] theorem call33 (args : Array Value) (w : World) : (callFunc 33 args).run Tryf.prog w = (FmtCalls.errorf #[9, 59] #[24] args).run Tryf.prog w :=
  run_callFunc_next Tryf.func33 (by kernel_rfl) (by kernel_rfl) (by kernel_rfl) args w
@[go_sem] theorem guard33 (name : String) (w : World) : (FmtStop.guard name).run Tryf.prog w = .ok () w := by kernel_rfl
theorem nextTurns : Extern.next FmtCalls.turnsRow = some (FmtCalls.begun #[] #[]) := by kernel_rfl
@[go_sem] theorem fmtA (w : World) : (FmtDoors.printed ⟨#[116, 104, 101, 32, 107, 101, 121, 32, 37, 113, 32, 104, 97, 115, 32, 97, 32, 112, 114, 101, 102, 105, 120, 32, 116, 104, 97, 116, 32, 105, 115, 32, 110, 111, 116, 32, 97, 32, 68, 78, 83, 32, 115, 117, 98, 100, 111, 109, 97, 105, 110, 32, 111, 102, 32, 97, 116, 32, 109, 111, 115, 116, 32, 50, 53, 51, 32, 99, 104, 97, 114, 97, 99, 116, 101, 114, 115]⟩ 1).run Tryf.prog w = .ok [(0, 113, false)] w := by kernel_rfl
@[go_sem] theorem fmtB (w : World) : (FmtDoors.printed ⟨#[116, 104, 101, 32, 107, 101, 121, 32, 37, 113, 32, 105, 115, 32, 110, 111, 116, 32, 97, 32, 110, 97, 109, 101, 32, 111, 102, 32, 97, 116, 32, 109, 111, 115, 116, 32, 54, 51, 32, 108, 101, 116, 116, 101, 114, 115, 44, 32, 100, 105, 103, 105, 116, 115, 44, 32, 39, 45, 39, 44, 32, 39, 95, 39, 32, 97, 110, 100, 32, 39, 46, 39, 44, 32, 98, 101, 103, 105, 110, 110, 105, 110, 103, 32, 97, 110, 100, 32, 101, 110, 100, 105, 110, 103, 32, 119, 105, 116, 104, 32, 97, 32, 108, 101, 116, 116, 101, 114, 32, 111, 114, 32, 100, 105, 103, 105, 116, 44, 32, 97, 102, 116, 101, 114, 32, 97, 110, 32, 111, 112, 116, 105, 111, 110, 97, 108, 32, 112, 114, 101, 102, 105, 120, 32, 97, 110, 100, 32, 39, 47, 39]⟩ 1).run Tryf.prog w = .ok [(0, 113, false)] w := by kernel_rfl
def shape9 : List UInt8 := [12, 6, 0, 0, 0, 0, 0, 0, 0, 115, 116, 114, 105, 110, 103]
@[go_sem] theorem act9_113w (name : String) (x : Value) (w : World) : (FmtCalls.act name true 113 false (.iface 9 x)).run Tryf.prog w = .ok (.closed true) w := by kernel_rfl
@[go_sem] theorem op9_113w (name : String) (x : ByteArray) (w : World) : (FmtStop.operand name true 113 false (.iface 9 (.string x))).run Tryf.prog w = .ok (shape9, FmtStop.pack x.data.toList) w := by kernel_rfl
@[go_sem] theorem act9_113 (name : String) (x : Value) (w : World) : (FmtCalls.act name false 113 false (.iface 9 x)).run Tryf.prog w = .ok (.closed false) w := by kernel_rfl
@[go_sem] theorem op9_113 (name : String) (x : ByteArray) (w : World) : (FmtStop.operand name false 113 false (.iface 9 (.string x))).run Tryf.prog w = .ok (shape9, FmtStop.pack x.data.toList) w := by kernel_rfl
@[go_sem] theorem strict9 (name : String) (x : ByteArray) (w : World) : (FmtStop.strict name (.iface 9 (.string x))).run Tryf.prog w = .ok (shape9, FmtStop.pack x.data.toList) w := by kernel_rfl
@[go_sem] theorem str9 (w : World) : (typeStr 9).run Tryf.prog w = .ok "string" w := by kernel_rfl
@[go_sem] theorem ptr65 (w : World) : (FmtStop.ptrTo "errors.errorString").run Tryf.prog w = .ok 65 w := by kernel_rfl
@[go_sem] theorem elem65 (w : World) : (elemOf 65).run Tryf.prog w = .ok 67 w := by kernel_rfl

set_option maxRecDepth 1000000 in
set_option maxHeartbeats 800000 in
theorem errorf_a (F : Interp) (s : ByteArray) (blk : Nat) (w : World) (hF : F.answers w.tape) (hc0 : w.cell? ⟨blk, 0, none⟩ = some (.iface 9 (.string s))) :
    Calls Tryf.prog 21 #[.string ⟨#[116, 104, 101, 32, 107, 101, 121, 32, 37, 113, 32, 104, 97, 115, 32, 97, 32, 112, 114, 101, 102, 105, 120, 32, 116, 104, 97, 116, 32, 105, 115, 32, 110, 111, 116, 32, 97, 32, 68, 78, 83, 32, 115, 117, 98, 100, 111, 109, 97, 105, 110, 32, 111, 102, 32, 97, 116, 32, 109, 111, 115, 116, 32, 50, 53, 51, 32, 99, 104, 97, 114, 97, 99, 116, 101, 114, 115]⟩, .slice (some ⟨blk, 0, none⟩) 1 1] w fun e w' => (∃ a, e = .returned (.iface 65 (.pointer (some a)))) ∧ Below w.heap.size w w' := by
  have hF' := answers_open hF
  have hb : blk < w.heap.size := World.block_lt_of_cell? _ _ hc0
  go_enter Tryf.func21, Tryf.ntmps21
  go_wp2
  apply rows_value nextTurns
  case hr =>
    go_simp
    exact ⟨rfl, rfl⟩
  case h =>
    go_wp2
    go_ret
    refine ⟨⟨_, rfl⟩, ?_⟩
    exact ((Below.refl _ _).alloc (Nat.le_refl _) _).drew

set_option maxRecDepth 1000000 in
set_option maxHeartbeats 800000 in
theorem errorf_b (F : Interp) (s : ByteArray) (blk : Nat) (w : World) (hF : F.answers w.tape) (hc0 : w.cell? ⟨blk, 0, none⟩ = some (.iface 9 (.string s))) :
    Calls Tryf.prog 21 #[.string ⟨#[116, 104, 101, 32, 107, 101, 121, 32, 37, 113, 32, 105, 115, 32, 110, 111, 116, 32, 97, 32, 110, 97, 109, 101, 32, 111, 102, 32, 97, 116, 32, 109, 111, 115, 116, 32, 54, 51, 32, 108, 101, 116, 116, 101, 114, 115, 44, 32, 100, 105, 103, 105, 116, 115, 44, 32, 39, 45, 39, 44, 32, 39, 95, 39, 32, 97, 110, 100, 32, 39, 46, 39, 44, 32, 98, 101, 103, 105, 110, 110, 105, 110, 103, 32, 97, 110, 100, 32, 101, 110, 100, 105, 110, 103, 32, 119, 105, 116, 104, 32, 97, 32, 108, 101, 116, 116, 101, 114, 32, 111, 114, 32, 100, 105, 103, 105, 116, 44, 32, 97, 102, 116, 101, 114, 32, 97, 110, 32, 111, 112, 116, 105, 111, 110, 97, 108, 32, 112, 114, 101, 102, 105, 120, 32, 97, 110, 100, 32, 39, 47, 39]⟩, .slice (some ⟨blk, 0, none⟩) 1 1] w fun e w' => (∃ a, e = .returned (.iface 65 (.pointer (some a)))) ∧ Below w.heap.size w w' := by
  have hF' := answers_open hF
  have hb : blk < w.heap.size := World.block_lt_of_cell? _ _ hc0
  go_enter Tryf.func21, Tryf.ntmps21
  go_wp2
  apply rows_value nextTurns
  case hr =>
    go_simp
    exact ⟨rfl, rfl⟩
  case h =>
    go_wp2
    go_ret
    refine ⟨⟨_, rfl⟩, ?_⟩
    exact ((Below.refl _ _).alloc (Nat.le_refl _) _).drew

end Go.Proofs.Qxb6605882aFmt
