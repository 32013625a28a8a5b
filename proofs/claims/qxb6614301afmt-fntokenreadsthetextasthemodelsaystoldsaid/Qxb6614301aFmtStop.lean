import Derived.Test.Qxb6614301aFmtW9
import Derived.Stop.CallBack
import Derived.Stop.IfaceNil
import GoSem.ClaimData
namespace Go.Proofs.Qxb6614301aFmt
open Go.RowKit
open Go.Extern.Stop Go.Stop Go.Extern

theorem call53 (args : Array Value) (w : World) : (callFunc 53 args).run Tryf.prog w = ((FmtStop.errorf #[9, 80] #[29] args).run Tryf.prog w).andThen fun v w' => .ok (.value v) w' :=
  run_callFunc_extern Tryf.func53 (by kernel_rfl) (by kernel_rfl) (by kernel_rfl) (by kernel_rfl) args w
theorem call49 (args : Array Value) (w : World) : (callFunc 49 args).run Tryf.prog w = (FmtCalls.sprintf #[9, 80] #[9] args).run Tryf.prog w :=
  run_callFunc_next Tryf.func49 (by kernel_rfl) (by kernel_rfl) (by kernel_rfl) args w
theorem sguard (name : String) (w : World) : (FmtStop.guard name).run Tryf.prog w = .ok () w := by kernel_rfl
theorem nextTurns : Extern.next FmtCalls.turnsRow = some (FmtCalls.begun #[] #[]) := by kernel_rfl
-- the string that starts here is not closed
def fmtNot : ByteArray := ⟨#[116, 104, 101, 32, 115, 116, 114, 105, 110, 103, 32, 116, 104, 97, 116, 32, 115, 116, 97, 114, 116, 115, 32, 104, 101, 114, 101, 32, 105, 115, 32, 110, 111, 116, 32, 99, 108, 111, 115, 101, 100]⟩
theorem fmtA : FmtStop.printed? fmtNot 0 = some [] := by kernel_rfl
-- %s line %d: %s
theorem fmtB : FmtStop.printed? ⟨#[37, 115, 32, 108, 105, 110, 101, 32, 37, 100, 58, 32, 37, 115]⟩ 3 = some [(0, 115, false), (1, 100, false), (2, 115, false)] := by kernel_rfl
theorem fmtBr (w : World) : (FmtDoors.printed ⟨#[37, 115, 32, 108, 105, 110, 101, 32, 37, 100, 58, 32, 37, 115]⟩ 3).run Tryf.prog w = .ok [(0, 115, false), (1, 100, false), (2, 115, false)] w := by kernel_rfl
def shape9 : List UInt8 := [12, 6, 0, 0, 0, 0, 0, 0, 0, 115, 116, 114, 105, 110, 103]
theorem op9_115w (name : String) (x : ByteArray) (w : World) : (FmtStop.operand name true 115 false (.iface 9 (.string x))).run Tryf.prog w = .ok (shape9, FmtStop.pack x.data.toList) w := by kernel_rfl
theorem op9_115 (name : String) (x : ByteArray) (w : World) : (FmtStop.operand name false 115 false (.iface 9 (.string x))).run Tryf.prog w = .ok (shape9, FmtStop.pack x.data.toList) w := by kernel_rfl
def shape3 : List UInt8 := [5, 3, 0, 0, 0, 0, 0, 0, 0, 105, 110, 116]
theorem op3_100w (name : String) (x : Int) (w : World) : (FmtStop.operand name true 100 false (.iface 3 (.int .i64 x))).run Tryf.prog w = .ok (shape3, Go.Extern.Stop.digits 8 (x % 2 ^ 64).toNat) w := by kernel_rfl
theorem op3_100 (name : String) (x : Int) (w : World) : (FmtStop.operand name false 100 false (.iface 3 (.int .i64 x))).run Tryf.prog w = .ok (shape3, Go.Extern.Stop.digits 8 (x % 2 ^ 64).toNat) w := by kernel_rfl
theorem ptr100 (w : World) : (FmtStop.ptrTo "errors.errorString").run Tryf.prog w = .ok 100 w := by kernel_rfl
theorem elem100 (w : World) : (elemOf 100).run Tryf.prog w = .ok 102 w := by kernel_rfl

/-- An error that is not nil comes back; nothing old has turned. -/
def GivesErr (w : World) (e : Ending) (w' : World) : Prop :=
  ∃ v, e = .returned (.iface 100 v) ∧ Below w.heap.size w w'

attribute [local go_sem] call53 call49 sguard fmtA fmtB fmtBr op9_115w op9_115 op3_100w op3_100 ptr100 elem100

set_option maxHeartbeats 800000 in
theorem errorf_B (F : Interp) (nm t : ByteArray) (k : Int) (blk : Nat) (w : World) (hF : F.answers w.tape)
    (hc0 : w.cell? ⟨blk, 0, none⟩ = some (.iface 9 (.string nm))) (hc1 : w.cell? ⟨blk, 1, none⟩ = some (.iface 3 (.int .i64 k))) (hc2 : w.cell? ⟨blk, 2, none⟩ = some (.iface 9 (.string t))) :
    Calls Tryf.prog 43 #[.string ⟨#[37, 115, 32, 108, 105, 110, 101, 32, 37, 100, 58, 32, 37, 115]⟩, .slice (some ⟨blk, 0, none⟩) 3 3] w (GivesErr w) := by
  have hF' := answers_open hF
  go_enter Tryf.func43, Tryf.ntmps43
  go_wp2
  go_ret
  exact ⟨_, rfl, ((Below.refl _ w).alloc (Nat.le_refl _) _).drew⟩

set_option maxHeartbeats 800000 in
theorem lineError_any (F : Interp) (nm : ByteArray) (k : Int) (w : World) (hF : F.answers w.tape) :
    Calls Tryf.prog 40 #[.string nm, .int .i64 k, .string fmtNot, .slice none 0 0] w (GivesErr w) := by
  have hF' := answers_open hF
  go_enter Tryf.func40, Tryf.ntmps40
  go_wp2
  apply rows_value nextTurns
  case hr =>
    go_simp
    exact ⟨rfl, rfl⟩
  case h =>
    go_wp2_with fail
    refine (errorf_B F nm _ k w.heap.size _ (by exact hF) (by go_simp) (by go_simp) (by go_simp; rfl)).mono ?_
    rintro e w' ⟨v, rfl, hb⟩
    go_wp2_with fail
    go_ret
    exact ⟨_, rfl, (((Below.refl _ w).alloc (Nat.le_refl _) _).drew).trans (hb.mono (by simp))⟩

theorem perrorf_any (F : Interp) (pb rb : Nat) (name : ByteArray) (L : Int) (n : Nat) (k : Int) (w : World) (hF : F.answers w.tape) (h : PB pb rb name L n w) :
    Calls Tryf.prog 26 #[.pointer (some ⟨pb, 0, none⟩), .int .i64 k, .string fmtNot, .slice none 0 0] w (GivesErr w) := by
  obtain ⟨c0, c1, c2, f2⟩ := h.cells
  clear h
  go_enter Tryf.func26, Tryf.ntmps26
  go_wp2_with fail
  refine (lineError_any F name k w hF).mono ?_
  rintro e w' ⟨v, rfl, hb⟩
  go_wp2_with fail
  go_ret
  exact ⟨_, rfl, hb⟩
end Go.Proofs.Qxb6614301aFmt
