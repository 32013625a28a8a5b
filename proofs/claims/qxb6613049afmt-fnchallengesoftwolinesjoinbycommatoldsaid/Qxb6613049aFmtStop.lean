import Derived.Test.Qxb6613049aFmtW1
import Derived.Stop.CallBack
import Derived.Stop.IfaceNil
import GoSem.ClaimData
namespace Go.Proofs.Qxb6613049aFmt
open Go.RowKit
open Go.Extern.Stop Go.Stop Go.Extern

theorem call43 (args : Array Value) (w : World) : (callFunc 43 args).run Tryf.prog w = ((FmtStop.errorf #[9, 69] #[32] args).run Tryf.prog w).andThen fun v w' => .ok (.value v) w' :=
  run_callFunc_extern Tryf.func43 (by kernel_rfl) (by kernel_rfl) (by kernel_rfl) (by kernel_rfl) args w
theorem sguard (name : String) (w : World) : (FmtStop.guard name).run Tryf.prog w = .ok () w := by kernel_rfl
theorem fmtA : FmtStop.printed? ⟨#[37, 115, 32, 97, 116, 32, 98, 121, 116, 101, 32, 37, 100]⟩ 2 = some [(0, 115, false), (1, 100, false)] := by kernel_rfl
theorem fmtAr (w : World) : (FmtDoors.printed ⟨#[37, 115, 32, 97, 116, 32, 98, 121, 116, 101, 32, 37, 100]⟩ 2).run Tryf.prog w = .ok [(0, 115, false), (1, 100, false)] w := by kernel_rfl
theorem fmtB : FmtStop.printed? ⟨#[112, 97, 114, 97, 109, 101, 116, 101, 114, 32, 97, 116, 32, 98, 121, 116, 101, 32, 37, 100, 32, 110, 97, 109, 101, 100, 32, 116, 119, 105, 99, 101, 32, 105, 110, 32, 111, 110, 101, 32, 99, 104, 97, 108, 108, 101, 110, 103, 101]⟩ 1 = some [(0, 100, false)] := by kernel_rfl
theorem fmtBr (w : World) : (FmtDoors.printed ⟨#[112, 97, 114, 97, 109, 101, 116, 101, 114, 32, 97, 116, 32, 98, 121, 116, 101, 32, 37, 100, 32, 110, 97, 109, 101, 100, 32, 116, 119, 105, 99, 101, 32, 105, 110, 32, 111, 110, 101, 32, 99, 104, 97, 108, 108, 101, 110, 103, 101]⟩ 1).run Tryf.prog w = .ok [(0, 100, false)] w := by kernel_rfl
def shape9 : List UInt8 := [12, 6, 0, 0, 0, 0, 0, 0, 0, 115, 116, 114, 105, 110, 103]
theorem op9_115w (name : String) (x : ByteArray) (w : World) : (FmtStop.operand name true 115 false (.iface 9 (.string x))).run Tryf.prog w = .ok (shape9, FmtStop.pack x.data.toList) w := by kernel_rfl
theorem op9_115 (name : String) (x : ByteArray) (w : World) : (FmtStop.operand name false 115 false (.iface 9 (.string x))).run Tryf.prog w = .ok (shape9, FmtStop.pack x.data.toList) w := by kernel_rfl
def shape3 : List UInt8 := [5, 3, 0, 0, 0, 0, 0, 0, 0, 105, 110, 116]
theorem op3_100w (name : String) (x : Int) (w : World) : (FmtStop.operand name true 100 false (.iface 3 (.int .i64 x))).run Tryf.prog w = .ok (shape3, Go.Extern.Stop.digits 8 (x % 2 ^ 64).toNat) w := by kernel_rfl
theorem op3_100 (name : String) (x : Int) (w : World) : (FmtStop.operand name false 100 false (.iface 3 (.int .i64 x))).run Tryf.prog w = .ok (shape3, Go.Extern.Stop.digits 8 (x % 2 ^ 64).toNat) w := by kernel_rfl
theorem ptr80 (w : World) : (FmtStop.ptrTo "errors.errorString").run Tryf.prog w = .ok 80 w := by kernel_rfl
theorem elem80 (w : World) : (elemOf 80).run Tryf.prog w = .ok 82 w := by kernel_rfl

/-- An error that is not nil comes back; nothing old has turned. -/
def GivesErr (w : World) (e : Ending) (w' : World) : Prop :=
  ∃ v, e = .returned (.iface 80 v) ∧ Below w.heap.size w w'

attribute [local go_sem] call43 sguard fmtA fmtAr fmtB fmtBr op9_115w op9_115 op3_100w op3_100 ptr80 elem80

set_option maxHeartbeats 800000 in
theorem errorf_A (F : Interp) (s : ByteArray) (k : Int) (blk : Nat) (w : World) (hF : F.answers w.tape)
    (hc0 : w.cell? ⟨blk, 0, none⟩ = some (.iface 9 (.string s))) (hc1 : w.cell? ⟨blk, 1, none⟩ = some (.iface 3 (.int .i64 k))) :
    Calls Tryf.prog 37 #[.string ⟨#[37, 115, 32, 97, 116, 32, 98, 121, 116, 101, 32, 37, 100]⟩, .slice (some ⟨blk, 0, none⟩) 2 2] w (GivesErr w) := by
  have hF' := answers_open hF
  go_enter Tryf.func37, Tryf.ntmps37
  go_wp2
  go_ret
  exact ⟨_, rfl, ((Below.refl _ w).alloc (Nat.le_refl _) _).drew⟩

set_option maxHeartbeats 800000 in
theorem errorf_B (F : Interp) (k : Int) (blk : Nat) (w : World) (hF : F.answers w.tape)
    (hc0 : w.cell? ⟨blk, 0, none⟩ = some (.iface 3 (.int .i64 k))) :
    Calls Tryf.prog 37 #[.string ⟨#[112, 97, 114, 97, 109, 101, 116, 101, 114, 32, 97, 116, 32, 98, 121, 116, 101, 32, 37, 100, 32, 110, 97, 109, 101, 100, 32, 116, 119, 105, 99, 101, 32, 105, 110, 32, 111, 110, 101, 32, 99, 104, 97, 108, 108, 101, 110, 103, 101]⟩, .slice (some ⟨blk, 0, none⟩) 1 1] w (GivesErr w) := by
  have hF' := answers_open hF
  go_enter Tryf.func37, Tryf.ntmps37
  go_wp2
  go_ret
  exact ⟨_, rfl, ((Below.refl _ w).alloc (Nat.le_refl _) _).drew⟩

/-- The reader's errorf. -/
theorem rerrorf_any (F : Interp) (rb : Nat) (s what : ByteArray) (pos : Int) (w : World) (hF : F.answers w.tape) (h : Rd rb s pos w) :
    Calls Tryf.prog 27 #[.pointer (some ⟨rb, 0, none⟩), .string what] w (GivesErr w) := by
  obtain ⟨r, c0, c1, c2, f1, f2⟩ := h.cells
  clear h
  go_enter Tryf.func27, Tryf.ntmps27
  go_wp2_with (go_at_call 37; refine (errorf_A F what pos w.heap.size _ (by exact hF) (by go_simp) (by go_simp)).mono ?_; rintro e w' ⟨v, rfl, hb⟩)
  go_ret
  exact ⟨_, rfl, ((Below.refl _ w).alloc (Nat.le_refl _) _).trans (hb.mono (by simp))⟩
end Go.Proofs.Qxb6613049aFmt
