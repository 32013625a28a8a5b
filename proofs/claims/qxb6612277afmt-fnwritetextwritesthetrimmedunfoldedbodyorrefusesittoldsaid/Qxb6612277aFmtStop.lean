/-
  The closed facts for the walk over fmt's stopped front in this dump (after the guide's make of such facts), and fmt.Errorf's contracts: an error that is not nil.
-/
import Derived.Test.Qxb6612277aFmtKit
import Derived.Stop.CallBack
import Derived.Stop.IfaceNil
import GoSem.ClaimData
namespace Go.Proofs.Qxb6612277aFmt
open Go.RowKit Go.Extern.Stop Go.Stop Go.Extern

theorem call49 (args : Array Value) (w : World) : (callFunc 49 args).run Tryf.prog w = (FmtCalls.errorf #[9, 90] #[45] args).run Tryf.prog w :=
  run_callFunc_next Tryf.func49 (by kernel_rfl) (by kernel_rfl) (by kernel_rfl) args w
theorem sguard (name : String) (w : World) : (FmtStop.guard name).run Tryf.prog w = .ok () w := by kernel_rfl
theorem nextTurns : Extern.next FmtCalls.turnsRow = some (FmtCalls.begun #[] #[]) := by kernel_rfl
theorem nextReturned : Extern.next FmtCalls.returnedRow = some (FmtCalls.returned #[] #[]) := by kernel_rfl

-- byte 0x%02X at offset %d is outside US-ASCII
theorem fmtA : FmtStop.printed? ⟨#[98, 121, 116, 101, 32, 48, 120, 37, 48, 50, 88, 32, 97, 116, 32, 111, 102, 102, 115, 101, 116, 32, 37, 100, 32, 105, 115, 32, 111, 117, 116, 115, 105, 100, 101, 32, 85, 83, 45, 65, 83, 67, 73, 73]⟩ 2 = some [(0, 88, false), (1, 100, false)] := by kernel_rfl
theorem fmtAr (w : World) : (FmtDoors.printed ⟨#[98, 121, 116, 101, 32, 48, 120, 37, 48, 50, 88, 32, 97, 116, 32, 111, 102, 102, 115, 101, 116, 32, 37, 100, 32, 105, 115, 32, 111, 117, 116, 115, 105, 100, 101, 32, 85, 83, 45, 65, 83, 67, 73, 73]⟩ 2).run Tryf.prog w = .ok [(0, 88, false), (1, 100, false)] w := by kernel_rfl
-- control character 0x%02X at offset %d
theorem fmtB : FmtStop.printed? ⟨#[99, 111, 110, 116, 114, 111, 108, 32, 99, 104, 97, 114, 97, 99, 116, 101, 114, 32, 48, 120, 37, 48, 50, 88, 32, 97, 116, 32, 111, 102, 102, 115, 101, 116, 32, 37, 100]⟩ 2 = some [(0, 88, false), (1, 100, false)] := by kernel_rfl
theorem fmtBr (w : World) : (FmtDoors.printed ⟨#[99, 111, 110, 116, 114, 111, 108, 32, 99, 104, 97, 114, 97, 99, 116, 101, 114, 32, 48, 120, 37, 48, 50, 88, 32, 97, 116, 32, 111, 102, 102, 115, 101, 116, 32, 37, 100]⟩ 2).run Tryf.prog w = .ok [(0, 88, false), (1, 100, false)] w := by kernel_rfl
-- letterfold: writing the %s field: %w
theorem fmtC : FmtStop.printed? ⟨#[108, 101, 116, 116, 101, 114, 102, 111, 108, 100, 58, 32, 119, 114, 105, 116, 105, 110, 103, 32, 116, 104, 101, 32, 37, 115, 32, 102, 105, 101, 108, 100, 58, 32, 37, 119]⟩ 2 = some [(0, 115, false), (1, 119, false)] := by kernel_rfl
theorem fmtCr (w : World) : (FmtDoors.printed ⟨#[108, 101, 116, 116, 101, 114, 102, 111, 108, 100, 58, 32, 119, 114, 105, 116, 105, 110, 103, 32, 116, 104, 101, 32, 37, 115, 32, 102, 105, 101, 108, 100, 58, 32, 37, 119]⟩ 2).run Tryf.prog w = .ok [(0, 115, false), (1, 119, false)] w := by kernel_rfl

theorem name9 : Tryf.prog.typeName? 3 9 = some "string" := by kernel_rfl
def shape9 : List UInt8 := [12, 6, 0, 0, 0, 0, 0, 0, 0, 115, 116, 114, 105, 110, 103]
theorem act9_115w (name : String) (x : Value) (w : World) : (FmtCalls.act name true 115 false (.iface 9 x)).run Tryf.prog w = .ok (.closed true) w := by kernel_rfl
theorem op9_115w (name : String) (x : ByteArray) (w : World) : (FmtStop.operand name true 115 false (.iface 9 (.string x))).run Tryf.prog w = .ok (shape9, FmtStop.pack x.data.toList) w := by kernel_rfl
theorem str9 (w : World) : (typeStr 9).run Tryf.prog w = .ok "string" w := by kernel_rfl

def shape3 : List UInt8 := [5, 3, 0, 0, 0, 0, 0, 0, 0, 105, 110, 116]
theorem act3_100w (name : String) (x : Value) (w : World) : (FmtCalls.act name true 100 false (.iface 3 x)).run Tryf.prog w = .ok (.closed true) w := by kernel_rfl
theorem op3_100w (name : String) (x : Int) (w : World) : (FmtStop.operand name true 100 false (.iface 3 (.int .i64 x))).run Tryf.prog w = .ok (shape3, Go.Extern.Stop.digits 8 (x % 2 ^ 64).toNat) w := by kernel_rfl
theorem str3 (w : World) : (typeStr 3).run Tryf.prog w = .ok "int" w := by kernel_rfl

def shape5 : List UInt8 := [6, 5, 0, 0, 0, 0, 0, 0, 0, 117, 105, 110, 116, 56]
theorem act5_88w (name : String) (x : Value) (w : World) : (FmtCalls.act name true 88 false (.iface 5 x)).run Tryf.prog w = .ok (.closed true) w := by kernel_rfl
theorem op5_88w (name : String) (x : Int) (w : World) : (FmtStop.operand name true 88 false (.iface 5 (.int .u8 x))).run Tryf.prog w = .ok (shape5, Go.Extern.Stop.digits 8 (x % 2 ^ 64).toNat) w := by kernel_rfl
theorem str5 (w : World) : (typeStr 5).run Tryf.prog w = .ok "uint8" w := by kernel_rfl

theorem ptr61 (w : World) : (FmtStop.ptrTo "errors.errorString").run Tryf.prog w = .ok 61 w := by kernel_rfl
theorem elem61 (w : World) : (elemOf 61).run Tryf.prog w = .ok 63 w := by kernel_rfl
theorem isError61 (w : World) : (FmtDoors.textMethod 61 "Error").run Tryf.prog w = .ok true w := by kernel_rfl
/-- The name of the pointer to an error of the library. -/
def nm61 : String := String.singleton '*' ++ "errors.errorString"
def plain61 : List UInt8 := 14 :: FmtStop.pack nm61.toUTF8.data.toList
theorem opPlain61_119w (name : String) (a : Addr) (s : ByteArray) (w : World) (hc : w.cell? a = some (.string s)) :
    (FmtStop.operand name true 119 false (.iface 61 (.pointer (some a)))).run Tryf.prog w = .ok (plain61, s.data.toList) w := by
  have h1 : (typeStr 61).run Tryf.prog w = .ok nm61 w := by kernel_rfl
  have d2 : Tryf.t61.desc = .pointer 63 := rfl
  have d3 : Tryf.t63.desc = .named "errors.errorString" 62 := rfl
  simp [FmtStop.operand, h1, d2, d3, run_load, hc, plain61]
theorem actPlain61_119w (name : String) (x : Value) (w : World) : (FmtCalls.act name true 119 false (.iface 61 x)).run Tryf.prog w = .ok (.closed true) w := by kernel_rfl
theorem ptr91 (w : World) : (FmtStop.ptrTo "fmt.wrapError").run Tryf.prog w = .ok 91 w := by kernel_rfl
theorem elem91 (w : World) : (elemOf 91).run Tryf.prog w = .ok 132 w := by kernel_rfl
theorem isError91 (w : World) : (FmtDoors.textMethod 91 "Error").run Tryf.prog w = .ok true w := by kernel_rfl

/-- An error of errors.New's make comes back, its text somewhere; nothing old has turned. -/
def GivesErr (w : World) (e : Ending) (w' : World) : Prop :=
  ∃ N s, e = .returned (.iface 61 (.pointer (some ⟨N, 0, none⟩))) ∧ w'.cell? ⟨N, 0, none⟩ = some (.string s) ∧ Below w.heap.size w w'

attribute [local go_sem] call49 sguard fmtA fmtAr fmtB fmtBr fmtC fmtCr act9_115w op9_115w str9 act3_100w op3_100w str3 act5_88w op5_88w str5 ptr61 elem61 isError61 actPlain61_119w ptr91 elem91 isError91

set_option maxHeartbeats 800000 in
theorem errorf_A (F : Interp) (cv k : Int) (blk : Nat) (w : World) (hF : F.answers w.tape)
    (hc0 : w.cell? ⟨blk, 0, none⟩ = some (.iface 5 (.int .u8 cv))) (hc1 : w.cell? ⟨blk, 1, none⟩ = some (.iface 3 (.int .i64 k))) :
    Calls Tryf.prog 31 #[.string ⟨#[98, 121, 116, 101, 32, 48, 120, 37, 48, 50, 88, 32, 97, 116, 32, 111, 102, 102, 115, 101, 116, 32, 37, 100, 32, 105, 115, 32, 111, 117, 116, 115, 105, 100, 101, 32, 85, 83, 45, 65, 83, 67, 73, 73]⟩, .slice (some ⟨blk, 0, none⟩) 2 2] w (GivesErr w) := by
  have hF' := answers_open hF
  go_enter Tryf.func31, Tryf.ntmps31
  go_wp2
  apply rows_value nextTurns
  case hr =>
    go_simp
    exact ⟨rfl, rfl⟩
  case h =>
    go_wp2
    go_ret
    exact ⟨w.heap.size, _, rfl, by go_simp; rfl, ((Below.refl _ w).alloc (Nat.le_refl _) _).drew⟩

set_option maxHeartbeats 800000 in
theorem errorf_B (F : Interp) (cv k : Int) (blk : Nat) (w : World) (hF : F.answers w.tape)
    (hc0 : w.cell? ⟨blk, 0, none⟩ = some (.iface 5 (.int .u8 cv))) (hc1 : w.cell? ⟨blk, 1, none⟩ = some (.iface 3 (.int .i64 k))) :
    Calls Tryf.prog 31 #[.string ⟨#[99, 111, 110, 116, 114, 111, 108, 32, 99, 104, 97, 114, 97, 99, 116, 101, 114, 32, 48, 120, 37, 48, 50, 88, 32, 97, 116, 32, 111, 102, 102, 115, 101, 116, 32, 37, 100]⟩, .slice (some ⟨blk, 0, none⟩) 2 2] w (GivesErr w) := by
  have hF' := answers_open hF
  go_enter Tryf.func31, Tryf.ntmps31
  go_wp2
  apply rows_value nextTurns
  case hr =>
    go_simp
    exact ⟨rfl, rfl⟩
  case h =>
    go_wp2
    go_ret
    exact ⟨w.heap.size, _, rfl, by go_simp; rfl, ((Below.refl _ w).alloc (Nat.le_refl _) _).drew⟩

/-- An error that is not nil comes back; nothing old has turned. -/
def GivesSomeErr (w : World) (e : Ending) (w' : World) : Prop :=
  ∃ v, e = .returned (.iface 91 v) ∧ Below w.heap.size w w'

set_option maxHeartbeats 800000 in
theorem errorf_C (F : Interp) (nm t : ByteArray) (a : Addr) (blk : Nat) (w : World) (hF : F.answers w.tape)
    (hc0 : w.cell? ⟨blk, 0, none⟩ = some (.iface 9 (.string nm))) (hc1 : w.cell? ⟨blk, 1, none⟩ = some (.iface 61 (.pointer (some a)))) (ha : w.cell? a = some (.string t)) :
    Calls Tryf.prog 31 #[.string ⟨#[108, 101, 116, 116, 101, 114, 102, 111, 108, 100, 58, 32, 119, 114, 105, 116, 105, 110, 103, 32, 116, 104, 101, 32, 37, 115, 32, 102, 105, 101, 108, 100, 58, 32, 37, 119]⟩, .slice (some ⟨blk, 0, none⟩) 2 2] w (GivesSomeErr w) := by
  have hF' := answers_open hF
  have hop := opPlain61_119w "fmt.errorf" a t w ha
  go_enter Tryf.func31, Tryf.ntmps31
  go_wp2
  apply rows_value nextTurns
  case hr =>
    go_simp
    exact ⟨rfl, rfl⟩
  case h =>
    go_wp2
    go_ret
    exact ⟨_, rfl, ((Below.refl _ w).alloc (Nat.le_refl _) _).drew⟩

set_option maxHeartbeats 800000 in
theorem writingError_any (F : Interp) (nm t : ByteArray) (a : Addr) (w : World) (hF : F.answers w.tape) (ha : w.cell? a = some (.string t)) :
    Calls Tryf.prog 26 #[.string nm, .iface 61 (.pointer (some a))] w (GivesSomeErr w) := by
  have ha2 : ∀ o, (w.alloc o).cell? a = some (.string t) := fun o => cell_later ((Below.refl _ w).alloc (Nat.le_refl _) o) ha
  go_enter Tryf.func26, Tryf.ntmps26
  go_wp2_with (go_at_call 31; refine (errorf_C F nm t a w.heap.size _ (by exact hF) (by go_simp) (by go_simp) (ha2 _)).mono ?_; rintro e w' ⟨v, rfl, hb⟩)
  go_ret
  exact ⟨_, rfl, ((Below.refl _ w).alloc (Nat.le_refl _) _).trans (hb.mono (by simp))⟩

end Go.Proofs.Qxb6612277aFmt
