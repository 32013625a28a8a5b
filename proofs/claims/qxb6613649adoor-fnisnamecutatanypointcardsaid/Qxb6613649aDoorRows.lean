/-
  NARROWER THAN 'FOR EVERY INPUT', by the rows' own cells (each row's printed sentence says how): FnIsNameIffPlaceholderRoundTrips: ifaces, laid · FnIsNameCutAtAnyPoint: ifaces, laid.
  DERIVED. THE GIVEN ROWS OF THIS SEAT. 2 by the template 'for every input the law returns true; each argument reads behind the call as it read before'; 0 by the template 'total and deterministic' (their statements: Qxb6613649aDoorTotals.lean).
  GIVEN WITH THE SEED: the statements are not yours to turn. If you find one false, say at which input.
  Laid BY PROGRAM, IN A SANDBOX (cutbox-rows.mjs): the forced cells as the released guide's own fill.sh prints them over the translation ccb4915b0b7b6a04… (all of the seat's roots in one cut). By AI agents, Wed Nov 11 2026. No macro, syntax, notation, axiom, sorry.
-/
import Derived.Test.Qxb6613649aDoorChecked
import GoSem.PinnedTables
import GoSem.Claim
import GoSem.ClaimJoined
import GoSem.ClaimMapViews
import Derived.JoinedTies
import Derived.KernelRfl
namespace Go.Proofs.Qxb6613649aDoor
/- THE CELL 'sum', in the pinned program and in every row, IS THE sha256 OF THE DUMP (.gsa) THAT Qxb6613649aDoorProg.lean LOADS. Nothing in Lean hashes anything: it is a label: what it is worth is what the hold of that sum in a sandbox is worth. -/
noncomputable def Tryd.pinned : Pinned := { name := "qxb6613649adoor", sum := "ccb4915b0b7b6a04a60f55a6ab411c8258d0a39fafd5abfe71e05a0aee5ab9a7", checked := Tryd.checked }
namespace Rows
def none {H : Type} : Left H := { results := [], args := [] }

/- WHAT THE LISTED PACKAGE-LEVEL VARIABLES READ AS WHEN THE CALL BEGINS. Each datum BY PROGRAM (the guide's laid-datum.mjs) off the statement by which the dump's own 'gosem.cut.vars' lays the variable. In a bare row this is a premise. The card (Qxb6613649aDoorCards.lean) ties it to the program's text. -/
def laid_unicode_utf8_acceptRanges {H : Type} : DataW H := .agg [.agg [.lit (.int .u8 128), .lit (.int .u8 191)], .agg [.lit (.int .u8 160), .lit (.int .u8 191)], .agg [.lit (.int .u8 128), .lit (.int .u8 159)], .agg [.lit (.int .u8 144), .lit (.int .u8 191)], .agg [.lit (.int .u8 128), .lit (.int .u8 143)], .agg [.lit (.int .u8 0), .lit (.int .u8 0)], .agg [.lit (.int .u8 0), .lit (.int .u8 0)], .agg [.lit (.int .u8 0), .lit (.int .u8 0)], .agg [.lit (.int .u8 0), .lit (.int .u8 0)], .agg [.lit (.int .u8 0), .lit (.int .u8 0)], .agg [.lit (.int .u8 0), .lit (.int .u8 0)], .agg [.lit (.int .u8 0), .lit (.int .u8 0)], .agg [.lit (.int .u8 0), .lit (.int .u8 0)], .agg [.lit (.int .u8 0), .lit (.int .u8 0)], .agg [.lit (.int .u8 0), .lit (.int .u8 0)], .agg [.lit (.int .u8 0), .lit (.int .u8 0)]]
def laid_example_com_mailstride_mailstride_pattern_errNoPlaceholder {H : Type} : DataW H := .iface "*errors.errorString" (.ptr (.agg [.lit (.string [36, 36, 32, 116, 104, 97, 116, 32, 115, 116, 97, 114, 116, 115, 32, 110, 111, 32, 112, 108, 97, 99, 101, 104, 111, 108, 100, 101, 114, 32, 36, 36, 78, 65, 77, 69, 36, 36, 32, 40, 119, 114, 105, 116, 101, 32, 36, 36, 36, 36, 32, 102, 111, 114, 32, 36, 36, 32, 105, 116, 115, 101, 108, 102, 41])]))
/-- One of Go's own tables, pinned by name: the form's constant. -/
def laid_unicode_utf8_first : DataW Unit := Go.Pinned.utf8First

/-- 'zzlaws_pattern_b1.FnIsNameIffPlaceholderRoundTrips': WHATEVER THE INPUT: true; the input reads as it did. -/
def fnIsNameIffPlaceholderRoundTripsSpec : ChangeSpec := { name := "fnIsNameIffPlaceholderRoundTrips", vars := ["example.com/mailstride/mailstride/pattern.errNoPlaceholder"], fn := fun _ => fun
  | [d, g1] => { results := [.lit (.bool true)], args := [d], vars := [g1] }
  | _ => none }
def fnIsNameIffPlaceholderRoundTripsRow : OpenClaim := { program := "qxb6613649adoor", sum := "ccb4915b0b7b6a04a60f55a6ab411c8258d0a39fafd5abfe71e05a0aee5ab9a7", func := "example.com/mailstride/mailstride/zzlaws_pattern_b1.FnIsNameIffPlaceholderRoundTrips", spec := "fnIsNameIffPlaceholderRoundTrips", inPlace := ["internal/bytealg.CountString", "internal/bytealg.IndexByteString", "internal/bytealg.IndexString", "internal/abi.NoEscape", "internal/bytealg.MakeNoZero"], unfollowed := true, recurses := true, named := ["example.com/mailstride/mailstride/pattern.errNoPlaceholder", "internal/bytealg.MaxLen", "unicode/utf8.first", "unicode/utf8.acceptRanges"], ifaces := true, apart := false, laid := [("unicode/utf8.acceptRanges", laid_unicode_utf8_acceptRanges), ("example.com/mailstride/mailstride/pattern.errNoPlaceholder", laid_example_com_mailstride_mailstride_pattern_errNoPlaceholder), ("unicode/utf8.first", laid_unicode_utf8_first)] }
def FnIsNameIffPlaceholderRoundTripsSaid : Prop := fnIsNameIffPlaceholderRoundTripsRow.holds Tryd.pinned (OpenSpec.ofChange fnIsNameIffPlaceholderRoundTripsSpec)

/-- ITS FALSE NEIGHBOUR: 'it returns false'. Refute it at one input. -/
def fnIsNameIffPlaceholderRoundTripsWrong : ChangeSpec := { name := "fnIsNameIffPlaceholderRoundTrips", vars := ["example.com/mailstride/mailstride/pattern.errNoPlaceholder"], fn := fun _ => fun
  | [d, g1] => { results := [.lit (.bool false)], args := [d], vars := [g1] }
  | _ => none }
def FnIsNameIffPlaceholderRoundTripsWrongFalsely : Prop := fnIsNameIffPlaceholderRoundTripsRow.holds Tryd.pinned (OpenSpec.ofChange fnIsNameIffPlaceholderRoundTripsWrong)

/-- 'zzlaws_pattern_b1.FnIsNameCutAtAnyPoint': WHATEVER THE INPUT: true; the input reads as it did. -/
def fnIsNameCutAtAnyPointSpec : ChangeSpec := { name := "fnIsNameCutAtAnyPoint", vars := ["example.com/mailstride/mailstride/pattern.errNoPlaceholder"], fn := fun _ => fun
  | [d1, d2, g1] => { results := [.lit (.bool true)], args := [d1, d2], vars := [g1] }
  | _ => none }
def fnIsNameCutAtAnyPointRow : OpenClaim := { program := "qxb6613649adoor", sum := "ccb4915b0b7b6a04a60f55a6ab411c8258d0a39fafd5abfe71e05a0aee5ab9a7", func := "example.com/mailstride/mailstride/zzlaws_pattern_b1.FnIsNameCutAtAnyPoint", spec := "fnIsNameCutAtAnyPoint", inPlace := ["internal/bytealg.CountString", "internal/bytealg.IndexByteString", "internal/bytealg.IndexString", "internal/abi.NoEscape", "internal/bytealg.MakeNoZero"], unfollowed := true, recurses := true, named := ["example.com/mailstride/mailstride/pattern.errNoPlaceholder", "internal/bytealg.MaxLen", "unicode/utf8.first", "unicode/utf8.acceptRanges"], ifaces := true, apart := false, laid := [("unicode/utf8.acceptRanges", laid_unicode_utf8_acceptRanges), ("example.com/mailstride/mailstride/pattern.errNoPlaceholder", laid_example_com_mailstride_mailstride_pattern_errNoPlaceholder), ("unicode/utf8.first", laid_unicode_utf8_first)] }
def FnIsNameCutAtAnyPointSaid : Prop := fnIsNameCutAtAnyPointRow.holds Tryd.pinned (OpenSpec.ofChange fnIsNameCutAtAnyPointSpec)

/-- ITS FALSE NEIGHBOUR: 'it returns false'. Refute it at one input. -/
def fnIsNameCutAtAnyPointWrong : ChangeSpec := { name := "fnIsNameCutAtAnyPoint", vars := ["example.com/mailstride/mailstride/pattern.errNoPlaceholder"], fn := fun _ => fun
  | [d1, d2, g1] => { results := [.lit (.bool false)], args := [d1, d2], vars := [g1] }
  | _ => none }
def FnIsNameCutAtAnyPointWrongFalsely : Prop := fnIsNameCutAtAnyPointRow.holds Tryd.pinned (OpenSpec.ofChange fnIsNameCutAtAnyPointWrong)

end Rows
end Go.Proofs.Qxb6613649aDoor
