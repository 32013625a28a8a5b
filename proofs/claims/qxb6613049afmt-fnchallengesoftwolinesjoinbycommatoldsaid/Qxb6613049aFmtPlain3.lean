import Derived.Test.Qxb6613049aFmtPlain2
import Derived.Lib.Case
namespace Go.Proofs.Qxb6613049aFmt

/-- The parameters at the head of t, behind those of ps; and what they leave. -/
def params : Nat → List UInt8 → List (List UInt8 × List UInt8) → Option (List (List UInt8 × List UInt8) × List UInt8)
  | 0, _, _ => none
  | n + 1, t, ps =>
    if (t.dropWhile spc).isEmpty then some (ps, [])
    else if ((t.dropWhile spc).takeWhile tch).isEmpty || !((((t.dropWhile spc).dropWhile tch).dropWhile wsp).head? == some 61) then
      if (t.takeWhile spc).contains 44 then some (ps, t.dropWhile spc) else none
    else match val (((((t.dropWhile spc).dropWhile tch).dropWhile wsp).drop 1).dropWhile wsp) with
      | none => none
      | some (v, t3) =>
        if ps.any (fun p => p.1 == Lib.toLowerA ((t.dropWhile spc).takeWhile tch)) then none
        else if !(t3.dropWhile wsp).isEmpty && !((t3.dropWhile wsp).head? == some 44) then none
        else params n (t3.dropWhile wsp) (ps ++ [(Lib.toLowerA ((t.dropWhile spc).takeWhile tch), v)])
end Go.Proofs.Qxb6613049aFmt
