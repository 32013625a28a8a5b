import Derived.Test.Qxb6613049aFmtW17
namespace Go.Proofs.Qxb6613049aFmt
open Go.RowKit Go.Stop

set_option maxRecDepth 100000 in
theorem law_bigA (a b : ByteArray) (w : World) (ha : 524288 < a.size) (ha2 : a.size ≤ 9223372036854775807) :
    Calls Tryf.prog 4 #[.string a, .string b] w fun e w' => e = .returned (.bool true) ∧ Below w.heap.size w w' := by
  have hga : decide ((524288 : Int) < a.size) = true := by simp; omega
  go_enter Tryf.func4, Tryf.ntmps4
  go_wp2_with fail
  refine (zzBytes_any a b w).mono ?_
  rintro e w' ⟨⟨r, rfl⟩, rfl⟩
  cases r with
  | false =>
    go_wp2_with fail
    go_ret
    exact ⟨rfl, Below.refl _ _⟩
  | true =>
    go_wp2_with fail
    go_ret
    exact ⟨rfl, Below.refl _ _⟩

set_option maxRecDepth 100000 in
theorem law_bigB (a b : ByteArray) (w : World) (ha : a.size ≤ 524288) (hb : 524288 < b.size) (hb2 : b.size ≤ 9223372036854775807) :
    Calls Tryf.prog 4 #[.string a, .string b] w fun e w' => e = .returned (.bool true) ∧ Below w.heap.size w w' := by
  have hga : decide ((524288 : Int) < a.size) = false := by simp; omega
  have hgb : decide ((524288 : Int) < b.size) = true := by simp; omega
  go_enter Tryf.func4, Tryf.ntmps4
  go_wp2_with fail
  refine (zzBytes_any a b w).mono ?_
  rintro e w' ⟨⟨r, rfl⟩, rfl⟩
  cases r with
  | false =>
    go_wp2_with fail
    go_ret
    exact ⟨rfl, Below.refl _ _⟩
  | true =>
    go_wp2_with fail
    go_ret
    exact ⟨rfl, Below.refl _ _⟩
end Go.Proofs.Qxb6613049aFmt
