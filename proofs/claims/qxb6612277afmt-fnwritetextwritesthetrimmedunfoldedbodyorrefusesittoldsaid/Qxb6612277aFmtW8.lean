/-
  Walks: Name.
-/
import Derived.Test.Qxb6612277aFmtW3
import Derived.Test.Qxb6612277aFmtW7
namespace Go.Proofs.Qxb6612277aFmt
open Go.RowKit

set_option maxRecDepth 100000 in
set_option maxHeartbeats 1000000 in
theorem name_any (p : Option Addr) (n c : Nat) (l : List UInt8) (w : World) (hl : l.length = n) (hn : n ≤ 1048576) (hcap : n ≤ c) (hc : BA w p l) :
    Calls Tryf.prog 27 #[.agg #[.slice p n c, .int .u64 0]] w fun e w' => ∃ s, e = .returned (.string s) ∧ Below w.heap.size w w' := by
  have hc2 : ∀ o, BA (w.alloc o) p l := fun o => hc.below ((Below.refl _ w).alloc (Nat.le_refl _) o)
  have hcv : ∀ m o, m ≤ n → Sem.run Tryf.prog (convert 32 9 (.slice p m c)) (w.alloc o).drew = .ok (.string ⟨(l.take m).toArray⟩) (w.alloc o).drew := fun m o hm => by
    have := convert_str (w := (w.alloc o).drew) (by exact (hc2 o).take m) c
    rwa [List.length_take, Nat.min_eq_left (by omega)] at this
  have HC := hide hc2
  clear hc hc2
  go_enter Tryf.func27, Tryf.ntmps27
  go_wp2
  go_region_with (go_at_call 32; refine (nameLen_any p n c l _ hl hn (by exact unhide HC _)).mono ?_; rintro e w' ⟨m, hm, rfl, rfl⟩)
  all_goals go_wp2
  all_goals go_ret
  all_goals exact ⟨_, rfl, ((Below.refl _ w).alloc (Nat.le_refl _) _).drew⟩
end Go.Proofs.Qxb6612277aFmt
