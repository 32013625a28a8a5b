import Derived.Test.Qxb6613649aDoorW13
import Derived.Test.Qxb6613649aDoorRows
import Derived.Test.Qxb6613649aDoorTie
import Derived.Test.Qxb6613649aDoorCards
import Derived.ProofKit
import Derived.OpenVars
import Derived.OpenShut
import Derived.LaidMore
import Derived.Lay
import Derived.HandedShaped
import Derived.Shelf.Vars
import Derived.Stop.LaidErr
import Derived.SevenTiedAt
import Derived.Stop.Joined
import Derived.ChangeMaps5
namespace Go.Proofs.Qxb6613649aDoor
open Go.ChangeShapes Go.WideShapes Go.ChangeAt Go.RowKit
open Go.ChangeMaps (open_string shut_string)

theorem own : ownKnob Tryd.prog.godebug = none := by kernel_rfl
theorem laidOut : laidOutB Tryd.prog = true := by kernel_rfl
/-- The second listed variable's name. -/
def nmG : String := (Rows.fnIsNameIffPlaceholderRoundTripsRow.laid.map (fun x => x.1)).getD 1 "none"
theorem gE : Tryd.prog.globalNamed nmG = some 0 := by kernel_rfl
theorem gEType : (Tryd.prog.globals[0]?).map (·.type) = some 33 := by kernel_rfl
theorem cells121 : Tryd.prog.cellsOf 121 = 1 := by kernel_rfl
theorem cells9 : Tryd.prog.cellsOf 9 = 1 := by kernel_rfl
/-- The name of a listed sentinel's type. -/
def nmOf : DataW Unit → String
  | .iface n _ => n
  | _ => "none"
theorem row105 (u : TypeId) (h : Tryd.prog.typeName? 3 u = some (nmOf Rows.laid_example_com_mailstride_mailstride_pattern_errNoPlaceholder)) : u = 105 :=
  typeName_ptr_named (nm := "errors.errorString") (by kernel_rfl) (by kernel_rfl) (by decide) u (h.trans (by kernel_rfl))

/-- The wrap, with the laid variables and the world's shape kept. -/
theorem wrapped {H : Type} {enc : TypeId × Value → H} {a : Assume} {C : Checked} {os : Os} {f : FuncId} {fn : Func} {s : ChangeSpec} {conds : List PathCond} {apart fresh handsOn again : Bool} {X : World → Array Value → Prop}
    (hX : ∀ (w w' : World) (args : Array Value), w.heap = w'.heap → X w args → X w' args)
    (own : ownKnob C.prog.godebug = none) (started : os.Started) (noInit : C.prog.inits.idxOf? f = none) (hfn : C.prog.funcs[f]? = some fn)
    (witness : ∃ (w : World) (tape : Tape) (i : Input), w.os = os ∧ (w.forCall tape i).Shaped C.prog ∧ i.vars = [] ∧ Input.okWide C.prog (w.forCall tape i) .any w.heap.size f i ∧
      ((s.pre enc C.prog fn conds apart (w.forCall tape i).memory i.args ∧ X (w.forCall tape i).memory i.args) ∧ sizedMet enc C.prog fn (OpenSpec.ofChange s) apart (w.forCall tape i).memory i.args) ∧ a.holds C.prog (lone (Frame.enter C.prog f i.args .normal) [] (w.forCall tape i)))
    (law : ∀ (W : World) (base : Nat) (args : Array Value) (ds gs : List (DataW H)) (before : List MemPlace),
      (∀ (j : Nat) t v, fn.params[j]? = some t → args[j]? = some v → Value.okWide C.prog W .any base t v) →
      DataW.Whole enc C.prog fn.params.toList s.vars apart W args.toList ds gs before → X W args → W.ShapedOpen C.prog →
      Calls C.prog f args W fun e W' => ∃ v, e = .returned v ∧ s.post enc C.prog fn apart fresh handsOn again W args v W') :
    ReturnsInHanded a C os f .any (fun w args => (s.pre enc C.prog fn conds apart w args ∧ X w args) ∧ sizedMet enc C.prog fn (OpenSpec.ofChange s) apart w args) (s.post enc C.prog fn apart fresh handsOn again) := by
  refine returnsInHanded_of_calls own started noInit witness ?_
  intro w tape i _ hsh _ hok hpre _
  obtain ⟨_, _, _, fn', hfn', _, _, _, _, hval⟩ := hok
  obtain rfl : fn' = fn := Option.some.inj (hfn'.symm.trans hfn)
  obtain ⟨⟨⟨ds, gs, before, hw, _⟩, hx⟩, _⟩ := hpre
  refine (law (w.forCall tape i) w.heap.size i.args ds gs before hval (DataW.Whole.of_heap (by rfl) hw) (hX _ _ _ (by rfl) hx) hsh).mono fun e W' ⟨v, he, hp⟩ => ?_
  subst he
  exact ChangeSpec.post_blind hp

/-- What the listed sentinel and the world's shape give the walk. -/
theorem cells_of {W : World} (h : laidMetH Tryd.prog Rows.fnIsNameIffPlaceholderRoundTripsRow.laid W) (hsh : W.ShapedOpen Tryd.prog) :
    ∃ gv m, W.cell? ⟨0, 0, none⟩ = some (.iface 105 gv) ∧ W.cell? ⟨1, 0, none⟩ = some (.int .i64 m) := by
  rw [MakeChecks.laidMetH_plain _ _ _ (by kernel_rfl)] at h
  obtain ⟨a0, s0, hv0, _, _, _⟩ := laid_sentinel h.tail gE gEType Tryd.underlying33 row105 Tryd.underlying105 Tryd.underlying121 rfl rfl Tryd.underlying9 cells121 cells9
  obtain ⟨m, hm⟩ := cell_of_shapedOpen_int (P := Tryd.prog) (g := 1) (t := 3) (zero := #[.int .i64 0]) hsh (of_decide_eq_true (by kernel_rfl)) (by kernel_rfl) rfl (by kernel_rfl) (by kernel_rfl) Tryd.underlying3
  exact ⟨_, m, by simpa using World.var?_cell gE hv0 0, hm⟩
end Go.Proofs.Qxb6613649aDoor
