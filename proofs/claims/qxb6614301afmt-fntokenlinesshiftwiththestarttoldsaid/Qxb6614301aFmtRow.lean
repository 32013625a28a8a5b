import Derived.Test.Qxb6614301aFmtW16
import Derived.Test.Qxb6614301aFmtRows
import Derived.Test.Qxb6614301aFmtTie
import Derived.Test.Qxb6614301aFmtCards
import Derived.ProofKit
import Derived.DataShut
import Derived.ChangeSlices
import Derived.ChangeMaps5
import Derived.ChangeSame
import Derived.JoinedOf
import Derived.Carry
import Derived.Stop.JoinedAt
import Derived.Stop.JoinedTold
import Derived.SizedLaws
import Derived.Lay
import Derived.LaidMore
import Derived.SevenTiedAt
namespace Go.Proofs.Qxb6614301aFmt
open Go.ChangeShapes Go.WideShapes Go.ChangeAt Go.RowKit Go.Kit
open Go.ChangeMaps (open_string shut_string)
open Go.Extern.Stop Go.Stop Go.Extern

theorem own : ownKnob Tryf.prog.godebug = none := by kernel_rfl
theorem laidOut : laidOutB Tryf.pinned.checked.prog = true := by kernel_rfl
theorem stops : Rows.fnTokenLinesShiftWithTheStartRow.stops = Tryf.pinned.checked.prog.stops := by kernel_rfl
theorem stopKnobs : Tryf.pinned.checked.prog.stopKnobs = [] := by kernel_rfl
theorem quiet (os : Os) : Stop.quiet Tryf.pinned.checked.prog os := by
  intro k hk
  rw [stopKnobs] at hk
  cases hk
abbrev laid := Rows.fnTokenLinesShiftWithTheStartRow.laid
abbrev spec := OpenSpec.ofChange Rows.fnTokenLinesShiftWithTheStartSpec

set_option maxRecDepth 100000 in
set_option maxHeartbeats 8000000 in
theorem witness (os : Os) {H : Type} (enc : TypeId × Value → H) (F : Interp) :
    ∃ (w : World) (tape : Tape) (i : Input), w.os = os ∧ (w.forCall tape i).Shaped Tryf.prog ∧ i.vars = [] ∧ Input.okWide Tryf.prog (w.forCall tape i) .any w.heap.size 4 i ∧
      spec.preRow enc Tryf.prog Tryf.f4 [] false laid (w.forCall tape i).memory i.args ∧ ({} : Assume).holds Tryf.prog (lone (Frame.enter Tryf.prog 4 i.args .normal) [] (w.forCall tape i)) ∧ F.answers tape := by
  have hok : Input.okWideB Tryf.prog ((World.laidAll Tryf.prog os laid).forCall (fun _ _ => 0) ⟨#[], #[.string ⟨#[]⟩, .string ⟨#[]⟩, .int .i64 0], []⟩) 4 ⟨#[], #[.string ⟨#[]⟩, .string ⟨#[]⟩, .int .i64 0], []⟩ = true := by kernel_rfl
  refine ⟨World.laidAll Tryf.prog os laid, F.over fun _ _ => 0, ⟨#[], #[.string ⟨#[]⟩, .string ⟨#[]⟩, .int .i64 0], []⟩, World.laidAll_os _ _ _, World.shaped_of_ZipB (by kernel_rfl) (by kernel_rfl), (Input.okWide_of_okWideB (base := 0) hok).1, (Input.okWide_of_okWideB hok).2, ?_, ?_, F.over_answers _⟩
  · exact OpenSpec.preRow_of_B rfl 8 (by kernel_rfl) (by kernel_rfl) (by rw [MakeChecks.laidMetH_plain _ _ _ (by kernel_rfl)]; exact laidMet_laidAll _ (by kernel_rfl) (by kernel_rfl))
  · have h : ∀ modest : Bool, ({ modest := modest } : Assume).holds Tryf.prog (lone (Frame.enter Tryf.prog 4 #[.string ⟨#[]⟩, .string ⟨#[]⟩, .int .i64 0] .normal) [] ((World.laidAll Tryf.prog os laid).forCall (F.over fun _ _ => 0) ⟨#[], #[.string ⟨#[]⟩, .string ⟨#[]⟩, .int .i64 0], []⟩)) := fun modest => by
      simp only [Assume.holds]
      exact ⟨by simp, by simp, fun _ => F.over_modest Modest.zero, by simp, by simp⟩
    exact h false

set_option maxRecDepth 100000 in
theorem lifted (os : Os) (started : os.Started) (H : Type) (enc : TypeId × Value → H) :
    ReturnsInTold none {} Tryf.checked os 4 .any Input.okWide (spec.preRow enc Tryf.prog Tryf.f4 [] false laid) (fun F => (spec.at F).post enc Tryf.prog Tryf.f4 false true false false) (aloneAtReturn Tryf.prog) nothingAlways := by
  refine returnsInTold_of_row (C := Tryf.checked) (s := spec) (by kernel_rfl) own started (by kernel_rfl) Tryf.func4 (witness os enc) ?_
  intro F W base args ds gs before _ hF hval0 hW _ _ _ hL _
  have hval : ∀ (j : Nat) t v, Tryf.f4.params[j]? = some t → args[j]? = some v → Value.okWide Tryf.prog W .any base t v := hval0
  have hW' := hW
  obtain ⟨p, q, hA0, hV, rfl, _, _⟩ := hW
  have hA : DataW.TrodAll enc Tryf.prog W 0 (fun _ => true) true Tryf.f4.params.toList args.toList ds p := hA0
  rw [Tryf.params4] at hA hval
  obtain ⟨v0, v1, v2, d0, d1, d2, p0, p1, p2, rfl, rfl, rfl, h0, h1, h2⟩ := trodAll_three hA
  obtain ⟨rfl, rfl⟩ := trodVars_none hV
  obtain ⟨a, rfl, rfl, rfl, wa⟩ := open_string Tryf.underlying9 (hval 0 9 v0 rfl rfl) h0
  obtain ⟨b, rfl, rfl, rfl, wb⟩ := open_string Tryf.underlying9 (hval 1 9 v1 rfl rfl) h1
  obtain ⟨c, rfl, rfl, rfl, wc⟩ := open_int Tryf.underlying3 (hval 2 3 v2 rfl rfl) h2
  clear hA0 hval0
  have hml : maxLen ≤ 9223372036854775807 := by unfold maxLen; decide
  have hL' : laidMet Tryf.prog laid W := by
    rw [MakeChecks.laidMetH_plain _ _ _ (by kernel_rfl)] at hL
    exact hL
  obtain ⟨ea, fa, hgl⟩ := gl_of_laid hL'
  have hwalk : Calls Tryf.prog 4 #[.string a, .string b, .int .i64 c] W fun e w' => e = .returned (.bool true) ∧ Below W.heap.size W w' := by
    by_cases hab : a.size + b.size ≤ 1048576
    · have hc : -9223372036854775808 ≤ c ∧ c < 9223372036854775808 := by
        have h := (Lit.wf_int_iff .i64 c).1 wc
        have e1 : IntKind.i64.min = -9223372036854775808 := by decide
        have e2 : IntKind.i64.max = 9223372036854775807 := by decide
        omega
      exact law_in F.told ea fa a b c W hF hgl hab hc.1 hc.2
    · exact law_big a b c W (by omega) (Nat.le_trans wa hml) (Nat.le_trans wb hml)
  refine hwalk.mono fun e W' ⟨he, hnx⟩ => ?_
  subst he
  refine ⟨_, rfl, _, _, _, [], _, [], hW', ?_, trodAll_mk3 (shut_string Tryf.underlying9 wa) (shut_string Tryf.underlying9 wb) (shut_int Tryf.underlying3 wc), rfl, hnx.frame _, fun h => by cases h⟩
  exact trodAll_mk1 (shut_bool Tryf.underlying4 _)

theorem card_holds : Rows.FnTokenLinesShiftWithTheStartToldSaid :=
  Claim7.holds_of_told_tied_any_at .later 4 Tryf.f4 _ _ [] _ _ _ _ _ (by kernel_rfl) rfl rfl rfl laidOut (by kernel_rfl) rfl ⟨rfl, rfl, rfl, rfl, rfl, rfl, rfl⟩ rfl rfl (by kernel_rfl) (by kernel_rfl) Tryf.func4 (by kernel_rfl)
    (of_decide_eq_true (by kernel_rfl)) (of_decide_eq_true (by kernel_rfl)) stops rfl stopKnobs.symm (by kernel_rfl)
    (by kernel_rfl) (by kernel_rfl) (by kernel_rfl) (by kernel_rfl) (by kernel_rfl) (by kernel_rfl) (by kernel_rfl) (by kernel_rfl) (by kernel_rfl) rfl (by kernel_rfl) rfl rfl
    rfl rfl
    rfl (by kernel_rfl) (by kernel_rfl) (by kernel_rfl) (by decide) (by kernel_rfl) fnTokenLinesShiftWithTheStart_row_tie
    (OpenClaim.moreEntering_of (by kernel_rfl) (by kernel_rfl) (by kernel_rfl) (by kernel_rfl) (by kernel_rfl) (by kernel_rfl) (by kernel_rfl) (by kernel_rfl) (by kernel_rfl) (by kernel_rfl))
    ⟨_, WideRow.started_initial, quiet _⟩
    (fun os started _ H enc _ => lifted os started H enc)
end Go.Proofs.Qxb6614301aFmt
