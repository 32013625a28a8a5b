import Derived.Test.Qxb6612277aFmtW17
import Derived.Test.Qxb6612277aFmtRows
import Derived.Test.Qxb6612277aFmtTie
import Derived.Test.Qxb6612277aFmtCards
import Derived.ProofKit
import Derived.ChangeSlices
import Derived.ChangeSame
import Derived.JoinedOf
import Derived.Carry
import Derived.Stop.JoinedAt
import Derived.Stop.JoinedTold
import Derived.SizedLaws
import Derived.Lay
import Derived.LaidMore
import Derived.SevenTiedAt
namespace Go.Proofs.Qxb6612277aFmt
open Go.ChangeShapes Go.WideShapes Go.ChangeAt Go.RowKit Go.Kit
open Go.Extern.Stop Go.Stop Go.Extern

theorem own : ownKnob Tryf.prog.godebug = none := by kernel_rfl
theorem laidOut : laidOutB Tryf.pinned.checked.prog = true := by kernel_rfl
theorem stops : Rows.fnWriteTextWritesTheTrimmedUnfoldedBodyOrRefusesItRow.stops = Tryf.pinned.checked.prog.stops := by kernel_rfl
theorem stopKnobs : Tryf.pinned.checked.prog.stopKnobs = [] := by kernel_rfl
theorem quiet (os : Os) : Stop.quiet Tryf.pinned.checked.prog os := by
  intro k hk
  rw [stopKnobs] at hk
  cases hk
theorem cells5 : Tryf.prog.cellsOf 5 = 1 := by kernel_rfl

/-- Bytes out of numbers. -/
def bytesOf (zs : List Int) : List UInt8 := zs.map fun z => z.toNat.toUInt8
theorem BA_of_ints (W : World) (a : Addr) (zs : List Int) (hw : ∀ z ∈ zs, (Lit.int .u8 z).wf = true) (hc : ∀ i, i < zs.length → W.cell? (a.add i) = some (.int .u8 (zs.getD i 0))) :
    BA W (some a) (bytesOf zs) := by
  intro i hi
  have hi' : i < zs.length := by simpa [bytesOf] using hi
  have h := hc i hi'
  obtain ⟨b, o, s⟩ := a
  have hspot : s = none := by simpa [Addr.add] using World.cell?_spot (hc 0 (by omega))
  subst hspot
  refine ⟨b, o, rfl, ?_⟩
  have hz := hw zs[i] (List.getElem_mem hi')
  have hz2 : 0 ≤ zs[i] ∧ zs[i] ≤ 255 := by
    have e1 : IntKind.u8.min = 0 := rfl
    have e2 : IntKind.u8.max = 255 := rfl
    simpa [Lit.wf, e1, e2] using hz
  have e : ((bytesOf zs)[i].toNat : Int) = zs.getD i 0 := by
    simp [bytesOf, List.getD, List.getElem?_eq_getElem hi']
    omega
  rw [e]
  simpa [Go.WideShapes.add_plain] using h

abbrev laid := Rows.fnWriteTextWritesTheTrimmedUnfoldedBodyOrRefusesItRow.laid
abbrev spec := OpenSpec.ofChange Rows.fnWriteTextWritesTheTrimmedUnfoldedBodyOrRefusesItSpec

set_option maxRecDepth 100000 in
theorem witness (os : Os) {H : Type} (enc : TypeId × Value → H) (F : Interp) :
    ∃ (w : World) (tape : Tape) (i : Input), w.os = os ∧ (w.forCall tape i).Shaped Tryf.prog ∧ i.vars = [] ∧ Input.okWide Tryf.prog (w.forCall tape i) .any w.heap.size 4 i ∧
      spec.preRow enc Tryf.prog Tryf.f4 [] false laid (w.forCall tape i).memory i.args ∧ ({} : Assume).holds Tryf.prog (lone (Frame.enter Tryf.prog 4 i.args .normal) [] (w.forCall tape i)) ∧ F.answers tape := by
  have hok : Input.okWideB Tryf.prog ((World.laidAll Tryf.prog os laid).forCall (fun _ _ => 0) ⟨#[], #[.slice none 0 0], []⟩) 4 ⟨#[], #[.slice none 0 0], []⟩ = true := by kernel_rfl
  refine ⟨World.laidAll Tryf.prog os laid, F.over fun _ _ => 0, ⟨#[], #[.slice none 0 0], []⟩, World.laidAll_os _ _ _, World.shaped_of_ZipB (by kernel_rfl) (by kernel_rfl), (Input.okWide_of_okWideB (base := 0) hok).1, (Input.okWide_of_okWideB hok).2, ?_, ?_, F.over_answers _⟩
  · exact OpenSpec.preRow_of_B rfl 8 (by kernel_rfl) (by kernel_rfl) (by rw [MakeChecks.laidMetH_plain _ _ _ (by kernel_rfl)]; exact laidMet_laidAll _ (by kernel_rfl) (by kernel_rfl))
  · have h : ∀ modest : Bool, ({ modest := modest } : Assume).holds Tryf.prog (lone (Frame.enter Tryf.prog 4 #[.slice none 0 0] .normal) [] ((World.laidAll Tryf.prog os laid).forCall (F.over fun _ _ => 0) ⟨#[], #[.slice none 0 0], []⟩)) := fun modest => by
      simp only [Assume.holds]
      exact ⟨by simp, by simp, fun _ => F.over_modest Modest.zero, by simp, by simp⟩
    exact h false

set_option maxRecDepth 100000 in
theorem lifted (os : Os) (started : os.Started) (H : Type) (enc : TypeId × Value → H) :
    ReturnsInTold none {} Tryf.checked os 4 .any Input.okWide (spec.preRow enc Tryf.prog Tryf.f4 [] false laid) (fun F => (spec.at F).post enc Tryf.prog Tryf.f4 false true false false) (aloneAtReturn Tryf.prog) nothingAlways := by
  refine returnsInTold_of_row (C := Tryf.checked) (s := spec) (by kernel_rfl) own started (by kernel_rfl) Tryf.func4 (witness os enc) ?_
  intro F W base args ds gs before _ hF hval0 hW _ _ hsz _ _
  have hval : ∀ (j : Nat) t v, Tryf.f4.params[j]? = some t → args[j]? = some v → Value.okWide Tryf.prog W .any base t v := hval0
  have hW' := hW
  obtain ⟨p, q, hA0, hV, rfl, _, _⟩ := hW
  have hA : DataW.TrodAll enc Tryf.prog W 0 (fun _ => true) true Tryf.f4.params.toList args.toList ds p := hA0
  rw [Tryf.params4] at hA hval
  obtain ⟨v0, d0, rfl, rfl, h0⟩ := trodAll_one hA
  obtain ⟨rfl, rfl⟩ := trodVars_none hV
  obtain ⟨a0, len, cap, rfl⟩ := okWide_slice Tryf.underlying32 (hval 0 32 v0 rfl rfl)
  have h0k := h0
  obtain ⟨fuel, hf⟩ := h0
  clear hA0 hval0
  simp only [List.append_nil] at hW'
  have hlt : ∀ x ∈ p, x.block < W.heap.size := fun x hx => by simpa using hW'.lt x hx
  have hargs : ∀ (W' : World), Below W.heap.size W W' → DataW.Trod enc Tryf.prog W' 0 (fun b => decide (b < W.heap.size)) true 32 (.slice a0 len cap) d0 p :=
    fun W' hn => Below.trod laidOut (by kernel_rfl) (of_decide_eq_true (by kernel_rfl)) h0k hn hlt
  have hwalk : Calls Tryf.prog 4 #[.slice a0 len cap] W fun e w' => e = .returned (.bool true) ∧ Below W.heap.size W w' := by
    rcases open_ints Tryf.underlying32 Tryf.underlying5 cells5 hf with ⟨hcs, hx⟩ | ⟨a, len', cap', zs, hcs, _, hl, hm, hz, hx, hcell, hwz⟩
    · simp [Value.cells] at hcs
      obtain ⟨rfl, rfl, rfl⟩ := hcs
      exact law_any F.told none 0 0 [] W hF rfl (by omega) (Nat.le_refl _) (BA.nil _ _) (fun _ => rfl)
    · simp [Value.cells] at hcs
      obtain ⟨rfl, rfl, rfl⟩ := hcs
      simp only [if_true] at hz
      have hml : maxLen ≤ 9223372036854775807 := by unfold maxLen; decide
      by_cases hbig : 1048576 < len
      · exact law_big _ _ _ W hbig (by omega)
      · refine law_any F.told (some a) len cap (bytesOf (zs.take len)) W hF (by simp [bytesOf]; omega) (by omega) hl (BA_of_ints W a _ (fun z hz => hwz z (List.mem_of_mem_take hz)) fun i hi => ?_) (fun h => by cases h)
        rw [List.length_take] at hi
        rw [hcell i (by omega)]
        simp [List.getD, List.getElem?_take_of_lt (show i < len by omega)]
  refine hwalk.mono fun e W' ⟨he, hnx⟩ => ?_
  subst he
  refine ⟨_, rfl, _, _, _, [], _, [], hW', ?_, trodAll_mk1 (hargs _ hnx), rfl, hnx.frame _, fun h => by cases h⟩
  exact trodAll_mk1 (shut_bool Tryf.underlying4 _)

theorem card_holds : Rows.FnWriteTextWritesTheTrimmedUnfoldedBodyOrRefusesItToldSaid :=
  Claim7.holds_of_told_tied_any_at .later 4 Tryf.f4 _ _ [] _ _ _ _ _ (by kernel_rfl) rfl rfl rfl laidOut (by kernel_rfl) rfl ⟨rfl, rfl, rfl, rfl, rfl, rfl, rfl⟩ rfl rfl (by kernel_rfl) (by kernel_rfl) Tryf.func4 (by kernel_rfl)
    (of_decide_eq_true (by kernel_rfl)) (of_decide_eq_true (by kernel_rfl)) stops rfl stopKnobs.symm (by kernel_rfl)
    (by kernel_rfl) (by kernel_rfl) (by kernel_rfl) (by kernel_rfl) (by kernel_rfl) (by kernel_rfl) (by kernel_rfl) (by kernel_rfl) (by kernel_rfl) rfl (by kernel_rfl) rfl rfl
    rfl rfl
    rfl (by kernel_rfl) (by kernel_rfl) (by kernel_rfl) (by decide) (by kernel_rfl) fnWriteTextWritesTheTrimmedUnfoldedBodyOrRefusesIt_row_tie
    (OpenClaim.moreEntering_of (by kernel_rfl) (by kernel_rfl) (by kernel_rfl) (by kernel_rfl) (by kernel_rfl) (by kernel_rfl) (by kernel_rfl) (by kernel_rfl) (by kernel_rfl) (by kernel_rfl))
    ⟨_, WideRow.started_initial, quiet _⟩
    (fun os started _ H enc _ => lifted os started H enc)
end Go.Proofs.Qxb6612277aFmt
