import Derived.Test.Qxb6613049aFmtW5
import Derived.MapKept
import Derived.Carry
namespace Go.Proofs.Qxb6613049aFmt
open Go.RowKit

abbrev Ps := List (List UInt8 × List UInt8)
/-- The entries of a map that was filled by ps, in this order, no name twice. -/
def ents (ps : Ps) : Array MapEntry := (ps.mapIdx fun i p => ({ key := .string ⟨p.1.toArray⟩, val := .string ⟨p.2.toArray⟩, born := i } : MapEntry)).toArray
theorem ents_push (ps : Ps) (p : List UInt8 × List UInt8) : ents (ps ++ [p]) = (ents ps).push { key := .string ⟨p.1.toArray⟩, val := .string ⟨p.2.toArray⟩, born := ps.length } := by
  unfold ents
  rw [List.mapIdx_concat, List.push_toArray]
theorem ents_size (ps : Ps) : (ents ps).size = ps.length := by simp [ents]
def MapAt (r : Nat) (ps : Ps) (w : World) : Prop := w.heap[r]? = some (.map (ents ps) ps.length)

/-- What a look into the map finds. -/
def lookV (ps : Ps) (key : ByteArray) : Value × Bool := match Instr.findNow .string (.string key) (ents ps).toList 0 with | some (some (_, v)) => (v, true) | _ => (.string ⟨#[]⟩, false)

theorem ents_keys (ps : Ps) : ∀ x ∈ (ents ps).toList, MapKept.IsKey .string x.key := by
  intro x hx
  simp only [ents] at hx
  obtain ⟨i, hi, rfl⟩ := List.mem_mapIdx.1 hx
  trivial
theorem ents_get (ps : Ps) (j : Nat) (e : MapEntry) (h : (ents ps).toList[j]? = some e) : ∃ p, ps[j]? = some p ∧ e.key = .string ⟨p.1.toArray⟩ ∧ e.val = .string ⟨p.2.toArray⟩ := by
  simp only [ents, List.getElem?_mapIdx] at h
  obtain ⟨p, hp, rfl⟩ := Option.map_eq_some_iff.1 h
  exact ⟨p, hp, rfl, rfl⟩

theorem bytes_inj {a b : List UInt8} (h : (⟨a.toArray⟩ : ByteArray) = ⟨b.toArray⟩) : a = b := by
  have := congrArg (fun x => x.data.toList) h
  simpa using this
theorem bytes_mk (k : ByteArray) : (⟨k.data.toList.toArray⟩ : ByteArray) = k := by cases k; rfl

theorem lookV_spec (ps : Ps) (key : ByteArray) : (lookV ps key).2 = ps.any (fun p => p.1 == key.data.toList) ∧ ∃ s, (lookV ps key).1 = .string s ∧
    Instr.findNow .string (.string key) (ents ps).toList 0 = some (if (lookV ps key).2 then some ((Instr.findNow .string (.string key) (ents ps).toList 0).join.get!.1, (lookV ps key).1) else none) := by
  unfold lookV
  rcases MapKept.findNow_spec (d := .string) (k := .string key) trivial (ents ps).toList 0 (ents_keys ps) with ⟨h1, h2⟩ | ⟨j, e, h1, h2, h3⟩
  · rw [h1]
    refine ⟨?_, _, rfl, rfl⟩
    symm
    rw [List.any_eq_false]
    intro p hp
    obtain ⟨j, hj, rfl⟩ := List.getElem_of_mem hp
    have hm : (ents ps).toList[j]? = some { key := .string ⟨ps[j].1.toArray⟩, val := .string ⟨ps[j].2.toArray⟩, born := j } := by
      simp [ents, hj]
    have := h2 _ (List.mem_of_getElem? hm)
    simp only [ne_eq, Value.string.injEq] at this
    simp only [beq_iff_eq]
    intro e
    exact this (by rw [e])
  · rw [h1]
    obtain ⟨p, hp, hk, hv⟩ := ents_get ps j e h2
    refine ⟨?_, _, hv, rfl⟩
    symm
    rw [List.any_eq_true]
    refine ⟨p, List.mem_of_getElem? hp, ?_⟩
    rw [hk] at h3
    simp only [Value.string.injEq] at h3
    rw [beq_iff_eq]
    rw [← h3]

theorem run_look (ps : Ps) (key : ByteArray) (r : Nat) (w : World) (h : MapAt r ps w) :
    (Instr.lookup 37 (.map (some r)) (.string key) true).run Tryf.prog w = .ok (.tuple #[(lookV ps key).1, .bool (lookV ps key).2]) w := by
  have hf := (lookV_spec ps key).2
  obtain ⟨s, hs, hf⟩ := hf
  have hz : (zeroValue 9).run Tryf.prog w = .ok (.string ⟨#[]⟩) w := Tryf.zeroValue9 w
  have hck := MapKept.run_checkKey (P := Tryf.prog) (w := w) (kt := 9) (d := .string) (k := .string key) Tryf.underlying9 trivial (ents ps).isEmpty 9999
  have hfk := MapKept.run_findKey (P := Tryf.prog) (w := w) (kt := 9) (d := .string) (k := .string key) Tryf.underlying9 hf
  simp only [Instr.lookup, Sem.run_bind, run_underlying Tryf.underlying37, MapKept.run_getObj_map h, Result.andThen, Sem.run_pure, hck, hfk]
  cases hb : (lookV ps key).2 with
  | true => simp
  | false =>
    have : (lookV ps key).1 = .string ⟨#[]⟩ := by
      unfold lookV at hb ⊢
      split at hb
      · cases hb
      · rfl
    simp [Result.andThen, hz, this]
theorem run_look_nil (key : ByteArray) (w : World) :
    (Instr.lookup 37 (.map none) (.string key) true).run Tryf.prog w = .ok (.tuple #[.string ⟨#[]⟩, .bool false]) w := by
  have hz : (zeroValue 9).run Tryf.prog w = .ok (.string ⟨#[]⟩) w := Tryf.zeroValue9 w
  have hck := MapKept.run_checkKey (P := Tryf.prog) (w := w) (kt := 9) (d := .string) (k := .string key) Tryf.underlying9 trivial true 9999
  have hfk := MapKept.run_findKey (P := Tryf.prog) (w := w) (kt := 9) (d := .string) (k := .string key) (l := []) (a := none) Tryf.underlying9 rfl
  simp [Instr.lookup, Sem.run_bind, run_underlying Tryf.underlying37, Result.andThen, hck, hfk, hz]

/-- A name that is not there yet goes in at the end. -/
theorem run_put (ps : Ps) (nm v : List UInt8) (r : Nat) (w : World) (h : MapAt r ps w) (hn : ps.any (fun p => p.1 == nm) = false) :
    ∃ w', (Instr.mapUpdate 37 (.map (some r)) (.string ⟨nm.toArray⟩) (.string ⟨v.toArray⟩)).run Tryf.prog w = .ok () w' ∧ MapAt r (ps ++ [(nm, v)]) w' ∧ Only r w w' := by
  have hck := MapKept.run_checkKey (P := Tryf.prog) (w := w) (kt := 9) (d := .string) (k := .string ⟨nm.toArray⟩) Tryf.underlying9 trivial false 9999
  have hs := lookV_spec ps ⟨nm.toArray⟩
  have hb : (lookV ps ⟨nm.toArray⟩).2 = false := hs.1.trans hn
  obtain ⟨s, _, hf⟩ := hs.2
  rw [hb] at hf
  have hfk := MapKept.run_findKey (P := Tryf.prog) (w := w) (kt := 9) (d := .string) (k := .string ⟨nm.toArray⟩) Tryf.underlying9 hf
  refine ⟨{ w with heap := w.heap.setIfInBounds r (.map (ents (ps ++ [(nm, v)])) (ps ++ [(nm, v)]).length) }, ?_, (MapKept.heap_set h).1, ⟨rfl, rfl, rfl, by simp, fun k hk hne => (MapKept.heap_set h).2 k hne⟩⟩
  simp [Instr.mapUpdate, run_underlying Tryf.underlying37, MapKept.run_getObj_map h, hck, hfk, MapKept.run_setObj_map _ h, Result.andThen, ents_push]
end Go.Proofs.Qxb6613049aFmt
