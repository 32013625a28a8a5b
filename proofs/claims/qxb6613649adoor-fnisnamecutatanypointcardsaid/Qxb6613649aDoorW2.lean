import Derived.Test.Qxb6613649aDoorW1
import Derived.Test.Qxb6613649aDoorPlain
import Derived.OwnWalk
namespace Go.Proofs.Qxb6613649aDoor
open Go.RowKit

theorem isName_any (s : ByteArray) (w : World) (hs : s.size ≤ 4194304) :
    Calls Tryd.prog 7 #[.string s] w fun e w' => e = .returned (.bool (isName s.data.toList)) ∧ w = w' := by
  obtain ⟨⟨l⟩⟩ := s
  cases l with
  | nil =>
    go_enter Tryd.func7, Tryd.ntmps7
    go_wp2_with fail
    go_ret
    exact ⟨rfl, rfl⟩
  | cons c t =>
    have hb : (({ data := { toList := c :: t } } : ByteArray) == { data := #[] }) = false := rfl
    have HS := hide hs
    clear hs
    go_enter Tryd.func7, Tryd.ntmps7
    go_wp2_with fail
    refine (nameLength_any _ w (unhide HS)).mono ?_
    rintro e w' ⟨rfl, rfl⟩
    go_wp2_with fail
    go_ret
    refine ⟨ret_bool ?_, rfl⟩
    unfold isName
    rw [Bool.eq_iff_iff]
    simp
    omega

/-- The element of the law: its attributes are a. -/
def El (eb : Nat) (a : Value) (w : World) : Prop :=
  w.heap[eb]? = some (.cells #[.string ⟨#[112]⟩, a, .slice none 0 0, .string ⟨#[]⟩, .slice none 0 0, .int .i64 1, .string ⟨#[]⟩, .int .i64 0, .int .i64 0, .slice none 0 0, .slice none 0 0, .slice none 0 0, .bool false, .bool false] 49 (0, 0))

theorem newElement_any (w : World) :
    Calls Tryd.prog 9 #[.string ⟨#[112]⟩, .int .i64 1] w fun e w' => e = .returned (.pointer (some ⟨w.heap.size, 0, none⟩)) ∧ El w.heap.size (.slice none 0 0) w' ∧ Below w.heap.size w w' ∧ w'.heap.size = w.heap.size + 1 := by
  go_enter Tryd.func9, Tryd.ntmps9
  go_wp2_with fail
  go_ret
  exact ⟨rfl, Array.getElem?_push_size, (Below.refl _ _).alloc (Nat.le_refl _) _, by simp⟩

theorem El.cells {eb : Nat} {a : Value} {w : World} (h : El eb a w) : w.cell? ⟨eb, 0, none⟩ = some (.string ⟨#[112]⟩) ∧ w.cell? ⟨eb, 1, none⟩ = some a ∧ w.cell? ⟨eb, 5, none⟩ = some (.int .i64 1) ∧ w.frozen? ⟨eb, 1, none⟩ = false := by
  unfold El at h
  exact ⟨by simp [World.cell?, h], by simp [World.cell?, h], by simp [World.cell?, h], by simp [World.frozen?, h]⟩

theorem El.lt {eb : Nat} {a : Value} {w : World} (h : El eb a w) : eb < w.heap.size := (Array.getElem?_eq_some_iff.1 h).1
theorem El.set1 {eb : Nat} {a : Value} {w : World} (h : El eb a w) (v : Value) : El eb v (w.setCell ⟨eb, 1, none⟩ v) := by
  unfold El at h ⊢
  simp [World.setCell, Array.getElem?_modify, h]
theorem El.below {eb B : Nat} {a : Value} {w w' : World} (h : El eb a w) (hb : Below B w w') (hB : eb < B) : El eb a w' := by
  unfold El at h ⊢
  rw [hb.block eb hB]; exact h

theorem info53 : (Tryd.prog.info? 53).map (fun i => (i.zero, i.size, i.bytes)) = some (some (.agg #[.string ⟨#[]⟩, .string ⟨#[]⟩, .string ⟨#[]⟩]), 3, 48) := by kernel_rfl

theorem cells_new3 (w : World) (t : TypeId) (a b c : Value) : ∀ (j : Nat) (u : Value), ([a, b, c] : List Value)[j]? = some u → (w.alloc (.cells #[a, b, c] t)).cell? ((⟨w.heap.size, 0, none⟩ : Addr).add j) = some u := by
  intro j u h
  have hb : (w.alloc (.cells #[a, b, c] t)).heap[w.heap.size]? = some (.cells #[a, b, c] t (0, 0)) := Array.getElem?_push_size
  generalize w.alloc (.cells #[a, b, c] t) = W at *
  match j, h with
  | 0, h => cases h; simp [World.cell?, Addr.add, hb]
  | 1, h => cases h; simp [World.cell?, Addr.add, hb]
  | 2, h => cases h; simp [World.cell?, Addr.add, hb]
  | j + 3, h => simp at h

/-- The one attribute of the law. -/
def At (g : Nat) (s : ByteArray) (w : World) : Prop := ∃ rest, w.heap[g]? = some (.cells (#[.string ⟨#[]⟩, .string ⟨#[118]⟩, .string s] ++ rest) 53 (0, 0))
theorem At.cells {g : Nat} {s : ByteArray} {w : World} (h : At g s w) : w.cell? ⟨g, 0, none⟩ = some (.string ⟨#[]⟩) ∧ w.cell? ⟨g, 1, none⟩ = some (.string ⟨#[118]⟩) ∧ w.cell? ⟨g, 2, none⟩ = some (.string s) := by
  obtain ⟨r, h⟩ := h
  exact ⟨by simp [World.cell?, h, Array.getElem?_append], by simp [World.cell?, h, Array.getElem?_append], by simp [World.cell?, h, Array.getElem?_append]⟩

set_option maxRecDepth 100000 in
theorem addAttr_any (B eb : Nat) (s : ByteArray) (w : World) (h : El eb (.slice none 0 0) w) (hB : B ≤ eb) :
    Calls Tryd.prog 10 #[.pointer (some ⟨eb, 0, none⟩), .string ⟨#[]⟩, .string ⟨#[118]⟩, .string s] w fun e w' => e = .returned (.tuple #[]) ∧ (∃ g c, B ≤ g ∧ g ≠ eb ∧ El eb (.slice (some ⟨g, 0, none⟩) 1 c) w' ∧ At g s w') ∧ Below B w w' := by
  obtain ⟨c0, c1, c5, f1⟩ := h.cells
  have hlt := h.lt
  have HE := hide h
  obtain ⟨i0, hi0, hz0, hz1, hz2⟩ := info_parts info53
  clear h
  have HX : Hid (∀ v' w', w'.ownsRow w.heap.size 53 3 v' 1 [.string ⟨#[]⟩, .string ⟨#[118]⟩, .string s] → (w.alloc (.cells #[.string ⟨#[]⟩, .string ⟨#[118]⟩, .string s] 53)).grownBy w' none → (∃ g c, v' = .slice (some ⟨g, 0, none⟩) 1 c ∧ w.heap.size ≤ g ∧ At g s w') ∧ El eb (.slice none 0 0) w' ∧ Below B w w') := hide (fun v' w' ho hg => by
    have hbl := ((Below.refl w.heap.size w).alloc (Nat.le_refl _) (.cells #[.string ⟨#[]⟩, .string ⟨#[118]⟩, .string s] 53)).grown hg (by simp) (by simp)
    refine ⟨?_, (unhide HE).below hbl hlt, hbl.mono (by omega)⟩
    rcases ho.2 with ⟨_, h⟩ | ⟨g, cap, cur, h3, h4, h5, h6, h7, h8, h9⟩
    · cases h
    · refine ⟨g, cap, h3, h4, ⟨(cur.toList.drop 3).toArray, ?_⟩⟩
      rw [h5]
      congr 2
      have : cur.toList = [.string ⟨#[]⟩, .string ⟨#[118]⟩, .string s] ++ cur.toList.drop 3 := by
        conv => lhs; rw [← List.take_append_drop 3 cur.toList]
        rw [← h9]
      apply Array.toList_inj.1
      rw [this]
      simp)
  go_enter Tryd.func10, Tryd.ntmps10
  go_wp2_with (at_builtin; refine wpList_append_own _ rfl _ _ 40 rfl w.heap.size 53 i0 (.agg #[.string ⟨#[]⟩, .string ⟨#[]⟩, .string ⟨#[]⟩]) 3 48 Tryd.underlying40 hi0 hz0 hz1 hz2 rfl (by decide) _ 0 [] rfl (World.ownsRow_nil _ _ _ _) ⟨w.heap.size, 0, none⟩ 1 1 [.string ⟨#[]⟩, .string ⟨#[118]⟩, .string s] rfl rfl (cells_new3 _ _ _ _ _) (by simp [Value.oneCell']) (by decide) (by decide) (by simp) ?_; intro v' w9 hown' hgrow _; obtain ⟨⟨g, c, rfl, hg, hat⟩, hel, hbe⟩ := unhide HX v' w9 hown' hgrow; clear hown' hgrow; obtain ⟨k0, k1, k5, g1⟩ := hel.cells; have HH := hide (And.intro hat (And.intro hel hbe)); clear hat hel hbe)
  go_end0
  obtain ⟨hat, hel, hbe⟩ := unhide HH
  refine ⟨rfl, ⟨g, c, by omega, by omega, hel.set1 _, ?_⟩, hbe.setCell (by exact hB) _⟩
  obtain ⟨r, hr⟩ := hat
  refine ⟨r, ?_⟩
  rw [← hr]
  exact Below.heap_setCell _ _ _ _ (by show g ≠ eb; omega)
end Go.Proofs.Qxb6613649aDoor
