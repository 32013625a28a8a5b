import Derived.Test.Qxb6613649aDoorW8
import Derived.Test.Qxb6613649aDoorW10
namespace Go.Proofs.Qxb6613649aDoor
open Go.RowKit

theorem wp_region_class_lit {P : Program} {id : Nat} {Q : Exit → Act → World → Prop} {a : Act} {w : World} {l : List Oper} {X : Type} (f : X → World) (x1 : X) (hx : f x1 = w.drew) (hm : P.follows .mixedOrders = true) (hB : Region.lexB .any l.toArray = true)
    (h : wpQuiet P l.toArray (fun w' => ∃ x, w' = f x) (fun a' => ∀ w', (∃ x, w' = f x) → Q .normal a' w') l a) : (Code.region id l.toArray true).wp P Q a w :=
  wp_region_quiet (C := fun w' => ∃ x, w' = f x) hm hB ⟨x1, hx.symm⟩ (by simpa using h)
theorem world_class (w : World) : ∃ (X : Type) (f : X → World) (x1 : X), Nonempty X ∧ f x1 = w.drew ∧ (∀ x, Below w.heap.size w (f x)) ∧ (∀ x y, Below (f x).heap.size (f x) y → ∃ x', y = f x') :=
  ⟨{ y : World // Below w.heap.size w y }, Subtype.val, ⟨w.drew, (Below.refl _ _).drew⟩, ⟨⟨w, Below.refl _ _⟩⟩, rfl, fun x => x.2, fun x y h => ⟨⟨y, x.2.trans (h.mono x.2.size)⟩, rfl⟩⟩

set_option maxRecDepth 100000 in
set_option maxHeartbeats 2000000 in
theorem placeholder_any (l : List UInt8) (gt : TypeId) (gv : Value) (m : Int) (w : World) (h0 : w.cell? ⟨0, 0, none⟩ = some (.iface gt gv)) (h1 : w.cell? ⟨1, 0, none⟩ = some (.int .i64 m)) (hs : l.length ≤ 1048576) :
    Calls Tryd.prog 6 #[.string ⟨l.toArray⟩] w fun e w' => e = .returned (.tuple #[.bool (isName l), .bool true]) ∧ Below w.heap.size w w' := by
  generalize hT : (fun (e : Ending) (w' : World) => e = .returned (.tuple #[.bool (isName l), .bool true]) ∧ Below w.heap.size w w') = T
  have hTr : ∀ (e : Ending) (w' : World), e = .returned (.tuple #[.bool (isName l), .bool true]) ∧ Below w.heap.size w w' → T e w' := fun e w' h => by rw [← hT]; exact h
  have HTr := hide hTr
  have hl1 : 1 < w.heap.size := World.block_lt_of_cell? w ⟨1, 0, none⟩ h1
  have H0 := hide h0
  have H1 := hide h1
  clear hT hTr h0 h1
  have hc1 : ¬ 9223372036854775807 < 2 + l.length := by omega
  have hc2 : ¬ 9223372036854775807 < 2 + l.length + 2 := by omega
  go_enter Tryd.func6, Tryd.ntmps6
  go_wp2_with fail
  rw [cat3]
  refine (newElement_any w).mono ?_
  rintro e w1 ⟨rfl, he1, hb1, hz1⟩
  have HE1 := hide he1
  have HB1 := hide hb1
  clear he1 hb1
  go_wp2_with fail
  refine (addAttr_any w.heap.size w.heap.size ⟨(D ++ l ++ D).toArray⟩ w1 (unhide HE1) (Nat.le_refl _)).mono ?_
  rintro e w2 ⟨rfl, ⟨g, c, hg, hge, he2, ha2⟩, hb2⟩
  have HE2 := hide he2
  have HA2 := hide ha2
  have hb2' := (unhide HB1).trans hb2
  have HB2 := hide hb2'
  have H02 := hide ((hb2'.cell (p := ⟨0, 0, none⟩) (by show 0 < w.heap.size; omega)).trans (unhide H0))
  have H12 := hide ((hb2'.cell (p := ⟨1, 0, none⟩) (by exact hl1)).trans (unhide H1))
  have hw2 : w.heap.size ≤ w2.heap.size := hb2'.size
  clear he2 ha2 hb2 hb2'
  go_wp2_with fail
  refine (attrTemplate_any l w.heap.size g c ⟨(D ++ l ++ D).toArray⟩ gt gv m w2 (unhide HE2) (unhide HA2) (unhide H02) (unhide H12) (by show (D ++ l ++ D).toArray.size ≤ _; simp [D]; omega)).mono ?_
  have hsrc : (⟨(D ++ l ++ D).toArray⟩ : ByteArray).data.toList = D ++ l ++ D := rfl
  have hsl : (⟨(D ++ l ++ D).toArray⟩ : ByteArray).size = l.length + 4 := by show (D ++ l ++ D).toArray.size = _; simp [D]
  rintro e w3 (⟨v, ps, ln, rfl, hown, k1, k2, k3, k4, hb3⟩ | ⟨t, y, rfl, k1, hb3⟩)
  · obtain ⟨vx, vc, rfl⟩ := shape_of hown
    rw [hsrc] at k1 k3
    rw [hsl] at k4
    have hv := vars_law l ps k2 (fun h => k3 h rfl)
    have HV := hide hv
    have HK1 : Hid (rendAll ps = D ++ (l ++ D)) := hide (by rw [k1, List.append_assoc])
    have hal := (Below.refl w3.heap.size w3).alloc (Nat.le_refl _) (.cells #[.slice vx ps.length vc, .int .i64 ln] 31)
    have HO := hide (hown.alloc (.cells #[.slice vx ps.length vc, .int .i64 ln] 31))
    have hb3' := (unhide HB2).trans (hb3.mono hw2)
    have hw3 := hb3'.size
    have HB3 := hide (hb3'.trans (hal.mono hw3))
    have hrl : (rendAll ps).length ≤ 4194304 := by rw [k1]; simp [D]; omega
    have HT6 : Hid ((w3.alloc (.cells #[.slice vx ps.length vc, .int .i64 ln] 31)).heap[w3.heap.size]? = some (.cells #[.slice vx ps.length vc, .int .i64 ln] 31 (0, 0))) := hide (heap_alloc_new _ _)
    clear hv k1 k2 k3 hown hal hb3 hb3' hsl
    go_wp2_with fail
    refine (tvars_any w2.heap.size _ ln ps _ (by exact unhide HO) (by omega)).mono ?_
    rintro e w4 ⟨u, rfl, hnr, hb4⟩
    have HB4 := hide ((unhide HB3).trans (hb4.mono (by rw [World.size_alloc]; omega)))
    have hw4 := (unhide HB4).size
    have ht6 := (hb4.block w3.heap.size (by simp)).trans (unhide HT6)
    obtain ⟨d0, d1⟩ : w4.cell? ⟨w3.heap.size, 0, none⟩ = some (.slice vx ps.length vc) ∧ w4.cell? ⟨w3.heap.size, 1, none⟩ = some (.int .i64 ln) := ⟨by simp [World.cell?, ht6], by simp [World.cell?, ht6]⟩
    have HO4 := hide (own_below (unhide HO) hb4 (Nat.le_refl _))
    have HM4 := hide (((unhide HB4).cell (p := ⟨1, 0, none⟩) (by exact hl1)).trans (unhide H1))
    have ht6l : w3.heap.size < w4.heap.size := (Array.getElem?_eq_some_iff.1 ht6).1
    clear hb4 ht6
    obtain ⟨ux, uc, rfl⟩ := shape_of hnr
    obtain ⟨zs, hzs⟩ : ∃ zs, varsOf ps = zs := ⟨_, rfl⟩
    rw [hzs] at hnr
    have hv := unhide HV
    rw [hzs] at hv
    have HV2 := hide hv
    rw [hzs]
    clear hv HV hzs
    by_cases hz1' : zs.length = 1
    · obtain ⟨z, rfl⟩ : ∃ z, zs = [z] := List.length_eq_one_iff.1 hz1'
      clear hz1'
      obtain ⟨gu, rfl⟩ : ∃ gu, ux = some ⟨gu, 0, none⟩ := by
        rcases hnr.2 with ⟨_, h2⟩ | ⟨g', cap, cur, h3, _⟩
        · cases h2
        · cases h3; exact ⟨g', rfl⟩
      have z0 := hnr.cells (g := gu) rfl 0 (.string ⟨z.toArray⟩) rfl
      rw [addr_add] at z0
      have hgu := World.block_lt_of_cell? w4 ⟨gu, 0, none⟩ z0
      clear hnr
      by_cases hzl : z = l
      · subst hzl
        go_wp2_with fail
        go_region_held3 (fun w' => w'.cell? ⟨w3.heap.size, 0, none⟩ = some (.slice vx ps.length vc) ∧ w'.cell? ⟨w3.heap.size, 1, none⟩ = some (.int .i64 ln) ∧ w'.cell? ⟨gu, 0, none⟩ = some (.string ⟨z.toArray⟩)) (go_keep) (first
          | (go_at_call 13; refine (tstring_any w2.heap.size (.slice vx ps.length vc) ln m ps _ (by exact unhide HO4) (by omega) hrl (by exact unhide HM4)).mono ?_; rw [unhide HK1]; rintro e w5 ⟨rfl, hb5⟩; have e0 := (hb5.cell (p := ⟨w3.heap.size, 0, none⟩) (by exact ht6l)).trans d0; have e1 := (hb5.cell (p := ⟨w3.heap.size, 1, none⟩) (by exact ht6l)).trans d1; have e2 := (hb5.cell (p := ⟨gu, 0, none⟩) (by exact hgu)).trans z0; have HB5 := hide hb5; clear hb5))
        all_goals
          go_wp2_with fail
          refine unhide HTr _ _ ⟨?_, (unhide HB4).drew.trans ((unhide HB5).mono (by exact hw4))⟩
          rw [← unhide HV2]
          simp
      · go_wp2_with fail
        go_region_held3 (fun w' => w'.cell? ⟨w3.heap.size, 0, none⟩ = some (.slice vx ps.length vc) ∧ w'.cell? ⟨w3.heap.size, 1, none⟩ = some (.int .i64 ln) ∧ w'.cell? ⟨gu, 0, none⟩ = some (.string ⟨z.toArray⟩)) (go_keep) (first
          | (go_at_call 13; refine (tstring_any w2.heap.size (.slice vx ps.length vc) ln m ps _ (by exact unhide HO4) (by omega) hrl (by exact unhide HM4)).mono ?_; rw [unhide HK1]; rintro e w5 ⟨rfl, hb5⟩; have e0 := (hb5.cell (p := ⟨w3.heap.size, 0, none⟩) (by exact ht6l)).trans d0; have e1 := (hb5.cell (p := ⟨w3.heap.size, 1, none⟩) (by exact ht6l)).trans d1; have e2 := (hb5.cell (p := ⟨gu, 0, none⟩) (by exact hgu)).trans z0; have HB5 := hide hb5; clear hb5))
        all_goals
          go_wp2_with fail
          refine unhide HTr _ _ ⟨?_, (unhide HB4).drew.trans ((unhide HB5).mono (by exact hw4))⟩
          rw [← unhide HV2]
          simp [hzl]
    · have hlen : ((zs.length : Int) == 1) = false := by rw [beq_eq_false_iff_ne]; omega
      have hnz : decide (zs = [l]) = false := decide_eq_false (fun h => hz1' (by rw [h]; rfl))
      have hin := (unhide HV2).symm.trans hnz
      have HIn := hide hin
      clear hin hnz HV2 hz1' hnr
      obtain ⟨X, f, x1, hne, hf1, hfb, hfs⟩ := world_class w4
      have hd0 : ∀ y : X, (f y).cell? ⟨w3.heap.size, 0, none⟩ = some (.slice vx ps.length vc) := fun y => ((hfb y).cell (by exact ht6l)).trans d0
      have hd1 : ∀ y : X, (f y).cell? ⟨w3.heap.size, 1, none⟩ = some (.int .i64 ln) := fun y => ((hfb y).cell (by exact ht6l)).trans d1
      have HO5 : Hid (∀ y : X, (f y).ownsRow w2.heap.size 62 2 (.slice vx ps.length vc) ps.length (ptCells ps)) := hide (fun y => own_below (unhide HO4) (hfb y) (Nat.le_refl _))
      have HM5 : Hid (∀ y : X, (f y).cell? ⟨1, 0, none⟩ = some (.int .i64 m)) := hide (fun y => ((hfb y).cell (by show 1 < w4.heap.size; omega)).trans (unhide HM4))
      have HFb := hide hfb
      have HFs := hide hfs
      have HF1 := hide hf1
      clear hfb hfs hf1 d0 d1
      go_wp2_with fail
      refine wp_region_class_lit f x1 (unhide HF1) (by kernel_rfl) (by kernel_rfl) ?_
      repeat (go_big_quiet_step ((go_at_call 13; refine (tstring_any w2.heap.size (.slice vx ps.length vc) ln m ps _ (unhide HO5 _) (by omega) hrl (unhide HM5 _)).mono ?_; rw [unhide HK1]; rintro e w5 ⟨rfl, hb5⟩; exact ⟨rfl, unhide HFs _ _ hb5⟩)))
      refine wpQuiet_nil ?_
      intro _ hw'
      obtain ⟨xq, hw''⟩ := hw'
      subst hw''
      go_wp2_with fail
      refine unhide HTr _ _ ⟨?_, (unhide HB4).trans ((unhide HFb xq).mono (by exact hw4))⟩
      rw [unhide HIn]
      simp
  · have HB3 := hide ((unhide HB2).trans (hb3.mono hw2))
    have HK := hide (k1 rfl)
    clear k1 hb3
    go_wp2_with fail
    exact unhide HTr _ _ ⟨by rw [unhide HK]; rfl, (unhide HB3).alloc (unhide HB3).size _⟩
end Go.Proofs.Qxb6613649aDoor
