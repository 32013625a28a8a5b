import Derived.Test.Qxb6613049aFmtW7
namespace Go.Proofs.Qxb6613049aFmt
open Go.RowKit Go.Stop

set_option maxRecDepth 100000 in
set_option maxHeartbeats 4000000 in
theorem params_any (F : Interp) (rb cb : Nat) (s sch tok : ByteArray) (i : Nat) (w : World) (hF : F.answers w.tape) (h : Rd rb s i w) (hch : Ch cb sch tok (.map none) w) (hne : cb ≠ rb) (hi : i ≤ s.size) (hs : s.size ≤ 4194304) :
    Calls Tryf.prog 30 #[.pointer (some ⟨rb, 0, none⟩), .pointer (some ⟨cb, 0, none⟩)] w (Pars rb cb s sch tok (params (s.size + 1) (s.data.toList.drop i) []) w) := by
  generalize hR : params (s.size + 1) (s.data.toList.drop i) [] = R
  have hl : s.data.toList.length = s.size := by simp
  have HL := hide hl
  generalize hT : Pars rb cb s sch tok R w = T
  have hTr : ∀ (e : Ending) (w' : World), Pars rb cb s sch tok R w e w' → T e w' := fun e w' h => by rw [← hT]; exact h
  have HTr := hide hTr
  have HI : Hid (ParInv rb cb s sch tok R w i w) := hide ⟨s.size + 1, [], .map none, by omega, hR, h, hch, .inl ⟨rfl, rfl⟩, Only2.refl _ _ _⟩
  have hrb : rb < w.heap.size := by obtain ⟨r, h⟩ := h; exact (Array.getElem?_eq_some_iff.1 h).1
  have hcb : cb < w.heap.size := (Array.getElem?_eq_some_iff.1 hch).1
  clear hT hTr h hch hR hl
  go_enter Tryf.func30, Tryf.ntmps30
  go_wp2_with fail
  go_loopw [5, 6, 7, 8, 9, 10, 11] (fun _ _ _ _ _ _ _ wr => ∃ k : Nat, k ≤ s.size ∧ ParInv rb cb s sch tok R w k wr) (fun _ _ _ _ _ _ _ wr => s.size - posOf rb wr)
  case atStart => exact ⟨i, hi, unhide HI⟩
  case round =>
    obtain ⟨k, hk, n0, ps, pm, hn, hpar, hrd, hch, hpm, hon⟩ := hrel
    obtain ⟨n, rfl⟩ : ∃ n, n0 = n + 1 := ⟨n0 - 1, by omega⟩
    rw [params_at, unhide HL] at hpar
    have HPar := hide hpar
    have HRd := hide hrd
    have HCh := hide hch
    have HPm := hide hpm
    have HOn := hide hon
    clear hpar hrd hch hpm hon HI
    go_wp2_with fail
    refine (skipEmpty_any rb s k wr (unhide HRd) hk hs).mono ?_
    rintro e w1 ⟨rfl, hst1⟩
    have hk1 := runEnd_le spc s.data.toList k (by rw [unhide HL]; exact hk)
    rw [unhide HL] at hk1
    have hge1 := runEnd_ge spc s.data.toList k
    generalize hx1 : runEnd spc s.data.toList k = k1 at *
    clear hx1
    obtain ⟨r1, c0, c1, c2, f1, f2⟩ := hst1.1.cells
    have HS1 := hide hst1
    clear hst1
    by_cases hend : k1 = s.size
    · have hb : ((k1 : Int) == (s.size : Int)) = true := by simp; omega
      go_wp2_with fail
      go_quiet (fail)
      go_wp2_with fail
      have hR := unhide HPar
      rw [decide_eq_true (by omega), if_pos rfl] at hR
      have hon1 := (unhide HOn).trans (((unhide HS1).drewN nq).2.two cb)
      refine unhide HTr _ _ (.inl ⟨ps, [], pm, hR.symm, List.nil_suffix, rfl, ?_, ?_, ?_, hon1⟩)
      · rw [List.length_nil, Nat.sub_zero, ← hend]
        exact ((unhide HS1).drewN nq).1
      · exact (unhide HCh).only ((unhide HS1).drewN nq).2 hne
      · exact (unhide HPm).only (((unhide HS1).drewN nq).2.two cb)
    · have hb : ((k1 : Int) == (s.size : Int)) = false := by simp; omega
      have hR := unhide HPar
      rw [decide_eq_false (by omega), if_neg (by simp)] at hR
      have HPar2 := hide hR
      clear hR HPar
      go_wp2_with fail
      go_quiet (fail)
      have HS1' := hide ((unhide HS1).drewN nq)
      go_wp2_with fail
      refine (token_any rb s k1 _ (by exact (unhide HS1').1) hk1 hs).mono ?_
      rintro e w2 ⟨rfl, hst2⟩
      have HS2 := hide ((unhide HS1').trans hst2)
      have hk2 := runEnd_le tch s.data.toList k1 (by rw [unhide HL]; exact hk1)
      rw [unhide HL] at hk2
      have hge2 := runEnd_ge tch s.data.toList k1
      have hasc : ∀ (j : Nat) b, ((s.data.toList.drop k1).takeWhile tch)[j]? = some b → b.toNat < 128 := fun j b hj => tch_ascii b (List.all_eq_true.1 (List.all_takeWhile (p := tch) (l := s.data.toList.drop k1)) b (List.mem_of_getElem? hj))
      have hlenm : ((s.data.toList.drop k1).takeWhile tch).length ≤ 4194304 := by
        have := takeWhile_len_le tch (s.data.toList.drop k1)
        rw [List.length_drop, unhide HL] at this
        omega
      have HA := hide hasc
      clear hasc hst2
      generalize hx2 : runEnd tch s.data.toList k1 = k2 at *
      clear hx2
      generalize hnm : (s.data.toList.drop k1).takeWhile tch = nm at *
      clear hnm
      go_wp2_with fail
      refine (skipSpace_any rb s k2 _ (by exact (unhide HS2).1) hk2 hs).mono ?_
      rintro e w3 ⟨rfl, hst3⟩
      have HS3 := hide ((unhide HS2).trans hst3)
      have hk3 := runEnd_le wsp s.data.toList k2 (by rw [unhide HL]; exact hk2)
      rw [unhide HL] at hk3
      have hge3 := runEnd_ge wsp s.data.toList k2
      generalize hx3 : runEnd wsp s.data.toList k2 = k3 at *
      clear hx3 hst3
      obtain ⟨r3, d0, d1, d2, g1, g2⟩ := (unhide HS3).1.cells
      cases hnm : nm.isEmpty with
      | true =>
          obtain rfl : nm = [] := by simpa using hnm
          have hR := unhide HPar2
          rw [hnm, Bool.true_or, if_pos (by simp)] at hR
          have hst9 := (unhide HS3).set1 (k1 : Int)
          have HS9 := hide hst9
          have HR9 := hide hR
          clear hst9 hR HPar2
          cases hcm : commaIn s.data.toList k with
          | true =>
            go_wp2_with fail
            have hR := unhide HR9
            rw [hcm, if_pos rfl] at hR
            refine unhide HTr _ _ (.inl ⟨ps, _, pm, hR.symm, List.drop_suffix _ _, rfl, ?_, ?_, ?_, ?_⟩)
            · rw [List.length_drop, unhide HL, show s.size - (s.size - k1) = k1 by omega]
              exact (unhide HS9).1
            · exact (unhide HCh).only (unhide HS9).2 hne
            · exact (unhide HPm).only ((unhide HS9).2.two cb)
            · exact (unhide HOn).trans ((unhide HS9).2.two cb)
          | false =>
            go_wp2_with fail
            refine (rerrorf_any F rb s _ _ _ (by exact (congrArg F.answers ((unhide HOn).trans ((unhide HS9).2.two cb)).tape) ▸ hF) (by exact (unhide HS9).1)).mono ?_
            rintro e w9 ⟨v, rfl, hb9⟩
            go_wp2_with fail
            have hR := unhide HR9
            rw [hcm, if_neg (by simp)] at hR
            exact unhide HTr _ _ (.inr ⟨hR.symm, _, rfl, ((unhide HOn).trans ((unhide HS9).2.two cb)).trans ((only_below hb9 (Nat.le_refl _)).two cb)⟩)
      | false =>
        cases hat : isAt s.data.toList k3 61 with
        | false =>
          go_wp2_with fail
          refine (at_any rb s k3 61 _ (by exact (unhide HS3).1) hk3).mono ?_
          rw [hat]
          rintro e w4 ⟨rfl, hst4⟩
          obtain ⟨r4, e0, e1, e2, m1, m2⟩ := hst4.1.cells
          have HS4 := hide ((unhide HS3).trans hst4)
          clear hst4
          have hR := unhide HPar2
          rw [hnm, hat, if_pos (by simp)] at hR
          have hst9 := (unhide HS4).set1 (k1 : Int)
          have HS9 := hide hst9
          have HR9 := hide hR
          clear hst9 hR HPar2
          cases hcm : commaIn s.data.toList k with
          | true =>
            go_wp2_with fail
            have hR := unhide HR9
            rw [hcm, if_pos rfl] at hR
            refine unhide HTr _ _ (.inl ⟨ps, _, pm, hR.symm, List.drop_suffix _ _, rfl, ?_, ?_, ?_, ?_⟩)
            · rw [List.length_drop, unhide HL, show s.size - (s.size - k1) = k1 by omega]
              exact (unhide HS9).1
            · exact (unhide HCh).only (unhide HS9).2 hne
            · exact (unhide HPm).only ((unhide HS9).2.two cb)
            · exact (unhide HOn).trans ((unhide HS9).2.two cb)
          | false =>
            go_wp2_with fail
            refine (rerrorf_any F rb s _ _ _ (by exact (congrArg F.answers ((unhide HOn).trans ((unhide HS9).2.two cb)).tape) ▸ hF) (by exact (unhide HS9).1)).mono ?_
            rintro e w9 ⟨v, rfl, hb9⟩
            go_wp2_with fail
            have hR := unhide HR9
            rw [hcm, if_neg (by simp)] at hR
            exact unhide HTr _ _ (.inr ⟨hR.symm, _, rfl, ((unhide HOn).trans ((unhide HS9).2.two cb)).trans ((only_below hb9 (Nat.le_refl _)).two cb)⟩)
        | true =>
          go_wp2_with fail
          refine (at_any rb s k3 61 _ (by exact (unhide HS3).1) hk3).mono ?_
          rw [hat]
          rintro e w4 ⟨rfl, hst4⟩
          obtain ⟨r4, e0, e1, e2, m1, m2⟩ := hst4.1.cells
          have hlt3 : k3 < s.size := by
            rcases Nat.lt_or_ge k3 s.size with h | h
            · exact h
            · rw [isAt_ge _ _ _ (by rw [unhide HL]; exact h)] at hat; cases hat
          have hst5 := ((unhide HS3).trans hst4).set1 ((k3 + 1 : Nat) : Int)
          have HS5 := hide hst5
          have hk31 : (((k3 + 1 : Nat)) : Int) = (k3 : Int) + 1 := by omega
          have hR := unhide HPar2
          rw [hnm, hat, if_neg (by simp)] at hR
          have HPar3 := hide hR
          clear hst5 hst4 hR HPar2
          go_wp2_with fail
          rw [← hk31]
          clear hk31
          refine (skipSpace_any rb s (k3 + 1) _ (by exact (unhide HS5).1) (by omega) hs).mono ?_
          rintro e w6 ⟨rfl, hst6⟩
          have HS6 := hide ((unhide HS5).trans hst6)
          have hk4 := runEnd_le wsp s.data.toList (k3 + 1) (by rw [unhide HL]; omega)
          rw [unhide HL] at hk4
          have hge4 := runEnd_ge wsp s.data.toList (k3 + 1)
          generalize hx4 : runEnd wsp s.data.toList (k3 + 1) = k4 at *
          clear hx4 hst6
          have hon6 := (unhide HOn).trans ((unhide HS6).2.two cb)
          have HOn6 := hide hon6
          clear hon6
          go_wp2_with fail
          refine (value_any F rb s k4 w6 (by rw [(unhide HOn6).tape]; exact hF) (unhide HS6).1 hk4 hs).mono ?_
          rintro e w7 (⟨v, rest, hv, hsuf, rfl, hrd7, hon7⟩ | ⟨hv, x, rfl, hon7⟩)
          · have HRd7 := hide hrd7
            have HOn7 := hide ((unhide HOn6).trans (hon7.two cb))
            have HCh7 := hide (((unhide HCh).only (unhide HS6).2 hne).only hon7 hne)
            have HPm7 := hide (((unhide HPm).only ((unhide HS6).2.two cb)).only (hon7.two cb))
            have hR := unhide HPar3
            rw [hv] at hR
            have HPar4 := hide hR
            have hrl : rest.length < s.size - k4 := by
              have := (val_suffix _ _ _ hv).2
              rwa [List.length_drop, unhide HL] at this
            have HSuf := hide hsuf
            clear hrd7 hon7 hR HPar3 hv hsuf
            go_wp2_with fail
            refine (Tryf.strings_ToLower_ascii ⟨nm.toArray⟩ w7 (by simp [ByteArray.size]; omega) (by exact unhide HA)).mono ?_
            rintro e w8 ⟨rfl, hb8⟩
            have ho8 : Only rb w7 w8 := only_below hb8 (Nat.le_refl _)
            have HRd8 : Hid (Rd rb s (s.size - rest.length : Nat) w8) := hide ((unhide HRd7).below hb8 (by obtain ⟨r, h⟩ := unhide HRd7; exact (Array.getElem?_eq_some_iff.1 h).1))
            have HOn8 := hide ((unhide HOn7).trans (ho8.two cb))
            have HCh8 := hide ((unhide HCh7).only ho8 hne)
            have HPm8 := hide ((unhide HPm7).only (ho8.two cb))
            rw [show (⟨nm.toArray⟩ : ByteArray).data.toList = nm from rfl]
            generalize Lib.toLowerA nm = ln at *
            clear ho8 hb8 HPm7 HCh7 HOn7 HRd7 HOn6 HS6 HS5 HS3 HA
            obtain ⟨mp, rfl⟩ : ∃ mp, pm = .map mp := by
              rcases unhide HPm8 with ⟨_, h⟩ | ⟨_, r, h, _⟩
              · exact ⟨_, h⟩
              · exact ⟨_, h⟩
            obtain ⟨q0, q1, q2, q3, q4⟩ := (unhide HCh8).cells
            obtain ⟨lv, hlook⟩ : ∃ lv, (Instr.lookup 37 (.map mp) (.string ⟨ln.toArray⟩) true).run Tryf.prog w8 = .ok (.tuple #[lv, .bool (ps.any fun p => p.1 == ln)]) w8 := by
              rcases unhide HPm8 with ⟨rfl, h⟩ | ⟨_, r, h, _, _, _, hm⟩ <;> cases h
              · exact ⟨_, run_look_nil _ _⟩
              · exact ⟨_, (run_look ps ⟨ln.toArray⟩ r w8 hm).trans (by rw [(lookV_spec ps ⟨ln.toArray⟩).1])⟩
            cases hdup : ps.any (fun p => p.1 == ln) with
            | true =>
              rw [hdup] at hlook
              go_wp2_with fail
              refine (errorf_B F k1 w8.heap.size _ (by show F.answers w8.tape; rw [(unhide HOn8).tape]; exact hF) (by go_simp)).mono ?_
              rintro e w9 ⟨x9, rfl, hb9⟩
              go_wp2_with fail
              have hR := unhide HPar4
              rw [hdup, if_pos rfl] at hR
              refine unhide HTr _ _ (.inr ⟨hR.symm, _, rfl, (unhide HOn8).trans (Only2.trans ?_ ((only_below hb9 (Nat.le_refl _)).two cb))⟩)
              exact (only_below ((Below.refl _ w8).alloc (Nat.le_refl _) _) (Nat.le_refl _)).two cb
            | false =>
              rw [hdup] at hlook
              have hR := unhide HPar4
              rw [hdup, if_neg (by simp)] at hR
              have HPar5 := hide hR
              clear hR HPar4
              have heql : (binOp .eql 37 (.map mp) (.map none)).run Tryf.prog w8 = .ok (.bool ps.isEmpty) w8 := by
                rcases unhide HPm8 with ⟨rfl, h⟩ | ⟨hne', r, h, _, _, _, hm⟩ <;> cases h
                · exact run_eql_map_nil w8 37 9 9 none Tryf.underlying37
                · have : ps.isEmpty = false := by
                    cases hx : ps.isEmpty with
                    | false => rfl
                    | true => exact absurd (by simpa using hx) hne'
                  rw [this]
                  exact run_eql_map_nil w8 37 9 9 (some r) Tryf.underlying37
              have hmm := @run_makeMap Tryf.prog
              go_upto_if 84 with fail
              go_cut [] from 12 to 113 (fun wx => ∃ r, Ch cb sch tok (.map (some r)) wx ∧ MapAt r ps wx ∧ w.heap.size ≤ r ∧ r ≠ rb ∧ r ≠ cb ∧ Rd rb s (s.size - rest.length : Nat) wx ∧ Only2 rb cb w wx)
              case first =>
                have hwle : w.heap.size ≤ w8.heap.size := (unhide HOn8).size
                rcases unhide HPm8 with ⟨rfl, h⟩ | ⟨hne', r, h, hr1, hr2, hr3, hm⟩ <;> cases h
                · have hal : Only rb w8 (w8.alloc (.map #[] 0)) := only_below ((Below.refl _ w8).alloc (Nat.le_refl _) _) (Nat.le_refl _)
                  have hchA := (unhide HCh8).only hal hne
                  have hrdA : Rd rb s (s.size - rest.length : Nat) (w8.alloc (.map #[] 0)) := (unhide HRd8).below ((Below.refl _ w8).alloc (Nat.le_refl _) _) (by omega)
                  have hmapA : (w8.alloc (.map #[] 0)).heap[w8.heap.size]? = some (.map #[] 0) := Array.getElem?_push_size
                  obtain ⟨z0, z1, z2, z3, z4⟩ := hchA.cells
                  have HA1 := hide hchA
                  have HA2 := hide hrdA
                  have HA3 := hide hmapA
                  have HA4 := hide hal
                  clear hchA hrdA hmapA hal
                  go_wp2_with fail
                  go_meet
                  case rel =>
                    refine ⟨w8.heap.size, (unhide HA1).set2 _, ?_, hwle, by omega, by omega, (unhide HA2).setOther hne 2 _, ((unhide HOn8).trans ((unhide HA4).two cb)).setCb 2 _⟩
                    unfold MapAt
                    rw [Below.heap_setCell _ _ _ _ (show w8.heap.size ≠ cb by omega)]
                    exact unhide HA3
                · have hpe : ps.isEmpty = false := by
                    cases hx : ps.isEmpty with
                    | false => rfl
                    | true => exact absurd (by simpa using hx) hne'
                  have HM := hide hm
                  rw [hpe]
                  clear hm hpe hne'
                  go_wp2_with fail
                  go_meet
                  case rel => exact ⟨r, unhide HCh8, unhide HM, hr1, hr2, hr3, unhide HRd8, unhide HOn8⟩
              case rest =>
                obtain ⟨r, hchx, hmx, hr1, hr2, hr3, hrdx, honx⟩ := hcut
                rename_i wx
                clear hlook heql hmm q0 q1 q2 q3 q4 HPm8 HCh8 HRd8 HOn8
                obtain ⟨wy, hput, hmy, hoy⟩ := run_put ps ln v r _ hmx hdup
                have hchy := hchx.only hoy (Ne.symm hr3)
                have hrdy : Rd rb s (s.size - rest.length : Nat) wy := by
                  obtain ⟨q, hq⟩ := hrdx
                  exact ⟨q, by rw [hoy.block rb (Array.getElem?_eq_some_iff.1 hq).1 (Ne.symm hr2)]; exact hq⟩
                have hony : Only2 rb cb w wy := ⟨hoy.os.trans honx.os, hoy.tape.trans honx.tape, hoy.output.trans honx.output, Nat.le_trans honx.size hoy.size, fun k h1 h2 h3 => (hoy.block k (Nat.lt_of_lt_of_le h1 honx.size) (by omega)).trans (honx.block k h1 h2 h3)⟩
                obtain ⟨q0, q1, q2, q3, q4⟩ := hchx.cells
                have HChy := hide hchy
                have HRdy := hide hrdy
                have HOny := hide hony
                have HMy := hide hmy
                clear hchy hrdy hony hmy hoy hchx hrdx honx hmx
                have hrl2 : s.size - rest.length ≤ s.size := by omega
                go_wp2_with fail
                refine (skipSpace_any rb s (s.size - rest.length) wy (unhide HRdy) hrl2 hs).mono ?_
                rintro e wz ⟨rfl, hstz⟩
                have hkz := runEnd_le wsp s.data.toList (s.size - rest.length) (by rw [unhide HL]; exact hrl2)
                rw [unhide HL] at hkz
                have hgez := runEnd_ge wsp s.data.toList (s.size - rest.length)
                have hdz := drop_runEnd wsp s.data.toList (s.size - rest.length)
                have hsufd : s.data.toList.drop (s.size - rest.length) = rest := by
                  have := drop_of_suffix (unhide HSuf)
                  rwa [unhide HL] at this
                rw [hsufd] at hdz
                have hR := unhide HPar5
                rw [← hdz, head_at, empty_at, unhide HL] at hR
                generalize hxz : runEnd wsp s.data.toList (s.size - rest.length) = kz at *
                clear hxz hsufd hdz
                have HPar6 := hide hR
                clear hR HPar5
                obtain ⟨rz, z0, z1, z2, z3, z4⟩ := hstz.1.cells
                have HSz := hide hstz
                have HChz := hide ((unhide HChy).only hstz.2 hne)
                have HOnz := hide ((unhide HOny).trans (hstz.2.two cb))
                have HMz : Hid (MapAt r (ps ++ [(ln, v)]) wz) := hide (by
                  have hm := unhide HMy
                  unfold MapAt at *
                  rw [hstz.2.block r (Array.getElem?_eq_some_iff.1 hm).1 hr2]; exact hm)
                clear hstz
                by_cases hendz : kz < s.size
                · have hd : decide ((kz : Int) < s.size) = true := by simp; omega
                  cases hat44 : isAt s.data.toList kz 44 with
                  | true =>
                    have hR := unhide HPar6
                    rw [hat44, Bool.not_true, Bool.and_false, if_neg (by simp)] at hR
                    have HPar7 := hide hR
                    clear hR HPar6
                    go_wp2_with fail
                    go_region_held3 (fun w' => w'.cell? ⟨rb, 0, none⟩ = some (.string s) ∧ w'.cell? ⟨rb, 1, none⟩ = some (.int .i64 kz)) (go_keep) (first | (go_at_call 34; refine (at_any rb s kz 44 _ (by exact (unhide HSz).1) hkz).mono ?_; rw [hat44]; rintro e w' ⟨rfl, hst⟩; obtain ⟨r', v0, v1, v2, y1, y2⟩ := hst.1.cells))
                    go_wp2_with fail
                    go_roundw
                    case rel =>
                      have ho := hst.of_drew.2
                      refine ⟨kz, hkz, n, ps ++ [(ln, v)], .map (some r), by omega, unhide HPar7, hst.1, (unhide HChz).only ho hne, ?_, (unhide HOnz).trans (ho.two cb)⟩
                      exact PM.only (w := wz) (.inr ⟨by simp, r, rfl, hr1, hr2, hr3, unhide HMz⟩) (ho.two cb)
                    case measure => rw [posOf_rd hst.1, posOf_rd (unhide HRd)]; omega
                  | false =>
                    have hR := unhide HPar6
                    rw [hat44, decide_eq_false (by omega), if_pos (by simp)] at hR
                    have HPar7 := hide hR
                    clear hR HPar6
                    go_wp2_with fail
                    go_region_held3 (fun w' => w'.cell? ⟨rb, 0, none⟩ = some (.string s) ∧ w'.cell? ⟨rb, 1, none⟩ = some (.int .i64 kz)) (go_keep) (first | (go_at_call 34; refine (at_any rb s kz 44 _ (by exact (unhide HSz).1) hkz).mono ?_; rw [hat44]; rintro e w' ⟨rfl, hst⟩; obtain ⟨r', v0, v1, v2, y1, y2⟩ := hst.1.cells))
                    have HOnf := hide ((unhide HOnz).trans (hst.of_drew.2.two cb))
                    have HRdf := hide hst.1
                    go_wp2_with fail
                    refine (rerrorf_any F rb s _ _ _ (by rw [(unhide HOnf).tape]; exact hF) (by exact unhide HRdf)).mono ?_
                    rintro e w9 ⟨x9, rfl, hb9⟩
                    go_wp2_with fail
                    exact unhide HTr _ _ (.inr ⟨(unhide HPar7).symm, _, rfl, (unhide HOnf).trans ((only_below hb9 (Nat.le_refl _)).two cb)⟩)
                · have hd : decide ((kz : Int) < s.size) = false := by simp; omega
                  have hR := unhide HPar6
                  rw [decide_eq_true (show s.size ≤ kz by omega), Bool.not_true, Bool.false_and, if_neg (by simp)] at hR
                  have HPar7 := hide hR
                  clear hR HPar6
                  go_wp2_with fail
                  go_quiet (fail)
                  go_wp2_with fail
                  have hst : Steps rb s kz wz (wz.drewN nq) := Steps.drewN ⟨(unhide HSz).1, Only.refl _ _⟩ _
                  go_roundw
                  case rel =>
                    have ho := hst.2
                    refine ⟨kz, hkz, n, ps ++ [(ln, v)], .map (some r), by omega, unhide HPar7, hst.1, (unhide HChz).only ho hne, ?_, (unhide HOnz).trans (ho.two cb)⟩
                    exact PM.only (w := wz) (.inr ⟨by simp, r, rfl, hr1, hr2, hr3, unhide HMz⟩) (ho.two cb)
                  case measure => rw [posOf_rd hst.1, posOf_rd (unhide HRd)]; omega
          · go_wp2_with fail
            have hR := unhide HPar3
            rw [hv] at hR
            exact unhide HTr _ _ (.inr ⟨hR.symm, _, rfl, (unhide HOn6).trans (hon7.two cb)⟩)
end Go.Proofs.Qxb6613049aFmt
