import Derived.Test.Qxb6613049aFmtW9
import Derived.OwnWalk
namespace Go.Proofs.Qxb6613049aFmt
open Go.RowKit Go.Stop

theorem info39 : (Tryf.prog.info? 39).map (fun i => (i.zero, i.size, i.bytes)) = some (some (.agg #[.string ⟨#[]⟩, .string ⟨#[]⟩, .map none]), 3, 40) := by kernel_rfl

theorem rd_lt {rb : Nat} {s : ByteArray} {p : Int} {w : World} (h : Rd rb s p w) : rb < w.heap.size := by obtain ⟨r, h⟩ := h; exact (Array.getElem?_eq_some_iff.1 h).1
theorem own_keeps {B rb cb n : Nat} {v : Value} {xs : List Value} {s : ByteArray} {p : Int} {w w' : World} (h : w.ownsRow B 39 3 v n xs) (ho : Only2 rb cb w w') (hr : Rd rb s p w) (hc : w.heap.size ≤ cb) : w'.ownsRow B 39 3 v n xs := by
  obtain ⟨h1, h2⟩ := h
  refine ⟨h1, ?_⟩
  rcases h2 with h2 | ⟨g, cap, cur, h3, h4, h5, h6⟩
  · exact .inl h2
  · refine .inr ⟨g, cap, cur, h3, h4, ?_, h6⟩
    have hlt := (Array.getElem?_eq_some_iff.1 h5).1
    rw [ho.block g hlt (fun e => ?_) (by omega)]
    · exact h5
    · subst e
      obtain ⟨r, hr⟩ := hr
      rw [hr] at h5
      simp at h5
theorem Only2.keepsNew {rb cb : Nat} {w w' : World} {s : ByteArray} {p : Int} (h : Only2 rb cb w w') (hr : Rd rb s p w) (hc : w.heap.size ≤ cb) : MK w w' := by
  obtain ⟨q, hr⟩ := hr
  intro r es n hm
  have hlt := (Array.getElem?_eq_some_iff.1 hm).1
  rw [h.block r hlt (fun e => by subst e; rw [hr] at hm; cases hm) (by omega)]
  exact hm

theorem cells_new3 (w : World) (a b c : Value) : ∀ (j : Nat) (u : Value), ([a, b, c] : List Value)[j]? = some u → (w.alloc (.cells #[a, b, c] 39)).cell? ((⟨w.heap.size, 0, none⟩ : Addr).add j) = some u := by
  intro j u h
  have hb : (w.alloc (.cells #[a, b, c] 39)).heap[w.heap.size]? = some (.cells #[a, b, c] 39 (0, 0)) := Array.getElem?_push_size
  generalize w.alloc (.cells #[a, b, c] 39) = W at *
  match j, h with
  | 0, h => cases h; simp [World.cell?, Addr.add, hb]
  | 1, h => cases h; simp [World.cell?, Addr.add, hb]
  | 2, h => cases h; simp [World.cell?, Addr.add, hb]
  | j + 3, h => simp at h

/-- What challenges leaves. -/
def Chs (B rb : Nat) (s : ByteArray) (R : Option (List Chal)) (w : World) (e : Ending) (w' : World) : Prop :=
  (∃ cs v xs, R = some cs ∧ e = .returned (.tuple #[v, .nilIface]) ∧ w'.ownsRow B 39 3 v cs.length xs ∧ Row cs xs w' ∧ Rd rb s s.size w' ∧ Below B w w' ∧ MK w w') ∨
  (R = none ∧ ∃ x, e = .returned (.tuple #[.slice none 0 0, .iface 80 x]) ∧ Below B w w' ∧ MK w w')

/-- Where a round of challenges stands. -/
def ChInv (B rb A : Nat) (s : ByteArray) (R : Option (List Chal)) (w : World) (k : Nat) (v : Value) (wr : World) : Prop :=
  ∃ n cs xs, s.size - k < n ∧ chals n (s.data.toList.drop k) cs = R ∧ cs.length ≤ A + k ∧ wr.ownsRow B 39 3 v cs.length xs ∧ Row cs xs wr ∧ Rd rb s k wr ∧ Below B w wr ∧ MK w wr

/-- One round of challenges, by places. -/
theorem chals_at (L : List UInt8) (n k : Nat) (acc : List Chal) : chals (n + 1) (L.drop k) acc =
    if decide (L.length ≤ runEnd spc L k) then some acc
    else if ((L.drop (runEnd spc L k)).takeWhile tch).isEmpty then none
    else match body (L.drop (runEnd tch L (runEnd spc L k))) with
      | none => none
      | some (tk, ps, rest) => chals n rest (acc ++ [((L.drop (runEnd spc L k)).takeWhile tch, tk, ps)]) := by
  conv => lhs; unfold chals
  rw [← drop_runEnd spc L k, ← drop_runEnd tch L _, empty_at]
  rfl

theorem body_at (L : List UInt8) (k m : Nat) (hk : k ≤ L.length) (hm : L.length < m) : body (L.drop k) =
    if decide (k < runEnd wsp L k) then
      (if t68Stands L (runEnd wsp L k) then some ((L.take (t68End L (runEnd wsp L k))).drop (runEnd wsp L k), [], L.drop (runEnd wsp L (t68End L (runEnd wsp L k))))
       else match params m (L.drop (runEnd wsp L k)) [] with
        | some (ps, rest) => some ([], ps, rest)
        | none => none)
    else some ([], [], L.drop k) := by
  unfold body
  have hb1 : ((L.drop k).takeWhile wsp).isEmpty = !(decide (k < runEnd wsp L k)) := by
    unfold runEnd
    cases h : (L.drop k).takeWhile wsp with
    | nil => simp
    | cons a l => simp
  have hge := runEnd_ge wsp L k
  rw [hb1, ← drop_runEnd, tok68_at, params_fuel ((L.drop (runEnd wsp L k)).length + 1) m _ _ (by omega) (by rw [List.length_drop]; omega)]
  cases decide (k < runEnd wsp L k) with
  | false => rfl
  | true =>
    simp only [Bool.not_true, Bool.false_eq_true, if_false, if_true]
    cases t68Stands L (runEnd wsp L k) with
    | true => rfl
    | false => rfl

set_option maxRecDepth 100000 in
set_option maxHeartbeats 4000000 in
theorem challenges_any (F : Interp) (B rb : Nat) (s : ByteArray) (i : Nat) (cs0 : List Chal) (v0 : Value) (xs0 : List Value) (w : World) (hF : F.answers w.tape) (h : Rd rb s i w) (hB : B ≤ rb) (hi : i ≤ s.size) (hs : s.size ≤ 4194304)
    (hA : cs0.length ≤ 4194304) (hown : w.ownsRow B 39 3 v0 cs0.length xs0) (hrow : Row cs0 xs0 w) :
    Calls Tryf.prog 20 #[.pointer (some ⟨rb, 0, none⟩), v0] w (Chs B rb s (chals (s.size + 1) (s.data.toList.drop i) cs0) w) := by
  generalize hR : chals (s.size + 1) (s.data.toList.drop i) cs0 = R
  have hl : s.data.toList.length = s.size := by simp
  have HL := hide hl
  generalize hT : Chs B rb s R w = T
  have hTr : ∀ (e : Ending) (w' : World), Chs B rb s R w e w' → T e w' := fun e w' h => by rw [← hT]; exact h
  have HTr := hide hTr
  have HI : Hid (ChInv B rb cs0.length s R w i v0 w) := hide ⟨s.size + 1, cs0, xs0, by omega, hR, by omega, hown, hrow, h, Below.refl _ _, MK.refl _⟩
  clear hT hTr h hR hl hown hrow
  obtain ⟨i0, hi0, hz0, hz1, hz2⟩ := info_parts info39
  go_enter Tryf.func20, Tryf.ntmps20
  go_wp2_with fail
  go_loopw [1, 6, 7] (fun v _ _ wr => ∃ k : Nat, k ≤ s.size ∧ ChInv B rb cs0.length s R w k v wr) (fun _ _ _ wr => s.size - posOf rb wr)
  case atStart => exact ⟨i, hi, unhide HI⟩
  case round =>
    obtain ⟨k, hk, n0, cs, xs, hn, hch, hlen, hown, hrow, hrd, hbe, hmk⟩ := hrel
    obtain ⟨n, rfl⟩ : ∃ n, n0 = n + 1 := ⟨n0 - 1, by omega⟩
    rw [chals_at, unhide HL] at hch
    have HCh := hide hch
    have HRd := hide hrd
    have HOwn := hide hown
    have HRow := hide hrow
    have HBe := hide hbe
    have HMk := hide hmk
    clear hch hrd hown hrow hbe hmk HI
    go_wp2_with fail
    refine (skipEmpty_any rb s k wr (unhide HRd) hk hs).mono ?_
    rintro e w1 ⟨rfl, hst1⟩
    have hk1 := runEnd_le spc s.data.toList k (by rw [unhide HL]; exact hk)
    rw [unhide HL] at hk1
    have hge1 := runEnd_ge spc s.data.toList k
    generalize hx1 : runEnd spc s.data.toList k = k1 at *
    clear hx1
    obtain ⟨r1, c0, c1, c2, f1, f2⟩ := hst1.1.cells
    have HS1 := hide hst1
    clear hst1
    by_cases hend : k1 = s.size
    · have hb : ((k1 : Int) == (s.size : Int)) = true := by simp; omega
      go_wp2_with fail
      go_quiet (fail)
      go_wp2_with fail
      have hR := unhide HCh
      rw [decide_eq_true (by omega), if_pos rfl] at hR
      have ho := ((unhide HS1).drewN nq).2
      have hmk := ho.keeps (unhide HRd)
      refine unhide HTr _ _ (.inl ⟨cs, u1, xs, hR.symm, rfl, ?_, (unhide HRow).keeps hmk, ?_, ?_, (unhide HMk).trans hmk⟩)
      · exact own_keeps (unhide HOwn) (ho.two w1.heap.size) (unhide HRd) ho.size
      · have := ((unhide HS1).drewN nq).1
        rwa [hend] at this
      · exact (unhide HBe).trans (ho.below hB (by have := rd_lt (unhide HRd); omega))
    · have hb : ((k1 : Int) == (s.size : Int)) = false := by simp; omega
      have hR := unhide HCh
      rw [decide_eq_false (by omega), if_neg (by simp)] at hR
      have HCh2 := hide hR
      clear hR HCh
      go_wp2_with fail
      go_quiet (fail)
      have HS1' := hide ((unhide HS1).drewN nq)
      go_wp2_with fail
      refine (token_any rb s k1 _ (by exact (unhide HS1').1) hk1 hs).mono ?_
      rintro e w2 ⟨rfl, hst2⟩
      have HS2 := hide ((unhide HS1').trans hst2)
      have hk2 := runEnd_le tch s.data.toList k1 (by rw [unhide HL]; exact hk1)
      rw [unhide HL] at hk2
      have hge2 : runEnd tch s.data.toList k1 = k1 + ((s.data.toList.drop k1).takeWhile tch).length := rfl
      clear hst2
      generalize hx2 : runEnd tch s.data.toList k1 = k2 at *
      clear hx2
      generalize hnm : (s.data.toList.drop k1).takeWhile tch = nm at *
      clear hnm
      have hcbn : w2.heap.size ≠ rb := by have := rd_lt (unhide HS2).1; omega
      have hal : Below w2.heap.size w2 (w2.alloc (.cells #[.string ⟨nm.toArray⟩, .string ⟨#[]⟩, .map none] 39)) := (Below.refl _ w2).alloc (Nat.le_refl _) _
      have hrdA : Rd rb s k2 (w2.alloc (.cells #[.string ⟨nm.toArray⟩, .string ⟨#[]⟩, .map none] 39)) := (unhide HS2).1.below hal (rd_lt (unhide HS2).1)
      have hchA : Ch w2.heap.size ⟨nm.toArray⟩ ⟨#[]⟩ (.map none) (w2.alloc (.cells #[.string ⟨nm.toArray⟩, .string ⟨#[]⟩, .map none] 39)) := Array.getElem?_push_size
      have hoA : Only2 rb w2.heap.size w2 (w2.alloc (.cells #[.string ⟨nm.toArray⟩, .string ⟨#[]⟩, .map none] 39)) := (only_below hal (Nat.le_refl _)).two _
      have HRdA := hide hrdA
      have HChA := hide hchA
      have HOA := hide hoA
      clear hal hrdA hchA hoA
      cases hnm : nm.isEmpty with
      | true =>
        obtain rfl : nm = [] := by simpa using hnm
        have hR := unhide HCh2
        rw [if_pos (show ([] : List UInt8).isEmpty = true from rfl)] at hR
        have HR9 := hide hR
        clear hR HCh2
        go_wp2_with fail
        refine (rerrorf_any F rb s _ _ _ (by show F.answers w2.tape; rw [(unhide HS2).2.tape, (unhide HBe).tape]; exact hF) (by exact unhide HRdA)).mono ?_
        rintro e w9 ⟨x9, rfl, hb9⟩
        go_wp2_with fail
        have hszB : B ≤ w2.heap.size := by have := rd_lt (unhide HS2).1; omega
        have ho9 := (unhide HOA).trans ((only_below (rb := rb) hb9 (Nat.le_refl _)).two w2.heap.size)
        refine unhide HTr _ _ (.inr ⟨(unhide HR9).symm, _, rfl, ?_, ?_⟩)
        · exact ((unhide HBe).trans ((unhide HS2).2.below hB (by have := rd_lt (unhide HRd); omega))).trans (ho9.below hB hszB hszB)
        · exact ((unhide HMk).trans ((unhide HS2).2.keeps (unhide HRd))).trans (ho9.keepsNew (unhide HS2).1 (Nat.le_refl _))
      | false =>
        have hR := unhide HCh2
        rw [hnm, if_neg (by simp)] at hR
        rw [body_at s.data.toList k2 (s.size + 1) (by rw [unhide HL]; exact hk2) (by rw [unhide HL]; omega)] at hR
        have hnl : 0 < nm.length := by
          cases nm with
          | nil => cases hnm
          | cons a l => simp
        have HCh3 := hide hR
        clear hR HCh2
        go_wp2_with fail
        refine (skipSpace_any rb s k2 _ (by exact unhide HRdA) hk2 hs).mono ?_
        rintro e w3 ⟨rfl, hst3⟩
        have hk3 := runEnd_le wsp s.data.toList k2 (by rw [unhide HL]; exact hk2)
        rw [unhide HL] at hk3
        have hge3 := runEnd_ge wsp s.data.toList k2
        generalize hx3 : runEnd wsp s.data.toList k2 = k3 at *
        clear hx3
        have HS3 := hide hst3
        have HCh3' := hide ((unhide HChA).only hst3.2 hcbn)
        have HO3 := hide ((unhide HOA).trans (hst3.2.two w2.heap.size))
        clear hst3 HChA HOA HRdA
        by_cases hsp : k2 < k3
        · have hd : decide (k2 < k3) = true := by simp; omega
          have hR := unhide HCh3
          rw [hd, if_pos rfl] at hR
          have HCh4 := hide hR
          clear hR HCh3
          go_wp2_with fail
          refine (token68_any rb w2.heap.size s ⟨nm.toArray⟩ ⟨#[]⟩ (.map none) k3 w3 (unhide HS3).1 (unhide HCh3') hcbn hk3 hs).mono ?_
          rintro e w4 (⟨hst, rfl, hrd4, hch4, ho4⟩ | ⟨hst, rfl, hrd4, hch4, ho4⟩)
          · have hR := unhide HCh4
            rw [hst, if_pos rfl] at hR
            have hq1 := runEnd_ge t68 s.data.toList k3
            have hq2 : runEnd t68 s.data.toList k3 ≤ t68End s.data.toList k3 := runEnd_ge eqs s.data.toList _
            have hq3 := runEnd_ge wsp s.data.toList (t68End s.data.toList k3)
            have hq4 : t68End s.data.toList k3 ≤ s.data.toList.length := runEnd_le eqs s.data.toList _ (runEnd_le t68 s.data.toList k3 (by rw [unhide HL]; exact hk3))
            have hq5 := runEnd_le wsp s.data.toList (t68End s.data.toList k3) hq4
            rw [unhide HL] at hq5
            generalize runEnd wsp s.data.toList (t68End s.data.toList k3) = kq at *
            generalize (s.data.toList.take (t68End s.data.toList k3)).drop k3 = tkb at *
            have hlo : k2 ≤ kq := by omega
            have HChl := hide hR
            have HRd4 := hide hrd4
            have HChw := hide hch4
            have HO4 := hide ((unhide HO3).trans ho4)
            clear hR hrd4 hch4 ho4 hq1 hq2 hq3 hq4 hst HCh4
            have HOwnX := hide (own_keeps (own_keeps (unhide HOwn) ((unhide HS2).2.two wr.heap.size) (unhide HRd) (Nat.le_refl _)) (unhide HO4) (unhide HS2).1 (Nat.le_refl _))
            have hmkX := ((unhide HS2).2.keeps (unhide HRd)).trans ((unhide HO4).keepsNew (unhide HS2).1 (Nat.le_refl _))
            have HRowX := hide (Row.snoc (c := (nm, tkb, [])) (pm := .map none) (by exact (.inl ⟨rfl, rfl⟩)) ((unhide HRow).keeps hmkX))
            have HMkX := hide ((unhide HMk).trans hmkX)
            have hszB : B ≤ w2.heap.size := by have := rd_lt (unhide HS2).1; omega
            have HBeX := hide (((unhide HBe).trans ((unhide HS2).2.below hB (by have := rd_lt (unhide HRd); omega))).trans ((unhide HO4).below hB hszB hszB))
            have hszX : B ≤ w4.heap.size := Nat.le_trans hszB (unhide HO4).size
            obtain ⟨z0, z1, z2, z3, z4⟩ := (unhide HChw).cells
            have HX : Hid (∀ v' w', w'.ownsRow B 39 3 v' (cs.length + 1) (xs ++ [.string ⟨nm.toArray⟩, .string ⟨(tkb).toArray⟩, .map none]) → (w4.alloc (.cells #[.string ⟨nm.toArray⟩, .string ⟨(tkb).toArray⟩, .map none] 39)).grownBy w' u1.ownBlock → ChInv B rb cs0.length s R w (kq) v' w') := hide (fun v' w' ho' hg' => by
              have hal : Below w4.heap.size w4 (w4.alloc (.cells #[.string ⟨nm.toArray⟩, .string ⟨(tkb).toArray⟩, .map none] 39)) := (Below.refl _ _).alloc (Nat.le_refl _) _
              have hown := unhide HOwnX
              have hgr : ∀ j o, w4.heap[j]? = some o → some j ≠ u1.ownBlock → w'.heap[j]? = some o := fun j o hj hne => by
                have hlt := (Array.getElem?_eq_some_iff.1 hj).1
                rw [hg'.block j (by simp; omega) hne, hal.block j hlt]; exact hj
              have hgB : ∀ j, u1.ownBlock = some j → B ≤ j ∧ ∃ cur, w4.heap[j]? = some (.cells cur 39 (0, 0)) := fun j hj => by
                rcases hown.2 with ⟨h1, _⟩ | ⟨g, cap, cur, h3, h4, h5, _⟩
                · rw [h1] at hj; cases hj
                · rw [h3] at hj; cases hj; exact ⟨h4, cur, h5⟩
              have hmk9 : MK w4 w' := fun r es m hm => hgr r _ hm (fun e => by
                obtain ⟨_, cur, hc⟩ := hgB r e.symm
                rw [hc] at hm; cases hm)
              refine ⟨n, cs ++ [(nm, tkb, [])], _, by omega, unhide HChl, by simp; omega, by simpa using ho', (unhide HRowX).keeps hmk9, ?_, ?_, (unhide HMkX).trans hmk9⟩
              · obtain ⟨q, hq⟩ := unhide HRd4
                exact ⟨q, hgr rb _ hq (fun e => by
                  obtain ⟨_, cur, hc⟩ := hgB rb e.symm
                  rw [hc] at hq
                  simp at hq)⟩
              · exact ((unhide HBeX).alloc hszX _).grown hg' (by simp; omega) (fun j hj => (hgB j hj).1))
            go_wp2_with (at_builtin; refine wpList_append_own _ rfl _ _ 30 rfl B 39 i0 (.agg #[.string ⟨#[]⟩, .string ⟨#[]⟩, .map none]) 3 40 Tryf.underlying30 hi0 hz0 hz1 hz2 rfl (by decide) _ _ _ rfl ((unhide HOwnX).alloc _) ⟨w4.heap.size, 0, none⟩ 1 1 [.string ⟨nm.toArray⟩, .string ⟨(tkb).toArray⟩, .map none] rfl rfl (cells_new3 _ _ _ _) (by simp [Value.oneCell']) (by unfold maxLen; omega) (by omega) (by simp; omega) ?_; intro v' w9 hown' hgrow _; have HR9 := hide (unhide HX v' w9 hown' hgrow); clear hown' hgrow)
            go_roundw
            case rel => exact ⟨kq, by omega, unhide HR9⟩
            case measure =>
              obtain ⟨_, _, _, _, _, _, _, _, hrd9, _⟩ := unhide HR9
              rw [posOf_rd hrd9, posOf_rd (unhide HRd)]
              omega
          · have hR := unhide HCh4
            rw [hst, if_neg (by simp)] at hR
            have HCh5' := hide hR
            have HO4 := hide ((unhide HO3).trans ho4)
            have HRd4 := hide hrd4
            have HChv := hide hch4
            clear hR HCh4 hst hrd4 hch4 ho4
            go_wp2_with fail
            refine (params_any F rb w2.heap.size s ⟨nm.toArray⟩ ⟨#[]⟩ k3 w4 (by rw [(unhide HO4).tape, (unhide HS2).2.tape, (unhide HBe).tape]; exact hF) (unhide HRd4) (unhide HChv) hcbn hk3 hs).mono ?_
            rintro e w5 (⟨ps, rest, pm, hp, hsuf, rfl, hrd5, hch5, hpm5, ho5⟩ | ⟨hp, x, rfl, ho5⟩)
            · have hR := unhide HCh5'
              rw [hp] at hR
              have hmp := hpm5.mp
              obtain ⟨mp, rfl⟩ : ∃ mp, pm = .map mp := by
                rcases hmp with ⟨_, h⟩ | ⟨_, r, h, _⟩
                · exact ⟨_, h⟩
                · exact ⟨_, h⟩
              have hsr : s.data.toList.drop (s.size - rest.length) = rest := by
                have := drop_of_suffix hsuf
                rwa [unhide HL] at this
              have hrl : rest.length ≤ s.size - k3 := by
                have := (params_suffix _ _ _ _ _ hp).length_le
                rwa [List.length_drop, unhide HL] at this
              have hR2 : chals n (s.data.toList.drop (s.size - rest.length)) (cs ++ [(nm, [], ps)]) = R := by rw [hsr]; exact hR
              have HChl := hide hR2
              have HRd5 := hide hrd5
              have HCh5 := hide hch5
              have HMp5 := hide hmp
              have HO5 := hide ((unhide HO4).trans ho5)
              clear hR hR2 hsr hrd5 hch5 hmp hpm5 ho5 hp hsuf
              have HOwnX := hide (own_keeps (own_keeps (unhide HOwn) ((unhide HS2).2.two wr.heap.size) (unhide HRd) (Nat.le_refl _)) (unhide HO5) (unhide HS2).1 (Nat.le_refl _))
              have hmkX := ((unhide HS2).2.keeps (unhide HRd)).trans ((unhide HO5).keepsNew (unhide HS2).1 (Nat.le_refl _))
              have HRowX := hide (Row.snoc (c := (nm, [], ps)) (pm := .map mp) (by exact (unhide HMp5)) ((unhide HRow).keeps hmkX))
              have HMkX := hide ((unhide HMk).trans hmkX)
              have hszB : B ≤ w2.heap.size := by have := rd_lt (unhide HS2).1; omega
              have HBeX := hide (((unhide HBe).trans ((unhide HS2).2.below hB (by have := rd_lt (unhide HRd); omega))).trans ((unhide HO5).below hB hszB hszB))
              have hszX : B ≤ w5.heap.size := Nat.le_trans hszB (unhide HO5).size
              obtain ⟨z0, z1, z2, z3, z4⟩ := (unhide HCh5).cells
              have HX : Hid (∀ v' w', w'.ownsRow B 39 3 v' (cs.length + 1) (xs ++ [.string ⟨nm.toArray⟩, .string ⟨([]).toArray⟩, .map mp]) → (w5.alloc (.cells #[.string ⟨nm.toArray⟩, .string ⟨([]).toArray⟩, .map mp] 39)).grownBy w' u1.ownBlock → ChInv B rb cs0.length s R w ((s.size - rest.length)) v' w') := hide (fun v' w' ho' hg' => by
                have hal : Below w5.heap.size w5 (w5.alloc (.cells #[.string ⟨nm.toArray⟩, .string ⟨([]).toArray⟩, .map mp] 39)) := (Below.refl _ _).alloc (Nat.le_refl _) _
                have hown := unhide HOwnX
                have hgr : ∀ j o, w5.heap[j]? = some o → some j ≠ u1.ownBlock → w'.heap[j]? = some o := fun j o hj hne => by
                  have hlt := (Array.getElem?_eq_some_iff.1 hj).1
                  rw [hg'.block j (by simp; omega) hne, hal.block j hlt]; exact hj
                have hgB : ∀ j, u1.ownBlock = some j → B ≤ j ∧ ∃ cur, w5.heap[j]? = some (.cells cur 39 (0, 0)) := fun j hj => by
                  rcases hown.2 with ⟨h1, _⟩ | ⟨g, cap, cur, h3, h4, h5, _⟩
                  · rw [h1] at hj; cases hj
                  · rw [h3] at hj; cases hj; exact ⟨h4, cur, h5⟩
                have hmk9 : MK w5 w' := fun r es m hm => hgr r _ hm (fun e => by
                  obtain ⟨_, cur, hc⟩ := hgB r e.symm
                  rw [hc] at hm; cases hm)
                refine ⟨n, cs ++ [(nm, [], ps)], _, by omega, unhide HChl, by simp; omega, by simpa using ho', (unhide HRowX).keeps hmk9, ?_, ?_, (unhide HMkX).trans hmk9⟩
                · obtain ⟨q, hq⟩ := unhide HRd5
                  exact ⟨q, hgr rb _ hq (fun e => by
                    obtain ⟨_, cur, hc⟩ := hgB rb e.symm
                    rw [hc] at hq
                    simp at hq)⟩
                · exact ((unhide HBeX).alloc hszX _).grown hg' (by simp; omega) (fun j hj => (hgB j hj).1))
              go_wp2_with (at_builtin; refine wpList_append_own _ rfl _ _ 30 rfl B 39 i0 (.agg #[.string ⟨#[]⟩, .string ⟨#[]⟩, .map none]) 3 40 Tryf.underlying30 hi0 hz0 hz1 hz2 rfl (by decide) _ _ _ rfl ((unhide HOwnX).alloc _) ⟨w5.heap.size, 0, none⟩ 1 1 [.string ⟨nm.toArray⟩, .string ⟨([]).toArray⟩, .map mp] rfl rfl (cells_new3 _ _ _ _) (by simp [Value.oneCell']) (by unfold maxLen; omega) (by omega) (by simp; omega) ?_; intro v' w9 hown' hgrow _; have HR9 := hide (unhide HX v' w9 hown' hgrow); clear hown' hgrow)
              go_roundw
              case rel => exact ⟨(s.size - rest.length), by omega, unhide HR9⟩
              case measure =>
                obtain ⟨_, _, _, _, _, _, _, _, hrd9, _⟩ := unhide HR9
                rw [posOf_rd hrd9, posOf_rd (unhide HRd)]
                omega
            · have hR := unhide HCh5'
              rw [hp] at hR
              have HR9 := hide hR
              have HO5 := hide ((unhide HO4).trans ho5)
              clear hR hp ho5
              go_wp2_with fail
              have hszB : B ≤ w2.heap.size := by have := rd_lt (unhide HS2).1; omega
              refine unhide HTr _ _ (.inr ⟨(unhide HR9).symm, _, rfl, ?_, ?_⟩)
              · exact ((unhide HBe).trans ((unhide HS2).2.below hB (by have := rd_lt (unhide HRd); omega))).trans ((unhide HO5).below hB hszB hszB)
              · exact ((unhide HMk).trans ((unhide HS2).2.keeps (unhide HRd))).trans ((unhide HO5).keepsNew (unhide HS2).1 (Nat.le_refl _))
        · have hd : decide (k2 < k3) = false := by simp; omega
          obtain rfl : k3 = k2 := by omega
          have hR := unhide HCh3
          rw [hd, if_neg (by simp)] at hR
          have HChl := hide hR
          have HRd3 := hide (unhide HS3).1
          clear hR HCh3
          have HOwnX := hide (own_keeps (own_keeps (unhide HOwn) ((unhide HS2).2.two wr.heap.size) (unhide HRd) (Nat.le_refl _)) (unhide HO3) (unhide HS2).1 (Nat.le_refl _))
          have hmkX := ((unhide HS2).2.keeps (unhide HRd)).trans ((unhide HO3).keepsNew (unhide HS2).1 (Nat.le_refl _))
          have HRowX := hide (Row.snoc (c := (nm, [], [])) (pm := .map none) (by exact (.inl ⟨rfl, rfl⟩)) ((unhide HRow).keeps hmkX))
          have HMkX := hide ((unhide HMk).trans hmkX)
          have hszB : B ≤ w2.heap.size := by have := rd_lt (unhide HS2).1; omega
          have HBeX := hide (((unhide HBe).trans ((unhide HS2).2.below hB (by have := rd_lt (unhide HRd); omega))).trans ((unhide HO3).below hB hszB hszB))
          have hszX : B ≤ w3.heap.size := Nat.le_trans hszB (unhide HO3).size
          obtain ⟨z0, z1, z2, z3, z4⟩ := (unhide HCh3').cells
          have HX : Hid (∀ v' w', w'.ownsRow B 39 3 v' (cs.length + 1) (xs ++ [.string ⟨nm.toArray⟩, .string ⟨([]).toArray⟩, .map none]) → (w3.alloc (.cells #[.string ⟨nm.toArray⟩, .string ⟨([]).toArray⟩, .map none] 39)).grownBy w' u1.ownBlock → ChInv B rb cs0.length s R w (k3) v' w') := hide (fun v' w' ho' hg' => by
            have hal : Below w3.heap.size w3 (w3.alloc (.cells #[.string ⟨nm.toArray⟩, .string ⟨([]).toArray⟩, .map none] 39)) := (Below.refl _ _).alloc (Nat.le_refl _) _
            have hown := unhide HOwnX
            have hgr : ∀ j o, w3.heap[j]? = some o → some j ≠ u1.ownBlock → w'.heap[j]? = some o := fun j o hj hne => by
              have hlt := (Array.getElem?_eq_some_iff.1 hj).1
              rw [hg'.block j (by simp; omega) hne, hal.block j hlt]; exact hj
            have hgB : ∀ j, u1.ownBlock = some j → B ≤ j ∧ ∃ cur, w3.heap[j]? = some (.cells cur 39 (0, 0)) := fun j hj => by
              rcases hown.2 with ⟨h1, _⟩ | ⟨g, cap, cur, h3, h4, h5, _⟩
              · rw [h1] at hj; cases hj
              · rw [h3] at hj; cases hj; exact ⟨h4, cur, h5⟩
            have hmk9 : MK w3 w' := fun r es m hm => hgr r _ hm (fun e => by
              obtain ⟨_, cur, hc⟩ := hgB r e.symm
              rw [hc] at hm; cases hm)
            refine ⟨n, cs ++ [(nm, [], [])], _, by omega, unhide HChl, by simp; omega, by simpa using ho', (unhide HRowX).keeps hmk9, ?_, ?_, (unhide HMkX).trans hmk9⟩
            · obtain ⟨q, hq⟩ := unhide HRd3
              exact ⟨q, hgr rb _ hq (fun e => by
                obtain ⟨_, cur, hc⟩ := hgB rb e.symm
                rw [hc] at hq
                simp at hq)⟩
            · exact ((unhide HBeX).alloc hszX _).grown hg' (by simp; omega) (fun j hj => (hgB j hj).1))
          go_wp2_with (at_builtin; refine wpList_append_own _ rfl _ _ 30 rfl B 39 i0 (.agg #[.string ⟨#[]⟩, .string ⟨#[]⟩, .map none]) 3 40 Tryf.underlying30 hi0 hz0 hz1 hz2 rfl (by decide) _ _ _ rfl ((unhide HOwnX).alloc _) ⟨w3.heap.size, 0, none⟩ 1 1 [.string ⟨nm.toArray⟩, .string ⟨([]).toArray⟩, .map none] rfl rfl (cells_new3 _ _ _ _) (by simp [Value.oneCell']) (by unfold maxLen; omega) (by omega) (by simp; omega) ?_; intro v' w9 hown' hgrow _; have HR9 := hide (unhide HX v' w9 hown' hgrow); clear hown' hgrow)
          go_roundw
          case rel => exact ⟨k3, by omega, unhide HR9⟩
          case measure =>
            obtain ⟨_, _, _, _, _, _, _, _, hrd9, _⟩ := unhide HR9
            rw [posOf_rd hrd9, posOf_rd (unhide HRd)]
            omega
end Go.Proofs.Qxb6613049aFmt
