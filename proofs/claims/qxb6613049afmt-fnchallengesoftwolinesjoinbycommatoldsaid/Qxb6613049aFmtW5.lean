import Derived.Test.Qxb6613049aFmtW4
import Derived.Test.Qxb6613049aFmtStop
import Derived.Test.Qxb6613049aFmtPlain2
import Derived.Lib.OthersKept
namespace Go.Proofs.Qxb6613049aFmt
open Go.RowKit Go.Stop

theorem builder_kept {rb B b : Nat} {bs : List Value} {w w' : World} (h : Lib.IsBuilderF 73 5 B b bs w) (ho : Only rb w w') (hr : rb < B) : Lib.IsBuilderF 73 5 B b bs w' := by
  have key : ∀ p, Lib.BuilderAtF 73 5 B b p bs w → Lib.BuilderAtF 73 5 B b p bs w' := by
    rintro p ⟨hB, v, hb, ⟨hl, hown⟩, hne⟩
    have hk : ∀ k x, B ≤ k → w.heap[k]? = some x → w'.heap[k]? = some x := fun k x hk hx => by
      rw [ho.block k (Array.getElem?_eq_some_iff.1 hx).1 (by omega)]; exact hx
    refine ⟨hB, v, hk b _ hB hb, ⟨hl, ?_⟩, hne⟩
    rcases hown with h1 | ⟨g, cap, cur, fz, h1, h2, h3, h4⟩
    · exact .inl h1
    · exact .inr ⟨g, cap, cur, fz, h1, h2, hk g _ h2 h3, h4⟩
  exact h.elim (fun h => .inl (key _ h)) (fun h => .inr (key _ h))

theorem Steps.of_drewN {rb : Nat} {s : ByteArray} {p : Int} {a b : World} {n : Nat} (h : Steps rb s p (a.drewN n) b) : Steps rb s p a b := by
  induction n with
  | zero => exact h
  | succ n ih => exact ih (Steps.of_drew h)

theorem Only.then {rb B : Nat} {a b c : World} (h : Only rb a b) (hb : Below B b c) (hB : a.heap.size ≤ B) : Only rb a c :=
  ⟨hb.os.trans h.os, hb.tape.trans h.tape, hb.output.trans h.output, Nat.le_trans h.size hb.size, fun k hk hn => (hb.block k (by omega)).trans (h.block k hk hn)⟩
theorem Rd.below {rb B : Nat} {s : ByteArray} {p : Int} {a b : World} (h : Rd rb s p a) (hb : Below B a b) (hB : rb < B) : Rd rb s p b := by
  obtain ⟨r, hx⟩ := h
  exact ⟨r, (hb.block rb hB).trans hx⟩

/-- What value gives. -/
def Val (rb : Nat) (s : ByteArray) (R : Option (List UInt8 × List UInt8)) (w : World) (e : Ending) (w' : World) : Prop :=
  (∃ v rest, R = some (v, rest) ∧ rest <:+ s.data.toList ∧ e = .returned (.tuple #[.string ⟨v.toArray⟩, .nilIface]) ∧ Rd rb s (s.size - rest.length : Nat) w' ∧ Only rb w w') ∨
  (R = none ∧ ∃ x, e = .returned (.tuple #[.string ⟨#[]⟩, .iface 80 x]) ∧ Only rb w w')

theorem only_below {B rb : Nat} {w w' : World} (h : Below B w w') (hB : w.heap.size ≤ B) : Only rb w w' := ⟨h.os, h.tape, h.output, h.size, fun k hk _ => h.block k (by omega)⟩

set_option maxHeartbeats 2000000 in
theorem value_token (F : Interp) (rb : Nat) (s : ByteArray) (i : Nat) (w : World) (hF : F.answers w.tape) (h : Rd rb s i w) (hi : i ≤ s.size) (hs : s.size ≤ 4194304)
    (hq : isAt s.data.toList i 34 = false) :
    Calls Tryf.prog 40 #[.pointer (some ⟨rb, 0, none⟩)] w (Val rb s (val (s.data.toList.drop i)) w) := by
  have hv : val (s.data.toList.drop i) = if ((s.data.toList.drop i).takeWhile tch).isEmpty then none else some ((s.data.toList.drop i).takeWhile tch, (s.data.toList.drop i).dropWhile tch) := by
    unfold val
    rw [List.head?_drop, show (s.data.toList[i]? == some 34) = false from hq]
    rfl
  generalize hT : Val rb s (val (s.data.toList.drop i)) w = T
  have hTr : ∀ (e : Ending) (w' : World), Val rb s (val (s.data.toList.drop i)) w e w' → T e w' := fun e w' h => by rw [← hT]; exact h
  rw [hv] at hTr
  have HTr := hide hTr
  have HR := hide h
  have hl : s.data.toList.length = s.size := by simp
  have HL := hide hl
  clear hT hTr hv h hl
  go_enter Tryf.func40, Tryf.ntmps40
  go_wp2_with fail
  refine (at_any rb s i 34 w (unhide HR) hi).mono ?_
  rw [hq]
  rintro e w1 ⟨rfl, hst1⟩
  have HS1 := hide hst1
  clear hst1
  go_wp2_with fail
  refine (token_any rb s i w1 (unhide HS1).1 hi hs).mono ?_
  rintro e w2 ⟨rfl, hst2⟩
  have hst3 := (unhide HS1).trans hst2
  have hdr := drop_runEnd tch s.data.toList i
  have hle := runEnd_le tch s.data.toList i (by rw [unhide HL]; exact hi)
  rw [unhide HL] at hle
  have HS3 := hide hst3
  clear hst3 hst2 HS1
  cases hE : ((s.data.toList.drop i).takeWhile tch).isEmpty with
  | true =>
    have hnil : (s.data.toList.drop i).takeWhile tch = [] := by simpa using hE
    have HTr2 := unhide HTr
    rw [hE, if_pos rfl] at HTr2
    have HT2 := hide HTr2
    clear HTr2 HTr
    rw [hnil]
    go_wp2_with fail
    refine (rerrorf_any F rb s _ _ w2 (by rw [(unhide HS3).2.tape]; exact hF) (unhide HS3).1).mono ?_
    rintro e w4 ⟨v, rfl, hb⟩
    go_wp2_with fail
    exact unhide HT2 _ _ (.inr ⟨rfl, _, rfl, (unhide HS3).2.trans (only_below hb (Nat.le_refl _))⟩)
  | false =>
    have hnil : (s.data.toList.drop i).takeWhile tch ≠ [] := by
      intro e; rw [e] at hE; cases hE
    have HTr2 := unhide HTr
    rw [hE, if_neg (by simp)] at HTr2
    have HT2 := hide HTr2
    clear HTr2 HTr
    generalize (s.data.toList.drop i).takeWhile tch = l at *
    go_wp2_with fail
    refine unhide HT2 _ _ (.inl ⟨_, _, rfl, (List.dropWhile_suffix tch).trans (List.drop_suffix i _), rfl, ?_, (unhide HS3).2⟩)
    have e : s.size - ((s.data.toList.drop i).dropWhile tch).length = runEnd tch s.data.toList i := by
      rw [← hdr, List.length_drop, unhide HL]; omega
    rw [e]
    exact (unhide HS3).1

set_option maxRecDepth 100000 in
set_option maxHeartbeats 4000000 in
theorem value_quoted (F : Interp) (rb : Nat) (s : ByteArray) (i : Nat) (w : World) (hF : F.answers w.tape) (h : Rd rb s i w) (hi : i < s.size) (hs : s.size ≤ 4194304)
    (hq : isAt s.data.toList i 34 = true) :
    Calls Tryf.prog 40 #[.pointer (some ⟨rb, 0, none⟩)] w (Val rb s (val (s.data.toList.drop i)) w) := by
  have hv : val (s.data.toList.drop i) = qv (s.data.toList.drop (i + 1)) [] := by
    unfold val
    rw [List.head?_drop, show (s.data.toList[i]? == some 34) = true from hq, List.drop_drop]
    rfl
  generalize hT : Val rb s (val (s.data.toList.drop i)) w = T
  have hTr : ∀ (e : Ending) (w' : World), Val rb s (val (s.data.toList.drop i)) w e w' → T e w' := fun e w' h => by rw [← hT]; exact h
  rw [hv] at hTr
  generalize hR : qv (s.data.toList.drop (i + 1)) [] = R at *
  have HTr := hide hTr
  have HR := hide h
  have hl : s.data.toList.length = s.size := by simp
  have HL := hide hl
  have HQ := hide hR
  have hrb : rb < w.heap.size := by obtain ⟨r, h⟩ := h; exact (Array.getElem?_eq_some_iff.1 h).1
  clear hT hTr hv h hl hR
  go_enter Tryf.func40, Tryf.ntmps40
  go_wp2_with fail
  refine (at_any rb s i 34 w (unhide HR) (by omega)).mono ?_
  rw [hq]
  rintro e w1 ⟨rfl, hst1⟩
  obtain ⟨r1, c0, c1, c2, f1, f2⟩ := hst1.1.cells
  have hst2 := hst1.set1 ((i : Int) + 1)
  have HS2 := hide hst2
  clear hst1 hst2
  go_wp2_with fail
  have hw2 : (w1.setCell ⟨rb, 1, none⟩ (.int .i64 ((i : Int) + 1))).heap.size = w1.heap.size := by simp [World.setCell]
  have hBnew : Lib.IsBuilderF 73 5 w1.heap.size w1.heap.size (Lib.byteCells []) ((w1.setCell ⟨rb, 1, none⟩ (.int .i64 ((i : Int) + 1))).alloc (.cells #[.pointer none, .slice none 0 0] 73)) := by
    refine .inl ⟨Nat.le_refl _, .slice none 0 0, ?_, World.ownsRowF_of (World.ownsRow_nil _ _ _ _), by simp [Value.ownBlock]⟩
    rw [← hw2]
    exact Array.getElem?_push_size
  have hrb1 : rb < w1.heap.size := by
    obtain ⟨r, hx⟩ := (unhide HS2).1
    have := (Array.getElem?_eq_some_iff.1 hx).1
    omega
  have hwle : w.heap.size ≤ w1.heap.size := by have := (unhide HS2).2.size; omega
  have hst3 : Rd rb s ((i : Int) + 1) ((w1.setCell ⟨rb, 1, none⟩ (.int .i64 ((i : Int) + 1))).alloc (.cells #[.pointer none, .slice none 0 0] 73)) ∧ Only rb w ((w1.setCell ⟨rb, 1, none⟩ (.int .i64 ((i : Int) + 1))).alloc (.cells #[.pointer none, .slice none 0 0] 73)) := by
    have hal := (Below.refl (w1.setCell ⟨rb, 1, none⟩ (.int .i64 ((i : Int) + 1))).heap.size (w1.setCell ⟨rb, 1, none⟩ (.int .i64 ((i : Int) + 1)))).alloc (Nat.le_refl _) (.cells #[.pointer none, .slice none 0 0] 73)
    refine ⟨?_, (unhide HS2).2.trans (only_below hal (Nat.le_refl _))⟩
    obtain ⟨r, hx⟩ := (unhide HS2).1
    exact ⟨r, (hal.block rb (by omega)).trans hx⟩
  have HB0 := hide hBnew
  have HS3 := hide hst3
  clear hBnew hst3 hw2 c0 c1 c2 f1 f2
  go_loopw [6] (fun _ wr => ∃ (k : Nat) (acc : List UInt8), i + 1 ≤ k ∧ k ≤ s.size ∧ acc.length ≤ k ∧ qv (s.data.toList.drop k) acc = R ∧ Rd rb s k wr ∧ Lib.IsBuilderF 73 5 w1.heap.size w1.heap.size (Lib.byteCells acc) wr ∧ Only rb w wr ∧ w1.heap.size ≤ wr.heap.size) (fun _ wr => s.size - posOf rb wr)
  case atStart =>
    refine ⟨i + 1, [], Nat.le_refl _, by omega, by simp, unhide HQ, ?_, unhide HB0, (unhide HS3).2, by simp [World.setCell]⟩
    rw [show (((i + 1 : Nat)) : Int) = (i : Int) + 1 by omega]
    exact (unhide HS3).1
  case round =>
    obtain ⟨k, acc, hik, hk, hal, hqv, hrd, hbd, hon, hsz⟩ := hrel
    obtain ⟨r', d0, d1, d2, g1, g2⟩ := hrd.cells
    have HRd := hide hrd
    have HBd := hide hbd
    have HOn := hide hon
    have HQv := hide hqv
    clear hrd hbd hon hqv HB0 HS3 HS2 HR HQ
    by_cases hlt : k < s.size
    · have hd : decide ((k : Int) < s.size) = true := by simp; omega
      have hcons : s.data.toList.drop k = s[k] :: s.data.toList.drop (k + 1) := List.drop_eq_getElem_cons (by rw [unhide HL]; exact hlt)
      have HCons := hide hcons
      clear hcons
      go_wp2_with fail
      go_quiet (fail)
      go_upto_block 2 with (go_at_call 36; refine (byteAt_any rb s k k _ (by exact unhide HRd) hlt).mono ?_; rintro e w' ⟨rfl, hst⟩; obtain ⟨r', e0, e1, e2, h1, h2⟩ := hst.1.cells)
      have hb34 : ((s[k].toNat : Int) == 34) = (s[k] == 34) := u8_beq s[k] 34
      have hb92 : ((s[k].toNat : Int) == 92) = (s[k] == 92) := u8_beq s[k] 92
      have hrd1 := hst.of_drewN.1
      have hon1 := (unhide HOn).trans hst.of_drewN.2
      have hbd1 := builder_kept (unhide HBd) hst.of_drewN.2 hrb1
      have hsz1 := Nat.le_trans hsz hst.of_drewN.2.size
      have HRd1 := hide hrd1
      have HOn1 := hide hon1
      have HBd1 := hide hbd1
      clear HOn HBd hrd1 hon1 hbd1 hst
      rename_i w2
      go_cut [6] from 24 to 93 (fun v wx => ∃ (k2 : Nat) (d : UInt8), k ≤ k2 ∧ k2 < s.size ∧ v = .int .u8 (d.toNat : Int) ∧ Rd rb s k2 wx ∧ Lib.IsBuilderF 73 5 w1.heap.size w1.heap.size (Lib.byteCells acc) wx ∧ Only rb w wx ∧ w1.heap.size ≤ wx.heap.size ∧ (if qb d = true then qv (s.data.toList.drop (k2 + 1)) (acc ++ [d]) else none) = R)
      case first =>
        cases h34 : s[k] == 34 with
        | true =>
          have hb : ((s[k].toNat : Int) == 34) = true := hb34.trans h34
          clear hb34 hb92
          have hR : R = some (acc, s.data.toList.drop (k + 1)) := by
            rw [← unhide HQv, unhide HCons]; unfold qv; rw [h34]; rfl
          have HR2 := hide hR
          clear hR
          have hst2 : Steps rb s ((k : Int) + 1) w' (w'.setCell ⟨rb, 1, none⟩ (.int .i64 ((k : Int) + 1))) := Steps.set1 ⟨unhide HRd1, Only.refl _ _⟩ _
          have HS2 := hide hst2
          have HBd2 := hide (builder_kept (unhide HBd1) hst2.2 hrb1)
          clear hst2
          go_wp2_with fail
          refine (Tryf.Builder_String_any_k w1.heap.size w1.heap.size acc _ (by exact unhide HBd2) (by simpa [World.setCell] using hsz1)).mono ?_
          rintro e w5 ⟨rfl, hb5, hbe5, _⟩
          go_wp2_with fail
          refine unhide HTr _ _ (.inl ⟨acc, _, unhide HR2, List.drop_suffix _ _, rfl, ?_, ?_⟩)
          · rw [List.length_drop, unhide HL, show s.size - (s.size - (k + 1)) = k + 1 by omega, show (((k + 1 : Nat)) : Int) = (k : Int) + 1 by omega]
            exact (unhide HS2).1.below hbe5 hrb1
          · exact ((unhide HOn1).trans (unhide HS2).2).then hbe5 hwle
        | false =>
          have hb : ((s[k].toNat : Int) == 34) = false := hb34.trans h34
          clear hb34
          cases h92 : s[k] == 92 with
          | true =>
            have hc : ((s[k].toNat : Int) == 92) = true := hb92.trans h92
            clear hb92
            by_cases hk1 : k + 1 < s.size
            · have hd1 : decide ((k : Int) + 1 < s.size) = true := by simp; omega
              have hcons : s.data.toList.drop (k + 1) = s[k + 1] :: s.data.toList.drop (k + 2) := List.drop_eq_getElem_cons (by rw [unhide HL]; exact hk1)
              have hR : (if qb s[k + 1] = true then qv (s.data.toList.drop (k + 1 + 1)) (acc ++ [s[k + 1]]) else none) = R := by
                rw [← unhide HQv, unhide HCons, hcons]
                conv => rhs; unfold qv
                simp only [h34, h92, Bool.false_eq_true, if_false, if_true]
              have HR2 := hide hR
              clear hR hcons
              have hst2 : ∀ n, Steps rb s ((k + 1 : Nat) : Int) w' ((w'.drewN n).setCell ⟨rb, 1, none⟩ (.int .i64 ((k + 1 : Nat) : Int))) := fun n => Steps.set1 (Steps.drewN ⟨unhide HRd1, Only.refl _ _⟩ n) _
              have HS2 := hide hst2
              clear hst2
              go_wp2_with fail
              go_quiet (fail)
              have hk1' : (((k + 1 : Nat)) : Int) = (k : Int) + 1 := by omega
              go_wp2_with (go_at_call 36; rw [← hk1'])
              refine (byteAt_any rb s (k + 1 : Nat) (k + 1) _ (by exact (unhide HS2 nq).1) hk1).mono ?_
              rintro e w7 ⟨rfl, hst7⟩
              have hst8 := (unhide HS2 nq).trans hst7
              clear hk1'
              go_wp2_with fail
              go_meet
              case rel => exact ⟨k + 1, s[k + 1], by omega, hk1, rfl, hst8.1, builder_kept (unhide HBd1) hst8.2 hrb1, (unhide HOn1).trans hst8.2, Nat.le_trans hsz1 hst8.2.size, unhide HR2⟩
            · have hd1 : decide ((k : Int) + 1 < s.size) = false := by simp; omega
              have hR : (if qb s[k] = true then qv (s.data.toList.drop (k + 1)) (acc ++ [s[k]]) else none) = R := by
                have hnil : s.data.toList.drop (k + 1) = [] := List.drop_eq_nil_of_le (by rw [unhide HL]; omega)
                rw [← unhide HQv, unhide HCons, hnil]
                conv => rhs; unfold qv
                simp only [h34, h92, Bool.false_eq_true, if_false, if_true, qv]
                exact ite_self _
              have HR2 := hide hR
              clear hR
              go_wp2_with fail
              go_quiet (fail)
              go_wp2_with fail
              go_meet
              case rel => exact ⟨k, s[k], Nat.le_refl _, hlt, rfl, (Steps.drewN ⟨unhide HRd1, Only.refl _ _⟩ nq).1, builder_kept (unhide HBd1) (Steps.drewN ⟨unhide HRd1, Only.refl _ _⟩ nq).2 hrb1, (unhide HOn1).trans (Steps.drewN ⟨unhide HRd1, Only.refl _ _⟩ nq).2, by simpa using hsz1, unhide HR2⟩
          | false =>
            have hc : ((s[k].toNat : Int) == 92) = false := hb92.trans h92
            clear hb92
            have hR : (if qb s[k] = true then qv (s.data.toList.drop (k + 1)) (acc ++ [s[k]]) else none) = R := by
              rw [← unhide HQv, unhide HCons]
              conv => rhs; unfold qv
              simp only [h34, h92, Bool.false_eq_true, if_false]
            have HR2 := hide hR
            clear hR
            go_wp2_with fail
            go_quiet (fail)
            go_wp2_with fail
            go_meet
            case rel => exact ⟨k, s[k], Nat.le_refl _, hlt, rfl, (Steps.drewN ⟨unhide HRd1, Only.refl _ _⟩ nq).1, builder_kept (unhide HBd1) (Steps.drewN ⟨unhide HRd1, Only.refl _ _⟩ nq).2 hrb1, (unhide HOn1).trans (Steps.drewN ⟨unhide HRd1, Only.refl _ _⟩ nq).2, by simpa using hsz1, unhide HR2⟩
      case rest =>
        rename_i wx
        obtain ⟨k2, d, hk2, hk2s, rfl, hrd2, hbd2, hon2, hsz2, hR⟩ := hcut
        have hlen2 : acc.length ≤ k2 := by omega
        have HRd2 := hide hrd2
        have HBd2 := hide hbd2
        have HOn2 := hide hon2
        have HR2 := hide hR
        clear hrd2 hbd2 hon2 hR HQv HCons HBd1 HOn1 HRd1 hb34 hb92 d0 d1 d2 g1 g2 e0 e1 e2 h1 h2
        cases hqb : qb d with
        | true =>
          have hR3 := unhide HR2
          rw [hqb, if_pos rfl] at hR3
          have HR3 := hide hR3
          clear hR3 HR2
          go_wp2_with (go_at_call 46; refine (isQuotedByte_any d _).mono ?_; rw [hqb]; rintro e w'' ⟨rfl, rfl⟩)
          refine (Tryf.Builder_WriteByte_k2 w1.heap.size w1.heap.size (Lib.byteCells acc) _ wc (unhide HBd2) (by rw [Lib.byteCells_length]; omega) hsz2).mono ?_
          rintro e w9 ⟨rfl, hb9, hbe9, _⟩
          have hrd9 := (unhide HRd2).below hbe9 hrb1
          obtain ⟨r9, q0, q1, q2, q3, q4⟩ := hrd9.cells
          have HRd9 := hide hrd9
          have HB9 : Hid (Lib.IsBuilderF 73 5 w1.heap.size w1.heap.size (Lib.byteCells (acc ++ [d])) w9) := hide (.inr (by rw [Lib.byteCells_append]; exact hb9))
          have HOn9 := hide ((unhide HOn2).then hbe9 hwle)
          have hsz9 := Nat.le_trans hsz2 hbe9.size
          clear hrd9 hb9
          go_wp2_with fail
          have hst9 : Steps rb s ((k2 : Int) + 1) w9 (w9.setCell ⟨rb, 1, none⟩ (.int .i64 ((k2 : Int) + 1))) := Steps.set1 ⟨unhide HRd9, Only.refl _ _⟩ _
          go_roundw
          case rel => exact ⟨k2 + 1, acc ++ [d], by omega, by omega, by simp; omega, unhide HR3, by
            rw [show (((k2 + 1 : Nat)) : Int) = (k2 : Int) + 1 by omega]; exact hst9.1, builder_kept (unhide HB9) hst9.2 hrb1, (unhide HOn9).trans hst9.2, Nat.le_trans hsz9 hst9.2.size⟩
          case measure => rw [posOf_set (unhide HRd9), posOf_rd (unhide HRd)]; omega
        | false =>
          have hR3 := unhide HR2
          rw [hqb, if_neg (by simp)] at hR3
          have HR3 := hide hR3
          clear hR3 HR2
          go_wp2_with (go_at_call 46; refine (isQuotedByte_any d _).mono ?_; rw [hqb]; rintro e w'' ⟨rfl, rfl⟩)
          refine (rerrorf_any F rb s _ _ wc (by rw [(unhide HOn2).tape]; exact hF) (unhide HRd2)).mono ?_
          rintro e w4 ⟨v, rfl, hb⟩
          go_wp2_with fail
          exact unhide HTr _ _ (.inr ⟨(unhide HR3).symm, _, rfl, (unhide HOn2).trans (only_below hb (Nat.le_refl _))⟩)
    · have hd : decide ((k : Int) < s.size) = false := by simp; omega
      go_wp2_with fail
      go_quiet (fail)
      go_wp2_with fail
      refine (rerrorf_any F rb s _ _ (wr.drewN nq) (by exact (congrArg F.answers (unhide HOn).tape) ▸ hF) (by exact (Steps.drewN ⟨unhide HRd, Only.refl _ _⟩ nq).1)).mono ?_
      rintro e w4 ⟨v, rfl, hb⟩
      go_wp2_with fail
      refine unhide HTr _ _ (.inr ⟨?_, _, rfl, ((unhide HOn).trans (Steps.drewN ⟨unhide HRd, Only.refl _ _⟩ nq).2).trans (only_below hb (Nat.le_refl _))⟩)
      rw [← unhide HQv, List.drop_eq_nil_of_le (by rw [unhide HL]; omega)]
      rfl

theorem value_any (F : Interp) (rb : Nat) (s : ByteArray) (i : Nat) (w : World) (hF : F.answers w.tape) (h : Rd rb s i w) (hi : i ≤ s.size) (hs : s.size ≤ 4194304) :
    Calls Tryf.prog 40 #[.pointer (some ⟨rb, 0, none⟩)] w (Val rb s (val (s.data.toList.drop i)) w) := by
  cases hq : isAt s.data.toList i 34 with
  | false => exact value_token F rb s i w hF h hi hs hq
  | true =>
    have hlt : i < s.size := by
      rcases Nat.lt_or_ge i s.size with h | h
      · exact h
      · rw [isAt_ge _ _ _ (by simpa using h)] at hq; cases hq
    exact value_quoted F rb s i w hF h hlt hs hq
end Go.Proofs.Qxb6613049aFmt
