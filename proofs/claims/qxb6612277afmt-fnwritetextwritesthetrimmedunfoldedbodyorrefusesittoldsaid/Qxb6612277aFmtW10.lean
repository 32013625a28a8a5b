/-
  The iterator of the lines: 'unfolding$1' by its contract.
-/
import Derived.RangeFuncNested
import Derived.RangeFuncBound
import Derived.RangeFuncCalls
import Derived.RangeFuncLeaves
import Derived.Shelf.Abstract
import Derived.OwnWalkIn
import Derived.TacticsInMore
import Derived.LoopNIn
import Derived.LoopIn
import Derived.Lib.SlBytesConst
import Derived.Lib.SmallJoins
import Derived.Test.Qxb6612277aFmtW9
namespace Go.Proofs.Qxb6612277aFmt
open Go.RowKit Go.Shelf

attribute [local go_sem] Oper.semAt_some

/-- A piece of the text that lies in block b of the world w: where it begins, its capacity, its bytes. -/
def Pc (w : World) (b : Nat) : Type := { x : Nat × Nat × List UInt8 // x.2.2.length ≤ 1048576 ∧ BA w (some ⟨b, x.1, none⟩) x.2.2 }
def Pc.val {w : World} {b : Nat} (x : Pc w b) : Value := .slice (some ⟨b, x.1.1, none⟩) x.1.2.2.length x.1.2.1
def Pc.bytes {w : World} {b : Nat} (x : Pc w b) : List UInt8 := x.1.2.2
/-- What the pieces hold, one behind the other. -/
def flat {w : World} {b : Nat} (xs : List (Pc w b)) : List UInt8 := (xs.map Pc.bytes).flatten
theorem flat_snoc {w : World} {b : Nat} (xs : List (Pc w b)) (x : Pc w b) : flat (xs ++ [x]) = flat xs ++ x.bytes := by simp [flat]

theorem Pc.there (w : World) (b off c : Nat) (bs : List UInt8) (h1 : bs.length ≤ 1048576) (h2 : BA w (some ⟨b, off, none⟩) bs) : ∃ x : Pc w b, x.val = .slice (some ⟨b, off, none⟩) bs.length c ∧ x.bytes = bs :=
  ⟨⟨(off, c, bs), h1, h2⟩, rfl, rfl⟩

def lenOf : Value → Nat | .slice _ n _ => n | _ => 0

/-- The slot 'rest': what stands from k on. -/
def RestIs (b o len k : Nat) (v : Value) : Prop := ∃ q c, v = .slice q (len - k) c ∧ (k < len → q = some ⟨b, o + k, none⟩ ∧ len - k ≤ c)

theorem abides_to {β : Type} {B : Nat} {J : β → World → Prop} (h : AbidesFrom B J) {s : β} {W W' : World} (hs : J s W) (hg : W.grownBy W' none) : J s W' := h s W W' none hs hg (fun r e => by cases e)

set_option maxRecDepth 100000 in
set_option maxHeartbeats 2000000 in
theorem pieces_in (n : Nat) (l Bb n₀ b o len c : Nat) (bs : List UInt8) (w : World) (hn0 : n₀ ≤ w.heap.size) (hb : b < n₀) (hlen : bs.length = len) (hle : len ≤ 1048576) (hcap : len ≤ c) (hBA : BA w (some ⟨b, o, none⟩) bs)
    (J Jx : List (Pc w b) → World → Prop) (W : World) (hW : Below w.heap.size w W) (hJ : AbidesFrom W.heap.size J)
    (hY : ∀ pre (x : Pc w b) W1, J pre W1 → pre.length < len → YieldAt Fence.wide (n - 1) Tryf.prog l #[x.val] W1 fun e W' =>
      (e = .returned (.bool true) ∧ J (pre ++ [x]) W' ∧ Below n₀ W1 W') ∨ (e = .returned (.bool false) ∧ Jx (pre ++ [x]) W'))
    (hB : W.cell? ⟨Bb, 0, none⟩ = some (.slice (some ⟨b, o, none⟩) len c)) (h0 : J [] W) :
    CallsIn Fence.wide n Tryf.prog 58 #[.func (.yield l) #[] #[], .pointer (some ⟨Bb, 0, none⟩)] W fun e W' => (∃ v, e = .returned v) ∧
      ((∃ ys, flat ys = unf bs ∧ J ys W') ∨ (∃ pre, Jx pre W')) := by
  refine callsIn_of_wp Tryf.func58 rfl trivial ?_ rfl
  simp only [Tryf.ntmps58, List.size_toArray, List.length_cons, List.length_nil, Nat.reduceAdd, Nat.reduceSub, Array.replicate_succ, Array.replicate_zero, List.push_toArray, List.append_toArray, List.nil_append, List.cons_append]
  have HBA := hide hBA
  have HY := hide hY
  have kc := fun (w : World) (C : Array Value) (n c : Nat) => Lib.run_convert_bytes_const (P := Tryf.prog) w 32 5 C n c Tryf.underlying32 Tryf.underlying5
  clear hBA hY
  gi_wp2
  gi_loopw [3] (fun v wr => ∃ (k : Nat) (pre : List (Pc w b)), k ≤ len ∧ pre.length ≤ k ∧ RestIs b o len k v ∧ flat pre ++ unf (bs.drop k) = unf bs ∧ J pre wr ∧ Below n₀ W wr)
    (fun v _ => lenOf v)
  case atStart => exact ⟨0, [], Nat.zero_le _, by simp, ⟨_, _, rfl, fun _ => ⟨rfl, hcap⟩⟩, by simp [flat], h0, Below.refl _ _⟩
  case round =>
    obtain ⟨k, pre, hk, hpl, ⟨q, c', rfl, hq⟩, hfl, hJs, hbl⟩ := hrel
    have HF := hide hfl
    have HJ := hide hJs
    clear hfl hJs
    by_cases hlt : k < len
    · obtain ⟨rfl, hc'⟩ := hq hlt
      clear hq
      have hdl : (bs.drop k).length = len - k := by rw [List.length_drop, hlen]
      have hBW : BA W (some ⟨b, o, none⟩) bs := (unhide HBA).below hW
      have hBr : BA wr (some ⟨b, o, none⟩) bs := BA.mk fun i hi => (hbl.cell (p := ⟨b, o + i, none⟩) hb).trans (hBW.cell i hi)
      have hBk : BA wr (some ⟨b, o + k, none⟩) (bs.drop k) := BA_drop hBr k
      have hBka : ∀ o', BA (wr.alloc o') (some ⟨b, o + k, none⟩) (bs.drop k) := fun o' => hBk.below ((Below.refl _ wr).alloc (Nat.le_refl _) o')
      have HK := hide hBka
      clear hBW hBr hBk hBka
      have hix := Lib.indexByte_ge (bs.drop k) 10
      by_cases hno : Lib.indexByte (bs.drop k) 10 = -1
      · have HN := hide hno
        clear hno hix
        obtain ⟨x, hxv, hxb⟩ := Pc.there w b (o + k) c' (bs.drop k) (by omega) (BA_drop (unhide HBA) k)
        rw [hdl] at hxv
        have hgo : ∀ (W1 : World), J pre W1 → YieldAt Fence.wide (n - 1) Tryf.prog l #[.slice (some ⟨b, o + k, none⟩) (len - k) c'] W1 fun e W' =>
            (e = .returned (.bool true) ∧ J (pre ++ [x]) W' ∧ Below n₀ W1 W') ∨ (e = .returned (.bool false) ∧ Jx (pre ++ [x]) W') := fun W1 h1 => by
          have h := unhide HY pre x W1 h1 (by omega)
          rwa [hxv] at h
        have HGo := hide hgo
        have HXB := hide hxb
        clear hgo hxv hxb
        gi_wp2_with fail
        refine ⟨trivial, (fun h => by cases h), ?_⟩
        refine (callsIn_wide.2 (cut_none b (o + k) (len - k) c' wr.heap.size (bs.drop k) _ hdl (by omega) hc' (by exact unhide HK _) (unhide HN) (by exact World.cell?_alloc_mark wr _ _ _ 0))).mono ?_
        rintro e w2 ⟨rfl, q2, rfl⟩
        obtain ⟨fn, tmps, assign, body, hy, hR⟩ := unhide HGo ((wr.alloc (.cells #[.int .u8 10] 5 (1, 2))).drewN q2) (abides_to hJ (unhide HJ) ⟨rfl, rfl, rfl, by simp, fun j hj _ => Below.heap_alloc wr _ j hj⟩)
        gi_wp2
        refine ⟨(fun h => by cases h), hR.mono ?_⟩
        rintro e W3 (⟨rfl, hJ3, hk3⟩ | ⟨rfl, hJx3⟩)
        · have HX := hide (show flat (pre ++ [x]) ++ unf (bs.drop len) = unf bs from by
            have e1 : bs.drop len = [] := List.drop_eq_nil_of_le (by omega)
            rw [flat_snoc, unhide HXB, e1, ← unhide HF, unf_none _ (unhide HN)]
            simp [unf])
          have HJ3 := hide hJ3
          have hbl3 := hbl.trans ((below_drewN ((Below.refl n₀ wr).alloc (by have := hbl.size; have := hW.size; omega) (.cells #[.int .u8 10] 5 (1, 2))) q2).trans hk3)
          clear hJ3 hk3
          gi_wp2
          go_roundw
          case rel => exact ⟨len, pre ++ [x], Nat.le_refl _, by simp; omega, ⟨none, 0, by simp, fun h => absurd h (by omega)⟩, unhide HX, unhide HJ3, hbl3⟩
          case measure => simp [lenOf]; omega
        · gi_wp2
          refine bodyPost_ret (results_none rfl _ _ _) rfl ?_
          exact ⟨⟨_, rfl⟩, .inr ⟨_, hJx3⟩⟩
      · obtain ⟨j, hj⟩ : ∃ j : Nat, Lib.indexByte (bs.drop k) 10 = j := ⟨(Lib.indexByte (bs.drop k) 10).toNat, by omega⟩
        obtain ⟨hjl, hju⟩ := unf_some _ j hj
        rw [hdl] at hjl
        have HN := hide hj
        have HU := hide hju
        clear hno hix hj hju
        have hbp : BA w (some ⟨b, o + k, none⟩) (trimCR ((bs.drop k).take j)) := by
          obtain ⟨m, _, e⟩ := trimCR_take ((bs.drop k).take j)
          rw [e]
          exact BA_take (BA_take (BA_drop (unhide HBA) k) j) m
        have hpl2 : (trimCR ((bs.drop k).take j)).length ≤ 1048576 := by
          obtain ⟨m, _, e⟩ := trimCR_take ((bs.drop k).take j)
          rw [e]; simp; omega
        obtain ⟨x, hxv, hxb⟩ := Pc.there w b (o + k) c' (trimCR ((bs.drop k).take j)) hpl2 hbp
        have hgo : ∀ (W1 : World), J pre W1 → YieldAt Fence.wide (n - 1) Tryf.prog l #[.slice (some ⟨b, o + k, none⟩) (trimCR ((bs.drop k).take j)).length c'] W1 fun e W' =>
            (e = .returned (.bool true) ∧ J (pre ++ [x]) W' ∧ Below n₀ W1 W') ∨ (e = .returned (.bool false) ∧ Jx (pre ++ [x]) W') := fun W1 h1 => by
          have h := unhide HY pre x W1 h1 (by omega)
          rwa [hxv] at h
        have HXB := hide hxb
        clear hxv hxb hpl2 hbp
        have HGo := hide hgo
        clear hgo
        gi_wp2_with fail
        refine ⟨trivial, (fun h => by cases h), ?_⟩
        refine (callsIn_wide.2 (cut_some b (o + k) (len - k) c' wr.heap.size j (bs.drop k) _ hdl (by omega) hc' (by exact unhide HK _) (unhide HN) (by exact World.cell?_alloc_mark wr _ _ _ 0))).mono ?_
        rintro e w2 ⟨⟨q', hq', rfl⟩, q2, hw2⟩
        have HQ := hide hq'
        clear hq'
        have HW2 := hide hw2
        clear hw2
        gi_wp2_with fail
        refine ⟨trivial, (fun h => by cases h), ?_⟩
        have hB2 : BA (w2.alloc (.cells #[.int .u8 13] 5 (1, 2))) (some ⟨b, o + k, none⟩) ((bs.drop k).take j) := by
          rw [unhide HW2]
          exact BA_take ((unhide HK _).below ((Below.refl _ _).alloc (Nat.le_refl _) _)) j
        have hg2 : wr.grownBy (w2.alloc (.cells #[.int .u8 13] 5 (1, 2))) none := by
          rw [unhide HW2]
          exact ⟨rfl, rfl, rfl, by simp; omega, fun i hi _ => ((Below.heap_alloc (wr.alloc (.cells #[.int .u8 10] 5 (1, 2))) (.cells #[.int .u8 13] 5 (1, 2)) i (by simp; omega)).trans (Below.heap_alloc wr _ i hi))⟩
        have HB2 := hide hB2
        have HG2 := hide hg2
        clear hB2 hg2
        refine (callsIn_wide.2 (trim_cr b (o + k) j c' w2.heap.size ((bs.drop k).take j) _ (by rw [List.length_take, hdl]; omega) (by omega) (by omega) (by exact unhide HB2) (by exact World.cell?_alloc_mark w2 _ _ _ 0))).mono ?_
        rintro e w3 ⟨rfl, hw3⟩
        rw [← hw3] at HG2
        clear hw3
        obtain ⟨fn, tmps, assign, body, hy, hR⟩ := unhide HGo w3 (abides_to hJ (unhide HJ) (unhide HG2))
        gi_wp2
        refine ⟨(fun h => by cases h), hR.mono ?_⟩
        rintro e W3 (⟨rfl, hJ3, hk3⟩ | ⟨rfl, hJx3⟩)
        · have HX := hide (show flat (pre ++ [x]) ++ unf (bs.drop (k + (j + 1))) = unf bs from by
            rw [flat_snoc, unhide HXB, ← unhide HF, unhide HU, List.drop_drop, List.append_assoc])
          have HJ3 := hide hJ3
          have hbl3 := hbl.trans (((Below.refl n₀ wr).grown (unhide HG2) (by have := hbl.size; have := hW.size; omega) (fun r e => by cases e)).trans hk3)
          clear hJ3 hk3
          gi_wp2
          go_roundw
          case rel => exact ⟨k + (j + 1), pre ++ [x], by omega, by simp; omega, ⟨q', c' - (j + 1), by congr 1; omega, fun h => ⟨by rw [unhide HQ (by omega), Nat.add_assoc], by omega⟩⟩, unhide HX, unhide HJ3, hbl3⟩
          case measure => simp [lenOf]; omega
        · gi_wp2
          refine bodyPost_ret (results_none rfl _ _ _) rfl ?_
          exact ⟨⟨_, rfl⟩, .inr ⟨_, hJx3⟩⟩
    · obtain rfl : k = len := by omega
      clear hq
      gi_wp2
      go_end0
      refine ⟨⟨_, rfl⟩, .inl ⟨pre, ?_, unhide HJ⟩⟩
      have h := unhide HF
      rw [List.drop_eq_nil_of_le (by omega)] at h
      simpa [unf] using h
end Go.Proofs.Qxb6612277aFmt
