/-
  The library's calls in this seat's words; body; unfolding.
-/
import Derived.Test.Qxb6612277aFmtW2
import Derived.Test.Qxb6612277aFmtShelf
import Derived.BigQuiet
import Derived.Deep.QuietTactic
import Derived.Deep.RegionWith
import Derived.Lib.IndexLaws
namespace Go.Proofs.Qxb6612277aFmt
open Go.RowKit

/-- The numbers of a list of bytes. -/
def nums (l : List UInt8) : List Int := l.map fun x => (x.toNat : Int)
theorem nums_length (l : List UInt8) : (nums l).length = l.length := by simp [nums]
theorem bytesOf_nums (l : List UInt8) : Lib.bytesOf (nums l) = l := by
  unfold Lib.bytesOf nums
  rw [List.map_map]
  conv => rhs; rw [← List.map_id l]
  apply List.map_congr_left
  intro x _
  simp
theorem nums_get (l : List UInt8) (i : Nat) (h : i < l.length) : (nums l).getD i 0 = (l[i].toNat : Int) := by
  simp [nums, List.getD, List.getElem?_map, List.getElem?_eq_getElem h]
theorem u8_back (c : UInt8) : ((c.toNat : Int)).toNat.toUInt8 = c := by simp

theorem BA.nil_of {w : World} {l : List UInt8} (h : BA w none l) : l = [] := by
  cases l with
  | nil => rfl
  | cons x r => obtain ⟨_, _, e, _⟩ := h 0 (by simp); cases e

theorem BA.bytesIn {w : World} {p : Option Addr} {l : List UInt8} (h : BA w p l) : Lib.BytesIn w p l.length (nums l) := by
  intro hn
  obtain ⟨b, o, rfl, _⟩ := h 0 hn
  exact ⟨b, o, rfl, fun i hi => by rw [nums_get l i hi]; exact h.cell i hi⟩

theorem BA.adds {w : World} {a : Addr} {l : List UInt8} (h : BA w (some a) l) : ∀ i, i < l.length → w.cell? (a.add i) = some (.int .u8 ((nums l).getD i 0)) := by
  intro i hi
  obtain ⟨b, o, e, hc⟩ := h i hi
  cases e
  rw [Go.WideShapes.add_plain, nums_get l i hi]
  exact hc

theorem indexByte_any (p : Option Addr) (n c : Nat) (l : List UInt8) (cv : UInt8) (w : World) (hl : l.length = n) (hc : BA w p l) (hp : p = none → c = 0) :
    Calls Tryf.prog 43 #[.slice p n c, .int .u8 (cv.toNat : Int)] w fun e w' => e = .returned (.int .i64 (Lib.indexByte l cv)) ∧ w' = w := by
  subst hl
  cases p with
  | none =>
    obtain rfl := hc.nil_of
    rw [hp rfl]
    exact Tryf.bytes_IndexByte_nil _ w
  | some a =>
    refine (Tryf.bytes_IndexByte_at a l.length c (nums l) (cv.toNat : Int) w (nums_length l) hc.adds).mono fun e w' ⟨he, hw⟩ => ⟨?_, hw⟩
    rw [he, bytesOf_nums, u8_back]

theorem bodyStart_index (l : List UInt8) (k : Nat) : (bodyStart l k : Int) = if Lib.indexByte l 58 = -1 then 0 else Lib.indexByte l 58 + k + 1 := by
  induction l generalizing k with
  | nil => simp [bodyStart, Lib.indexByte]
  | cons c r ih =>
    have hge := Lib.indexByte_ge r 58
    unfold bodyStart Lib.indexByte
    by_cases h : c = 58
    · simp [h]
    · have hb : (c == 58) = false := by simp [h]
      rw [if_neg h, ih, hb]
      by_cases h1 : Lib.indexByte r 58 = -1
      · simp [h1]
      · have h1b : (Lib.indexByte r 58 == -1) = false := by simp [h1]
        simp only [h1b, if_neg h1]
        rw [if_neg (by simp; omega)]
        simp
        omega
theorem bodyStart_eq (l : List UInt8) : Lib.indexByte l 58 + 1 = (bodyStart l 0 : Int) := by
  have h := bodyStart_index l 0
  have hge := Lib.indexByte_ge l 58
  by_cases h1 : Lib.indexByte l 58 = -1
  · rw [if_pos h1] at h; omega
  · rw [if_neg h1] at h; omega

theorem strOf_nums (l : List UInt8) : strOfNums (nums l) = ⟨l.toArray⟩ := by
  have := bytesOf_nums l
  unfold Lib.bytesOf at this
  unfold strOfNums
  rw [this]

/-- 'string(b)'. -/
theorem convert_str {w : World} {p : Option Addr} {l : List UInt8} (h : BA w p l) (c : Nat) : (convert 32 9 (.slice p l.length c)).run Tryf.prog w = .ok (.string ⟨l.toArray⟩) w := by
  rw [← strOf_nums]
  rcases Nat.eq_zero_or_pos l.length with hn | hn
  · obtain rfl : l = [] := List.eq_nil_of_length_eq_zero hn
    exact run_convert_bytes_zero w 32 5 Tryf.underlying32 Tryf.underlying5 p c 9 Tryf.underlying9
  · obtain ⟨b, o, rfl, hc⟩ := h.bytesIn hn
    exact run_convert_bytes_arg (P := Tryf.prog) w 32 5 Tryf.underlying32 Tryf.underlying5 b o l.length c (nums l) (nums_length l) hc 9 Tryf.underlying9

theorem BA.take {w : World} {p : Option Addr} {l : List UInt8} (h : BA w p l) (k : Nat) : BA w p (l.take k) := by
  intro i hi
  obtain ⟨b, o, e, hc⟩ := h i (by simp at hi; omega)
  exact ⟨b, o, e, by simpa using hc⟩

/-- A value that is a slice of the bytes t, at an address of no spot or nil; the nil one without capacity. -/
def IsBytes (w : World) (v : Value) (t : List UInt8) : Prop :=
  ∃ q cap, v = .slice q t.length cap ∧ t.length ≤ cap ∧ (q = none → cap = 0) ∧ BA w q t

theorem IsBytes.below {w w' : World} {v : Value} {t : List UInt8} (h : IsBytes w v t) (hb : Below w.heap.size w w') : IsBytes w' v t := by
  obtain ⟨q, cap, h1, h2, h3, h4⟩ := h
  exact ⟨q, cap, h1, h2, h3, h4.below hb⟩

theorem BA_drop {w : World} {b o : Nat} {l : List UInt8} (h : BA w (some ⟨b, o, none⟩) l) (k : Nat) : BA w (some ⟨b, o + k, none⟩) (l.drop k) := by
  have := BA_cut h k l.length
  rwa [List.take_of_length_le (Nat.le_refl _)] at this
theorem BA_take {w : World} {b o : Nat} {l : List UInt8} (h : BA w (some ⟨b, o, none⟩) l) (k : Nat) : BA w (some ⟨b, o, none⟩) (l.take k) := by
  have := BA_cut h 0 k
  simpa using this

/-- 's[j:]' as the walk spells it. -/
theorem isBytes_from {w : World} {p : Option Addr} {l : List UInt8} {c : Nat} (h : BA w p l) (hp : p = none → c = 0) (hc : l.length ≤ c) (k : Nat) (hk : k ≤ l.length) :
    IsBytes w (.slice (if c = k then p else p.map fun x => x.add k) (l.length - k) (c - k)) (l.drop k) := by
  refine ⟨_, _, by rw [List.length_drop], by simp; omega, ?_, ?_⟩
  · intro e
    by_cases h1 : c = k
    · omega
    · rw [if_neg h1] at e
      have : p = none := by simpa using e
      have := hp this
      omega
  · by_cases h1 : c = k
    · have : l.drop k = [] := List.drop_eq_nil_of_le (by omega)
      rw [this]; exact BA.nil _ _
    · rw [if_neg h1]
      by_cases h2 : k < l.length
      · obtain ⟨b, o, rfl, _⟩ := h k h2
        have := BA_drop h k
        simpa [Go.WideShapes.add_plain] using this
      · have : l.drop k = [] := List.drop_eq_nil_of_le (by omega)
        rw [this]; exact BA.nil _ _

set_option maxRecDepth 100000 in
set_option maxHeartbeats 1000000 in
theorem body_any (p : Option Addr) (n c : Nat) (l : List UInt8) (w : World) (hl : l.length = n) (hn : n ≤ 1048576) (hcap : n ≤ c) (hc : BA w p l) (hp : p = none → c = 0) :
    Calls Tryf.prog 42 #[.agg #[.slice p n c, .int .u64 0]] w fun e w' => ∃ v, e = .returned v ∧ IsBytes w' v (l.drop (bodyStart l 0)) ∧ Below w.heap.size w w' := by
  have hle := bodyStart_le l 0
  have hix := bodyStart_eq l
  have hc2 : ∀ o, BA (w.alloc o) p l := fun o => hc.below ((Below.refl _ w).alloc (Nat.le_refl _) o)
  have hcall : ∀ m o, Calls Tryf.prog 43 #[.slice p n c, .int .u8 58] ((w.alloc o).drewN m) fun e w' => e = .returned (.int .i64 ((bodyStart l 0 : Int) - 1)) ∧ w' = (w.alloc o).drewN m := fun m o =>
    (show Calls Tryf.prog 43 #[.slice p n c, .int .u8 ((58 : UInt8).toNat : Int)] ((w.alloc o).drewN m) _ from
      (indexByte_any p n c l 58 ((w.alloc o).drewN m) hl (by exact hc2 o) hp).mono fun e w' ⟨he, hw⟩ => ⟨by rw [he, show Lib.indexByte l 58 = (bodyStart l 0 : Int) - 1 from by omega], hw⟩)
  have HC := hide hc2
  clear hix hc hc2
  go_enter Tryf.func42, Tryf.ntmps42
  go_wp2
  go_quiet ((go_at_call 43; exact Calls.quiet_of_same (hcall _ _)))
  go_wp2
  · skip
    go_ret
    have h' := isBytes_from (k := bodyStart l 0) (unhide HC (.cells #[.slice p n (bodyStart l 0), .int .u64 0] 57)) hp (by omega) (by omega)
    rw [if_pos h, h, hl, Nat.sub_self] at h'
    exact ⟨_, rfl, h', below_drewN ((Below.refl _ w).alloc (Nat.le_refl _) _) _⟩
  · skip
    go_ret
    have h' := isBytes_from (k := bodyStart l 0) (unhide HC (.cells #[.slice p n c, .int .u64 0] 57)) hp (by omega) (by omega)
    rw [if_neg h, hl] at h'
    exact ⟨_, rfl, h', below_drewN ((Below.refl _ w).alloc (Nat.le_refl _) _) _⟩
end Go.Proofs.Qxb6612277aFmt
