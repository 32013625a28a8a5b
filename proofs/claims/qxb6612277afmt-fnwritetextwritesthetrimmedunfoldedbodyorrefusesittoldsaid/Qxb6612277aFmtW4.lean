/-
  Walks: wtRanksRight.
-/
import Derived.Test.Qxb6612277aFmtW1
namespace Go.Proofs.Qxb6612277aFmt
open Go.RowKit

/-- The rank of place i of the text t. -/
def rk (t : List UInt8) (i : Nat) : Int :=
  if 0 < i ∧ wsp (t.getD i 0) = true then (if i + 1 < t.length ∧ wsp (t.getD (i + 1) 0) = true then 2 else 1) else 4

/-- The slice of ranks that begins at q holds the ranks of t. -/
def RA (w : World) (q : Option Addr) (t : List UInt8) : Prop :=
  ∀ i, i < t.length → ∃ b o, q = some ⟨b, o, none⟩ ∧ w.cell? ⟨b, o + i, none⟩ = some (.int .u8 (rk t i))

theorem RA.cell {w : World} {b o : Nat} {t : List UInt8} (h : RA w (some ⟨b, o, none⟩) t) (i : Nat) (hi : i < t.length) : w.cell? ⟨b, o + i, none⟩ = some (.int .u8 (rk t i)) := by
  obtain ⟨b', o', e, hc⟩ := h i hi
  cases e
  exact hc

theorem rk_none (t : List UInt8) (i : Nat) (h : i < t.length) (hw : i = 0 ∨ wsp t[i] = false) : rk t i = 4 := by
  unfold rk
  rw [if_neg]
  rintro ⟨h1, h2⟩
  rcases hw with hw | hw
  · omega
  · rw [List.getD, List.getElem?_eq_getElem h] at h2; simp [hw] at h2
theorem rk_run (t : List UInt8) (i : Nat) (h : i + 1 < t.length) (h0 : 0 < i) (hw : wsp t[i] = true) (hw2 : wsp t[i + 1] = true) : rk t i = 2 := by
  unfold rk
  rw [if_pos ⟨h0, by rw [List.getD, List.getElem?_eq_getElem (by omega)]; exact hw⟩, if_pos ⟨h, by rw [List.getD, List.getElem?_eq_getElem h]; exact hw2⟩]
theorem rk_last (t : List UInt8) (i : Nat) (h : i < t.length) (h0 : 0 < i) (hw : wsp t[i] = true) (hw2 : ∀ h2 : i + 1 < t.length, wsp t[i + 1] = false) : rk t i = 1 := by
  unfold rk
  rw [if_pos ⟨h0, by rw [List.getD, List.getElem?_eq_getElem h]; exact hw⟩, if_neg]
  rintro ⟨h1, h2⟩
  rw [List.getD, List.getElem?_eq_getElem h1] at h2
  have := hw2 h1
  simp [this] at h2

/-- From i on every byte before j is white space. -/
def Run (t : List UInt8) (i j : Nat) : Prop := ∀ m, i ≤ m → (h : m < t.length) → m < j → wsp t[m] = true

set_option maxRecDepth 100000 in
set_option maxHeartbeats 2000000 in
theorem wtRanksRight_any (p q : Option Addr) (n c c2 : Nat) (t : List UInt8) (w : World) (hl : t.length = n) (hn : n ≤ 1048576) (hc : BA w p t) (hr : RA w q t) :
    Calls Tryf.prog 16 #[.slice p n c, .slice q n c2] w fun e w' => e = .returned (.bool true) ∧ w = w' := by
  have HR := hide hr
  have HC := hide hc
  clear hr hc
  go_enter Tryf.func16, Tryf.ntmps16
  go_wp2
  go_loop [5] (fun i => ∃ k : Nat, k ≤ n ∧ i = .int .i64 k) (fun i => n - (intOf i).toNat)
  case atStart => exact ⟨0, Nat.zero_le _, rfl⟩
  case round =>
    obtain ⟨k, hk, rfl⟩ := hrel
    by_cases hlt : k < n
    · obtain ⟨b, o, rfl, hcell⟩ := unhide HC k (by omega)
      obtain ⟨b2, o2, rfl, hcell2⟩ := unhide HR k (by omega)
      by_cases hz : k = 0
      · subst hz
        rw [rk_none t 0 (by omega) (.inl rfl), Nat.add_zero] at hcell2
        go_wp2
        go_round
        case rel => exact ⟨1, by omega, by go_num⟩
        case measure => simp [intOf]; omega
      · have hz' : ((k : Int) == 0) = false := by simp; omega
        cases hw : wsp t[k] with
        | false =>
          rw [rk_none t k (by omega) (.inr hw)] at hcell2
          go_wp2_with (go_at_call 20; refine (zzWSP_any _ _).mono ?_; rintro e w' ⟨rfl, rfl⟩)
          go_round
          case rel => exact ⟨k + 1, by omega, by go_num⟩
          case measure => simp [intOf]; omega
        | true =>
          go_wp2_with (go_at_call 20; refine (zzWSP_any _ _).mono ?_; rintro e w' ⟨rfl, rfl⟩)
          go_loop [6] (fun i => ∃ j : Nat, k ≤ j ∧ j ≤ n ∧ i = .int .i64 j ∧ Run t k j) (fun i => n - (intOf i).toNat)
          case atStart => exact ⟨k, Nat.le_refl _, hk, rfl, fun m h1 _ h2 => by omega⟩
          case round =>
            obtain ⟨j, hkj, hj, rfl, hrun⟩ := hrel
            have HRun := hide hrun
            clear hrun hcell hcell2
            by_cases hgo : ∃ h : j < n, wsp t[j] = true
            · obtain ⟨hjn, hwj⟩ := hgo
              have hcj := (unhide HC).cell j (by omega)
              go_wp2_with (go_at_call 20; refine (zzWSP_any _ _).mono ?_; rintro e w' ⟨rfl, rfl⟩)
              go_round
              case rel => exact ⟨j + 1, by omega, by omega, by go_num, fun m h1 h2 h3 => by
                by_cases e : m = j
                · subst e; exact hwj
                · exact unhide HRun m h1 h2 (by omega)⟩
              case measure => simp [intOf]; omega
            · have hkj' : k < j := by
                by_cases e : k = j
                · subst e; exact absurd ⟨hlt, hw⟩ hgo
                · omega
              obtain ⟨j', rfl⟩ : ∃ j', j = j' + 1 := ⟨j - 1, by omega⟩
              have hlast : rk t j' = 1 := rk_last t j' (by omega) (by omega) (unhide HRun j' (by omega) (by omega) (by omega)) (fun h2 => by
                cases e : wsp t[j' + 1] with
                | false => rfl
                | true => exact absurd ⟨by omega, e⟩ hgo)
              have hcl := (unhide HR).cell j' (by omega)
              rw [hlast] at hcl
              have HL := hide hlast
              clear hlast
              by_cases hjn : j' + 1 < n
              · have hwj : wsp t[j' + 1] = false := by
                  cases e : wsp t[j' + 1] with
                  | false => rfl
                  | true => exact absurd ⟨hjn, e⟩ hgo
                have hcj := (unhide HC).cell (j' + 1) (by omega)
                clear hgo
                go_wp2_with (go_at_call 20; refine (zzWSP_any _ _).mono ?_; rintro e w' ⟨rfl, rfl⟩)
                go_loop [7] (fun i => ∃ m : Nat, k ≤ m ∧ m ≤ j' ∧ i = .int .i64 m) (fun i => j' - (intOf i).toNat)
                case atStart => exact ⟨k, Nat.le_refl _, by omega, rfl⟩
                case round =>
                  obtain ⟨m, hkm, hm, rfl⟩ := hrel
                  by_cases hmj : m < j'
                  · have hcm := (unhide HR).cell m (by omega)
                    rw [rk_run t m (by omega) (by omega) (unhide HRun m (by omega) (by omega) (by omega)) (unhide HRun (m + 1) (by omega) (by omega) (by omega))] at hcm
                    go_wp2
                    go_round
                    case rel => exact ⟨m + 1, by omega, by omega, by go_num⟩
                    case measure => simp [intOf]; omega
                  · go_wp2
                    go_round
                    case rel => exact ⟨j' + 1, by omega, by go_num⟩
                    case measure => simp [intOf]; omega
              · clear hgo
                go_wp2
                go_loop [7] (fun i => ∃ m : Nat, k ≤ m ∧ m ≤ j' ∧ i = .int .i64 m) (fun i => j' - (intOf i).toNat)
                case atStart => exact ⟨k, Nat.le_refl _, by omega, rfl⟩
                case round =>
                  obtain ⟨m, hkm, hm, rfl⟩ := hrel
                  by_cases hmj : m < j'
                  · have hcm := (unhide HR).cell m (by omega)
                    rw [rk_run t m (by omega) (by omega) (unhide HRun m (by omega) (by omega) (by omega)) (unhide HRun (m + 1) (by omega) (by omega) (by omega))] at hcm
                    go_wp2
                    go_round
                    case rel => exact ⟨m + 1, by omega, by omega, by go_num⟩
                    case measure => simp [intOf]; omega
                  · go_wp2
                    go_round
                    case rel => exact ⟨j' + 1, by omega, by go_num⟩
                    case measure => simp [intOf]; omega
    · go_wp2
      go_ret
      exact ⟨rfl, rfl⟩
end Go.Proofs.Qxb6612277aFmt
