import Derived.Test.Qxb6613049aFmtW16
namespace Go.Proofs.Qxb6613049aFmt
open Go.RowKit Go.Stop

theorem below_drewL {B : Nat} {w w' : World} (h : Below B w.drew w') : Below B w w' := ⟨h.os, h.tape, h.output, h.size, h.block⟩
theorem rd_new (s : ByteArray) (w : World) : Rd w.heap.size s 0 (w.alloc (.cells #[.string s, .int .i64 0, .int .i64 0] 53)) := ⟨0, Array.getElem?_push_size⟩
theorem below_new (w : World) (o : Obj) : Below w.heap.size w (w.alloc o) := (Below.refl _ w).alloc (Nat.le_refl _) o

theorem Lst.getN {p : Option Addr} {c N : Nat} {cs : List Chal} {w : World} (h : Lst (.slice p N c) cs w) (hN : cs.length = N) (k : Nat) (hk : k < cs.length) :
    ∃ g mp, p = some ⟨g, 0, none⟩ ∧ w.cell? ⟨g, k * 3, none⟩ = some (.string ⟨cs[k].1.toArray⟩) ∧ w.cell? ⟨g, k * 3 + 1, none⟩ = some (.string ⟨cs[k].2.1.toArray⟩) ∧ w.cell? ⟨g, k * 3 + 2, none⟩ = some (.map mp) ∧ MP cs[k].2.2 (.map mp) w := by
  subst hN
  exact h.get k hk
theorem size_list (s : ByteArray) : s.data.toList.length = s.size := by simp
theorem joined_bytes (a b : ByteArray) : (a ++ (⟨#[44, 32]⟩ : ByteArray) ++ b).data.toList = a.data.toList ++ jn b.data.toList := by
  simp [ByteArray.data_append, jn]
theorem joined_size (a b : ByteArray) : (a ++ (⟨#[44, 32]⟩ : ByteArray) ++ b).size = a.size + 2 + b.size := by
  rw [← size_list, joined_bytes, List.length_append, size_list]
  show a.size + (b.data.toList.length + 2) = _
  rw [size_list]
  omega

theorem n_bound (N x y : Nat) (h : N = x + y) (hx : x ≤ 524288) (hy : y ≤ 524288) : N ≤ 1048576 := by omega
theorem sum_facts (x k N y : Nat) (hN : N = x + y) (hk : k < y) (hx : x ≤ 524288) (hy : y ≤ 524288) : ∃ M : Nat, x + k = M ∧ (x : Int) + (k : Int) = (M : Int) ∧ (M : Int) < (N : Int) ∧ M < N ∧ wrap64 (M : Int) = (M : Int) ∧ IntKind.i64.wrap (M : Int) = (M : Int) ∧ (M : Int) ≤ 9223372036854775807 :=
  ⟨x + k, rfl, by omega, by omega, by omega, IntWalk.wrap64_in _ (by omega), (IntWalk.i64_left _).trans (IntWalk.wrap64_in _ (by omega)), by omega⟩

set_option maxRecDepth 100000 in
set_option maxHeartbeats 8000000 in
theorem law_in (F : Interp) (a b : ByteArray) (w : World) (hF : F.answers w.tape) (ha : a.size ≤ 524288) (hb : b.size ≤ 524288) :
    Calls Tryf.prog 4 #[.string a, .string b] w fun e w' => e = .returned (.bool true) ∧ Below w.heap.size w w' := by
  have hla : a.data.toList.length = a.size := by simp
  have hlb : b.data.toList.length = b.size := by simp
  have HLa := hide hla
  have HLb := hide hlb
  clear hla hlb
  go_enter Tryf.func4, Tryf.ntmps4
  go_wp2_with fail
  refine (zzBytes_any a b w).mono ?_
  rintro e w' ⟨⟨r, rfl⟩, rfl⟩
  cases r with
  | false =>
    go_wp2_with fail
    go_ret
    exact ⟨rfl, Below.refl _ _⟩
  | true =>
    have hga : decide ((524288 : Int) < a.size) = false := by simp; omega
    have hgb : decide ((524288 : Int) < b.size) = false := by simp; omega
    go_wp2_with (go_at_call 8; refine (newReader_any a w).mono ?_; rintro e w' ⟨rfl, rfl⟩)
    clear hga hgb
    refine (read_any F a [] (.slice none 0 0) [] w.heap.size _ (by exact hF) (by omega) (by simp) (by exact rd_new a w) (World.ownsRow_nil _ _ _ _) rfl).mono ?_
    have hb1 := below_new w (.cells #[.string a, .int .i64 0, .int .i64 0] 53)
    have HB1 := hide hb1
    clear hb1
    rintro e w2 (⟨ca, pa, cca, hRa, rfl, hLa, hrda, hbe⟩ | ⟨hRa, x, rfl, hbe⟩)
    · have HRa := hide hRa
      have HLsa := hide hLa
      have HRda := hide hrda
      have HB2 := hide ((unhide HB1).trans hbe)
      clear hRa hLa hrda hbe HB1
      go_wp2_with (go_at_call 8; refine (newReader_any b w2).mono ?_; rintro e w' ⟨rfl, rfl⟩)
      refine (read_any F b [] (.slice none 0 0) [] w2.heap.size _ (by show F.answers w2.tape; rw [(unhide HB2).tape]; exact hF) (by omega) (by simp) (by exact rd_new b w2) (World.ownsRow_nil _ _ _ _) rfl).mono ?_
      have HB3' := hide (below_new w2 (.cells #[.string b, .int .i64 0, .int .i64 0] 53))
      rintro e w4 (⟨cb, pb, ccb, hRb, rfl, hLb, hrdb, hbe⟩ | ⟨hRb, x, rfl, hbe⟩)
      · have HRb := hide hRb
        have hB4 := (unhide HB3').trans hbe
        have HLsb := hide hLb
        have HRdb := hide hrdb
        have HLsa4 := hide ((unhide HLsa).below hB4)
        have HRda4 := hide (only_of_size (unhide HRda) hB4)
        have HB4 := hide ((unhide HB2).trans (hB4.mono (unhide HB2).size))
        clear hRb hLb hrdb hbe hB4 HB3' HLsa HRda
        go_wp2_with (first | (go_at_call 11; first | (refine (readerPos_any w.heap.size a a.size _ (by exact unhide HRda4)).mono ?_; rintro e w' ⟨rfl, rfl⟩) | (refine (readerPos_any w2.heap.size b b.size _ (by exact unhide HRdb)).mono ?_; rintro e w' ⟨rfl, rfl⟩)))
        have hRj : chals ((a ++ (⟨#[44, 32]⟩ : ByteArray) ++ b).data.toList.length + 1) (a ++ (⟨#[44, 32]⟩ : ByteArray) ++ b).data.toList [] = some (ca ++ cb) := by
          rw [joined_bytes]
          exact joined _ _ _ _ (unhide HRa) (unhide HRb)
        have hjs := joined_size a b
        have hcal := chals_len _ _ _ _ (unhide HRa)
        have hcbl := chals_len _ _ _ _ (unhide HRb)
        rw [unhide HLa, List.length_nil, Nat.zero_add] at hcal
        rw [unhide HLb, List.length_nil, Nat.zero_add] at hcbl
        have hRc := chained b.data.toList ca cb (unhide HRb)
        have HRj := hide hRj
        have HRc := hide hRc
        generalize (a ++ (⟨#[44, 32]⟩ : ByteArray) ++ b) = js at *
        clear hRj hRc HRa HRb HLa HLb HRda4 HRdb
        refine (newReader_any js w4).mono ?_
        rintro e w' ⟨rfl, rfl⟩
        go_wp2_with fail
        refine (read_any F js [] (.slice none 0 0) [] w4.heap.size _ (by show F.answers w4.tape; rw [(unhide HB4).tape]; exact hF) (by omega) (by simp) (by exact rd_new js w4) (World.ownsRow_nil _ _ _ _) rfl).mono ?_
        rw [unhide HRj]
        rintro e w5 (⟨cj, pj, ccj, hcj, rfl, hLj, hrdj, hbe⟩ | ⟨hRb, x, rfl, hbe⟩)
        case inr => cases hRb
        cases hcj
        have hB5 := (below_new w4 (.cells #[.string js, .int .i64 0, .int .i64 0] 53)).trans hbe
        have HLj := hide hLj
        have HRdj := hide hrdj
        have HLa5 := hide ((unhide HLsa4).below hB5)
        have HLb5 := hide ((unhide HLsb).below hB5)
        have HB5 := hide ((unhide HB4).trans (hB5.mono (unhide HB4).size))
        obtain ⟨N, hN⟩ : ∃ N, (ca ++ cb).length = N := ⟨_, rfl⟩
        have hNs : N = ca.length + cb.length := by rw [← hN]; exact List.length_append
        rw [hN]
        have HN := hide hN
        have HNs := hide hNs
        clear hN hNs
        clear hLj hrdj hbe hB5 HLsa4 HLsb HRj HB4 HB2
        have hbl : ((N : Int) == (ca.length : Int) + (cb.length : Int)) = true := by have := unhide HNs; simp; omega
        go_wp2_with (go_at_call 11; refine (readerPos_any w4.heap.size js js.size _ (by exact unhide HRdj)).mono ?_; rintro e w' ⟨rfl, rfl⟩)
        refine (zzTcharRuns_any a w5 (by omega)).mono ?_
        rintro e w6 ⟨⟨vA, nA, rfl, hnA, hsA⟩, hb6⟩
        have HcA := hide (hsA.cand hnA)
        have HB6 := hide hb6
        clear hsA hb6
        go_wp2_with fail
        refine (zzTcharRuns_any b w6 (by omega)).mono ?_
        rintro e w7 ⟨⟨vB, nB, rfl, hnB, hsB⟩, hb7⟩
        have HcB := hide (hsB.cand hnB)
        have hb57 := (unhide HB6).trans (hb7.mono (unhide HB6).size)
        have HcA7 := hide ((unhide HcA).below hb7)
        have HLj7 := hide ((unhide HLj).below hb57)
        have HLa7 := hide ((unhide HLa5).below hb57)
        have HLb7 := hide ((unhide HLb5).below hb57)
        have HB7 := hide ((unhide HB5).trans (hb57.mono (unhide HB5).size))
        clear hsB hb7 hb57 HB6 HcA HLj HLa5 HLb5 HB5 HRdj hbl
        go_wp2_with fail
        go_loopw [17] (fun i wr => ∃ k : Nat, k ≤ ca.length ∧ i = .int .i64 k ∧ Below w7.heap.size w7 wr) (fun i _ => ca.length - (intOf i).toNat)
        case atStart => exact ⟨0, Nat.zero_le _, rfl, Below.refl _ _⟩
        case round =>
          obtain ⟨k, hk, rfl, hbe⟩ := hrel
          have HBe := hide hbe
          clear hbe
          by_cases hlt : k < ca.length
          · obtain ⟨ga, ma, rfl, x0, x1, x2, xm⟩ := ((unhide HLa7).below (unhide HBe)).get k hlt
            obtain ⟨gj, mj, rfl, y0, y1, y2, ym⟩ := ((unhide HLj7).below (unhide HBe)).get k (by rw [List.length_append]; omega)
            rw [List.getElem_append_left hlt] at y0 y1 ym
            have hi1 : (k : Int) < (N : Int) := by have := unhide HNs; omega
            have hi2 : k < N := by omega
            have HXm := hide xm
            have HYm := hide ym
            have HcAr := hide ((unhide HcA7).below (unhide HBe))
            clear xm ym
            go_wp2_with fail
            go_region_held3 (fun w' => w'.cell? ⟨ga, k * 3, none⟩ = some (.string ⟨ca[k].1.toArray⟩) ∧ w'.cell? ⟨ga, k * 3 + 1, none⟩ = some (.string ⟨ca[k].2.1.toArray⟩) ∧ w'.cell? ⟨ga, k * 3 + 2, none⟩ = some (.map ma) ∧ w'.cell? ⟨gj, k * 3, none⟩ = some (.string ⟨ca[k].1.toArray⟩) ∧ w'.cell? ⟨gj, k * 3 + 1, none⟩ = some (.string ⟨ca[k].2.1.toArray⟩) ∧ w'.cell? ⟨gj, k * 3 + 2, none⟩ = some (.map mj)) (go_keep) (first | (go_at_call 15; refine (same_any ca[k].1 ca[k].2.1 ca[k].2.2 (.map mj) (.map ma) vA nA _ (by exact unhide HYm) (by exact unhide HXm) (by exact unhide HcAr)).mono ?_; rintro e w' ⟨rfl, hbw⟩; have z0 := cell_later hbw x0; have z1 := cell_later hbw x1; have z2 := cell_later hbw x2; have z3 := cell_later hbw y0; have z4 := cell_later hbw y1; have z5 := cell_later hbw y2))
            go_wp2_with fail
            go_roundw
            case rel => exact ⟨k + 1, by omega, by go_num, (unhide HBe).trans (Below.mono (below_drewL hbw) (unhide HBe).size)⟩
            case measure => simp [intOf]; omega
          · have HLj8 := hide ((unhide HLj7).below (unhide HBe))
            have HLa8 := hide ((unhide HLa7).below (unhide HBe))
            have HLb8 := hide ((unhide HLb7).below (unhide HBe))
            have HcA8 := hide ((unhide HcA7).below (unhide HBe))
            have HcB8 := hide ((unhide HcB).below (unhide HBe))
            have HB8 := hide ((unhide HB7).trans ((unhide HBe).mono (unhide HB7).size))
            clear HBe HLj7 HLa7 HLb7 HcA7 HcB HB7
            rename World => w8
            go_wp2_with fail
            go_loopw [18] (fun i wr => ∃ k : Nat, k ≤ cb.length ∧ i = .int .i64 k ∧ Below w8.heap.size w8 wr) (fun i _ => cb.length - (intOf i).toNat)
            case atStart => exact ⟨0, Nat.zero_le _, rfl, Below.refl _ _⟩
            case round =>
              obtain ⟨k, hk, rfl, hbe⟩ := hrel
              have HBe := hide hbe
              clear hbe
              by_cases hlt : k < cb.length
              · obtain ⟨ga, ma, rfl, x0, x1, x2, xm⟩ := ((unhide HLb8).below (unhide HBe)).get k hlt
                obtain ⟨gj, mj, rfl, y0, y1, y2, ym⟩ := ((unhide HLj8).below (unhide HBe)).get (ca.length + k) (by rw [List.length_append]; omega)
                have hel : (ca ++ cb)[ca.length + k]'(by rw [List.length_append]; omega) = cb[k] := by rw [List.getElem_append_right (by omega)]; congr 1; omega
                rw [hel] at y0 y1 ym
                have HXm := hide xm
                have HYm := hide ym
                have HcAr := hide ((unhide HcB8).below (unhide HBe))
                clear xm ym hel
                go_wp2_with fail
                obtain ⟨M, hM, hsum, hi1, hi2, hi4, hi5, hi6⟩ := sum_facts ca.length k N cb.length (unhide HNs) hlt (Nat.le_trans hcal ha) (Nat.le_trans hcbl hb)
                rw [hM] at y0 y1 y2
                clear hM
                go_region_held3 (fun w' => w'.cell? ⟨ga, k * 3, none⟩ = some (.string ⟨cb[k].1.toArray⟩) ∧ w'.cell? ⟨ga, k * 3 + 1, none⟩ = some (.string ⟨cb[k].2.1.toArray⟩) ∧ w'.cell? ⟨ga, k * 3 + 2, none⟩ = some (.map ma) ∧ w'.cell? ⟨gj, M * 3, none⟩ = some (.string ⟨cb[k].1.toArray⟩) ∧ w'.cell? ⟨gj, M * 3 + 1, none⟩ = some (.string ⟨cb[k].2.1.toArray⟩) ∧ w'.cell? ⟨gj, M * 3 + 2, none⟩ = some (.map mj)) (go_keep) (first | (go_at_call 15; refine (same_any cb[k].1 cb[k].2.1 cb[k].2.2 (.map mj) (.map ma) vB nB _ (by exact unhide HYm) (by exact unhide HXm) (by exact unhide HcAr)).mono ?_; rintro e w' ⟨rfl, hbw⟩; have z0 := cell_later hbw x0; have z1 := cell_later hbw x1; have z2 := cell_later hbw x2; have z3 := cell_later hbw y0; have z4 := cell_later hbw y1; have z5 := cell_later hbw y2))
                go_wp2_with fail
                go_roundw
                case rel => exact ⟨k + 1, by omega, by go_num, (unhide HBe).trans (Below.mono (below_drewL hbw) (unhide HBe).size)⟩
                case measure => simp [intOf]; omega
              · have HLj9 := hide ((unhide HLj8).below (unhide HBe))
                have HLa9 := hide ((unhide HLa8).below (unhide HBe))
                have HcA9 := hide ((unhide HcA8).below (unhide HBe))
                have HcB9 := hide ((unhide HcB8).below (unhide HBe))
                have HB9 := hide ((unhide HB8).trans ((unhide HBe).mono (unhide HB8).size))
                clear HBe HLj8 HLa8 HLb8 HcA8 HcB8 HB8
                rename World => w9
                go_wp2_with fail
                refine (newReader_any b w9).mono ?_
                rintro e w' ⟨rfl, rfl⟩
                go_wp2_with fail
                have HLa9' := hide ((unhide HLa9).below (below_new w9 (.cells #[.string b, .int .i64 0, .int .i64 0] 53)))
                refine (clone_lst pa cca ca _ (by omega) (by exact unhide HLa9')).mono ?_
                rintro e w10 ⟨⟨v0, xs0, rfl, hown0, hrow0⟩, hb10⟩
                have hb910 := (below_new w9 (.cells #[.string b, .int .i64 0, .int .i64 0] 53)).trans (hb10.mono (by simp))
                have HRd10 := hide ((rd_new b w9).below hb10 (by simp))
                have HOwn0 := hide (own_mono hown0 (show w9.heap.size ≤ (w9.alloc (.cells #[.string b, .int .i64 0, .int .i64 0] 53)).heap.size by simp))
                have HRow0 := hide hrow0
                have HB910 := hide hb910
                clear hown0 hrow0 hb10 hb910 HLa9'
                go_wp2_with fail
                refine (read_any F b ca v0 xs0 w9.heap.size w10 (by rw [(unhide HB910).tape, (unhide HB9).tape]; exact hF) (by omega) (by omega) (unhide HRd10) (unhide HOwn0) (unhide HRow0)).mono ?_
                rw [unhide HRc]
                rintro e w11 (⟨cc, pc, ccc, hcc, rfl, hLc, hrdc, hbe⟩ | ⟨hRb, x, rfl, hbe⟩)
                case inr => cases hRb
                cases hcc
                have hb911 := (unhide HB910).trans hbe
                have HLc := hide hLc
                have HRdc := hide hrdc
                have HLj11 := hide ((unhide HLj9).below hb911)
                have HcA11 := hide ((unhide HcA9).below hb911)
                have HcB11 := hide ((unhide HcB9).below hb911)
                have HB11 := hide ((unhide HB9).trans (hb911.mono (unhide HB9).size))
                clear hLc hrdc hbe hb911 HRd10 HOwn0 HRow0 HB910 HLj9 HLa9 HcA9 HcB9 HB9
                rw [unhide HN]
                go_wp2_with (go_at_call 11; refine (readerPos_any w9.heap.size b b.size _ (by exact unhide HRdc)).mono ?_; rintro e w' ⟨rfl, rfl⟩)
                have HLc' : Hid (Lst (.slice pc N ccc) (ca ++ cb) w11) := hide (by have := unhide HLc; rwa [unhide HN] at this)
                clear HLc HRdc
                go_loopw [22, 23] (fun i _ wr => ∃ k : Nat, k ≤ N ∧ i = .int .i64 k ∧ Below w11.heap.size w11 wr) (fun i _ _ => N - (intOf i).toNat)
                case atStart => exact ⟨0, Nat.zero_le _, rfl, Below.refl _ _⟩
                case round =>
                  obtain ⟨k, hk, rfl, hbe⟩ := hrel
                  have HBe := hide hbe
                  clear hbe
                  by_cases hlt : k < N
                  · have HLt := hide hlt
                    have hNb : N ≤ 1048576 := n_bound N ca.length cb.length (unhide HNs) (Nat.le_trans hcal ha) (Nat.le_trans hcbl hb)
                    have hkl : k < (ca ++ cb).length := by rw [unhide HN]; exact hlt
                    obtain ⟨ga, ma, rfl, x0, x1, x2, xm⟩ := Lst.getN ((unhide HLc').below (unhide HBe)) (unhide HN) k hkl
                    obtain ⟨gj, mj, rfl, y0, y1, y2, ym⟩ := ((unhide HLj11).below (unhide HBe)).get k hkl
                    generalize (ca ++ cb)[k] = el at *
                    have HXm := hide xm
                    have HYm := hide ym
                    have HcAr := hide ((unhide HcA11).below (unhide HBe))
                    have HcBr := hide ((unhide HcB11).below (unhide HBe))
                    clear xm ym hkl
                    by_cases hka : k < ca.length
                    · have hka2 : decide ((k : Int) < (ca.length : Int)) = true := by simp; omega
                      go_wp2_with fail
                      go_region_held3 (fun w' => w'.cell? ⟨ga, k * 3, none⟩ = some (.string ⟨el.1.toArray⟩) ∧ w'.cell? ⟨ga, k * 3 + 1, none⟩ = some (.string ⟨el.2.1.toArray⟩) ∧ w'.cell? ⟨ga, k * 3 + 2, none⟩ = some (.map ma) ∧ w'.cell? ⟨gj, k * 3, none⟩ = some (.string ⟨el.1.toArray⟩) ∧ w'.cell? ⟨gj, k * 3 + 1, none⟩ = some (.string ⟨el.2.1.toArray⟩) ∧ w'.cell? ⟨gj, k * 3 + 2, none⟩ = some (.map mj)) (go_keep) (first | (go_at_call 15; refine (same_any el.1 el.2.1 el.2.2 (.map ma) (.map mj) vA nA _ (by exact unhide HXm) (by exact unhide HYm) (by exact unhide HcAr)).mono ?_; rintro e w' ⟨rfl, hbw⟩; have z0 := cell_later hbw x0; have z1 := cell_later hbw x1; have z2 := cell_later hbw x2; have z3 := cell_later hbw y0; have z4 := cell_later hbw y1; have z5 := cell_later hbw y2))
                      go_wp2_with fail
                      go_roundw
                      case rel => exact ⟨k + 1, unhide HLt, by go_num, (unhide HBe).trans (Below.mono (below_drewL hbw) (unhide HBe).size)⟩
                      case measure => have := unhide HLt; simp [intOf]; omega
                    · have hka2 : decide ((k : Int) < (ca.length : Int)) = false := by simp; omega
                      go_wp2_with fail
                      go_region_held3 (fun w' => w'.cell? ⟨ga, k * 3, none⟩ = some (.string ⟨el.1.toArray⟩) ∧ w'.cell? ⟨ga, k * 3 + 1, none⟩ = some (.string ⟨el.2.1.toArray⟩) ∧ w'.cell? ⟨ga, k * 3 + 2, none⟩ = some (.map ma) ∧ w'.cell? ⟨gj, k * 3, none⟩ = some (.string ⟨el.1.toArray⟩) ∧ w'.cell? ⟨gj, k * 3 + 1, none⟩ = some (.string ⟨el.2.1.toArray⟩) ∧ w'.cell? ⟨gj, k * 3 + 2, none⟩ = some (.map mj)) (go_keep) (first | (go_at_call 15; refine (same_any el.1 el.2.1 el.2.2 (.map ma) (.map mj) vB nB _ (by exact unhide HXm) (by exact unhide HYm) (by exact unhide HcBr)).mono ?_; rintro e w' ⟨rfl, hbw⟩; have z0 := cell_later hbw x0; have z1 := cell_later hbw x1; have z2 := cell_later hbw x2; have z3 := cell_later hbw y0; have z4 := cell_later hbw y1; have z5 := cell_later hbw y2))
                      go_wp2_with fail
                      go_roundw
                      case rel => exact ⟨k + 1, unhide HLt, by go_num, (unhide HBe).trans (Below.mono (below_drewL hbw) (unhide HBe).size)⟩
                      case measure => have := unhide HLt; simp [intOf]; omega
                  · go_wp2_with fail
                    go_ret
                    exact ⟨rfl, (unhide HB11).trans ((unhide HBe).mono (unhide HB11).size)⟩
      · have HB3 := hide (((unhide HB3').trans hbe))
        have HRda4 := hide (only_of_size (unhide HRda) (unhide HB3))
        clear hbe hRb
        go_wp2_with (go_at_call 11; refine (readerPos_any w.heap.size a a.size _ (by exact unhide HRda4)).mono ?_; rintro e w' ⟨rfl, rfl⟩)
        go_ret
        exact ⟨rfl, (unhide HB2).trans ((unhide HB3).mono (unhide HB2).size)⟩
    · have HB2 := hide ((unhide HB1).trans hbe)
      clear hbe hRa HB1
      go_wp2_with (go_at_call 8; refine (newReader_any b w2).mono ?_; rintro e w' ⟨rfl, rfl⟩)
      refine (read_any F b [] (.slice none 0 0) [] w2.heap.size _ (by show F.answers w2.tape; rw [(unhide HB2).tape]; exact hF) (by omega) (by simp) (by exact rd_new b w2) (World.ownsRow_nil _ _ _ _) rfl).mono ?_
      have HB3' := hide (below_new w2 (.cells #[.string b, .int .i64 0, .int .i64 0] 53))
      rintro e w4 (⟨cb, pb, ccb, hRb, rfl, hLb, hrdb, hbe⟩ | ⟨hRb, y, rfl, hbe⟩)
      · have HRdb := hide hrdb
        have HB4 := hide ((unhide HB2).trans (((unhide HB3').trans hbe).mono (unhide HB2).size))
        clear hRb hLb hrdb hbe
        go_wp2_with (go_at_call 11; refine (readerPos_any w2.heap.size b b.size _ (by exact unhide HRdb)).mono ?_; rintro e w' ⟨rfl, rfl⟩)
        go_ret
        exact ⟨rfl, unhide HB4⟩
      · have HB4 := hide ((unhide HB2).trans (((unhide HB3').trans hbe).mono (unhide HB2).size))
        clear hRb hbe
        go_wp2_with fail
        go_ret
        exact ⟨rfl, unhide HB4⟩
end Go.Proofs.Qxb6613049aFmt
