import Derived.Test.Qxb6613649aDoorW6
namespace Go.Proofs.Qxb6613649aDoor
open Go.RowKit

/-- What template leaves. -/
def TmPost (x : List UInt8) (src : ByteArray) (w : World) (e : Ending) (w' : World) : Prop :=
  (∃ v ps ln, e = .returned (.tuple #[.agg #[v, .int .i64 ln], .nilIface]) ∧ w'.ownsRow w.heap.size 62 2 v ps.length (ptCells ps) ∧ rendAll ps = src.data.toList ∧ (∀ p ∈ ps, p.2 = [] ∨ isName p.2 = true) ∧ (isName x = true → src.data.toList = D ++ x ++ D → ps = [([], x)]) ∧ ps.length ≤ src.size ∧ Below w.heap.size w w') ∨
  (∃ t y, e = .returned (.tuple #[.agg #[.slice none 0 0, .int .i64 0], .iface t y]) ∧ (src.data.toList = D ++ x ++ D → isName x = false) ∧ Below w.heap.size w w')

def strLen : Value → Nat
  | .string s => s.size
  | _ => 0

theorem tw_start {p : Nat} {src : ByteArray} {ln : Int} {w w1 : World} (hb : Below ((w.alloc (.cells #[.string src, .slice (some ⟨p, 0, none⟩) 1 1] 44)).alloc (.cells #[.slice none 0 0, .int .i64 0] 31)).heap.size ((w.alloc (.cells #[.string src, .slice (some ⟨p, 0, none⟩) 1 1] 44)).alloc (.cells #[.slice none 0 0, .int .i64 0] 31)) w1) :
    TW w.heap.size w1.heap.size p src [] [] (.slice none 0 0) ln ((w1.alloc (.cells #[.slice none 0 0, .int .i64 ln] 31)).alloc (.cells #[.pointer none, .slice none 0 0] 60)) ∧ Below w.heap.size w ((w1.alloc (.cells #[.slice none 0 0, .int .i64 ln] 31)).alloc (.cells #[.pointer none, .slice none 0 0] 60)) := by
  have hsz := hb.size
  simp only [World.size_alloc] at hsz
  have e0 : ((w.alloc (.cells #[.string src, .slice (some ⟨p, 0, none⟩) 1 1] 44)).alloc (.cells #[.slice none 0 0, .int .i64 0] 31)).heap[w.heap.size]? = some (.cells #[.string src, .slice (some ⟨p, 0, none⟩) 1 1] 44 (0, 0)) := by
    rw [Below.heap_alloc _ _ _ (by simp)]
    exact heap_alloc_new _ _
  have e1 : ((w.alloc (.cells #[.string src, .slice (some ⟨p, 0, none⟩) 1 1] 44)).alloc (.cells #[.slice none 0 0, .int .i64 0] 31)).heap[w.heap.size + 1]? = some (.cells #[.slice none 0 0, .int .i64 0] 31 (0, 0)) := by
    have := heap_alloc_new (w.alloc (.cells #[.string src, .slice (some ⟨p, 0, none⟩) 1 1] 44)) (.cells #[.slice none 0 0, .int .i64 0] 31)
    rw [World.size_alloc] at this
    exact this
  refine ⟨⟨hsz, ?_, ?_, ?_, World.ownsRow_nil _ _ _ _, .inl ⟨by omega, .slice none 0 0, ?_, World.ownsRowF_nil _ _ _ _, by simp [Value.ownBlock]⟩⟩, ?_⟩
  · rw [Below.heap_alloc _ _ _ (by simp; omega), Below.heap_alloc _ _ _ (by omega), hb.block _ (by simp; omega)]
    exact e0
  · rw [Below.heap_alloc _ _ _ (by simp; omega), Below.heap_alloc _ _ _ (by omega), hb.block _ (by simp)]
    exact e1
  · rw [Below.heap_alloc _ _ _ (by simp)]
    exact heap_alloc_new _ _
  · have := heap_alloc_new (w1.alloc (.cells #[.slice none 0 0, .int .i64 ln] 31)) (.cells #[.pointer none, .slice none 0 0] 60)
    rw [World.size_alloc] at this
    exact this
  · have h1 : Below w.heap.size w ((w.alloc (.cells #[.string src, .slice (some ⟨p, 0, none⟩) 1 1] 44)).alloc (.cells #[.slice none 0 0, .int .i64 0] 31)) := ((Below.refl _ _).alloc (Nat.le_refl _) _).alloc (by simp) _
    have h2 := h1.trans (hb.mono (by simp; omega))
    exact (h2.alloc (by omega) _).alloc (by simp; omega) _

theorem row_shape {W : World} {B n : Nat} {e : TypeId} {s : Nat} {v : Value} {xs : List Value} (h : W.ownsRow B e s v n xs) : ∃ x c, v = .slice x n c := by
  rcases h.2 with ⟨h1, rfl⟩ | ⟨g, cap, cur, h3, _⟩
  · exact ⟨_, _, h1⟩
  · exact ⟨_, _, h3⟩

theorem tw_final {n tb p : Nat} {src : ByteArray} {ps : List Pt} {lit : List UInt8} {v : Value} {ln : Int} {W : World} (h : TW n tb p src ps lit v ln W) :
    ((W.setCell ⟨n + 1, 0, none⟩ v).setCell ⟨n + 1, 1, none⟩ (.int .i64 ln)).cell? ⟨n + 1, 0, none⟩ = some v ∧ ((W.setCell ⟨n + 1, 0, none⟩ v).setCell ⟨n + 1, 1, none⟩ (.int .i64 ln)).cell? ⟨n + 1, 1, none⟩ = some (.int .i64 ln) ∧
    ((W.setCell ⟨n + 1, 0, none⟩ v).setCell ⟨n + 1, 1, none⟩ (.int .i64 ln)).ownsRow n 62 2 v ps.length (ptCells ps) ∧ Below n W ((W.setCell ⟨n + 1, 0, none⟩ v).setCell ⟨n + 1, 1, none⟩ (.int .i64 ln)) := by
  obtain ⟨h0, h1, h2, h3, h4, h5⟩ := h
  obtain ⟨z0, z1⟩ := set2_cells h2 v (.int .i64 ln)
  refine ⟨z0, z1, row_move h4 ?_, ((Below.refl _ _).setCell (by show n ≤ n + 1; omega) _).setCell (by show n ≤ n + 1; omega) _⟩
  intro k c fz hc
  have hne : k ≠ n + 1 := by
    intro e
    subst e
    rw [h2] at hc
    cases hc
  rw [Below.heap_setCell _ _ _ _ hne, Below.heap_setCell _ _ _ _ hne]
  exact hc
theorem flush_pos (ps : List Pt) (L : List UInt8) (h : L.length ≠ 0) : flush ps L = ps ++ [(L, [])] := by
  unfold flush
  cases L with
  | nil => exact absurd rfl h
  | cons c t => rfl
theorem flush_zero (ps : List Pt) (L : List UInt8) (h : L.length = 0) : flush ps L = ps := by
  cases L with
  | nil => rfl
  | cons c t => simp at h

theorem ext_drop (a : List UInt8) (k : Nat) : ((⟨a.toArray⟩ : ByteArray).extract k a.length).data.toList = a.drop k := by
  simp [ByteArray.data_extract]
  exact List.take_of_length_le (by simp)
theorem keep3 {eb nb o : Nat} {v : Value} {W : World} (hne : eb ≠ nb) (hlt : eb < W.heap.size) (h : W.cell? ⟨eb, o, none⟩ = some v) (a b : Value) (ob : Obj) : (((W.setCell ⟨nb, 0, none⟩ a).setCell ⟨nb, 1, none⟩ b).alloc ob).cell? ⟨eb, o, none⟩ = some v := by
  rw [← keep2 hne h a b]
  apply World.cell?_of_block
  exact Below.heap_alloc _ _ _ (by simpa [World.setCell] using hlt)
theorem fin2 {nb : Nat} {o : Obj} {x y : Value} {W : World} (hlt : nb < W.heap.size) (h0 : W.cell? ⟨nb, 0, none⟩ = some x) (h1 : W.cell? ⟨nb, 1, none⟩ = some y) (a b : Value) :
    (((W.setCell ⟨nb, 0, none⟩ a).setCell ⟨nb, 1, none⟩ b).alloc o).cell? ⟨nb, 0, none⟩ = some a ∧ (((W.setCell ⟨nb, 0, none⟩ a).setCell ⟨nb, 1, none⟩ b).alloc o).cell? ⟨nb, 1, none⟩ = some b := by
  have hal : (((W.setCell ⟨nb, 0, none⟩ a).setCell ⟨nb, 1, none⟩ b).alloc o).heap[nb]? = ((W.setCell ⟨nb, 0, none⟩ a).setCell ⟨nb, 1, none⟩ b).heap[nb]? := Below.heap_alloc _ _ _ (by simpa [World.setCell] using hlt)
  have k0 := World.cell?_of_block (a := ⟨nb, 0, none⟩) hal
  have k1 := World.cell?_of_block (a := ⟨nb, 1, none⟩) hal
  rw [k0, k1]
  constructor
  · go_simp
  · go_simp
theorem bad_yes {N : Nat} {a : List UInt8} (hN : nameLen a = N) (h : ((N == 0) || !(Lib.hasPrefix (a.drop N) D)) = true) : nameLen a = 0 ∨ Lib.hasPrefix (a.drop (nameLen a)) D = false := by
  subst hN
  simpa using h
theorem snoc_len (ps : List Pt) (q : Pt) : (ps ++ [q]).length = ps.length + 1 := by simp
theorem ext_take (a : List UInt8) (k : Nat) : (⟨a.toArray⟩ : ByteArray).extract 0 k = ⟨(a.take k).toArray⟩ := by
  apply ByteArray.ext
  simp [ByteArray.data_extract]
theorem TW.grownD {n tb p : Nat} {src : ByteArray} {ps : List Pt} {lit : List UInt8} {v : Value} {ln : Int} {W : World} (h : TW n tb p src ps lit v ln W) (a : List UInt8) (k : Nat) (v' : Value) (w9 : World)
    (ho : w9.ownsRow n 62 2 v' (ps.length + 1) (ptCells ps ++ [.string ⟨#[]⟩, .string ((⟨a.toArray⟩ : ByteArray).extract 0 k)])) (hg : ((W.alloc (.cells #[.string ⟨#[]⟩, .string ((⟨a.toArray⟩ : ByteArray).extract 0 k)] 62)).drew).grownBy w9 v.ownBlock) :
    (∃ g c, v' = .slice (some ⟨g, 0, none⟩) (ps.length + 1) c) ∧ w9.cell? ⟨tb, 0, none⟩ = some v ∧ w9.frozen? ⟨tb, 0, none⟩ = false ∧ TW n tb p src (ps ++ [([], a.take k)]) lit v' ln (w9.setCell ⟨tb, 0, none⟩ v') ∧ Below n W (w9.setCell ⟨tb, 0, none⟩ v') := by
  rw [ext_take] at ho hg
  exact h.grown ([], a.take k) ho ⟨hg.os, hg.tape, hg.output, hg.size, hg.block⟩
theorem bad_not {N : Nat} {c : Bool} (h : ((N == 0) || !c) = false) : N ≠ 0 ∧ c = true := by
  cases c <;> simp_all
theorem ext_drop2 (a : List UInt8) (k : Nat) : (⟨a.toArray⟩ : ByteArray).extract k a.length = ⟨(a.drop k).toArray⟩ := by
  apply ByteArray.ext
  apply Array.toList_inj.1
  exact ext_drop a k
theorem bad_of {N : Nat} {c bad : Bool} (h : ((N == 0) || !c) = bad) (hn : N ≠ 0) : bad = !c := by
  rw [← h]
  have : (N == 0) = false := by simp [hn]
  rw [this, Bool.false_or]
theorem cut_len {sl b a : List UInt8} {f : Bool} (h : Lib.cut sl D = (b, a, f)) : b.length + a.length ≤ sl.length ∧ (f = true → b.length + a.length + 2 = sl.length) := by
  rcases cut_cases sl with ⟨h1, _⟩ | ⟨b', a', h1, h2, _⟩
  · rw [h1] at h
    cases h
    simp
  · rw [h1] at h
    cases h
    rw [h2]
    simp [D]
    omega
theorem strLen_str (l : List UInt8) : strLen (.string ⟨l.toArray⟩) = l.length := by
  show l.toArray.size = _
  simp
theorem info62 : (Tryd.prog.info? 62).map (fun i => (i.zero, i.size, i.bytes)) = some (some (.agg #[.string ⟨#[]⟩, .string ⟨#[]⟩]), 2, 32) := by kernel_rfl

set_option maxRecDepth 100000 in
set_option maxHeartbeats 2000000 in
theorem template_any (x : List UInt8) (eb p : Nat) (src : ByteArray) (a : Value) (gt : TypeId) (gv : Value) (m : Int) (w : World) (he : El eb a w) (hp : Pc p w) (h0 : w.cell? ⟨0, 0, none⟩ = some (.iface gt gv)) (h1 : w.cell? ⟨1, 0, none⟩ = some (.int .i64 m)) (hs : src.size ≤ 2097152) :
    Calls Tryd.prog 15 #[.pointer (some ⟨eb, 0, none⟩), .string ⟨#[118]⟩, .agg #[.string src, .slice (some ⟨p, 0, none⟩) 1 1]] w (TmPost x src w) := by
  generalize hT : TmPost x src w = T
  have hTr : ∀ (e : Ending) (w' : World), TmPost x src w e w' → T e w' := fun e w' h => by rw [← hT]; exact h
  have HTr := hide hTr
  have HE := hide he
  have HPc := hide hp
  have H0 := hide h0
  have H1 := hide h1
  have hl : src.data.toList.length = src.size := by simp
  have HL := hide hl
  have hplt := hp.lt
  have hgl : 1 < w.heap.size := World.block_lt_of_cell? w ⟨1, 0, none⟩ h1
  clear hT hTr he hp h0 h1 hl
  obtain ⟨i0, hi0, hz0, hz1, hz2⟩ := info_parts info62
  go_enter Tryd.func15, Tryd.ntmps15
  go_wp2_with fail
  refine (lineAt_any p 0 src _ (by exact (unhide HPc).below (((Below.refl _ _).alloc (Nat.le_refl _) _).alloc (by simp) _) hplt) (Nat.zero_le _) (by omega)).mono ?_
  rintro e w1 ⟨⟨ln, rfl⟩, hb1⟩
  obtain ⟨hTW0, hBe0⟩ := tw_start (ln := ln) hb1
  have HTW0 := hide hTW0
  have HBe0 := hide hBe0
  clear hb1 hTW0 hBe0
  obtain ⟨a0, a1, a2, a3, a4, a5, a6, a7, a8⟩ := (unhide HTW0).cells
  go_wp2_with fail
  clear a0 a1 a2 a3 a4 a5 a6 a7 a8
  go_loopw [10] (fun s wr => ∃ (sl : List UInt8) (ps : List Pt) (lit : List UInt8) (v : Value), s = .string ⟨sl.toArray⟩ ∧ Inv x src.data.toList ps lit sl ∧ TW w.heap.size w1.heap.size p src ps lit v ln wr ∧ Below w.heap.size w wr) (fun s _ => strLen s)
  case atStart => exact ⟨src.data.toList, [], [], _, rfl, Inv.start _ _, unhide HTW0, unhide HBe0⟩
  case round =>
    obtain ⟨sl, ps, lit, v, rfl, hinv, htw, hbe⟩ := hrel
    clear HTW0 HBe0
    obtain ⟨vx, vc, rfl⟩ := row_shape htw.2.2.2.2.1
    have hroom := hinv.room
    rw [unhide HL] at hroom
    have HI := hide hinv
    have HTW := hide htw
    have HBe := hide hbe
    have hm1 : wr.cell? ⟨1, 0, none⟩ = some (.int .i64 m) := (hbe.cell (by exact hgl)).trans (unhide H1)
    have HM1 := hide hm1
    clear hinv htw hbe hm1
    obtain ⟨b, a', f, hc⟩ : ∃ b a' f, Lib.cut sl D = (b, a', f) := ⟨_, _, _, rfl⟩
    obtain ⟨hba, hba2⟩ := cut_len hc
    have HBA2 := hide hba2
    clear hba2
    have HC := hide hc
    clear hc
    go_wp2_with fail
    refine (cut_any sl b a' f m wr (unhide HC) (by omega) (unhide HM1)).mono ?_
    rintro e w' ⟨rfl, k, rfl⟩
    have HTWk : Hid (TW w.heap.size w1.heap.size p src ps lit (.slice vx ps.length vc) ln (wr.drewN k)) := hide (by exact unhide HTW)
    have HBek := hide (below_drewN (unhide HBe) k)
    generalize wr.drewN k = w2 at *
    go_wp2_with fail
    refine (write_any (unhide HTWk) b (by omega)).mono ?_
    rintro e w3 ⟨rfl, htw3, hbe3⟩
    obtain ⟨L, hL⟩ : ∃ L, lit ++ b = L := ⟨_, rfl⟩
    have hLl : L.length = lit.length + b.length := by rw [← hL]; simp
    rw [hL] at htw3
    have HLb := hide hL
    clear hL
    have HTW3 := hide htw3
    have HBe3 := hide ((unhide HBek).trans hbe3)
    clear htw3 hbe3
    cases f with
    | false =>
      go_wp2_with fail
      refine (len_any (unhide HTW3)).mono ?_
      rintro e w' ⟨rfl, rfl⟩
      rename World => w5
      obtain ⟨a0, a1, a2, a3, a4, a5, a6, a7, a8⟩ := (unhide HTW3).cells
      have hdn := (unhide HI).done (unhide HC)
      rw [unhide HLb] at hdn
      have HDn := hide hdn
      clear hdn
      by_cases hlb : L.length = 0
      · have hd : decide ((0 : Int) < (L.length : Int)) = false := decide_eq_false (by omega)
        go_wp2_with fail
        obtain ⟨z0, z1, z2, z3⟩ := tw_final (unhide HTW3)
        obtain ⟨_, k1, k2, k3, k4⟩ := unhide HDn
        rw [flush_zero ps L hlb] at k1 k2 k3 k4
        refine bodyPost_ret (v := .tuple #[.agg #[.slice vx ps.length vc, .int .i64 ln], .nilIface]) (by simp [results, Tryd.results15, go_sem, z0, z1]) rfl (unhide HTr _ _ (.inl ⟨_, ps, ln, rfl, z2, k1, k2, k3, by rw [← unhide HL]; exact k4, (unhide HBe3).trans z3⟩))
      · have hd : decide ((0 : Int) < (L.length : Int)) = true := by simp; omega
        go_wp2_with fail
        go_region_law (first
          | (refine step_append_own rfl (.tmp 98) (.tmp 101) 29 rfl w.heap.size 62 i0 (.agg #[.string ⟨#[]⟩, .string ⟨#[]⟩]) 2 32 Tryd.underlying29 hi0 hz0 hz1 hz2 rfl (by decide) (.slice vx ps.length vc) ps.length (ptCells ps) (by simp [Act.eval]) ((unhide HTW6).2.2.2.2.1.alloc _) ⟨w6.heap.size, 0, none⟩ 1 1 [.string ⟨L.toArray⟩, .string ⟨#[]⟩] (by simp [Act.eval]) rfl (cells_new2 _ _ _ _) (by simp [Value.oneCell']) (by unfold maxLen; omega) (by omega) (by simp; have := (unhide HTW6).le; omega) ?_; intro v' w9 hown' hgrow _; obtain ⟨⟨g, cp, rfl⟩, n1, n2, n3, n4⟩ := (unhide HTW6).grown (L, []) hown' hgrow; have HTW9 := hide n3; have HBe9 := hide n4; clear hown' hgrow n3 n4)
          | (go_simp; go_at_call 20; refine (string_any (n := w.heap.size) (tb := w1.heap.size) (p := p) (src := src) (ps := ps) (lit := L) (v := .slice vx ps.length vc) (ln := ln) (by exact unhide HTW3)).mono ?_; rintro e w6 ⟨rfl, htw6, hbe6⟩; obtain ⟨b0, b1, b2, b3, b4, b5, b6, b7, b8⟩ := htw6.cells; have hlt6 := htw6.lt; have hne6 := Nat.ne_of_lt hlt6; have HTW6 := hide htw6; have HBe6 := hide hbe6; clear htw6 hbe6))
        all_goals
          obtain ⟨c0, c1, c2, c3, c4, c5, c6, c7, c8⟩ := (unhide HTW9).cells
          go_wp2_with fail
          obtain ⟨z0, z1, z2, z3⟩ := tw_final (unhide HTW9)
          obtain ⟨_, k1, k2, k3, k4⟩ := unhide HDn
          rw [flush_pos ps L hlb] at k1 k2 k3 k4
          refine bodyPost_ret (v := .tuple #[.agg #[.slice (some ⟨g, 0, none⟩) (ps.length + 1) cp, .int .i64 ln], .nilIface]) (by simp [results, Tryd.results15, go_sem, z0, z1]) rfl (unhide HTr _ _ (.inl ⟨_, _, ln, rfl, z2, k1, k2, k3, by rw [← unhide HL]; exact k4, (((unhide HBe3).drew.trans (unhide HBe6)).trans (unhide HBe9)).trans z3⟩))
    | true =>
      have hba3 := unhide HBA2 rfl
      clear HBA2
      go_wp2_with fail
      refine (cutPrefix_any a' w3).mono ?_
      cases hpx : Lib.hasPrefix a' D with
      | true =>
        rintro e w' ⟨rfl, rfl⟩
        rename World => w5
        have htp : Lib.trimPrefix a' D = a'.drop 2 := by unfold Lib.trimPrefix; rw [hpx]; rfl
        rw [htp]
        have hi2 := (unhide HI).escd (unhide HC) hpx
        rw [unhide HLb] at hi2
        have HI2 := hide hi2
        clear hi2
        go_wp2_with fail
        refine (write_any (unhide HTW3) [36, 36] (by simp; omega)).mono ?_
        rintro e w6 ⟨rfl, htw6, hbe6⟩
        have HTW6 := hide htw6
        have HBe6 := hide ((unhide HBe3).trans hbe6)
        clear htw6 hbe6
        go_wp2_with fail
        go_roundw
        case rel => exact ⟨_, ps, _, _, rfl, unhide HI2, unhide HTW6, unhide HBe6⟩
        case measure =>
          show strLen (.string ⟨(a'.drop 2).toArray⟩) < strLen (.string ⟨sl.toArray⟩)
          rw [strLen_str, strLen_str, List.length_drop]
          omega
      | false =>
        rintro e w' ⟨rfl, rfl⟩
        rename World => w5
        go_wp2_with fail
        refine (nameLength_any ⟨a'.toArray⟩ w5 (by show a'.toArray.size ≤ _; simp; omega)).mono ?_
        rintro e w' ⟨rfl, rfl⟩
        have hdl : (⟨a'.toArray⟩ : ByteArray).data.toList = a' := rfl
        rw [hdl]
        obtain ⟨N, hN⟩ : ∃ N, nameLen a' = N := ⟨_, rfl⟩
        obtain ⟨bad, hbad⟩ : ∃ bad : Bool, ((N == 0) || !(Lib.hasPrefix (a'.drop N) D)) = bad := ⟨_, rfl⟩
        have hNle : N ≤ a'.length := by rw [← hN]; exact nameLen_le a'
        rw [hN]
        have HN := hide hN
        have HBad := hide hbad
        clear hN hbad
        go_upto_region 12 with fail
        go_cut [51] from 23 to 94 (fun v wx => v = .bool bad ∧ wx = w5)
        case first =>
          by_cases hn0 : N = 0
          · subst hn0
            go_wp2_with fail
            go_meet
            case rel => exact ⟨by rw [← unhide HBad]; rfl, rfl⟩
          · have hnb : ((N : Int) == 0) = false := by rw [beq_eq_false_iff_ne]; omega
            have hNi : (N : Int) ≤ (a'.length : Int) := by omega
            have HPre := hide (bad_of (unhide HBad) hn0)
            go_wp2_with fail
            refine (hasPrefix_any _ _).mono ?_
            rw [ext_drop]
            rintro e w' ⟨rfl, rfl⟩
            go_wp2_with fail
            go_meet
            case rel => exact ⟨by rw [unhide HPre], rfl⟩
        case rest =>
          obtain ⟨rfl, rfl⟩ := hcut
          obtain ⟨a0, a1, a2, a3, a4, a5, a6, a7, a8⟩ := (unhide HTW3).cells
          cases bad with
          | true =>
            have hai : (src.size : Int) - (a'.length : Int) - 2 = ((src.size - a'.length - 2 : Nat) : Int) := by omega
            go_upto_region 14 with fail
            have hl0 : w.heap.size < wc.heap.size := by have := (unhide HTW3).2.1; exact (Array.getElem?_eq_some_iff.1 this).1
            have hl1 : w.heap.size + 1 < wc.heap.size := by have := (unhide HTW3).2.2.1; exact (Array.getElem?_eq_some_iff.1 this).1
            have hlp : p < wc.heap.size := by omega
            have hle : eb < wc.heap.size := by have := (unhide HE).lt; omega
            have d0 : wc.cell? ⟨eb, 0, none⟩ = some (.string ⟨#[112]⟩) := ((unhide HBe3).cell (by exact (unhide HE).lt)).trans (unhide HE).cells.1
            have d1 : wc.cell? ⟨0, 0, none⟩ = some (.iface gt gv) := ((unhide HBe3).cell (by show 0 < w.heap.size; omega)).trans (unhide H0)
            have hl2 : 0 < wc.heap.size := by omega
            have hebw : eb < w.heap.size := (unhide HE).lt
            have q4 : eb ≠ w.heap.size + 1 := by omega
            have q5 : w.heap.size + 1 ≠ eb := by omega
            have HPc3 := hide ((unhide HPc).below (unhide HBe3) hplt)
            go_region_held3 (fun w' => w'.cell? ⟨w.heap.size, 0, none⟩ = some (.string src) ∧ w'.cell? ⟨w.heap.size, 1, none⟩ = some (.slice (some ⟨p, 0, none⟩) 1 1) ∧ w'.cell? ⟨eb, 0, none⟩ = some (.string ⟨#[112]⟩) ∧ w'.cell? ⟨0, 0, none⟩ = some (.iface gt gv)) (first | go_keep | exact ⟨by go_keep, by go_keep, hk4 _ _ _, by go_keep⟩) (first
              | (go_at_call 21; refine (lineAt_any p (src.size - a'.length - 2) src _ (by exact unhide HPc3) (by omega) (by omega)).mono ?_; rintro e w6 ⟨⟨n6, rfl⟩, hb6⟩; have e0 := (hb6.cell (p := ⟨w.heap.size, 0, none⟩) (by exact hl0)).trans a0; have e1 := (hb6.cell (p := ⟨w.heap.size, 1, none⟩) (by exact hl0)).trans a1; have e2 := (hb6.cell (p := ⟨eb, 0, none⟩) (by exact hle)).trans d0; have e3 := (hb6.cell (p := ⟨0, 0, none⟩) (by exact hl2)).trans d1; have e4 := (hb6.cell (p := ⟨w.heap.size + 1, 0, none⟩) (by exact hl1)).trans a2; have e5 := (hb6.cell (p := ⟨w.heap.size + 1, 1, none⟩) (by exact hl1)).trans a3; have f4 := (hb6.frozen (p := ⟨w.heap.size + 1, 0, none⟩) (by exact hl1)).trans a4; have f5 := (hb6.frozen (p := ⟨w.heap.size + 1, 1, none⟩) (by exact hl1)).trans a5; have m1 : w.heap.size + 1 < w6.heap.size := Nat.lt_of_lt_of_le hl1 hb6.size; have m0 : w.heap.size < w6.heap.size := Nat.lt_of_lt_of_le hl0 hb6.size; have m2 : eb < w6.heap.size := Nat.lt_of_lt_of_le hle hb6.size; have m3 : 0 < w6.heap.size := Nat.lt_of_lt_of_le hl2 hb6.size; have q1 := Nat.ne_of_lt m1; have q0 := Nat.ne_of_lt m0; have q2 := Nat.ne_of_lt m2; have q3 := Nat.ne_of_lt m3; have hk4 := keep3 q4 m2 e2; have HB6 := hide hb6; clear hb6))
            all_goals
              obtain ⟨z0, z1⟩ := fin2 (o := .cells #[.int .i64 n6, .string ⟨#[112]⟩, .string ⟨#[118]⟩, .iface gt gv] 73) m1 e4 e5 (.slice none 0 0) (.int .i64 0)
              go_wp2_with fail
              refine bodyPost_ret (v := .tuple #[.agg #[.slice none 0 0, .int .i64 0], .iface 71 (.pointer (some ⟨w6.heap.size, 0, none⟩))]) (by simp [results, Tryd.results15, go_sem, z0, z1]) rfl (unhide HTr _ _ (.inr ⟨71, _, rfl, fun h => (unhide HI).bad (unhide HC) h (bad_yes (unhide HN) (unhide HBad)), ?_⟩))
              have hb6 := unhide HB6
              have : Below w.heap.size w w6 := (unhide HBe3).drew.trans (hb6.mono (Nat.le_of_lt hl0))
              exact ((this.setCell (by show w.heap.size ≤ w.heap.size + 1; omega) _).setCell (by show w.heap.size ≤ w.heap.size + 1; omega) _).alloc (by simp [World.setCell]; omega) _
          | false =>
            have HN0 : Hid (N ≠ 0 ∧ Lib.hasPrefix (a'.drop N) D = true) := hide (bad_not (unhide HBad))
            clear HBad
            go_upto_if 73 with ((go_at_call 25; refine (len_any (unhide HTW3)).mono ?_; rintro e w' ⟨rfl, rfl⟩))
            have HTW4 := HTW3
            clear HTW3
            go_cut [] from 23 to 94 (fun wx => ∃ vx' vc', TW w.heap.size w1.heap.size p src (flush ps L) [] (.slice vx' (flush ps L).length vc') ln wx ∧ Below w.heap.size w wx)
            case first =>
              by_cases hlb : L.length = 0
              · have hd : decide ((0 : Int) < (L.length : Int)) = false := decide_eq_false (by omega)
                go_wp2_with fail
                go_meet
                case rel =>
                  obtain rfl : L = [] := List.eq_nil_of_length_eq_zero hlb
                  exact ⟨vx, vc, unhide HTW4, unhide HBe3⟩
              · have hd : decide ((0 : Int) < (L.length : Int)) = true := by simp; omega
                go_wp2_with fail
                go_region_law (first
                  | (refine step_append_own rfl (.tmp 75) (.tmp 78) 29 rfl w.heap.size 62 i0 (.agg #[.string ⟨#[]⟩, .string ⟨#[]⟩]) 2 32 Tryd.underlying29 hi0 hz0 hz1 hz2 rfl (by decide) (.slice vx ps.length vc) ps.length (ptCells ps) (by simp [Act.eval]) ((unhide HTW6).2.2.2.2.1.alloc _) ⟨w6.heap.size, 0, none⟩ 1 1 [.string ⟨L.toArray⟩, .string ⟨#[]⟩] (by simp [Act.eval]) rfl (cells_new2 _ _ _ _) (by simp [Value.oneCell']) (by unfold maxLen; omega) (by omega) (by simp; have := (unhide HTW6).le; omega) ?_; intro v' w9 hown' hgrow _; obtain ⟨⟨g, cp, rfl⟩, n1, n2, n3, n4⟩ := (unhide HTW6).grown (L, []) hown' hgrow; have HTW9 := hide n3; have HBe9 := hide n4; clear hown' hgrow n3 n4)
                  | (go_simp; go_at_call 20; refine (string_any (n := w.heap.size) (tb := w1.heap.size) (p := p) (src := src) (ps := ps) (lit := L) (v := .slice vx ps.length vc) (ln := ln) (by exact unhide HTW4)).mono ?_; rintro e w6 ⟨rfl, htw6, hbe6⟩; obtain ⟨b0, b1, b2, b3, b4, b5, b6, b7, b8⟩ := htw6.cells; have hlt6 := htw6.lt; have hne6 := Nat.ne_of_lt hlt6; have HTW6 := hide htw6; have HBe6 := hide hbe6; clear htw6 hbe6))
                all_goals
                  go_wp2_with fail
                  refine (treset_any (unhide HTW9)).mono ?_
                  rintro e w10 ⟨rfl, htw10, hbe10⟩
                  have HTW10 := hide htw10
                  have HBe10 := hide hbe10
                  clear htw10 hbe10
                  go_wp2_with fail
                  go_meet
                  case rel =>
                    rw [flush_pos ps L hlb]
                    refine ⟨some ⟨g, 0, none⟩, cp, ?_, (((unhide HBe3).drew.trans (unhide HBe6)).trans (unhide HBe9)).trans (unhide HBe10)⟩
                    rw [snoc_len]
                    exact unhide HTW10
            case rest =>
              obtain ⟨vx', vc', htw', hbe'⟩ := hcut
              have hi2 := (unhide HI).var (unhide HC) (by rw [unhide HN]; exact (unhide HN0).1) (by rw [unhide HN]; exact (unhide HN0).2)
              rw [unhide HLb, unhide HN] at hi2
              have hfl := flush_len ps L
              have hrm := hi2.room
              rw [unhide HL] at hrm
              have hrm2 : (flush ps L).length + 1 ≤ src.size := by simp at hrm; omega
              generalize flush ps L = fs at *
              have HTW5 := hide htw'
              have HBe5 := hide hbe'
              have hNi : (N : Int) ≤ (a'.length : Int) := by omega
              have hN2 := (unhide HN0).2
              have hN3 : N + 2 ≤ a'.length := by
                have := congrArg List.length (pre_split hN2)
                simp [D] at this
                omega
              obtain ⟨M, hM⟩ : ∃ M, N + 2 = M := ⟨_, rfl⟩
              have hM1 : (N : Int) + 2 = (M : Int) := by omega
              have hM2 : (M : Int) ≤ (a'.length : Int) := by omega
              rw [hM] at hi2
              have hM3 : 2 ≤ M := by omega
              clear hM
              have HI2 := hide hi2
              have hlt5 := htw'.lt
              have hne5 := Nat.ne_of_lt hlt5
              obtain ⟨b0, b1, b2, b3, b4, b5, b6, b7, b8⟩ := htw'.cells
              clear a0 a1 a2 a3 a4 a5 a6 a7 a8 hi2 htw' hbe' hN2 hrm hfl
              go_wp2_with fail
              have HO5 : Hid (((wc.alloc (.cells #[.string ⟨#[]⟩, .string ((⟨a'.toArray⟩ : ByteArray).extract 0 N)] 62)).drew).ownsRow w.heap.size 62 2 (.slice vx' fs.length vc') fs.length (ptCells fs)) := hide (by exact (unhide HTW5).2.2.2.2.1.alloc _)
              have HC5 : Hid (∀ (j : Nat) (u : Value), ([.string ⟨#[]⟩, .string ((⟨a'.toArray⟩ : ByteArray).extract 0 N)] : List Value)[j]? = some u → ((wc.alloc (.cells #[.string ⟨#[]⟩, .string ((⟨a'.toArray⟩ : ByteArray).extract 0 N)] 62)).drew).cell? ((⟨wc.heap.size, 0, none⟩ : Addr).add j) = some u) := hide (by exact cells_new2 _ _ _ _)
              have hbs : w.heap.size ≤ ((wc.alloc (.cells #[.string ⟨#[]⟩, .string ((⟨a'.toArray⟩ : ByteArray).extract 0 N)] 62)).drew).heap.size := by
                have := (unhide HTW5).le
                simp
                omega
              have HBs := hide hbs
              clear hbs
              go_region_law (first
                | (refine step_append_own rfl (.tmp 83) (.tmp 88) 29 rfl w.heap.size 62 i0 (.agg #[.string ⟨#[]⟩, .string ⟨#[]⟩]) 2 32 Tryd.underlying29 hi0 hz0 hz1 hz2 rfl (by decide) (.slice vx' fs.length vc') fs.length (ptCells fs) (by simp [Act.eval]) (unhide HO5) ⟨wc.heap.size, 0, none⟩ 1 1 [.string ⟨#[]⟩, .string ((⟨a'.toArray⟩ : ByteArray).extract 0 N)] (by simp [Act.eval]) rfl (unhide HC5) (by simp [Value.oneCell']) (by unfold maxLen; omega) (by omega) (unhide HBs) ?_; intro v' w9 hown' hgrow _; obtain ⟨⟨g, cp, rfl⟩, n1, n2, n3, n4⟩ := (unhide HTW5).grownD a' N v' w9 hown' hgrow; have HTW9 := hide n3; have HBe9 := hide n4; clear hown' hgrow n3 n4))
              all_goals
                go_wp2_with fail
                rw [ext_drop2]
                go_roundw
                case rel => exact ⟨_, _, _, _, rfl, unhide HI2, unhide HTW9, (unhide HBe5).trans (unhide HBe9)⟩
                case measure =>
                  show strLen (.string ⟨(a'.drop M).toArray⟩) < strLen (.string ⟨sl.toArray⟩)
                  rw [strLen_str, strLen_str, List.length_drop]
                  omega
end Go.Proofs.Qxb6613649aDoor
