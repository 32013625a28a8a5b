import Derived.Test.Qxb6613649aDoorW12
namespace Go.Proofs.Qxb6613649aDoor
open Go.RowKit

theorem cat2 (a b : List UInt8) : (⟨⟨a⟩⟩ : ByteArray) ++ ⟨⟨b⟩⟩ = ⟨(a ++ b).toArray⟩ := by
  apply ByteArray.ext
  simp
theorem cat1 (a b : List UInt8) : (⟨⟨a⟩⟩ : ByteArray).extract 0 1 ++ ⟨⟨b⟩⟩ = ⟨(a.take 1 ++ b).toArray⟩ := by
  rw [show (⟨⟨a⟩⟩ : ByteArray) = ⟨a.toArray⟩ from rfl, ext_take]
  exact cat2 _ _

set_option maxRecDepth 100000 in
set_option maxHeartbeats 1000000 in
theorem law_cut (a b : ByteArray) (gt : TypeId) (gv : Value) (m : Int) (w : World) (h0 : w.cell? ⟨0, 0, none⟩ = some (.iface gt gv)) (h1 : w.cell? ⟨1, 0, none⟩ = some (.int .i64 m)) :
    Calls Tryd.prog 4 #[.string a, .string b] w fun e w' => e = .returned (.bool true) ∧ Below w.heap.size w w' := by
  obtain ⟨⟨la⟩⟩ := a
  obtain ⟨⟨lb⟩⟩ := b
  have H0 := hide h0
  have H1 := hide h1
  clear h0 h1
  have hsa : (⟨⟨la⟩⟩ : ByteArray).size = la.length := rfl
  have hsb : (⟨⟨lb⟩⟩ : ByteArray).size = lb.length := rfl
  by_cases h : la.length + lb.length ≤ 1048576
  · have hd : decide ((⟨⟨la⟩⟩ : ByteArray).size + (⟨⟨lb⟩⟩ : ByteArray).size ≤ 1048576) = true := decide_eq_true (by rw [hsa, hsb]; exact h)
    have HD := hide hd
    clear hd hsa hsb
    by_cases ha : la.length ≤ 524288
    · have ha1 : decide ((524288 : Int) < (la.length : Int)) = false := decide_eq_false (by omega)
      by_cases hb : lb.length ≤ 524288
      · have hb1 : decide ((524288 : Int) < (lb.length : Int)) = false := decide_eq_false (by omega)
        cases hem : la.isEmpty with
        | true =>
          obtain rfl : la = [] := by simpa using hem
          clear hem
          go_enter Tryd.func4, Tryd.ntmps4
          go_wp2_with fail
          refine (zzBytes2_any _ _ _).mono ?_
          rw [unhide HD]
          rintro e w' ⟨rfl, rfl⟩
          go_wp2_with fail
          go_ret
          exact ⟨rfl, Below.refl _ _⟩
        | false =>
          have hne : la ≠ [] := by intro e; rw [e] at hem; cases hem
          have hpos : 0 < la.length := List.length_pos_iff.2 hne
          have hp1 : (1 : Int) ≤ (la.length : Int) := by omega
          have hc1 : ¬ 9223372036854775807 < la.length + lb.length := by omega
          have hc2 : ¬ 9223372036854775807 < 1 + lb.length := by omega
          have HLaw := hide (isName_append la lb hne)
          have HI1 := hide (isName_any ⟨(la ++ lb).toArray⟩ w (by show (la ++ lb).toArray.size ≤ _; simp; omega))
          have HI2 := hide (isName_any ⟨la.toArray⟩ w (by show la.toArray.size ≤ _; simp; omega))
          have HI3 := hide (isName_any ⟨(la.take 1 ++ lb).toArray⟩ w (by show (la.take 1 ++ lb).toArray.size ≤ _; simp; omega))
          have HLen : Hid ((la ++ lb).length ≤ 1048576) := hide (by simp; omega)
          clear h ha hb hne hpos
          go_enter Tryd.func4, Tryd.ntmps4
          go_wp2_with fail
          refine (zzBytes2_any _ _ _).mono ?_
          rw [unhide HD]
          rintro e w' ⟨rfl, rfl⟩
          go_wp2_with fail
          rw [cat2]
          refine (unhide HI1).mono ?_
          rintro e w' ⟨rfl, rfl⟩
          go_wp2_with fail
          refine (unhide HI2).mono ?_
          have hlaw := unhide HLaw
          cases hn : isName la with
          | true =>
            rw [hn, Bool.true_and] at hlaw
            rw [hlaw]
            have HL2 := hide hlaw
            rintro e w' ⟨rfl, rfl⟩
            clear hlaw
            go_wp2_with fail
            rw [cat1]
            refine (unhide HI3).mono ?_
            rintro e w' ⟨rfl, rfl⟩
            go_wp2_with fail
            refine (placeholder_any (la ++ lb) gt gv m w (unhide H0) (unhide H1) (unhide HLen)).mono ?_
            rw [unhide HL2]
            rintro e w1 ⟨rfl, hb1⟩
            have HB1 := hide hb1
            clear hb1
            go_wp2_with fail
            go_ret
            exact ⟨ret_bool (by simp), unhide HB1⟩
          | false =>
            rw [hn, Bool.false_and] at hlaw
            rw [hlaw]
            have HL2 := hide hlaw
            rintro e w' ⟨rfl, rfl⟩
            clear hlaw
            go_wp2_with fail
            refine (placeholder_any (la ++ lb) gt gv m w (unhide H0) (unhide H1) (unhide HLen)).mono ?_
            rw [unhide HL2]
            rintro e w1 ⟨rfl, hb1⟩
            have HB1 := hide hb1
            clear hb1
            go_wp2_with fail
            go_ret
            exact ⟨ret_bool (by simp), unhide HB1⟩
      · have hb1 : decide ((524288 : Int) < (lb.length : Int)) = true := decide_eq_true (by omega)
        go_enter Tryd.func4, Tryd.ntmps4
        go_wp2_with fail
        refine (zzBytes2_any _ _ _).mono ?_
        rw [unhide HD]
        rintro e w' ⟨rfl, rfl⟩
        go_wp2_with fail
        go_ret
        exact ⟨rfl, Below.refl _ _⟩
    · have ha1 : decide ((524288 : Int) < (la.length : Int)) = true := decide_eq_true (by omega)
      go_enter Tryd.func4, Tryd.ntmps4
      go_wp2_with fail
      refine (zzBytes2_any _ _ _).mono ?_
      rw [unhide HD]
      rintro e w' ⟨rfl, rfl⟩
      go_wp2_with fail
      go_ret
      exact ⟨rfl, Below.refl _ _⟩
  · have hd : decide ((⟨⟨la⟩⟩ : ByteArray).size + (⟨⟨lb⟩⟩ : ByteArray).size ≤ 1048576) = false := decide_eq_false (by rw [hsa, hsb]; exact h)
    have HD := hide hd
    clear hd hsa hsb
    go_enter Tryd.func4, Tryd.ntmps4
    go_wp2_with fail
    refine (zzBytes2_any _ _ _).mono ?_
    rw [unhide HD]
    rintro e w' ⟨rfl, rfl⟩
    go_wp2_with fail
    go_ret
    exact ⟨rfl, Below.refl _ _⟩
end Go.Proofs.Qxb6613649aDoor
