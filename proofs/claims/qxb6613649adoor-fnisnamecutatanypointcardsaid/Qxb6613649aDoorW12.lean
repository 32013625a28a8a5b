import Derived.Test.Qxb6613649aDoorW11
namespace Go.Proofs.Qxb6613649aDoor
open Go.RowKit

theorem zzBytes1_any (s : ByteArray) (w : World) : Calls Tryd.prog 5 #[.string s] w fun e w' => e = .returned (.bool (decide (s.size ≤ 1048576))) ∧ w = w' := by
  by_cases h : s.size ≤ 1048576
  · have h1 : decide ((1048576 : Int) < (s.size : Int)) = false := decide_eq_false (by omega)
    rw [decide_eq_true h]
    go_enter Tryd.func5, Tryd.ntmps5
    go_wp2_with fail
    go_ret
    exact ⟨rfl, rfl⟩
  · have h1 : decide ((1048576 : Int) < (s.size : Int)) = true := decide_eq_true (by omega)
    rw [decide_eq_false h]
    go_enter Tryd.func5, Tryd.ntmps5
    go_wp2_with fail
    go_ret
    exact ⟨rfl, rfl⟩

theorem zzBytes2_any (a b : ByteArray) (w : World) : Calls Tryd.prog 8 #[.string a, .string b] w fun e w' => e = .returned (.bool (decide (a.size + b.size ≤ 1048576))) ∧ w = w' := by
  by_cases h : a.size ≤ 1048576
  · have h1 : decide ((1048576 : Int) < (a.size : Int)) = false := decide_eq_false (by omega)
    by_cases h2 : b.size ≤ 1048576
    · have h3 : decide ((1048576 : Int) < (b.size : Int)) = false := decide_eq_false (by omega)
      by_cases h4 : a.size + b.size ≤ 1048576
      · have h5 : decide ((1048576 : Int) < (a.size : Int) + (b.size : Int)) = false := decide_eq_false (by omega)
        rw [decide_eq_true h4]
        go_enter Tryd.func8, Tryd.ntmps8
        go_wp2_with fail
        go_ret
        exact ⟨rfl, rfl⟩
      · have h5 : decide ((1048576 : Int) < (a.size : Int) + (b.size : Int)) = true := decide_eq_true (by omega)
        rw [decide_eq_false h4]
        go_enter Tryd.func8, Tryd.ntmps8
        go_wp2_with fail
        go_ret
        exact ⟨rfl, rfl⟩
    · have h3 : decide ((1048576 : Int) < (b.size : Int)) = true := decide_eq_true (by omega)
      rw [decide_eq_false (by omega)]
      go_enter Tryd.func8, Tryd.ntmps8
      go_wp2_with fail
      go_ret
      exact ⟨rfl, rfl⟩
  · have h1 : decide ((1048576 : Int) < (a.size : Int)) = true := decide_eq_true (by omega)
    rw [decide_eq_false (by omega)]
    go_enter Tryd.func8, Tryd.ntmps8
    go_wp2_with fail
    go_ret
    exact ⟨rfl, rfl⟩

theorem law_iff (s : ByteArray) (gt : TypeId) (gv : Value) (m : Int) (w : World) (h0 : w.cell? ⟨0, 0, none⟩ = some (.iface gt gv)) (h1 : w.cell? ⟨1, 0, none⟩ = some (.int .i64 m)) :
    Calls Tryd.prog 3 #[.string s] w fun e w' => e = .returned (.bool true) ∧ Below w.heap.size w w' := by
  obtain ⟨⟨l⟩⟩ := s
  have hsz : (⟨⟨l⟩⟩ : ByteArray).size = l.length := rfl
  have H0 := hide h0
  have H1 := hide h1
  clear h0 h1
  by_cases h : l.length ≤ 1048576
  · have hd : decide ((⟨⟨l⟩⟩ : ByteArray).size ≤ 1048576) = true := decide_eq_true (by rw [hsz]; exact h)
    have h1 : decide ((1048576 : Int) < (l.length : Int)) = false := decide_eq_false (by omega)
    go_enter Tryd.func3, Tryd.ntmps3
    go_wp2_with fail
    refine (zzBytes1_any _ _).mono ?_
    rw [hd]
    rintro e w' ⟨rfl, rfl⟩
    clear hd hsz
    go_wp2_with fail
    refine (placeholder_any l gt gv m w (unhide H0) (unhide H1) h).mono ?_
    rintro e w1 ⟨rfl, hb1⟩
    have HB1 := hide hb1
    clear hb1
    go_wp2_with fail
    refine (isName_any ⟨⟨l⟩⟩ w1 (by show l.length ≤ _; omega)).mono ?_
    rintro e w' ⟨rfl, rfl⟩
    go_wp2_with fail
    go_ret
    exact ⟨ret_bool (by simp), unhide HB1⟩
  · have hd : decide ((⟨⟨l⟩⟩ : ByteArray).size ≤ 1048576) = false := decide_eq_false (by rw [hsz]; exact h)
    go_enter Tryd.func3, Tryd.ntmps3
    go_wp2_with fail
    refine (zzBytes1_any _ _).mono ?_
    rw [hd]
    rintro e w' ⟨rfl, rfl⟩
    clear hd hsz
    go_wp2_with fail
    go_ret
    exact ⟨rfl, Below.refl _ _⟩
end Go.Proofs.Qxb6613649aDoor
