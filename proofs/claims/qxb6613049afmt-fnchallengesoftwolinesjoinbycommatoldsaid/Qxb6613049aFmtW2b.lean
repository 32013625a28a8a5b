import Derived.Test.Qxb6613049aFmtW2
namespace Go.Proofs.Qxb6613049aFmt
open Go.RowKit

theorem tch_no (c : UInt8) (ha : alnum c = false) : tch c = [33, 35, 36, 37, 38, 39, 42, 43, 45, 46, 94, 95, 96, 124, 126].contains c := by unfold tch; rw [ha, Bool.false_or]
theorem tchar_33 (c : UInt8) (w : World) (ha : alnum c = false) (hc : c = 33) :
    Calls Tryf.prog 21 #[.int .u8 (c.toNat : Int)] w fun e w' => e = .returned (.bool true) ∧ w = w' := by
  have e33 : ((c.toNat : Int) == 33) = true := (u8_beq c 33).trans (by rw [hc]; rfl)
  clear hc
  go_enter Tryf.func21, Tryf.ntmps21
  go_wp2_with fail
  refine (zzIsAlnum_any _ w).mono ?_
  rw [ha]
  rintro e w' ⟨rfl, rfl⟩
  go_wp2
  go_ret
  exact ⟨rfl, rfl⟩
theorem tchar_35 (c : UInt8) (w : World) (ha : alnum c = false) (hc : c = 35) :
    Calls Tryf.prog 21 #[.int .u8 (c.toNat : Int)] w fun e w' => e = .returned (.bool true) ∧ w = w' := by
  have e33 : ((c.toNat : Int) == 33) = false := (u8_beq c 33).trans (by rw [hc]; rfl)
  have e35 : ((c.toNat : Int) == 35) = true := (u8_beq c 35).trans (by rw [hc]; rfl)
  clear hc
  go_enter Tryf.func21, Tryf.ntmps21
  go_wp2_with fail
  refine (zzIsAlnum_any _ w).mono ?_
  rw [ha]
  rintro e w' ⟨rfl, rfl⟩
  go_wp2
  go_ret
  exact ⟨rfl, rfl⟩
theorem tchar_36 (c : UInt8) (w : World) (ha : alnum c = false) (hc : c = 36) :
    Calls Tryf.prog 21 #[.int .u8 (c.toNat : Int)] w fun e w' => e = .returned (.bool true) ∧ w = w' := by
  have e33 : ((c.toNat : Int) == 33) = false := (u8_beq c 33).trans (by rw [hc]; rfl)
  have e35 : ((c.toNat : Int) == 35) = false := (u8_beq c 35).trans (by rw [hc]; rfl)
  have e36 : ((c.toNat : Int) == 36) = true := (u8_beq c 36).trans (by rw [hc]; rfl)
  clear hc
  go_enter Tryf.func21, Tryf.ntmps21
  go_wp2_with fail
  refine (zzIsAlnum_any _ w).mono ?_
  rw [ha]
  rintro e w' ⟨rfl, rfl⟩
  go_wp2
  go_ret
  exact ⟨rfl, rfl⟩
theorem tchar_37 (c : UInt8) (w : World) (ha : alnum c = false) (hc : c = 37) :
    Calls Tryf.prog 21 #[.int .u8 (c.toNat : Int)] w fun e w' => e = .returned (.bool true) ∧ w = w' := by
  have e33 : ((c.toNat : Int) == 33) = false := (u8_beq c 33).trans (by rw [hc]; rfl)
  have e35 : ((c.toNat : Int) == 35) = false := (u8_beq c 35).trans (by rw [hc]; rfl)
  have e36 : ((c.toNat : Int) == 36) = false := (u8_beq c 36).trans (by rw [hc]; rfl)
  have e37 : ((c.toNat : Int) == 37) = true := (u8_beq c 37).trans (by rw [hc]; rfl)
  clear hc
  go_enter Tryf.func21, Tryf.ntmps21
  go_wp2_with fail
  refine (zzIsAlnum_any _ w).mono ?_
  rw [ha]
  rintro e w' ⟨rfl, rfl⟩
  go_wp2
  go_ret
  exact ⟨rfl, rfl⟩
theorem tchar_38 (c : UInt8) (w : World) (ha : alnum c = false) (hc : c = 38) :
    Calls Tryf.prog 21 #[.int .u8 (c.toNat : Int)] w fun e w' => e = .returned (.bool true) ∧ w = w' := by
  have e33 : ((c.toNat : Int) == 33) = false := (u8_beq c 33).trans (by rw [hc]; rfl)
  have e35 : ((c.toNat : Int) == 35) = false := (u8_beq c 35).trans (by rw [hc]; rfl)
  have e36 : ((c.toNat : Int) == 36) = false := (u8_beq c 36).trans (by rw [hc]; rfl)
  have e37 : ((c.toNat : Int) == 37) = false := (u8_beq c 37).trans (by rw [hc]; rfl)
  have e38 : ((c.toNat : Int) == 38) = true := (u8_beq c 38).trans (by rw [hc]; rfl)
  clear hc
  go_enter Tryf.func21, Tryf.ntmps21
  go_wp2_with fail
  refine (zzIsAlnum_any _ w).mono ?_
  rw [ha]
  rintro e w' ⟨rfl, rfl⟩
  go_wp2
  go_ret
  exact ⟨rfl, rfl⟩
theorem tchar_39 (c : UInt8) (w : World) (ha : alnum c = false) (hc : c = 39) :
    Calls Tryf.prog 21 #[.int .u8 (c.toNat : Int)] w fun e w' => e = .returned (.bool true) ∧ w = w' := by
  have e33 : ((c.toNat : Int) == 33) = false := (u8_beq c 33).trans (by rw [hc]; rfl)
  have e35 : ((c.toNat : Int) == 35) = false := (u8_beq c 35).trans (by rw [hc]; rfl)
  have e36 : ((c.toNat : Int) == 36) = false := (u8_beq c 36).trans (by rw [hc]; rfl)
  have e37 : ((c.toNat : Int) == 37) = false := (u8_beq c 37).trans (by rw [hc]; rfl)
  have e38 : ((c.toNat : Int) == 38) = false := (u8_beq c 38).trans (by rw [hc]; rfl)
  have e39 : ((c.toNat : Int) == 39) = true := (u8_beq c 39).trans (by rw [hc]; rfl)
  clear hc
  go_enter Tryf.func21, Tryf.ntmps21
  go_wp2_with fail
  refine (zzIsAlnum_any _ w).mono ?_
  rw [ha]
  rintro e w' ⟨rfl, rfl⟩
  go_wp2
  go_ret
  exact ⟨rfl, rfl⟩
theorem tchar_42 (c : UInt8) (w : World) (ha : alnum c = false) (hc : c = 42) :
    Calls Tryf.prog 21 #[.int .u8 (c.toNat : Int)] w fun e w' => e = .returned (.bool true) ∧ w = w' := by
  have e33 : ((c.toNat : Int) == 33) = false := (u8_beq c 33).trans (by rw [hc]; rfl)
  have e35 : ((c.toNat : Int) == 35) = false := (u8_beq c 35).trans (by rw [hc]; rfl)
  have e36 : ((c.toNat : Int) == 36) = false := (u8_beq c 36).trans (by rw [hc]; rfl)
  have e37 : ((c.toNat : Int) == 37) = false := (u8_beq c 37).trans (by rw [hc]; rfl)
  have e38 : ((c.toNat : Int) == 38) = false := (u8_beq c 38).trans (by rw [hc]; rfl)
  have e39 : ((c.toNat : Int) == 39) = false := (u8_beq c 39).trans (by rw [hc]; rfl)
  have e42 : ((c.toNat : Int) == 42) = true := (u8_beq c 42).trans (by rw [hc]; rfl)
  clear hc
  go_enter Tryf.func21, Tryf.ntmps21
  go_wp2_with fail
  refine (zzIsAlnum_any _ w).mono ?_
  rw [ha]
  rintro e w' ⟨rfl, rfl⟩
  go_wp2
  go_ret
  exact ⟨rfl, rfl⟩
theorem tchar_43 (c : UInt8) (w : World) (ha : alnum c = false) (hc : c = 43) :
    Calls Tryf.prog 21 #[.int .u8 (c.toNat : Int)] w fun e w' => e = .returned (.bool true) ∧ w = w' := by
  have e33 : ((c.toNat : Int) == 33) = false := (u8_beq c 33).trans (by rw [hc]; rfl)
  have e35 : ((c.toNat : Int) == 35) = false := (u8_beq c 35).trans (by rw [hc]; rfl)
  have e36 : ((c.toNat : Int) == 36) = false := (u8_beq c 36).trans (by rw [hc]; rfl)
  have e37 : ((c.toNat : Int) == 37) = false := (u8_beq c 37).trans (by rw [hc]; rfl)
  have e38 : ((c.toNat : Int) == 38) = false := (u8_beq c 38).trans (by rw [hc]; rfl)
  have e39 : ((c.toNat : Int) == 39) = false := (u8_beq c 39).trans (by rw [hc]; rfl)
  have e42 : ((c.toNat : Int) == 42) = false := (u8_beq c 42).trans (by rw [hc]; rfl)
  have e43 : ((c.toNat : Int) == 43) = true := (u8_beq c 43).trans (by rw [hc]; rfl)
  clear hc
  go_enter Tryf.func21, Tryf.ntmps21
  go_wp2_with fail
  refine (zzIsAlnum_any _ w).mono ?_
  rw [ha]
  rintro e w' ⟨rfl, rfl⟩
  go_wp2
  go_ret
  exact ⟨rfl, rfl⟩
theorem tchar_45 (c : UInt8) (w : World) (ha : alnum c = false) (hc : c = 45) :
    Calls Tryf.prog 21 #[.int .u8 (c.toNat : Int)] w fun e w' => e = .returned (.bool true) ∧ w = w' := by
  have e33 : ((c.toNat : Int) == 33) = false := (u8_beq c 33).trans (by rw [hc]; rfl)
  have e35 : ((c.toNat : Int) == 35) = false := (u8_beq c 35).trans (by rw [hc]; rfl)
  have e36 : ((c.toNat : Int) == 36) = false := (u8_beq c 36).trans (by rw [hc]; rfl)
  have e37 : ((c.toNat : Int) == 37) = false := (u8_beq c 37).trans (by rw [hc]; rfl)
  have e38 : ((c.toNat : Int) == 38) = false := (u8_beq c 38).trans (by rw [hc]; rfl)
  have e39 : ((c.toNat : Int) == 39) = false := (u8_beq c 39).trans (by rw [hc]; rfl)
  have e42 : ((c.toNat : Int) == 42) = false := (u8_beq c 42).trans (by rw [hc]; rfl)
  have e43 : ((c.toNat : Int) == 43) = false := (u8_beq c 43).trans (by rw [hc]; rfl)
  have e45 : ((c.toNat : Int) == 45) = true := (u8_beq c 45).trans (by rw [hc]; rfl)
  clear hc
  go_enter Tryf.func21, Tryf.ntmps21
  go_wp2_with fail
  refine (zzIsAlnum_any _ w).mono ?_
  rw [ha]
  rintro e w' ⟨rfl, rfl⟩
  go_wp2
  go_ret
  exact ⟨rfl, rfl⟩
theorem tchar_46 (c : UInt8) (w : World) (ha : alnum c = false) (hc : c = 46) :
    Calls Tryf.prog 21 #[.int .u8 (c.toNat : Int)] w fun e w' => e = .returned (.bool true) ∧ w = w' := by
  have e33 : ((c.toNat : Int) == 33) = false := (u8_beq c 33).trans (by rw [hc]; rfl)
  have e35 : ((c.toNat : Int) == 35) = false := (u8_beq c 35).trans (by rw [hc]; rfl)
  have e36 : ((c.toNat : Int) == 36) = false := (u8_beq c 36).trans (by rw [hc]; rfl)
  have e37 : ((c.toNat : Int) == 37) = false := (u8_beq c 37).trans (by rw [hc]; rfl)
  have e38 : ((c.toNat : Int) == 38) = false := (u8_beq c 38).trans (by rw [hc]; rfl)
  have e39 : ((c.toNat : Int) == 39) = false := (u8_beq c 39).trans (by rw [hc]; rfl)
  have e42 : ((c.toNat : Int) == 42) = false := (u8_beq c 42).trans (by rw [hc]; rfl)
  have e43 : ((c.toNat : Int) == 43) = false := (u8_beq c 43).trans (by rw [hc]; rfl)
  have e45 : ((c.toNat : Int) == 45) = false := (u8_beq c 45).trans (by rw [hc]; rfl)
  have e46 : ((c.toNat : Int) == 46) = true := (u8_beq c 46).trans (by rw [hc]; rfl)
  clear hc
  go_enter Tryf.func21, Tryf.ntmps21
  go_wp2_with fail
  refine (zzIsAlnum_any _ w).mono ?_
  rw [ha]
  rintro e w' ⟨rfl, rfl⟩
  go_wp2
  go_ret
  exact ⟨rfl, rfl⟩
theorem tchar_94 (c : UInt8) (w : World) (ha : alnum c = false) (hc : c = 94) :
    Calls Tryf.prog 21 #[.int .u8 (c.toNat : Int)] w fun e w' => e = .returned (.bool true) ∧ w = w' := by
  have e33 : ((c.toNat : Int) == 33) = false := (u8_beq c 33).trans (by rw [hc]; rfl)
  have e35 : ((c.toNat : Int) == 35) = false := (u8_beq c 35).trans (by rw [hc]; rfl)
  have e36 : ((c.toNat : Int) == 36) = false := (u8_beq c 36).trans (by rw [hc]; rfl)
  have e37 : ((c.toNat : Int) == 37) = false := (u8_beq c 37).trans (by rw [hc]; rfl)
  have e38 : ((c.toNat : Int) == 38) = false := (u8_beq c 38).trans (by rw [hc]; rfl)
  have e39 : ((c.toNat : Int) == 39) = false := (u8_beq c 39).trans (by rw [hc]; rfl)
  have e42 : ((c.toNat : Int) == 42) = false := (u8_beq c 42).trans (by rw [hc]; rfl)
  have e43 : ((c.toNat : Int) == 43) = false := (u8_beq c 43).trans (by rw [hc]; rfl)
  have e45 : ((c.toNat : Int) == 45) = false := (u8_beq c 45).trans (by rw [hc]; rfl)
  have e46 : ((c.toNat : Int) == 46) = false := (u8_beq c 46).trans (by rw [hc]; rfl)
  have e94 : ((c.toNat : Int) == 94) = true := (u8_beq c 94).trans (by rw [hc]; rfl)
  clear hc
  go_enter Tryf.func21, Tryf.ntmps21
  go_wp2_with fail
  refine (zzIsAlnum_any _ w).mono ?_
  rw [ha]
  rintro e w' ⟨rfl, rfl⟩
  go_wp2
  go_ret
  exact ⟨rfl, rfl⟩
theorem tchar_95 (c : UInt8) (w : World) (ha : alnum c = false) (hc : c = 95) :
    Calls Tryf.prog 21 #[.int .u8 (c.toNat : Int)] w fun e w' => e = .returned (.bool true) ∧ w = w' := by
  have e33 : ((c.toNat : Int) == 33) = false := (u8_beq c 33).trans (by rw [hc]; rfl)
  have e35 : ((c.toNat : Int) == 35) = false := (u8_beq c 35).trans (by rw [hc]; rfl)
  have e36 : ((c.toNat : Int) == 36) = false := (u8_beq c 36).trans (by rw [hc]; rfl)
  have e37 : ((c.toNat : Int) == 37) = false := (u8_beq c 37).trans (by rw [hc]; rfl)
  have e38 : ((c.toNat : Int) == 38) = false := (u8_beq c 38).trans (by rw [hc]; rfl)
  have e39 : ((c.toNat : Int) == 39) = false := (u8_beq c 39).trans (by rw [hc]; rfl)
  have e42 : ((c.toNat : Int) == 42) = false := (u8_beq c 42).trans (by rw [hc]; rfl)
  have e43 : ((c.toNat : Int) == 43) = false := (u8_beq c 43).trans (by rw [hc]; rfl)
  have e45 : ((c.toNat : Int) == 45) = false := (u8_beq c 45).trans (by rw [hc]; rfl)
  have e46 : ((c.toNat : Int) == 46) = false := (u8_beq c 46).trans (by rw [hc]; rfl)
  have e94 : ((c.toNat : Int) == 94) = false := (u8_beq c 94).trans (by rw [hc]; rfl)
  have e95 : ((c.toNat : Int) == 95) = true := (u8_beq c 95).trans (by rw [hc]; rfl)
  clear hc
  go_enter Tryf.func21, Tryf.ntmps21
  go_wp2_with fail
  refine (zzIsAlnum_any _ w).mono ?_
  rw [ha]
  rintro e w' ⟨rfl, rfl⟩
  go_wp2
  go_ret
  exact ⟨rfl, rfl⟩
theorem tchar_96 (c : UInt8) (w : World) (ha : alnum c = false) (hc : c = 96) :
    Calls Tryf.prog 21 #[.int .u8 (c.toNat : Int)] w fun e w' => e = .returned (.bool true) ∧ w = w' := by
  have e33 : ((c.toNat : Int) == 33) = false := (u8_beq c 33).trans (by rw [hc]; rfl)
  have e35 : ((c.toNat : Int) == 35) = false := (u8_beq c 35).trans (by rw [hc]; rfl)
  have e36 : ((c.toNat : Int) == 36) = false := (u8_beq c 36).trans (by rw [hc]; rfl)
  have e37 : ((c.toNat : Int) == 37) = false := (u8_beq c 37).trans (by rw [hc]; rfl)
  have e38 : ((c.toNat : Int) == 38) = false := (u8_beq c 38).trans (by rw [hc]; rfl)
  have e39 : ((c.toNat : Int) == 39) = false := (u8_beq c 39).trans (by rw [hc]; rfl)
  have e42 : ((c.toNat : Int) == 42) = false := (u8_beq c 42).trans (by rw [hc]; rfl)
  have e43 : ((c.toNat : Int) == 43) = false := (u8_beq c 43).trans (by rw [hc]; rfl)
  have e45 : ((c.toNat : Int) == 45) = false := (u8_beq c 45).trans (by rw [hc]; rfl)
  have e46 : ((c.toNat : Int) == 46) = false := (u8_beq c 46).trans (by rw [hc]; rfl)
  have e94 : ((c.toNat : Int) == 94) = false := (u8_beq c 94).trans (by rw [hc]; rfl)
  have e95 : ((c.toNat : Int) == 95) = false := (u8_beq c 95).trans (by rw [hc]; rfl)
  have e96 : ((c.toNat : Int) == 96) = true := (u8_beq c 96).trans (by rw [hc]; rfl)
  clear hc
  go_enter Tryf.func21, Tryf.ntmps21
  go_wp2_with fail
  refine (zzIsAlnum_any _ w).mono ?_
  rw [ha]
  rintro e w' ⟨rfl, rfl⟩
  go_wp2
  go_ret
  exact ⟨rfl, rfl⟩
theorem tchar_124 (c : UInt8) (w : World) (ha : alnum c = false) (hc : c = 124) :
    Calls Tryf.prog 21 #[.int .u8 (c.toNat : Int)] w fun e w' => e = .returned (.bool true) ∧ w = w' := by
  have e33 : ((c.toNat : Int) == 33) = false := (u8_beq c 33).trans (by rw [hc]; rfl)
  have e35 : ((c.toNat : Int) == 35) = false := (u8_beq c 35).trans (by rw [hc]; rfl)
  have e36 : ((c.toNat : Int) == 36) = false := (u8_beq c 36).trans (by rw [hc]; rfl)
  have e37 : ((c.toNat : Int) == 37) = false := (u8_beq c 37).trans (by rw [hc]; rfl)
  have e38 : ((c.toNat : Int) == 38) = false := (u8_beq c 38).trans (by rw [hc]; rfl)
  have e39 : ((c.toNat : Int) == 39) = false := (u8_beq c 39).trans (by rw [hc]; rfl)
  have e42 : ((c.toNat : Int) == 42) = false := (u8_beq c 42).trans (by rw [hc]; rfl)
  have e43 : ((c.toNat : Int) == 43) = false := (u8_beq c 43).trans (by rw [hc]; rfl)
  have e45 : ((c.toNat : Int) == 45) = false := (u8_beq c 45).trans (by rw [hc]; rfl)
  have e46 : ((c.toNat : Int) == 46) = false := (u8_beq c 46).trans (by rw [hc]; rfl)
  have e94 : ((c.toNat : Int) == 94) = false := (u8_beq c 94).trans (by rw [hc]; rfl)
  have e95 : ((c.toNat : Int) == 95) = false := (u8_beq c 95).trans (by rw [hc]; rfl)
  have e96 : ((c.toNat : Int) == 96) = false := (u8_beq c 96).trans (by rw [hc]; rfl)
  have e124 : ((c.toNat : Int) == 124) = true := (u8_beq c 124).trans (by rw [hc]; rfl)
  clear hc
  go_enter Tryf.func21, Tryf.ntmps21
  go_wp2_with fail
  refine (zzIsAlnum_any _ w).mono ?_
  rw [ha]
  rintro e w' ⟨rfl, rfl⟩
  go_wp2
  go_ret
  exact ⟨rfl, rfl⟩
theorem tchar_126 (c : UInt8) (w : World) (ha : alnum c = false) (hc : c = 126) :
    Calls Tryf.prog 21 #[.int .u8 (c.toNat : Int)] w fun e w' => e = .returned (.bool true) ∧ w = w' := by
  have e33 : ((c.toNat : Int) == 33) = false := (u8_beq c 33).trans (by rw [hc]; rfl)
  have e35 : ((c.toNat : Int) == 35) = false := (u8_beq c 35).trans (by rw [hc]; rfl)
  have e36 : ((c.toNat : Int) == 36) = false := (u8_beq c 36).trans (by rw [hc]; rfl)
  have e37 : ((c.toNat : Int) == 37) = false := (u8_beq c 37).trans (by rw [hc]; rfl)
  have e38 : ((c.toNat : Int) == 38) = false := (u8_beq c 38).trans (by rw [hc]; rfl)
  have e39 : ((c.toNat : Int) == 39) = false := (u8_beq c 39).trans (by rw [hc]; rfl)
  have e42 : ((c.toNat : Int) == 42) = false := (u8_beq c 42).trans (by rw [hc]; rfl)
  have e43 : ((c.toNat : Int) == 43) = false := (u8_beq c 43).trans (by rw [hc]; rfl)
  have e45 : ((c.toNat : Int) == 45) = false := (u8_beq c 45).trans (by rw [hc]; rfl)
  have e46 : ((c.toNat : Int) == 46) = false := (u8_beq c 46).trans (by rw [hc]; rfl)
  have e94 : ((c.toNat : Int) == 94) = false := (u8_beq c 94).trans (by rw [hc]; rfl)
  have e95 : ((c.toNat : Int) == 95) = false := (u8_beq c 95).trans (by rw [hc]; rfl)
  have e96 : ((c.toNat : Int) == 96) = false := (u8_beq c 96).trans (by rw [hc]; rfl)
  have e124 : ((c.toNat : Int) == 124) = false := (u8_beq c 124).trans (by rw [hc]; rfl)
  have e126 : ((c.toNat : Int) == 126) = true := (u8_beq c 126).trans (by rw [hc]; rfl)
  clear hc
  go_enter Tryf.func21, Tryf.ntmps21
  go_wp2_with fail
  refine (zzIsAlnum_any _ w).mono ?_
  rw [ha]
  rintro e w' ⟨rfl, rfl⟩
  go_wp2
  go_ret
  exact ⟨rfl, rfl⟩
theorem tchar_none (c : UInt8) (w : World) (ha : alnum c = false) (hc : c ∉ ([33, 35, 36, 37, 38, 39, 42, 43, 45, 46, 94, 95, 96, 124, 126] : List UInt8)) :
    Calls Tryf.prog 21 #[.int .u8 (c.toNat : Int)] w fun e w' => e = .returned (.bool false) ∧ w = w' := by
  simp only [List.mem_cons, List.not_mem_nil, or_false, not_or] at hc
  obtain ⟨g33, g35, g36, g37, g38, g39, g42, g43, g45, g46, g94, g95, g96, g124, g126⟩ := hc
  have e33 : ((c.toNat : Int) == 33) = false := (u8_beq c 33).trans (by simpa using g33)
  have e35 : ((c.toNat : Int) == 35) = false := (u8_beq c 35).trans (by simpa using g35)
  have e36 : ((c.toNat : Int) == 36) = false := (u8_beq c 36).trans (by simpa using g36)
  have e37 : ((c.toNat : Int) == 37) = false := (u8_beq c 37).trans (by simpa using g37)
  have e38 : ((c.toNat : Int) == 38) = false := (u8_beq c 38).trans (by simpa using g38)
  have e39 : ((c.toNat : Int) == 39) = false := (u8_beq c 39).trans (by simpa using g39)
  have e42 : ((c.toNat : Int) == 42) = false := (u8_beq c 42).trans (by simpa using g42)
  have e43 : ((c.toNat : Int) == 43) = false := (u8_beq c 43).trans (by simpa using g43)
  have e45 : ((c.toNat : Int) == 45) = false := (u8_beq c 45).trans (by simpa using g45)
  have e46 : ((c.toNat : Int) == 46) = false := (u8_beq c 46).trans (by simpa using g46)
  have e94 : ((c.toNat : Int) == 94) = false := (u8_beq c 94).trans (by simpa using g94)
  have e95 : ((c.toNat : Int) == 95) = false := (u8_beq c 95).trans (by simpa using g95)
  have e96 : ((c.toNat : Int) == 96) = false := (u8_beq c 96).trans (by simpa using g96)
  have e124 : ((c.toNat : Int) == 124) = false := (u8_beq c 124).trans (by simpa using g124)
  have e126 : ((c.toNat : Int) == 126) = false := (u8_beq c 126).trans (by simpa using g126)
  clear g33 g35 g36 g37 g38 g39 g42 g43 g45 g46 g94 g95 g96 g124 g126
  go_enter Tryf.func21, Tryf.ntmps21
  go_wp2_with fail
  refine (zzIsAlnum_any _ w).mono ?_
  rw [ha]
  rintro e w' ⟨rfl, rfl⟩
  go_wp2
  go_ret
  exact ⟨rfl, rfl⟩

theorem zzIsTchar_any (c : UInt8) (w : World) :
    Calls Tryf.prog 21 #[.int .u8 (c.toNat : Int)] w fun e w' => e = .returned (.bool (tch c)) ∧ w = w' := by
  cases ha : alnum c with
  | true =>
    have ht : tch c = true := by unfold tch; rw [ha, Bool.true_or]
    rw [ht]
    go_enter Tryf.func21, Tryf.ntmps21
    go_wp2_with fail
    refine (zzIsAlnum_any _ w).mono ?_
    rw [ha]
    rintro e w' ⟨rfl, rfl⟩
    go_wp2
    go_ret
    exact ⟨rfl, rfl⟩
  | false =>
    rw [tch_no c ha]
    by_cases hin : c ∈ ([33, 35, 36, 37, 38, 39, 42, 43, 45, 46, 94, 95, 96, 124, 126] : List UInt8)
    · rw [show [33, 35, 36, 37, 38, 39, 42, 43, 45, 46, 94, 95, 96, 124, 126].contains c = true by simpa using hin]
      simp only [List.mem_cons, List.not_mem_nil, or_false] at hin
      rcases hin with h | h | h | h | h | h | h | h | h | h | h | h | h | h | h
      · exact tchar_33 c w ha h
      · exact tchar_35 c w ha h
      · exact tchar_36 c w ha h
      · exact tchar_37 c w ha h
      · exact tchar_38 c w ha h
      · exact tchar_39 c w ha h
      · exact tchar_42 c w ha h
      · exact tchar_43 c w ha h
      · exact tchar_45 c w ha h
      · exact tchar_46 c w ha h
      · exact tchar_94 c w ha h
      · exact tchar_95 c w ha h
      · exact tchar_96 c w ha h
      · exact tchar_124 c w ha h
      · exact tchar_126 c w ha h
    · rw [show [33, 35, 36, 37, 38, 39, 42, 43, 45, 46, 94, 95, 96, 124, 126].contains c = false by
        cases hx : [33, 35, 36, 37, 38, 39, 42, 43, 45, 46, 94, 95, 96, 124, 126].contains c with
        | false => rfl
        | true => exact absurd (by simpa using hx) hin]
      exact tchar_none c w ha hin
end Go.Proofs.Qxb6613049aFmt
