import Derived.Test.Qxb6628411aFmtDec
namespace Go.Proofs.Qxb6628411aFmt
open Go.RowKit
set_option linter.unusedVariables false

theorem dec_a (s : ByteArray) (i : Nat) (w : World) (hs : s.size ≤ 9223372036854775807) (hi : i < s.size)  (x0 : Int) (g0 : (s[i].toNat : Int) = x0)  (f0 : x0 < 128) :
    Calls Tryf.prog 16 #[.string s, .int .i64 i] w fun e w' => e = .returned (.tuple #[.int .i64 (dw s i : Int), .bool (dok s i)]) ∧ w' = w := by
  have hs' : (s.size : Int) ≤ 9223372036854775807 := by omega
  have HK : Hid (dw s i = 1 ∧ dok s i = true) := by
    apply dec_case
    have e0 := B_at s i 0 hi
    simp only [Nat.add_zero] at e0
    unfold zzW
    repeat' split
    all_goals first | rfl | (exfalso; omega)
  go_enter Tryf.func16, Tryf.ntmps16
  go_wp2
  go_ret2
  exact ⟨ret_dec HK.out, rfl⟩
theorem dec_b (s : ByteArray) (i : Nat) (w : World) (hs : s.size ≤ 9223372036854775807) (hi : i < s.size)  (x0 : Int) (g0 : (s[i].toNat : Int) = x0)  (f0 : ¬ x0 < 128) (f1 : ¬ 194 ≤ x0) (f2 : ¬ 224 ≤ x0) (f3 : ¬ 240 ≤ x0) :
    Calls Tryf.prog 16 #[.string s, .int .i64 i] w fun e w' => e = .returned (.tuple #[.int .i64 (dw s i : Int), .bool (dok s i)]) ∧ w' = w := by
  have hs' : (s.size : Int) ≤ 9223372036854775807 := by omega
  have HK : Hid (dw s i = 1 ∧ dok s i = false) := by
    apply dec_case
    have e0 := B_at s i 0 hi
    simp only [Nat.add_zero] at e0
    unfold zzW
    repeat' split
    all_goals first | rfl | (exfalso; omega)
  go_enter Tryf.func16, Tryf.ntmps16
  go_wp2
  go_ret2
  exact ⟨ret_dec HK.out, rfl⟩
theorem dec_f (s : ByteArray) (i : Nat) (w : World) (hs : s.size ≤ 9223372036854775807) (hi : i < s.size)  (x0 : Int) (g0 : (s[i].toNat : Int) = x0)  (f0 : ¬ x0 < 128) (f1 : 194 ≤ x0) (f2 : ¬ x0 ≤ 223) (f3 : 224 ≤ x0) (f4 : ¬ x0 ≤ 239) (f5 : 240 ≤ x0) (f6 : ¬ x0 ≤ 244) :
    Calls Tryf.prog 16 #[.string s, .int .i64 i] w fun e w' => e = .returned (.tuple #[.int .i64 (dw s i : Int), .bool (dok s i)]) ∧ w' = w := by
  have hs' : (s.size : Int) ≤ 9223372036854775807 := by omega
  have HK : Hid (dw s i = 1 ∧ dok s i = false) := by
    apply dec_case
    have e0 := B_at s i 0 hi
    simp only [Nat.add_zero] at e0
    unfold zzW
    repeat' split
    all_goals first | rfl | (exfalso; omega)
  go_enter Tryf.func16, Tryf.ntmps16
  go_wp2
  go_ret2
  exact ⟨ret_dec HK.out, rfl⟩
theorem dec_c0 (s : ByteArray) (i : Nat) (w : World) (hs : s.size ≤ 9223372036854775807) (hi : i < s.size)  (x0 : Int) (g0 : (s[i].toNat : Int) = x0)  (f0 : ¬ x0 < 128) (f1 : 194 ≤ x0) (f2 : x0 ≤ 223) (f3 : ¬ 2 ≤ ((s.size : Int) - (i : Int))) :
    Calls Tryf.prog 16 #[.string s, .int .i64 i] w fun e w' => e = .returned (.tuple #[.int .i64 (dw s i : Int), .bool (dok s i)]) ∧ w' = w := by
  have hs' : (s.size : Int) ≤ 9223372036854775807 := by omega
  have HK : Hid (dw s i = 1 ∧ dok s i = false) := by
    apply dec_case
    have e0 := B_at s i 0 hi
    simp only [Nat.add_zero] at e0
    unfold zzW
    repeat' split
    all_goals first | rfl | (exfalso; omega)
  go_enter Tryf.func16, Tryf.ntmps16
  go_wp2
  go_ret2
  exact ⟨ret_dec HK.out, rfl⟩
theorem dec_c1 (s : ByteArray) (i : Nat) (w : World) (hs : s.size ≤ 9223372036854775807) (hi : i < s.size) (b1 : i + 1 < s.size) (x0 : Int) (g0 : (s[i].toNat : Int) = x0) (x1 : Int) (g1 : (s[i + 1].toNat : Int) = x1) (f0 : ¬ x0 < 128) (f1 : 194 ≤ x0) (f2 : x0 ≤ 223) (f3 : 2 ≤ ((s.size : Int) - (i : Int))) (f4 : ¬ 128 ≤ x1) :
    Calls Tryf.prog 16 #[.string s, .int .i64 i] w fun e w' => e = .returned (.tuple #[.int .i64 (dw s i : Int), .bool (dok s i)]) ∧ w' = w := by
  have hs' : (s.size : Int) ≤ 9223372036854775807 := by omega
  have HK : Hid (dw s i = 1 ∧ dok s i = false) := by
    apply dec_case
    have e0 := B_at s i 0 hi
    simp only [Nat.add_zero] at e0
    have e1 := B_at s i 1 b1
    unfold zzW
    repeat' split
    all_goals first | rfl | (exfalso; omega)
  have i1 : (i : Int) + 1 < (s.size : Int) := by omega
  go_enter Tryf.func16, Tryf.ntmps16
  go_wp2
  go_ret2
  exact ⟨ret_dec HK.out, rfl⟩
theorem dec_c2 (s : ByteArray) (i : Nat) (w : World) (hs : s.size ≤ 9223372036854775807) (hi : i < s.size) (b1 : i + 1 < s.size) (x0 : Int) (g0 : (s[i].toNat : Int) = x0) (x1 : Int) (g1 : (s[i + 1].toNat : Int) = x1) (f0 : ¬ x0 < 128) (f1 : 194 ≤ x0) (f2 : x0 ≤ 223) (f3 : 2 ≤ ((s.size : Int) - (i : Int))) (f4 : 128 ≤ x1) (f5 : ¬ x1 ≤ 191) :
    Calls Tryf.prog 16 #[.string s, .int .i64 i] w fun e w' => e = .returned (.tuple #[.int .i64 (dw s i : Int), .bool (dok s i)]) ∧ w' = w := by
  have hs' : (s.size : Int) ≤ 9223372036854775807 := by omega
  have HK : Hid (dw s i = 1 ∧ dok s i = false) := by
    apply dec_case
    have e0 := B_at s i 0 hi
    simp only [Nat.add_zero] at e0
    have e1 := B_at s i 1 b1
    unfold zzW
    repeat' split
    all_goals first | rfl | (exfalso; omega)
  have i1 : (i : Int) + 1 < (s.size : Int) := by omega
  go_enter Tryf.func16, Tryf.ntmps16
  go_wp2
  go_ret2
  exact ⟨ret_dec HK.out, rfl⟩
theorem dec_c3 (s : ByteArray) (i : Nat) (w : World) (hs : s.size ≤ 9223372036854775807) (hi : i < s.size) (b1 : i + 1 < s.size) (x0 : Int) (g0 : (s[i].toNat : Int) = x0) (x1 : Int) (g1 : (s[i + 1].toNat : Int) = x1) (f0 : ¬ x0 < 128) (f1 : 194 ≤ x0) (f2 : x0 ≤ 223) (f3 : 2 ≤ ((s.size : Int) - (i : Int))) (f4 : 128 ≤ x1) (f5 : x1 ≤ 191) :
    Calls Tryf.prog 16 #[.string s, .int .i64 i] w fun e w' => e = .returned (.tuple #[.int .i64 (dw s i : Int), .bool (dok s i)]) ∧ w' = w := by
  have hs' : (s.size : Int) ≤ 9223372036854775807 := by omega
  have HK : Hid (dw s i = 2 ∧ dok s i = true) := by
    apply dec_case
    have e0 := B_at s i 0 hi
    simp only [Nat.add_zero] at e0
    have e1 := B_at s i 1 b1
    unfold zzW
    repeat' split
    all_goals first | rfl | (exfalso; omega)
  have i1 : (i : Int) + 1 < (s.size : Int) := by omega
  go_enter Tryf.func16, Tryf.ntmps16
  go_wp2
  go_ret2
  exact ⟨ret_dec HK.out, rfl⟩
theorem dec_e0 (s : ByteArray) (i : Nat) (w : World) (hs : s.size ≤ 9223372036854775807) (hi : i < s.size)  (x0 : Int) (g0 : (s[i].toNat : Int) = x0)  (f0 : ¬ x0 < 128) (f1 : 194 ≤ x0) (f2 : ¬ x0 ≤ 223) (f3 : 224 ≤ x0) (f4 : x0 ≤ 239) (f5 : (x0 == 224) = true) (f6 : (x0 == 237) = false) (f7 : ¬ 3 ≤ ((s.size : Int) - (i : Int))) :
    Calls Tryf.prog 16 #[.string s, .int .i64 i] w fun e w' => e = .returned (.tuple #[.int .i64 (dw s i : Int), .bool (dok s i)]) ∧ w' = w := by
  have hs' : (s.size : Int) ≤ 9223372036854775807 := by omega
  have HK : Hid (dw s i = 1 ∧ dok s i = false) := by
    apply dec_case
    have e0 := B_at s i 0 hi
    simp only [Nat.add_zero] at e0
    rw [beq_iff_eq] at f5
    rw [beq_eq_false_iff_ne] at f6
    unfold zzW
    repeat' split
    all_goals first | rfl | (exfalso; omega)
  go_enter Tryf.func16, Tryf.ntmps16
  go_wp2
  go_ret2
  exact ⟨ret_dec HK.out, rfl⟩
theorem dec_e1 (s : ByteArray) (i : Nat) (w : World) (hs : s.size ≤ 9223372036854775807) (hi : i < s.size) (b1 : i + 1 < s.size) (b2 : i + 2 < s.size) (x0 : Int) (g0 : (s[i].toNat : Int) = x0) (x1 : Int) (g1 : (s[i + 1].toNat : Int) = x1) (x2 : Int) (g2 : (s[i + 2].toNat : Int) = x2) (f0 : ¬ x0 < 128) (f1 : 194 ≤ x0) (f2 : ¬ x0 ≤ 223) (f3 : 224 ≤ x0) (f4 : x0 ≤ 239) (f5 : (x0 == 224) = true) (f6 : (x0 == 237) = false) (f7 : 3 ≤ ((s.size : Int) - (i : Int))) (f8 : ¬ 160 ≤ x1) :
    Calls Tryf.prog 16 #[.string s, .int .i64 i] w fun e w' => e = .returned (.tuple #[.int .i64 (dw s i : Int), .bool (dok s i)]) ∧ w' = w := by
  have hs' : (s.size : Int) ≤ 9223372036854775807 := by omega
  have HK : Hid (dw s i = 1 ∧ dok s i = false) := by
    apply dec_case
    have e0 := B_at s i 0 hi
    simp only [Nat.add_zero] at e0
    have e1 := B_at s i 1 b1
    have e2 := B_at s i 2 b2
    rw [beq_iff_eq] at f5
    rw [beq_eq_false_iff_ne] at f6
    unfold zzW
    repeat' split
    all_goals first | rfl | (exfalso; omega)
  have i1 : (i : Int) + 1 < (s.size : Int) := by omega
  have i2 : (i : Int) + 2 < (s.size : Int) := by omega
  go_enter Tryf.func16, Tryf.ntmps16
  go_wp2
  go_ret2
  exact ⟨ret_dec HK.out, rfl⟩
theorem dec_e2 (s : ByteArray) (i : Nat) (w : World) (hs : s.size ≤ 9223372036854775807) (hi : i < s.size) (b1 : i + 1 < s.size) (b2 : i + 2 < s.size) (x0 : Int) (g0 : (s[i].toNat : Int) = x0) (x1 : Int) (g1 : (s[i + 1].toNat : Int) = x1) (x2 : Int) (g2 : (s[i + 2].toNat : Int) = x2) (f0 : ¬ x0 < 128) (f1 : 194 ≤ x0) (f2 : ¬ x0 ≤ 223) (f3 : 224 ≤ x0) (f4 : x0 ≤ 239) (f5 : (x0 == 224) = true) (f6 : (x0 == 237) = false) (f7 : 3 ≤ ((s.size : Int) - (i : Int))) (f8 : 160 ≤ x1) (f9 : ¬ x1 ≤ 191) :
    Calls Tryf.prog 16 #[.string s, .int .i64 i] w fun e w' => e = .returned (.tuple #[.int .i64 (dw s i : Int), .bool (dok s i)]) ∧ w' = w := by
  have hs' : (s.size : Int) ≤ 9223372036854775807 := by omega
  have HK : Hid (dw s i = 1 ∧ dok s i = false) := by
    apply dec_case
    have e0 := B_at s i 0 hi
    simp only [Nat.add_zero] at e0
    have e1 := B_at s i 1 b1
    have e2 := B_at s i 2 b2
    rw [beq_iff_eq] at f5
    rw [beq_eq_false_iff_ne] at f6
    unfold zzW
    repeat' split
    all_goals first | rfl | (exfalso; omega)
  have i1 : (i : Int) + 1 < (s.size : Int) := by omega
  have i2 : (i : Int) + 2 < (s.size : Int) := by omega
  go_enter Tryf.func16, Tryf.ntmps16
  go_wp2
  go_ret2
  exact ⟨ret_dec HK.out, rfl⟩
theorem dec_e3 (s : ByteArray) (i : Nat) (w : World) (hs : s.size ≤ 9223372036854775807) (hi : i < s.size) (b1 : i + 1 < s.size) (b2 : i + 2 < s.size) (x0 : Int) (g0 : (s[i].toNat : Int) = x0) (x1 : Int) (g1 : (s[i + 1].toNat : Int) = x1) (x2 : Int) (g2 : (s[i + 2].toNat : Int) = x2) (f0 : ¬ x0 < 128) (f1 : 194 ≤ x0) (f2 : ¬ x0 ≤ 223) (f3 : 224 ≤ x0) (f4 : x0 ≤ 239) (f5 : (x0 == 224) = true) (f6 : (x0 == 237) = false) (f7 : 3 ≤ ((s.size : Int) - (i : Int))) (f8 : 160 ≤ x1) (f9 : x1 ≤ 191) (f10 : ¬ 128 ≤ x2) :
    Calls Tryf.prog 16 #[.string s, .int .i64 i] w fun e w' => e = .returned (.tuple #[.int .i64 (dw s i : Int), .bool (dok s i)]) ∧ w' = w := by
  have hs' : (s.size : Int) ≤ 9223372036854775807 := by omega
  have HK : Hid (dw s i = 1 ∧ dok s i = false) := by
    apply dec_case
    have e0 := B_at s i 0 hi
    simp only [Nat.add_zero] at e0
    have e1 := B_at s i 1 b1
    have e2 := B_at s i 2 b2
    rw [beq_iff_eq] at f5
    rw [beq_eq_false_iff_ne] at f6
    unfold zzW
    repeat' split
    all_goals first | rfl | (exfalso; omega)
  have i1 : (i : Int) + 1 < (s.size : Int) := by omega
  have i2 : (i : Int) + 2 < (s.size : Int) := by omega
  go_enter Tryf.func16, Tryf.ntmps16
  go_wp2
  go_ret2
  exact ⟨ret_dec HK.out, rfl⟩
theorem dec_e4 (s : ByteArray) (i : Nat) (w : World) (hs : s.size ≤ 9223372036854775807) (hi : i < s.size) (b1 : i + 1 < s.size) (b2 : i + 2 < s.size) (x0 : Int) (g0 : (s[i].toNat : Int) = x0) (x1 : Int) (g1 : (s[i + 1].toNat : Int) = x1) (x2 : Int) (g2 : (s[i + 2].toNat : Int) = x2) (f0 : ¬ x0 < 128) (f1 : 194 ≤ x0) (f2 : ¬ x0 ≤ 223) (f3 : 224 ≤ x0) (f4 : x0 ≤ 239) (f5 : (x0 == 224) = true) (f6 : (x0 == 237) = false) (f7 : 3 ≤ ((s.size : Int) - (i : Int))) (f8 : 160 ≤ x1) (f9 : x1 ≤ 191) (f10 : 128 ≤ x2) (f11 : ¬ x2 ≤ 191) :
    Calls Tryf.prog 16 #[.string s, .int .i64 i] w fun e w' => e = .returned (.tuple #[.int .i64 (dw s i : Int), .bool (dok s i)]) ∧ w' = w := by
  have hs' : (s.size : Int) ≤ 9223372036854775807 := by omega
  have HK : Hid (dw s i = 1 ∧ dok s i = false) := by
    apply dec_case
    have e0 := B_at s i 0 hi
    simp only [Nat.add_zero] at e0
    have e1 := B_at s i 1 b1
    have e2 := B_at s i 2 b2
    rw [beq_iff_eq] at f5
    rw [beq_eq_false_iff_ne] at f6
    unfold zzW
    repeat' split
    all_goals first | rfl | (exfalso; omega)
  have i1 : (i : Int) + 1 < (s.size : Int) := by omega
  have i2 : (i : Int) + 2 < (s.size : Int) := by omega
  go_enter Tryf.func16, Tryf.ntmps16
  go_wp2
  go_ret2
  exact ⟨ret_dec HK.out, rfl⟩
theorem dec_e5 (s : ByteArray) (i : Nat) (w : World) (hs : s.size ≤ 9223372036854775807) (hi : i < s.size) (b1 : i + 1 < s.size) (b2 : i + 2 < s.size) (x0 : Int) (g0 : (s[i].toNat : Int) = x0) (x1 : Int) (g1 : (s[i + 1].toNat : Int) = x1) (x2 : Int) (g2 : (s[i + 2].toNat : Int) = x2) (f0 : ¬ x0 < 128) (f1 : 194 ≤ x0) (f2 : ¬ x0 ≤ 223) (f3 : 224 ≤ x0) (f4 : x0 ≤ 239) (f5 : (x0 == 224) = true) (f6 : (x0 == 237) = false) (f7 : 3 ≤ ((s.size : Int) - (i : Int))) (f8 : 160 ≤ x1) (f9 : x1 ≤ 191) (f10 : 128 ≤ x2) (f11 : x2 ≤ 191) :
    Calls Tryf.prog 16 #[.string s, .int .i64 i] w fun e w' => e = .returned (.tuple #[.int .i64 (dw s i : Int), .bool (dok s i)]) ∧ w' = w := by
  have hs' : (s.size : Int) ≤ 9223372036854775807 := by omega
  have HK : Hid (dw s i = 3 ∧ dok s i = true) := by
    apply dec_case
    have e0 := B_at s i 0 hi
    simp only [Nat.add_zero] at e0
    have e1 := B_at s i 1 b1
    have e2 := B_at s i 2 b2
    rw [beq_iff_eq] at f5
    rw [beq_eq_false_iff_ne] at f6
    unfold zzW
    repeat' split
    all_goals first | rfl | (exfalso; omega)
  have i1 : (i : Int) + 1 < (s.size : Int) := by omega
  have i2 : (i : Int) + 2 < (s.size : Int) := by omega
  go_enter Tryf.func16, Tryf.ntmps16
  go_wp2
  go_ret2
  exact ⟨ret_dec HK.out, rfl⟩
theorem dec_g0 (s : ByteArray) (i : Nat) (w : World) (hs : s.size ≤ 9223372036854775807) (hi : i < s.size)  (x0 : Int) (g0 : (s[i].toNat : Int) = x0)  (f0 : ¬ x0 < 128) (f1 : 194 ≤ x0) (f2 : ¬ x0 ≤ 223) (f3 : 224 ≤ x0) (f4 : x0 ≤ 239) (f5 : (x0 == 224) = false) (f6 : (x0 == 237) = true) (f7 : ¬ 3 ≤ ((s.size : Int) - (i : Int))) :
    Calls Tryf.prog 16 #[.string s, .int .i64 i] w fun e w' => e = .returned (.tuple #[.int .i64 (dw s i : Int), .bool (dok s i)]) ∧ w' = w := by
  have hs' : (s.size : Int) ≤ 9223372036854775807 := by omega
  have HK : Hid (dw s i = 1 ∧ dok s i = false) := by
    apply dec_case
    have e0 := B_at s i 0 hi
    simp only [Nat.add_zero] at e0
    rw [beq_iff_eq] at f6
    rw [beq_eq_false_iff_ne] at f5
    unfold zzW
    repeat' split
    all_goals first | rfl | (exfalso; omega)
  go_enter Tryf.func16, Tryf.ntmps16
  go_wp2
  go_ret2
  exact ⟨ret_dec HK.out, rfl⟩
theorem dec_g1 (s : ByteArray) (i : Nat) (w : World) (hs : s.size ≤ 9223372036854775807) (hi : i < s.size) (b1 : i + 1 < s.size) (b2 : i + 2 < s.size) (x0 : Int) (g0 : (s[i].toNat : Int) = x0) (x1 : Int) (g1 : (s[i + 1].toNat : Int) = x1) (x2 : Int) (g2 : (s[i + 2].toNat : Int) = x2) (f0 : ¬ x0 < 128) (f1 : 194 ≤ x0) (f2 : ¬ x0 ≤ 223) (f3 : 224 ≤ x0) (f4 : x0 ≤ 239) (f5 : (x0 == 224) = false) (f6 : (x0 == 237) = true) (f7 : 3 ≤ ((s.size : Int) - (i : Int))) (f8 : ¬ 128 ≤ x1) :
    Calls Tryf.prog 16 #[.string s, .int .i64 i] w fun e w' => e = .returned (.tuple #[.int .i64 (dw s i : Int), .bool (dok s i)]) ∧ w' = w := by
  have hs' : (s.size : Int) ≤ 9223372036854775807 := by omega
  have HK : Hid (dw s i = 1 ∧ dok s i = false) := by
    apply dec_case
    have e0 := B_at s i 0 hi
    simp only [Nat.add_zero] at e0
    have e1 := B_at s i 1 b1
    have e2 := B_at s i 2 b2
    rw [beq_iff_eq] at f6
    rw [beq_eq_false_iff_ne] at f5
    unfold zzW
    repeat' split
    all_goals first | rfl | (exfalso; omega)
  have i1 : (i : Int) + 1 < (s.size : Int) := by omega
  have i2 : (i : Int) + 2 < (s.size : Int) := by omega
  go_enter Tryf.func16, Tryf.ntmps16
  go_wp2
  go_ret2
  exact ⟨ret_dec HK.out, rfl⟩
theorem dec_g2 (s : ByteArray) (i : Nat) (w : World) (hs : s.size ≤ 9223372036854775807) (hi : i < s.size) (b1 : i + 1 < s.size) (b2 : i + 2 < s.size) (x0 : Int) (g0 : (s[i].toNat : Int) = x0) (x1 : Int) (g1 : (s[i + 1].toNat : Int) = x1) (x2 : Int) (g2 : (s[i + 2].toNat : Int) = x2) (f0 : ¬ x0 < 128) (f1 : 194 ≤ x0) (f2 : ¬ x0 ≤ 223) (f3 : 224 ≤ x0) (f4 : x0 ≤ 239) (f5 : (x0 == 224) = false) (f6 : (x0 == 237) = true) (f7 : 3 ≤ ((s.size : Int) - (i : Int))) (f8 : 128 ≤ x1) (f9 : ¬ x1 ≤ 159) :
    Calls Tryf.prog 16 #[.string s, .int .i64 i] w fun e w' => e = .returned (.tuple #[.int .i64 (dw s i : Int), .bool (dok s i)]) ∧ w' = w := by
  have hs' : (s.size : Int) ≤ 9223372036854775807 := by omega
  have HK : Hid (dw s i = 1 ∧ dok s i = false) := by
    apply dec_case
    have e0 := B_at s i 0 hi
    simp only [Nat.add_zero] at e0
    have e1 := B_at s i 1 b1
    have e2 := B_at s i 2 b2
    rw [beq_iff_eq] at f6
    rw [beq_eq_false_iff_ne] at f5
    unfold zzW
    repeat' split
    all_goals first | rfl | (exfalso; omega)
  have i1 : (i : Int) + 1 < (s.size : Int) := by omega
  have i2 : (i : Int) + 2 < (s.size : Int) := by omega
  go_enter Tryf.func16, Tryf.ntmps16
  go_wp2
  go_ret2
  exact ⟨ret_dec HK.out, rfl⟩
theorem dec_g3 (s : ByteArray) (i : Nat) (w : World) (hs : s.size ≤ 9223372036854775807) (hi : i < s.size) (b1 : i + 1 < s.size) (b2 : i + 2 < s.size) (x0 : Int) (g0 : (s[i].toNat : Int) = x0) (x1 : Int) (g1 : (s[i + 1].toNat : Int) = x1) (x2 : Int) (g2 : (s[i + 2].toNat : Int) = x2) (f0 : ¬ x0 < 128) (f1 : 194 ≤ x0) (f2 : ¬ x0 ≤ 223) (f3 : 224 ≤ x0) (f4 : x0 ≤ 239) (f5 : (x0 == 224) = false) (f6 : (x0 == 237) = true) (f7 : 3 ≤ ((s.size : Int) - (i : Int))) (f8 : 128 ≤ x1) (f9 : x1 ≤ 159) (f10 : ¬ 128 ≤ x2) :
    Calls Tryf.prog 16 #[.string s, .int .i64 i] w fun e w' => e = .returned (.tuple #[.int .i64 (dw s i : Int), .bool (dok s i)]) ∧ w' = w := by
  have hs' : (s.size : Int) ≤ 9223372036854775807 := by omega
  have HK : Hid (dw s i = 1 ∧ dok s i = false) := by
    apply dec_case
    have e0 := B_at s i 0 hi
    simp only [Nat.add_zero] at e0
    have e1 := B_at s i 1 b1
    have e2 := B_at s i 2 b2
    rw [beq_iff_eq] at f6
    rw [beq_eq_false_iff_ne] at f5
    unfold zzW
    repeat' split
    all_goals first | rfl | (exfalso; omega)
  have i1 : (i : Int) + 1 < (s.size : Int) := by omega
  have i2 : (i : Int) + 2 < (s.size : Int) := by omega
  go_enter Tryf.func16, Tryf.ntmps16
  go_wp2
  go_ret2
  exact ⟨ret_dec HK.out, rfl⟩
theorem dec_g4 (s : ByteArray) (i : Nat) (w : World) (hs : s.size ≤ 9223372036854775807) (hi : i < s.size) (b1 : i + 1 < s.size) (b2 : i + 2 < s.size) (x0 : Int) (g0 : (s[i].toNat : Int) = x0) (x1 : Int) (g1 : (s[i + 1].toNat : Int) = x1) (x2 : Int) (g2 : (s[i + 2].toNat : Int) = x2) (f0 : ¬ x0 < 128) (f1 : 194 ≤ x0) (f2 : ¬ x0 ≤ 223) (f3 : 224 ≤ x0) (f4 : x0 ≤ 239) (f5 : (x0 == 224) = false) (f6 : (x0 == 237) = true) (f7 : 3 ≤ ((s.size : Int) - (i : Int))) (f8 : 128 ≤ x1) (f9 : x1 ≤ 159) (f10 : 128 ≤ x2) (f11 : ¬ x2 ≤ 191) :
    Calls Tryf.prog 16 #[.string s, .int .i64 i] w fun e w' => e = .returned (.tuple #[.int .i64 (dw s i : Int), .bool (dok s i)]) ∧ w' = w := by
  have hs' : (s.size : Int) ≤ 9223372036854775807 := by omega
  have HK : Hid (dw s i = 1 ∧ dok s i = false) := by
    apply dec_case
    have e0 := B_at s i 0 hi
    simp only [Nat.add_zero] at e0
    have e1 := B_at s i 1 b1
    have e2 := B_at s i 2 b2
    rw [beq_iff_eq] at f6
    rw [beq_eq_false_iff_ne] at f5
    unfold zzW
    repeat' split
    all_goals first | rfl | (exfalso; omega)
  have i1 : (i : Int) + 1 < (s.size : Int) := by omega
  have i2 : (i : Int) + 2 < (s.size : Int) := by omega
  go_enter Tryf.func16, Tryf.ntmps16
  go_wp2
  go_ret2
  exact ⟨ret_dec HK.out, rfl⟩
theorem dec_g5 (s : ByteArray) (i : Nat) (w : World) (hs : s.size ≤ 9223372036854775807) (hi : i < s.size) (b1 : i + 1 < s.size) (b2 : i + 2 < s.size) (x0 : Int) (g0 : (s[i].toNat : Int) = x0) (x1 : Int) (g1 : (s[i + 1].toNat : Int) = x1) (x2 : Int) (g2 : (s[i + 2].toNat : Int) = x2) (f0 : ¬ x0 < 128) (f1 : 194 ≤ x0) (f2 : ¬ x0 ≤ 223) (f3 : 224 ≤ x0) (f4 : x0 ≤ 239) (f5 : (x0 == 224) = false) (f6 : (x0 == 237) = true) (f7 : 3 ≤ ((s.size : Int) - (i : Int))) (f8 : 128 ≤ x1) (f9 : x1 ≤ 159) (f10 : 128 ≤ x2) (f11 : x2 ≤ 191) :
    Calls Tryf.prog 16 #[.string s, .int .i64 i] w fun e w' => e = .returned (.tuple #[.int .i64 (dw s i : Int), .bool (dok s i)]) ∧ w' = w := by
  have hs' : (s.size : Int) ≤ 9223372036854775807 := by omega
  have HK : Hid (dw s i = 3 ∧ dok s i = true) := by
    apply dec_case
    have e0 := B_at s i 0 hi
    simp only [Nat.add_zero] at e0
    have e1 := B_at s i 1 b1
    have e2 := B_at s i 2 b2
    rw [beq_iff_eq] at f6
    rw [beq_eq_false_iff_ne] at f5
    unfold zzW
    repeat' split
    all_goals first | rfl | (exfalso; omega)
  have i1 : (i : Int) + 1 < (s.size : Int) := by omega
  have i2 : (i : Int) + 2 < (s.size : Int) := by omega
  go_enter Tryf.func16, Tryf.ntmps16
  go_wp2
  go_ret2
  exact ⟨ret_dec HK.out, rfl⟩
end Go.Proofs.Qxb6628411aFmt
