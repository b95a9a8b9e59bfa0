import Derived.Test.Qxb6628411aFmtDec
namespace Go.Proofs.Qxb6628411aFmt
open Go.RowKit
set_option linter.unusedVariables false

theorem dec_h0 (s : ByteArray) (i : Nat) (w : World) (hs : s.size ≤ 9223372036854775807) (hi : i < s.size)  (x0 : Int) (g0 : (s[i].toNat : Int) = x0)  (f0 : ¬ x0 < 128) (f1 : 194 ≤ x0) (f2 : ¬ x0 ≤ 223) (f3 : 224 ≤ x0) (f4 : x0 ≤ 239) (f5 : (x0 == 224) = false) (f6 : (x0 == 237) = false) (f7 : ¬ 3 ≤ ((s.size : Int) - (i : Int))) :
    Calls Tryf.prog 16 #[.string s, .int .i64 i] w fun e w' => e = .returned (.tuple #[.int .i64 (dw s i : Int), .bool (dok s i)]) ∧ w' = w := by
  have hs' : (s.size : Int) ≤ 9223372036854775807 := by omega
  have HK : Hid (dw s i = 1 ∧ dok s i = false) := by
    apply dec_case
    have e0 := B_at s i 0 hi
    simp only [Nat.add_zero] at e0
    rw [beq_eq_false_iff_ne] at f5 f6
    unfold zzW
    repeat' split
    all_goals first | rfl | (exfalso; omega)
  go_enter Tryf.func16, Tryf.ntmps16
  go_wp2
  go_ret2
  exact ⟨ret_dec HK.out, rfl⟩
theorem dec_h1 (s : ByteArray) (i : Nat) (w : World) (hs : s.size ≤ 9223372036854775807) (hi : i < s.size) (b1 : i + 1 < s.size) (b2 : i + 2 < s.size) (x0 : Int) (g0 : (s[i].toNat : Int) = x0) (x1 : Int) (g1 : (s[i + 1].toNat : Int) = x1) (x2 : Int) (g2 : (s[i + 2].toNat : Int) = x2) (f0 : ¬ x0 < 128) (f1 : 194 ≤ x0) (f2 : ¬ x0 ≤ 223) (f3 : 224 ≤ x0) (f4 : x0 ≤ 239) (f5 : (x0 == 224) = false) (f6 : (x0 == 237) = false) (f7 : 3 ≤ ((s.size : Int) - (i : Int))) (f8 : ¬ 128 ≤ x1) :
    Calls Tryf.prog 16 #[.string s, .int .i64 i] w fun e w' => e = .returned (.tuple #[.int .i64 (dw s i : Int), .bool (dok s i)]) ∧ w' = w := by
  have hs' : (s.size : Int) ≤ 9223372036854775807 := by omega
  have HK : Hid (dw s i = 1 ∧ dok s i = false) := by
    apply dec_case
    have e0 := B_at s i 0 hi
    simp only [Nat.add_zero] at e0
    have e1 := B_at s i 1 b1
    have e2 := B_at s i 2 b2
    rw [beq_eq_false_iff_ne] at f5 f6
    unfold zzW
    repeat' split
    all_goals first | rfl | (exfalso; omega)
  have i1 : (i : Int) + 1 < (s.size : Int) := by omega
  have i2 : (i : Int) + 2 < (s.size : Int) := by omega
  go_enter Tryf.func16, Tryf.ntmps16
  go_wp2
  go_ret2
  exact ⟨ret_dec HK.out, rfl⟩
theorem dec_h2 (s : ByteArray) (i : Nat) (w : World) (hs : s.size ≤ 9223372036854775807) (hi : i < s.size) (b1 : i + 1 < s.size) (b2 : i + 2 < s.size) (x0 : Int) (g0 : (s[i].toNat : Int) = x0) (x1 : Int) (g1 : (s[i + 1].toNat : Int) = x1) (x2 : Int) (g2 : (s[i + 2].toNat : Int) = x2) (f0 : ¬ x0 < 128) (f1 : 194 ≤ x0) (f2 : ¬ x0 ≤ 223) (f3 : 224 ≤ x0) (f4 : x0 ≤ 239) (f5 : (x0 == 224) = false) (f6 : (x0 == 237) = false) (f7 : 3 ≤ ((s.size : Int) - (i : Int))) (f8 : 128 ≤ x1) (f9 : ¬ x1 ≤ 191) :
    Calls Tryf.prog 16 #[.string s, .int .i64 i] w fun e w' => e = .returned (.tuple #[.int .i64 (dw s i : Int), .bool (dok s i)]) ∧ w' = w := by
  have hs' : (s.size : Int) ≤ 9223372036854775807 := by omega
  have HK : Hid (dw s i = 1 ∧ dok s i = false) := by
    apply dec_case
    have e0 := B_at s i 0 hi
    simp only [Nat.add_zero] at e0
    have e1 := B_at s i 1 b1
    have e2 := B_at s i 2 b2
    rw [beq_eq_false_iff_ne] at f5 f6
    unfold zzW
    repeat' split
    all_goals first | rfl | (exfalso; omega)
  have i1 : (i : Int) + 1 < (s.size : Int) := by omega
  have i2 : (i : Int) + 2 < (s.size : Int) := by omega
  go_enter Tryf.func16, Tryf.ntmps16
  go_wp2
  go_ret2
  exact ⟨ret_dec HK.out, rfl⟩
theorem dec_h3 (s : ByteArray) (i : Nat) (w : World) (hs : s.size ≤ 9223372036854775807) (hi : i < s.size) (b1 : i + 1 < s.size) (b2 : i + 2 < s.size) (x0 : Int) (g0 : (s[i].toNat : Int) = x0) (x1 : Int) (g1 : (s[i + 1].toNat : Int) = x1) (x2 : Int) (g2 : (s[i + 2].toNat : Int) = x2) (f0 : ¬ x0 < 128) (f1 : 194 ≤ x0) (f2 : ¬ x0 ≤ 223) (f3 : 224 ≤ x0) (f4 : x0 ≤ 239) (f5 : (x0 == 224) = false) (f6 : (x0 == 237) = false) (f7 : 3 ≤ ((s.size : Int) - (i : Int))) (f8 : 128 ≤ x1) (f9 : x1 ≤ 191) (f10 : ¬ 128 ≤ x2) :
    Calls Tryf.prog 16 #[.string s, .int .i64 i] w fun e w' => e = .returned (.tuple #[.int .i64 (dw s i : Int), .bool (dok s i)]) ∧ w' = w := by
  have hs' : (s.size : Int) ≤ 9223372036854775807 := by omega
  have HK : Hid (dw s i = 1 ∧ dok s i = false) := by
    apply dec_case
    have e0 := B_at s i 0 hi
    simp only [Nat.add_zero] at e0
    have e1 := B_at s i 1 b1
    have e2 := B_at s i 2 b2
    rw [beq_eq_false_iff_ne] at f5 f6
    unfold zzW
    repeat' split
    all_goals first | rfl | (exfalso; omega)
  have i1 : (i : Int) + 1 < (s.size : Int) := by omega
  have i2 : (i : Int) + 2 < (s.size : Int) := by omega
  go_enter Tryf.func16, Tryf.ntmps16
  go_wp2
  go_ret2
  exact ⟨ret_dec HK.out, rfl⟩
theorem dec_h4 (s : ByteArray) (i : Nat) (w : World) (hs : s.size ≤ 9223372036854775807) (hi : i < s.size) (b1 : i + 1 < s.size) (b2 : i + 2 < s.size) (x0 : Int) (g0 : (s[i].toNat : Int) = x0) (x1 : Int) (g1 : (s[i + 1].toNat : Int) = x1) (x2 : Int) (g2 : (s[i + 2].toNat : Int) = x2) (f0 : ¬ x0 < 128) (f1 : 194 ≤ x0) (f2 : ¬ x0 ≤ 223) (f3 : 224 ≤ x0) (f4 : x0 ≤ 239) (f5 : (x0 == 224) = false) (f6 : (x0 == 237) = false) (f7 : 3 ≤ ((s.size : Int) - (i : Int))) (f8 : 128 ≤ x1) (f9 : x1 ≤ 191) (f10 : 128 ≤ x2) (f11 : ¬ x2 ≤ 191) :
    Calls Tryf.prog 16 #[.string s, .int .i64 i] w fun e w' => e = .returned (.tuple #[.int .i64 (dw s i : Int), .bool (dok s i)]) ∧ w' = w := by
  have hs' : (s.size : Int) ≤ 9223372036854775807 := by omega
  have HK : Hid (dw s i = 1 ∧ dok s i = false) := by
    apply dec_case
    have e0 := B_at s i 0 hi
    simp only [Nat.add_zero] at e0
    have e1 := B_at s i 1 b1
    have e2 := B_at s i 2 b2
    rw [beq_eq_false_iff_ne] at f5 f6
    unfold zzW
    repeat' split
    all_goals first | rfl | (exfalso; omega)
  have i1 : (i : Int) + 1 < (s.size : Int) := by omega
  have i2 : (i : Int) + 2 < (s.size : Int) := by omega
  go_enter Tryf.func16, Tryf.ntmps16
  go_wp2
  go_ret2
  exact ⟨ret_dec HK.out, rfl⟩
theorem dec_h5 (s : ByteArray) (i : Nat) (w : World) (hs : s.size ≤ 9223372036854775807) (hi : i < s.size) (b1 : i + 1 < s.size) (b2 : i + 2 < s.size) (x0 : Int) (g0 : (s[i].toNat : Int) = x0) (x1 : Int) (g1 : (s[i + 1].toNat : Int) = x1) (x2 : Int) (g2 : (s[i + 2].toNat : Int) = x2) (f0 : ¬ x0 < 128) (f1 : 194 ≤ x0) (f2 : ¬ x0 ≤ 223) (f3 : 224 ≤ x0) (f4 : x0 ≤ 239) (f5 : (x0 == 224) = false) (f6 : (x0 == 237) = false) (f7 : 3 ≤ ((s.size : Int) - (i : Int))) (f8 : 128 ≤ x1) (f9 : x1 ≤ 191) (f10 : 128 ≤ x2) (f11 : x2 ≤ 191) :
    Calls Tryf.prog 16 #[.string s, .int .i64 i] w fun e w' => e = .returned (.tuple #[.int .i64 (dw s i : Int), .bool (dok s i)]) ∧ w' = w := by
  have hs' : (s.size : Int) ≤ 9223372036854775807 := by omega
  have HK : Hid (dw s i = 3 ∧ dok s i = true) := by
    apply dec_case
    have e0 := B_at s i 0 hi
    simp only [Nat.add_zero] at e0
    have e1 := B_at s i 1 b1
    have e2 := B_at s i 2 b2
    rw [beq_eq_false_iff_ne] at f5 f6
    unfold zzW
    repeat' split
    all_goals first | rfl | (exfalso; omega)
  have i1 : (i : Int) + 1 < (s.size : Int) := by omega
  have i2 : (i : Int) + 2 < (s.size : Int) := by omega
  go_enter Tryf.func16, Tryf.ntmps16
  go_wp2
  go_ret2
  exact ⟨ret_dec HK.out, rfl⟩
theorem dec_p0 (s : ByteArray) (i : Nat) (w : World) (hs : s.size ≤ 9223372036854775807) (hi : i < s.size)  (x0 : Int) (g0 : (s[i].toNat : Int) = x0)  (f0 : ¬ x0 < 128) (f1 : 194 ≤ x0) (f2 : ¬ x0 ≤ 223) (f3 : 224 ≤ x0) (f4 : ¬ x0 ≤ 239) (f5 : 240 ≤ x0) (f6 : x0 ≤ 244) (f7 : (x0 == 240) = true) (f8 : (x0 == 244) = false) (f9 : ¬ 4 ≤ ((s.size : Int) - (i : Int))) :
    Calls Tryf.prog 16 #[.string s, .int .i64 i] w fun e w' => e = .returned (.tuple #[.int .i64 (dw s i : Int), .bool (dok s i)]) ∧ w' = w := by
  have hs' : (s.size : Int) ≤ 9223372036854775807 := by omega
  have HK : Hid (dw s i = 1 ∧ dok s i = false) := by
    apply dec_case
    have e0 := B_at s i 0 hi
    simp only [Nat.add_zero] at e0
    rw [beq_iff_eq] at f7
    rw [beq_eq_false_iff_ne] at f8
    unfold zzW
    repeat' split
    all_goals first | rfl | (exfalso; omega)
  go_enter Tryf.func16, Tryf.ntmps16
  go_wp2
  go_ret2
  exact ⟨ret_dec HK.out, rfl⟩
theorem dec_p1 (s : ByteArray) (i : Nat) (w : World) (hs : s.size ≤ 9223372036854775807) (hi : i < s.size) (b1 : i + 1 < s.size) (b2 : i + 2 < s.size) (b3 : i + 3 < s.size) (x0 : Int) (g0 : (s[i].toNat : Int) = x0) (x1 : Int) (g1 : (s[i + 1].toNat : Int) = x1) (x2 : Int) (g2 : (s[i + 2].toNat : Int) = x2) (x3 : Int) (g3 : (s[i + 3].toNat : Int) = x3) (f0 : ¬ x0 < 128) (f1 : 194 ≤ x0) (f2 : ¬ x0 ≤ 223) (f3 : 224 ≤ x0) (f4 : ¬ x0 ≤ 239) (f5 : 240 ≤ x0) (f6 : x0 ≤ 244) (f7 : (x0 == 240) = true) (f8 : (x0 == 244) = false) (f9 : 4 ≤ ((s.size : Int) - (i : Int))) (f10 : ¬ 144 ≤ x1) :
    Calls Tryf.prog 16 #[.string s, .int .i64 i] w fun e w' => e = .returned (.tuple #[.int .i64 (dw s i : Int), .bool (dok s i)]) ∧ w' = w := by
  have hs' : (s.size : Int) ≤ 9223372036854775807 := by omega
  have HK : Hid (dw s i = 1 ∧ dok s i = false) := by
    apply dec_case
    have e0 := B_at s i 0 hi
    simp only [Nat.add_zero] at e0
    have e1 := B_at s i 1 b1
    have e2 := B_at s i 2 b2
    have e3 := B_at s i 3 b3
    rw [beq_iff_eq] at f7
    rw [beq_eq_false_iff_ne] at f8
    unfold zzW
    repeat' split
    all_goals first | rfl | (exfalso; omega)
  have i1 : (i : Int) + 1 < (s.size : Int) := by omega
  have i2 : (i : Int) + 2 < (s.size : Int) := by omega
  have i3 : (i : Int) + 3 < (s.size : Int) := by omega
  go_enter Tryf.func16, Tryf.ntmps16
  go_wp2
  go_ret2
  exact ⟨ret_dec HK.out, rfl⟩
theorem dec_p2 (s : ByteArray) (i : Nat) (w : World) (hs : s.size ≤ 9223372036854775807) (hi : i < s.size) (b1 : i + 1 < s.size) (b2 : i + 2 < s.size) (b3 : i + 3 < s.size) (x0 : Int) (g0 : (s[i].toNat : Int) = x0) (x1 : Int) (g1 : (s[i + 1].toNat : Int) = x1) (x2 : Int) (g2 : (s[i + 2].toNat : Int) = x2) (x3 : Int) (g3 : (s[i + 3].toNat : Int) = x3) (f0 : ¬ x0 < 128) (f1 : 194 ≤ x0) (f2 : ¬ x0 ≤ 223) (f3 : 224 ≤ x0) (f4 : ¬ x0 ≤ 239) (f5 : 240 ≤ x0) (f6 : x0 ≤ 244) (f7 : (x0 == 240) = true) (f8 : (x0 == 244) = false) (f9 : 4 ≤ ((s.size : Int) - (i : Int))) (f10 : 144 ≤ x1) (f11 : ¬ x1 ≤ 191) :
    Calls Tryf.prog 16 #[.string s, .int .i64 i] w fun e w' => e = .returned (.tuple #[.int .i64 (dw s i : Int), .bool (dok s i)]) ∧ w' = w := by
  have hs' : (s.size : Int) ≤ 9223372036854775807 := by omega
  have HK : Hid (dw s i = 1 ∧ dok s i = false) := by
    apply dec_case
    have e0 := B_at s i 0 hi
    simp only [Nat.add_zero] at e0
    have e1 := B_at s i 1 b1
    have e2 := B_at s i 2 b2
    have e3 := B_at s i 3 b3
    rw [beq_iff_eq] at f7
    rw [beq_eq_false_iff_ne] at f8
    unfold zzW
    repeat' split
    all_goals first | rfl | (exfalso; omega)
  have i1 : (i : Int) + 1 < (s.size : Int) := by omega
  have i2 : (i : Int) + 2 < (s.size : Int) := by omega
  have i3 : (i : Int) + 3 < (s.size : Int) := by omega
  go_enter Tryf.func16, Tryf.ntmps16
  go_wp2
  go_ret2
  exact ⟨ret_dec HK.out, rfl⟩
theorem dec_p3 (s : ByteArray) (i : Nat) (w : World) (hs : s.size ≤ 9223372036854775807) (hi : i < s.size) (b1 : i + 1 < s.size) (b2 : i + 2 < s.size) (b3 : i + 3 < s.size) (x0 : Int) (g0 : (s[i].toNat : Int) = x0) (x1 : Int) (g1 : (s[i + 1].toNat : Int) = x1) (x2 : Int) (g2 : (s[i + 2].toNat : Int) = x2) (x3 : Int) (g3 : (s[i + 3].toNat : Int) = x3) (f0 : ¬ x0 < 128) (f1 : 194 ≤ x0) (f2 : ¬ x0 ≤ 223) (f3 : 224 ≤ x0) (f4 : ¬ x0 ≤ 239) (f5 : 240 ≤ x0) (f6 : x0 ≤ 244) (f7 : (x0 == 240) = true) (f8 : (x0 == 244) = false) (f9 : 4 ≤ ((s.size : Int) - (i : Int))) (f10 : 144 ≤ x1) (f11 : x1 ≤ 191) (f12 : ¬ 128 ≤ x2) :
    Calls Tryf.prog 16 #[.string s, .int .i64 i] w fun e w' => e = .returned (.tuple #[.int .i64 (dw s i : Int), .bool (dok s i)]) ∧ w' = w := by
  have hs' : (s.size : Int) ≤ 9223372036854775807 := by omega
  have HK : Hid (dw s i = 1 ∧ dok s i = false) := by
    apply dec_case
    have e0 := B_at s i 0 hi
    simp only [Nat.add_zero] at e0
    have e1 := B_at s i 1 b1
    have e2 := B_at s i 2 b2
    have e3 := B_at s i 3 b3
    rw [beq_iff_eq] at f7
    rw [beq_eq_false_iff_ne] at f8
    unfold zzW
    repeat' split
    all_goals first | rfl | (exfalso; omega)
  have i1 : (i : Int) + 1 < (s.size : Int) := by omega
  have i2 : (i : Int) + 2 < (s.size : Int) := by omega
  have i3 : (i : Int) + 3 < (s.size : Int) := by omega
  go_enter Tryf.func16, Tryf.ntmps16
  go_wp2
  go_ret2
  exact ⟨ret_dec HK.out, rfl⟩
theorem dec_p4 (s : ByteArray) (i : Nat) (w : World) (hs : s.size ≤ 9223372036854775807) (hi : i < s.size) (b1 : i + 1 < s.size) (b2 : i + 2 < s.size) (b3 : i + 3 < s.size) (x0 : Int) (g0 : (s[i].toNat : Int) = x0) (x1 : Int) (g1 : (s[i + 1].toNat : Int) = x1) (x2 : Int) (g2 : (s[i + 2].toNat : Int) = x2) (x3 : Int) (g3 : (s[i + 3].toNat : Int) = x3) (f0 : ¬ x0 < 128) (f1 : 194 ≤ x0) (f2 : ¬ x0 ≤ 223) (f3 : 224 ≤ x0) (f4 : ¬ x0 ≤ 239) (f5 : 240 ≤ x0) (f6 : x0 ≤ 244) (f7 : (x0 == 240) = true) (f8 : (x0 == 244) = false) (f9 : 4 ≤ ((s.size : Int) - (i : Int))) (f10 : 144 ≤ x1) (f11 : x1 ≤ 191) (f12 : 128 ≤ x2) (f13 : ¬ x2 ≤ 191) :
    Calls Tryf.prog 16 #[.string s, .int .i64 i] w fun e w' => e = .returned (.tuple #[.int .i64 (dw s i : Int), .bool (dok s i)]) ∧ w' = w := by
  have hs' : (s.size : Int) ≤ 9223372036854775807 := by omega
  have HK : Hid (dw s i = 1 ∧ dok s i = false) := by
    apply dec_case
    have e0 := B_at s i 0 hi
    simp only [Nat.add_zero] at e0
    have e1 := B_at s i 1 b1
    have e2 := B_at s i 2 b2
    have e3 := B_at s i 3 b3
    rw [beq_iff_eq] at f7
    rw [beq_eq_false_iff_ne] at f8
    unfold zzW
    repeat' split
    all_goals first | rfl | (exfalso; omega)
  have i1 : (i : Int) + 1 < (s.size : Int) := by omega
  have i2 : (i : Int) + 2 < (s.size : Int) := by omega
  have i3 : (i : Int) + 3 < (s.size : Int) := by omega
  go_enter Tryf.func16, Tryf.ntmps16
  go_wp2
  go_ret2
  exact ⟨ret_dec HK.out, rfl⟩
theorem dec_p5 (s : ByteArray) (i : Nat) (w : World) (hs : s.size ≤ 9223372036854775807) (hi : i < s.size) (b1 : i + 1 < s.size) (b2 : i + 2 < s.size) (b3 : i + 3 < s.size) (x0 : Int) (g0 : (s[i].toNat : Int) = x0) (x1 : Int) (g1 : (s[i + 1].toNat : Int) = x1) (x2 : Int) (g2 : (s[i + 2].toNat : Int) = x2) (x3 : Int) (g3 : (s[i + 3].toNat : Int) = x3) (f0 : ¬ x0 < 128) (f1 : 194 ≤ x0) (f2 : ¬ x0 ≤ 223) (f3 : 224 ≤ x0) (f4 : ¬ x0 ≤ 239) (f5 : 240 ≤ x0) (f6 : x0 ≤ 244) (f7 : (x0 == 240) = true) (f8 : (x0 == 244) = false) (f9 : 4 ≤ ((s.size : Int) - (i : Int))) (f10 : 144 ≤ x1) (f11 : x1 ≤ 191) (f12 : 128 ≤ x2) (f13 : x2 ≤ 191) (f14 : ¬ 128 ≤ x3) :
    Calls Tryf.prog 16 #[.string s, .int .i64 i] w fun e w' => e = .returned (.tuple #[.int .i64 (dw s i : Int), .bool (dok s i)]) ∧ w' = w := by
  have hs' : (s.size : Int) ≤ 9223372036854775807 := by omega
  have HK : Hid (dw s i = 1 ∧ dok s i = false) := by
    apply dec_case
    have e0 := B_at s i 0 hi
    simp only [Nat.add_zero] at e0
    have e1 := B_at s i 1 b1
    have e2 := B_at s i 2 b2
    have e3 := B_at s i 3 b3
    rw [beq_iff_eq] at f7
    rw [beq_eq_false_iff_ne] at f8
    unfold zzW
    repeat' split
    all_goals first | rfl | (exfalso; omega)
  have i1 : (i : Int) + 1 < (s.size : Int) := by omega
  have i2 : (i : Int) + 2 < (s.size : Int) := by omega
  have i3 : (i : Int) + 3 < (s.size : Int) := by omega
  go_enter Tryf.func16, Tryf.ntmps16
  go_wp2
  go_ret2
  exact ⟨ret_dec HK.out, rfl⟩
theorem dec_p6 (s : ByteArray) (i : Nat) (w : World) (hs : s.size ≤ 9223372036854775807) (hi : i < s.size) (b1 : i + 1 < s.size) (b2 : i + 2 < s.size) (b3 : i + 3 < s.size) (x0 : Int) (g0 : (s[i].toNat : Int) = x0) (x1 : Int) (g1 : (s[i + 1].toNat : Int) = x1) (x2 : Int) (g2 : (s[i + 2].toNat : Int) = x2) (x3 : Int) (g3 : (s[i + 3].toNat : Int) = x3) (f0 : ¬ x0 < 128) (f1 : 194 ≤ x0) (f2 : ¬ x0 ≤ 223) (f3 : 224 ≤ x0) (f4 : ¬ x0 ≤ 239) (f5 : 240 ≤ x0) (f6 : x0 ≤ 244) (f7 : (x0 == 240) = true) (f8 : (x0 == 244) = false) (f9 : 4 ≤ ((s.size : Int) - (i : Int))) (f10 : 144 ≤ x1) (f11 : x1 ≤ 191) (f12 : 128 ≤ x2) (f13 : x2 ≤ 191) (f14 : 128 ≤ x3) (f15 : ¬ x3 ≤ 191) :
    Calls Tryf.prog 16 #[.string s, .int .i64 i] w fun e w' => e = .returned (.tuple #[.int .i64 (dw s i : Int), .bool (dok s i)]) ∧ w' = w := by
  have hs' : (s.size : Int) ≤ 9223372036854775807 := by omega
  have HK : Hid (dw s i = 1 ∧ dok s i = false) := by
    apply dec_case
    have e0 := B_at s i 0 hi
    simp only [Nat.add_zero] at e0
    have e1 := B_at s i 1 b1
    have e2 := B_at s i 2 b2
    have e3 := B_at s i 3 b3
    rw [beq_iff_eq] at f7
    rw [beq_eq_false_iff_ne] at f8
    unfold zzW
    repeat' split
    all_goals first | rfl | (exfalso; omega)
  have i1 : (i : Int) + 1 < (s.size : Int) := by omega
  have i2 : (i : Int) + 2 < (s.size : Int) := by omega
  have i3 : (i : Int) + 3 < (s.size : Int) := by omega
  go_enter Tryf.func16, Tryf.ntmps16
  go_wp2
  go_ret2
  exact ⟨ret_dec HK.out, rfl⟩
theorem dec_p7 (s : ByteArray) (i : Nat) (w : World) (hs : s.size ≤ 9223372036854775807) (hi : i < s.size) (b1 : i + 1 < s.size) (b2 : i + 2 < s.size) (b3 : i + 3 < s.size) (x0 : Int) (g0 : (s[i].toNat : Int) = x0) (x1 : Int) (g1 : (s[i + 1].toNat : Int) = x1) (x2 : Int) (g2 : (s[i + 2].toNat : Int) = x2) (x3 : Int) (g3 : (s[i + 3].toNat : Int) = x3) (f0 : ¬ x0 < 128) (f1 : 194 ≤ x0) (f2 : ¬ x0 ≤ 223) (f3 : 224 ≤ x0) (f4 : ¬ x0 ≤ 239) (f5 : 240 ≤ x0) (f6 : x0 ≤ 244) (f7 : (x0 == 240) = true) (f8 : (x0 == 244) = false) (f9 : 4 ≤ ((s.size : Int) - (i : Int))) (f10 : 144 ≤ x1) (f11 : x1 ≤ 191) (f12 : 128 ≤ x2) (f13 : x2 ≤ 191) (f14 : 128 ≤ x3) (f15 : x3 ≤ 191) :
    Calls Tryf.prog 16 #[.string s, .int .i64 i] w fun e w' => e = .returned (.tuple #[.int .i64 (dw s i : Int), .bool (dok s i)]) ∧ w' = w := by
  have hs' : (s.size : Int) ≤ 9223372036854775807 := by omega
  have HK : Hid (dw s i = 4 ∧ dok s i = true) := by
    apply dec_case
    have e0 := B_at s i 0 hi
    simp only [Nat.add_zero] at e0
    have e1 := B_at s i 1 b1
    have e2 := B_at s i 2 b2
    have e3 := B_at s i 3 b3
    rw [beq_iff_eq] at f7
    rw [beq_eq_false_iff_ne] at f8
    unfold zzW
    repeat' split
    all_goals first | rfl | (exfalso; omega)
  have i1 : (i : Int) + 1 < (s.size : Int) := by omega
  have i2 : (i : Int) + 2 < (s.size : Int) := by omega
  have i3 : (i : Int) + 3 < (s.size : Int) := by omega
  go_enter Tryf.func16, Tryf.ntmps16
  go_wp2
  go_ret2
  exact ⟨ret_dec HK.out, rfl⟩
end Go.Proofs.Qxb6628411aFmt
