import Derived.Test.Qxb6628411aFmtDecA
import Derived.Test.Qxb6628411aFmtDecB
import Derived.Test.Qxb6628411aFmtDecC
namespace Go.Proofs.Qxb6628411aFmt
open Go.RowKit

theorem dec_any (s : ByteArray) (i : Nat) (w : World) (hs : s.size ≤ 9223372036854775807) (hi : i < s.size) :
    Calls Tryf.prog 16 #[.string s, .int .i64 i] w fun e w' => e = .returned (.tuple #[.int .i64 (dw s i : Int), .bool (dok s i)]) ∧ w' = w := by
  obtain ⟨x0, g0⟩ : ∃ x0 : Int, (s[i].toNat : Int) = x0 := ⟨_, rfl⟩
  by_cases c1 : x0 < 128
  · exact dec_a s i w hs hi  x0 g0  (by omega)
  by_cases c2 : x0 < 194
  · exact dec_b s i w hs hi  x0 g0  (by omega) (by omega) (by omega) (by omega)
  by_cases c3 : 244 < x0
  · exact dec_f s i w hs hi  x0 g0  (by omega) (by omega) (by omega) (by omega) (by omega) (by omega) (by omega)
  by_cases c4 : x0 ≤ 223
  · by_cases n : (s.size : Int) - (i : Int) < 2
    · exact dec_c0 s i w hs hi  x0 g0  (by omega) (by omega) (by omega) (by omega)
    have b1 : i + 1 < s.size := by omega
    obtain ⟨x1, g1⟩ : ∃ x1 : Int, (s[i + 1].toNat : Int) = x1 := ⟨_, rfl⟩
    by_cases p1 : x1 < 128
    · exact dec_c1 s i w hs hi (by omega) x0 g0 x1 g1 (by omega) (by omega) (by omega) (by omega) (by omega)
    by_cases p2 : 191 < x1
    · exact dec_c2 s i w hs hi (by omega) x0 g0 x1 g1 (by omega) (by omega) (by omega) (by omega) (by omega) (by omega)
    exact dec_c3 s i w hs hi (by omega) x0 g0 x1 g1 (by omega) (by omega) (by omega) (by omega) (by omega) (by omega)
  by_cases c5 : x0 ≤ 239
  · by_cases d1 : x0 = 224
    · by_cases n : (s.size : Int) - (i : Int) < 3
      · exact dec_e0 s i w hs hi  x0 g0  (by omega) (by omega) (by omega) (by omega) (by omega) (beq_iff_eq.2 (by omega)) (beq_eq_false_iff_ne.2 (by omega)) (by omega)
      have b1 : i + 1 < s.size := by omega
      obtain ⟨x1, g1⟩ : ∃ x1 : Int, (s[i + 1].toNat : Int) = x1 := ⟨_, rfl⟩
      have b2 : i + 2 < s.size := by omega
      obtain ⟨x2, g2⟩ : ∃ x2 : Int, (s[i + 2].toNat : Int) = x2 := ⟨_, rfl⟩
      by_cases p0 : x1 < 160
      · exact dec_e1 s i w hs hi (by omega) (by omega) x0 g0 x1 g1 x2 g2 (by omega) (by omega) (by omega) (by omega) (by omega) (beq_iff_eq.2 (by omega)) (beq_eq_false_iff_ne.2 (by omega)) (by omega) (by omega)
      by_cases p1 : 191 < x1
      · exact dec_e2 s i w hs hi (by omega) (by omega) x0 g0 x1 g1 x2 g2 (by omega) (by omega) (by omega) (by omega) (by omega) (beq_iff_eq.2 (by omega)) (beq_eq_false_iff_ne.2 (by omega)) (by omega) (by omega) (by omega)
      by_cases p2 : x2 < 128
      · exact dec_e3 s i w hs hi (by omega) (by omega) x0 g0 x1 g1 x2 g2 (by omega) (by omega) (by omega) (by omega) (by omega) (beq_iff_eq.2 (by omega)) (beq_eq_false_iff_ne.2 (by omega)) (by omega) (by omega) (by omega) (by omega)
      by_cases p3 : 191 < x2
      · exact dec_e4 s i w hs hi (by omega) (by omega) x0 g0 x1 g1 x2 g2 (by omega) (by omega) (by omega) (by omega) (by omega) (beq_iff_eq.2 (by omega)) (beq_eq_false_iff_ne.2 (by omega)) (by omega) (by omega) (by omega) (by omega) (by omega)
      exact dec_e5 s i w hs hi (by omega) (by omega) x0 g0 x1 g1 x2 g2 (by omega) (by omega) (by omega) (by omega) (by omega) (beq_iff_eq.2 (by omega)) (beq_eq_false_iff_ne.2 (by omega)) (by omega) (by omega) (by omega) (by omega) (by omega)
    by_cases d2 : x0 = 237
    · by_cases n : (s.size : Int) - (i : Int) < 3
      · exact dec_g0 s i w hs hi  x0 g0  (by omega) (by omega) (by omega) (by omega) (by omega) (beq_eq_false_iff_ne.2 (by omega)) (beq_iff_eq.2 (by omega)) (by omega)
      have b1 : i + 1 < s.size := by omega
      obtain ⟨x1, g1⟩ : ∃ x1 : Int, (s[i + 1].toNat : Int) = x1 := ⟨_, rfl⟩
      have b2 : i + 2 < s.size := by omega
      obtain ⟨x2, g2⟩ : ∃ x2 : Int, (s[i + 2].toNat : Int) = x2 := ⟨_, rfl⟩
      by_cases p0 : x1 < 128
      · exact dec_g1 s i w hs hi (by omega) (by omega) x0 g0 x1 g1 x2 g2 (by omega) (by omega) (by omega) (by omega) (by omega) (beq_eq_false_iff_ne.2 (by omega)) (beq_iff_eq.2 (by omega)) (by omega) (by omega)
      by_cases p1 : 159 < x1
      · exact dec_g2 s i w hs hi (by omega) (by omega) x0 g0 x1 g1 x2 g2 (by omega) (by omega) (by omega) (by omega) (by omega) (beq_eq_false_iff_ne.2 (by omega)) (beq_iff_eq.2 (by omega)) (by omega) (by omega) (by omega)
      by_cases p2 : x2 < 128
      · exact dec_g3 s i w hs hi (by omega) (by omega) x0 g0 x1 g1 x2 g2 (by omega) (by omega) (by omega) (by omega) (by omega) (beq_eq_false_iff_ne.2 (by omega)) (beq_iff_eq.2 (by omega)) (by omega) (by omega) (by omega) (by omega)
      by_cases p3 : 191 < x2
      · exact dec_g4 s i w hs hi (by omega) (by omega) x0 g0 x1 g1 x2 g2 (by omega) (by omega) (by omega) (by omega) (by omega) (beq_eq_false_iff_ne.2 (by omega)) (beq_iff_eq.2 (by omega)) (by omega) (by omega) (by omega) (by omega) (by omega)
      exact dec_g5 s i w hs hi (by omega) (by omega) x0 g0 x1 g1 x2 g2 (by omega) (by omega) (by omega) (by omega) (by omega) (beq_eq_false_iff_ne.2 (by omega)) (beq_iff_eq.2 (by omega)) (by omega) (by omega) (by omega) (by omega) (by omega)
    by_cases n : (s.size : Int) - (i : Int) < 3
    · exact dec_h0 s i w hs hi  x0 g0  (by omega) (by omega) (by omega) (by omega) (by omega) (beq_eq_false_iff_ne.2 (by omega)) (beq_eq_false_iff_ne.2 (by omega)) (by omega)
    have b1 : i + 1 < s.size := by omega
    obtain ⟨x1, g1⟩ : ∃ x1 : Int, (s[i + 1].toNat : Int) = x1 := ⟨_, rfl⟩
    have b2 : i + 2 < s.size := by omega
    obtain ⟨x2, g2⟩ : ∃ x2 : Int, (s[i + 2].toNat : Int) = x2 := ⟨_, rfl⟩
    by_cases p0 : x1 < 128
    · exact dec_h1 s i w hs hi (by omega) (by omega) x0 g0 x1 g1 x2 g2 (by omega) (by omega) (by omega) (by omega) (by omega) (beq_eq_false_iff_ne.2 (by omega)) (beq_eq_false_iff_ne.2 (by omega)) (by omega) (by omega)
    by_cases p1 : 191 < x1
    · exact dec_h2 s i w hs hi (by omega) (by omega) x0 g0 x1 g1 x2 g2 (by omega) (by omega) (by omega) (by omega) (by omega) (beq_eq_false_iff_ne.2 (by omega)) (beq_eq_false_iff_ne.2 (by omega)) (by omega) (by omega) (by omega)
    by_cases p2 : x2 < 128
    · exact dec_h3 s i w hs hi (by omega) (by omega) x0 g0 x1 g1 x2 g2 (by omega) (by omega) (by omega) (by omega) (by omega) (beq_eq_false_iff_ne.2 (by omega)) (beq_eq_false_iff_ne.2 (by omega)) (by omega) (by omega) (by omega) (by omega)
    by_cases p3 : 191 < x2
    · exact dec_h4 s i w hs hi (by omega) (by omega) x0 g0 x1 g1 x2 g2 (by omega) (by omega) (by omega) (by omega) (by omega) (beq_eq_false_iff_ne.2 (by omega)) (beq_eq_false_iff_ne.2 (by omega)) (by omega) (by omega) (by omega) (by omega) (by omega)
    exact dec_h5 s i w hs hi (by omega) (by omega) x0 g0 x1 g1 x2 g2 (by omega) (by omega) (by omega) (by omega) (by omega) (beq_eq_false_iff_ne.2 (by omega)) (beq_eq_false_iff_ne.2 (by omega)) (by omega) (by omega) (by omega) (by omega) (by omega)
  by_cases d1 : x0 = 240
  · by_cases n : (s.size : Int) - (i : Int) < 4
    · exact dec_p0 s i w hs hi  x0 g0  (by omega) (by omega) (by omega) (by omega) (by omega) (by omega) (by omega) (beq_iff_eq.2 (by omega)) (beq_eq_false_iff_ne.2 (by omega)) (by omega)
    have b1 : i + 1 < s.size := by omega
    obtain ⟨x1, g1⟩ : ∃ x1 : Int, (s[i + 1].toNat : Int) = x1 := ⟨_, rfl⟩
    have b2 : i + 2 < s.size := by omega
    obtain ⟨x2, g2⟩ : ∃ x2 : Int, (s[i + 2].toNat : Int) = x2 := ⟨_, rfl⟩
    have b3 : i + 3 < s.size := by omega
    obtain ⟨x3, g3⟩ : ∃ x3 : Int, (s[i + 3].toNat : Int) = x3 := ⟨_, rfl⟩
    by_cases p0 : x1 < 144
    · exact dec_p1 s i w hs hi (by omega) (by omega) (by omega) x0 g0 x1 g1 x2 g2 x3 g3 (by omega) (by omega) (by omega) (by omega) (by omega) (by omega) (by omega) (beq_iff_eq.2 (by omega)) (beq_eq_false_iff_ne.2 (by omega)) (by omega) (by omega)
    by_cases p1 : 191 < x1
    · exact dec_p2 s i w hs hi (by omega) (by omega) (by omega) x0 g0 x1 g1 x2 g2 x3 g3 (by omega) (by omega) (by omega) (by omega) (by omega) (by omega) (by omega) (beq_iff_eq.2 (by omega)) (beq_eq_false_iff_ne.2 (by omega)) (by omega) (by omega) (by omega)
    by_cases p2 : x2 < 128
    · exact dec_p3 s i w hs hi (by omega) (by omega) (by omega) x0 g0 x1 g1 x2 g2 x3 g3 (by omega) (by omega) (by omega) (by omega) (by omega) (by omega) (by omega) (beq_iff_eq.2 (by omega)) (beq_eq_false_iff_ne.2 (by omega)) (by omega) (by omega) (by omega) (by omega)
    by_cases p3 : 191 < x2
    · exact dec_p4 s i w hs hi (by omega) (by omega) (by omega) x0 g0 x1 g1 x2 g2 x3 g3 (by omega) (by omega) (by omega) (by omega) (by omega) (by omega) (by omega) (beq_iff_eq.2 (by omega)) (beq_eq_false_iff_ne.2 (by omega)) (by omega) (by omega) (by omega) (by omega) (by omega)
    by_cases p4 : x3 < 128
    · exact dec_p5 s i w hs hi (by omega) (by omega) (by omega) x0 g0 x1 g1 x2 g2 x3 g3 (by omega) (by omega) (by omega) (by omega) (by omega) (by omega) (by omega) (beq_iff_eq.2 (by omega)) (beq_eq_false_iff_ne.2 (by omega)) (by omega) (by omega) (by omega) (by omega) (by omega) (by omega)
    by_cases p5 : 191 < x3
    · exact dec_p6 s i w hs hi (by omega) (by omega) (by omega) x0 g0 x1 g1 x2 g2 x3 g3 (by omega) (by omega) (by omega) (by omega) (by omega) (by omega) (by omega) (beq_iff_eq.2 (by omega)) (beq_eq_false_iff_ne.2 (by omega)) (by omega) (by omega) (by omega) (by omega) (by omega) (by omega) (by omega)
    exact dec_p7 s i w hs hi (by omega) (by omega) (by omega) x0 g0 x1 g1 x2 g2 x3 g3 (by omega) (by omega) (by omega) (by omega) (by omega) (by omega) (by omega) (beq_iff_eq.2 (by omega)) (beq_eq_false_iff_ne.2 (by omega)) (by omega) (by omega) (by omega) (by omega) (by omega) (by omega) (by omega)
  by_cases d2 : x0 = 244
  · by_cases n : (s.size : Int) - (i : Int) < 4
    · exact dec_q0 s i w hs hi  x0 g0  (by omega) (by omega) (by omega) (by omega) (by omega) (by omega) (by omega) (beq_eq_false_iff_ne.2 (by omega)) (beq_iff_eq.2 (by omega)) (by omega)
    have b1 : i + 1 < s.size := by omega
    obtain ⟨x1, g1⟩ : ∃ x1 : Int, (s[i + 1].toNat : Int) = x1 := ⟨_, rfl⟩
    have b2 : i + 2 < s.size := by omega
    obtain ⟨x2, g2⟩ : ∃ x2 : Int, (s[i + 2].toNat : Int) = x2 := ⟨_, rfl⟩
    have b3 : i + 3 < s.size := by omega
    obtain ⟨x3, g3⟩ : ∃ x3 : Int, (s[i + 3].toNat : Int) = x3 := ⟨_, rfl⟩
    by_cases p0 : x1 < 128
    · exact dec_q1 s i w hs hi (by omega) (by omega) (by omega) x0 g0 x1 g1 x2 g2 x3 g3 (by omega) (by omega) (by omega) (by omega) (by omega) (by omega) (by omega) (beq_eq_false_iff_ne.2 (by omega)) (beq_iff_eq.2 (by omega)) (by omega) (by omega)
    by_cases p1 : 143 < x1
    · exact dec_q2 s i w hs hi (by omega) (by omega) (by omega) x0 g0 x1 g1 x2 g2 x3 g3 (by omega) (by omega) (by omega) (by omega) (by omega) (by omega) (by omega) (beq_eq_false_iff_ne.2 (by omega)) (beq_iff_eq.2 (by omega)) (by omega) (by omega) (by omega)
    by_cases p2 : x2 < 128
    · exact dec_q3 s i w hs hi (by omega) (by omega) (by omega) x0 g0 x1 g1 x2 g2 x3 g3 (by omega) (by omega) (by omega) (by omega) (by omega) (by omega) (by omega) (beq_eq_false_iff_ne.2 (by omega)) (beq_iff_eq.2 (by omega)) (by omega) (by omega) (by omega) (by omega)
    by_cases p3 : 191 < x2
    · exact dec_q4 s i w hs hi (by omega) (by omega) (by omega) x0 g0 x1 g1 x2 g2 x3 g3 (by omega) (by omega) (by omega) (by omega) (by omega) (by omega) (by omega) (beq_eq_false_iff_ne.2 (by omega)) (beq_iff_eq.2 (by omega)) (by omega) (by omega) (by omega) (by omega) (by omega)
    by_cases p4 : x3 < 128
    · exact dec_q5 s i w hs hi (by omega) (by omega) (by omega) x0 g0 x1 g1 x2 g2 x3 g3 (by omega) (by omega) (by omega) (by omega) (by omega) (by omega) (by omega) (beq_eq_false_iff_ne.2 (by omega)) (beq_iff_eq.2 (by omega)) (by omega) (by omega) (by omega) (by omega) (by omega) (by omega)
    by_cases p5 : 191 < x3
    · exact dec_q6 s i w hs hi (by omega) (by omega) (by omega) x0 g0 x1 g1 x2 g2 x3 g3 (by omega) (by omega) (by omega) (by omega) (by omega) (by omega) (by omega) (beq_eq_false_iff_ne.2 (by omega)) (beq_iff_eq.2 (by omega)) (by omega) (by omega) (by omega) (by omega) (by omega) (by omega) (by omega)
    exact dec_q7 s i w hs hi (by omega) (by omega) (by omega) x0 g0 x1 g1 x2 g2 x3 g3 (by omega) (by omega) (by omega) (by omega) (by omega) (by omega) (by omega) (beq_eq_false_iff_ne.2 (by omega)) (beq_iff_eq.2 (by omega)) (by omega) (by omega) (by omega) (by omega) (by omega) (by omega) (by omega)
  by_cases n : (s.size : Int) - (i : Int) < 4
  · exact dec_r0 s i w hs hi  x0 g0  (by omega) (by omega) (by omega) (by omega) (by omega) (by omega) (by omega) (beq_eq_false_iff_ne.2 (by omega)) (beq_eq_false_iff_ne.2 (by omega)) (by omega)
  have b1 : i + 1 < s.size := by omega
  obtain ⟨x1, g1⟩ : ∃ x1 : Int, (s[i + 1].toNat : Int) = x1 := ⟨_, rfl⟩
  have b2 : i + 2 < s.size := by omega
  obtain ⟨x2, g2⟩ : ∃ x2 : Int, (s[i + 2].toNat : Int) = x2 := ⟨_, rfl⟩
  have b3 : i + 3 < s.size := by omega
  obtain ⟨x3, g3⟩ : ∃ x3 : Int, (s[i + 3].toNat : Int) = x3 := ⟨_, rfl⟩
  by_cases p0 : x1 < 128
  · exact dec_r1 s i w hs hi (by omega) (by omega) (by omega) x0 g0 x1 g1 x2 g2 x3 g3 (by omega) (by omega) (by omega) (by omega) (by omega) (by omega) (by omega) (beq_eq_false_iff_ne.2 (by omega)) (beq_eq_false_iff_ne.2 (by omega)) (by omega) (by omega)
  by_cases p1 : 191 < x1
  · exact dec_r2 s i w hs hi (by omega) (by omega) (by omega) x0 g0 x1 g1 x2 g2 x3 g3 (by omega) (by omega) (by omega) (by omega) (by omega) (by omega) (by omega) (beq_eq_false_iff_ne.2 (by omega)) (beq_eq_false_iff_ne.2 (by omega)) (by omega) (by omega) (by omega)
  by_cases p2 : x2 < 128
  · exact dec_r3 s i w hs hi (by omega) (by omega) (by omega) x0 g0 x1 g1 x2 g2 x3 g3 (by omega) (by omega) (by omega) (by omega) (by omega) (by omega) (by omega) (beq_eq_false_iff_ne.2 (by omega)) (beq_eq_false_iff_ne.2 (by omega)) (by omega) (by omega) (by omega) (by omega)
  by_cases p3 : 191 < x2
  · exact dec_r4 s i w hs hi (by omega) (by omega) (by omega) x0 g0 x1 g1 x2 g2 x3 g3 (by omega) (by omega) (by omega) (by omega) (by omega) (by omega) (by omega) (beq_eq_false_iff_ne.2 (by omega)) (beq_eq_false_iff_ne.2 (by omega)) (by omega) (by omega) (by omega) (by omega) (by omega)
  by_cases p4 : x3 < 128
  · exact dec_r5 s i w hs hi (by omega) (by omega) (by omega) x0 g0 x1 g1 x2 g2 x3 g3 (by omega) (by omega) (by omega) (by omega) (by omega) (by omega) (by omega) (beq_eq_false_iff_ne.2 (by omega)) (beq_eq_false_iff_ne.2 (by omega)) (by omega) (by omega) (by omega) (by omega) (by omega) (by omega)
  by_cases p5 : 191 < x3
  · exact dec_r6 s i w hs hi (by omega) (by omega) (by omega) x0 g0 x1 g1 x2 g2 x3 g3 (by omega) (by omega) (by omega) (by omega) (by omega) (by omega) (by omega) (beq_eq_false_iff_ne.2 (by omega)) (beq_eq_false_iff_ne.2 (by omega)) (by omega) (by omega) (by omega) (by omega) (by omega) (by omega) (by omega)
  exact dec_r7 s i w hs hi (by omega) (by omega) (by omega) x0 g0 x1 g1 x2 g2 x3 g3 (by omega) (by omega) (by omega) (by omega) (by omega) (by omega) (by omega) (beq_eq_false_iff_ne.2 (by omega)) (beq_eq_false_iff_ne.2 (by omega)) (by omega) (by omega) (by omega) (by omega) (by omega) (by omega) (by omega)
end Go.Proofs.Qxb6628411aFmt
