import Derived.Test.Qxb6628411aFmtRows
import Derived.Test.Qxb6628411aFmtRunes
import Derived.WalkKit
import Derived.WalkLawsBesides
import Derived.WalkSpells
import Derived.Outline
namespace Go.Proofs.Qxb6628411aFmt
open Go.RowKit
open Go.Lib (decodeL decodeN decodeL_N decodeN_shape decodeL_width decodeL_le)

theorem hide {p : Prop} (h : p) : Hid p := h

/-- zzDecode as its text has it: n bytes are left, the first four are b0 .. b3 -/
def zzW (n b0 b1 b2 b3 : Nat) : Nat × Bool :=
  if b0 < 128 then (1, true)
  else if 194 ≤ b0 ∧ b0 ≤ 223 then (if 2 ≤ n ∧ 128 ≤ b1 ∧ b1 ≤ 191 then (2, true) else (1, false))
  else if 224 ≤ b0 ∧ b0 ≤ 239 then
    (if 3 ≤ n ∧ (if b0 = 224 then 160 else 128) ≤ b1 ∧ b1 ≤ (if b0 = 237 then 159 else 191) ∧ 128 ≤ b2 ∧ b2 ≤ 191 then (3, true) else (1, false))
  else if 240 ≤ b0 ∧ b0 ≤ 244 then
    (if 4 ≤ n ∧ (if b0 = 240 then 144 else 128) ≤ b1 ∧ b1 ≤ (if b0 = 244 then 143 else 191) ∧ 128 ≤ b2 ∧ b2 ≤ 191 ∧ 128 ≤ b3 ∧ b3 ≤ 191 then (4, true) else (1, false))
  else (1, false)
set_option maxRecDepth 100000 in
set_option maxHeartbeats 8000000 in
theorem zzW_eq (n b0 b1 b2 b3 : Nat) (h0 : b0 < 256) (h1 : b1 < 256) (h2 : b2 < 256) (h3 : b3 < 256) : zzW n b0 b1 b2 b3 = ((decodeN n b0 b1 b2 b3).2, decide (decodeN n b0 b1 b2 b3 ≠ (65533, 1))) := by
  unfold zzW decodeN
  repeat' split
  all_goals first | (exfalso; omega) | (apply Prod.ext <;> simp <;> omega)

/-- byte k behind place i (0 beyond the end) -/
def B (s : ByteArray) (i k : Nat) : Nat := ((s.data.toList.drop i).getD k 0).toNat
theorem B_lt (s : ByteArray) (i k : Nat) : B s i k < 256 := UInt8.toNat_lt _
theorem B_at (s : ByteArray) (i k : Nat) (h : i + k < s.size) : B s i k = (s[i + k]).toNat := by
  unfold B
  have hl : i + k < s.data.toList.length := by simpa using h
  have e : (s.data.toList.drop i).getD k 0 = s.data.toList[i + k] := by
    rw [List.getD_eq_getElem?_getD, List.getElem?_drop, List.getElem?_eq_getElem hl]; rfl
  rw [e]; rfl
/-- what zzDecode answers at place i -/
def dw (s : ByteArray) (i : Nat) : Nat := (decodeL (s.data.toList.drop i)).2
def dok (s : ByteArray) (i : Nat) : Bool := okL (s.data.toList.drop i)
theorem dec_case (s : ByteArray) (i : Nat) (k : Nat) (ok : Bool) (h : zzW (s.size - i) (B s i 0) (B s i 1) (B s i 2) (B s i 3) = (k, ok)) : dw s i = k ∧ dok s i = ok := by
  have e : decodeL (s.data.toList.drop i) = decodeN (s.size - i) (B s i 0) (B s i 1) (B s i 2) (B s i 3) := by
    rw [decodeL_N, List.length_drop]; rfl
  rw [zzW_eq _ _ _ _ _ (B_lt _ _ _) (B_lt _ _ _) (B_lt _ _ _) (B_lt _ _ _)] at h
  unfold dw dok okL
  rw [e]
  exact Prod.ext_iff.1 h
theorem ret_dec {k : Nat} {ok : Bool} {s : ByteArray} {i : Nat} (h : dw s i = k ∧ dok s i = ok) : Ending.returned (.tuple #[.int .i64 (k : Int), .bool ok]) = .returned (.tuple #[.int .i64 (dw s i : Int), .bool (dok s i)]) := by rw [h.1, h.2]
end Go.Proofs.Qxb6628411aFmt
