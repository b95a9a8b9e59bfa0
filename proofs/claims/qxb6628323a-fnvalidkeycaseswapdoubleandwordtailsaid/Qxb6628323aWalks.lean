import Derived.Test.Qxb6628323aRows
import Derived.Test.Qxb6628323aMath
import Derived.WalkKit
import Derived.WalkLawsBesides
import Derived.Outline
import Derived.Laws.Strings
namespace Go.Proofs.Qxb6628323a
open Go.RowKit

theorem hide {p : Prop} (h : p) : Hid p := h
theorem ret_bool {a b : Bool} (h : a = b) : Ending.returned (.bool a) = .returned (.bool b) := by rw [h]

theorem or32_facts : ∀ n : Fin 256, bits BinOp.or IntKind.u8 (n.val : Int) 32 = ((n.val ||| 32 : Nat) : Int) := by decide +kernel
theorem or32 (c : UInt8) : bits BinOp.or IntKind.u8 (c.toNat : Int) 32 = ((c.toNat ||| 32 : Nat) : Int) := or32_facts ⟨c.toNat, c.toNat_lt⟩
theorem isL_yes {c : UInt8} (h : 97 ≤ bits BinOp.or IntKind.u8 (c.toNat : Int) 32) : decide (bits BinOp.or IntKind.u8 (c.toNat : Int) 32 ≤ 122) = isL c := by
  rw [isL_or]; rw [or32] at h ⊢
  have h' : 97 ≤ c.toNat ||| 32 := by omega
  by_cases h2 : (c.toNat ||| 32) ≤ 122
  · rw [decide_eq_true (by omega), decide_eq_true ⟨h', h2⟩]
  · rw [decide_eq_false (by omega), decide_eq_false (fun h => h2 h.2)]
theorem isL_no {c : UInt8} (h : bits BinOp.or IntKind.u8 (c.toNat : Int) 32 < 97) : false = isL c := by
  rw [isL_or]; rw [or32] at h
  rw [decide_eq_false (by omega)]

theorem letter_any (c : UInt8) (w : World) :
    Calls Try.prog 7 #[.int .u8 c.toNat] w fun e w' => e = .returned (.bool (isL c)) ∧ w' = w := by
  go_enter Try.func7, Try.ntmps7
  go_wp2
  · go_ret
    exact ⟨ret_bool (isL_yes (by assumption)), rfl⟩
  · go_ret
    exact ⟨ret_bool (isL_no (by assumption)), rfl⟩

theorem sub48 (c : UInt8) (h : isL c = false) (h95 : ((c.toNat : Int) == 95) = false) : decide (((c.toNat : Int) - 48) % 256 < 10) = isW c := by
  have h' : ¬ (c.toNat = 95) := by intro e; simp [e] at h95
  have hlt : c.toNat < 256 := c.toNat_lt
  unfold isW
  rw [h, Bool.false_or]
  by_cases hd : 48 ≤ c.toNat ∧ c.toNat ≤ 57
  · rw [decide_eq_true (by omega), decide_eq_true (Or.inr hd)]
  · rw [decide_eq_false (by omega), decide_eq_false (by rintro (h1 | h1); exact h' h1; exact hd h1)]
theorem isW_95 (c : UInt8) (h95 : ((c.toNat : Int) == 95) = true) : true = isW c := by
  have h' : c.toNat = 95 := by have := beq_iff_eq.1 h95; omega
  unfold isW
  rw [decide_eq_true (Or.inl h'), Bool.or_true]

theorem word_any (c : UInt8) (w : World) :
    Calls Try.prog 12 #[.int .u8 c.toNat] w fun e w' => e = .returned (.bool (isW c)) ∧ w' = w := by
  cases h : isL c
  · go_enter Try.func12, Try.ntmps12
    go_wp2_with (go_at_call 7; refine (letter_any c _).mono ?_; rintro e w' ⟨rfl, rfl⟩; rw [h])
    · go_ret
      exact ⟨ret_bool (isW_95 c (by assumption)), rfl⟩
    · go_ret
      exact ⟨ret_bool (sub48 c h (by assumption)), rfl⟩
  · go_enter Try.func12, Try.ntmps12
    go_wp2_with (go_at_call 7; refine (letter_any c _).mono ?_; rintro e w' ⟨rfl, rfl⟩; rw [h])
    go_ret
    exact ⟨ret_bool (by simp [isW, h]), rfl⟩

/-- the byte's classes, each test in the walk's own form -/
theorem classes (x : Int) : (97 ≤ x ∧ x ≤ 122) ∨ (65 ≤ x ∧ x ≤ 90 ∧ ¬ 97 ≤ x) ∨
    (97 ≤ x ∧ ¬ x ≤ 122 ∧ 65 ≤ x ∧ ¬ x ≤ 90 ∧ (x != 95) = true ∧ ¬ x < 48 ∧ 57 < x) ∨
    (¬ 97 ≤ x ∧ 65 ≤ x ∧ ¬ x ≤ 90 ∧ (x != 95) = true ∧ ¬ x < 48 ∧ 57 < x) ∨
    (¬ 97 ≤ x ∧ 65 ≤ x ∧ ¬ x ≤ 90 ∧ (x != 95) = false) ∨
    (¬ 97 ≤ x ∧ ¬ 65 ≤ x ∧ (x != 95) = true ∧ ¬ x < 48 ∧ 57 < x) ∨
    (¬ 97 ≤ x ∧ ¬ 65 ≤ x ∧ (x != 95) = true ∧ ¬ x < 48 ∧ ¬ 57 < x) ∨
    (¬ 97 ≤ x ∧ ¬ 65 ≤ x ∧ (x != 95) = true ∧ x < 48) := by
  have e1 : (x != 95) = true ↔ ¬ x = 95 := bne_iff_ne
  have e2 : (x != 95) = false ↔ x = 95 := by rw [← Bool.not_eq_true, e1]; exact Decidable.not_not
  rw [e1, e2]
  omega
theorem step_ok (s : ByteArray) (k : Nat) (h : k < s.size) (hv : vkp (s.data.toList.take k) = true) (hc : (if k = 0 then isL s[k] else isW s[k]) = true) : vkp (s.data.toList.take (k + 1)) = true := by
  rw [take_snoc s k h, vkp_snoc, hv, Bool.true_and]
  by_cases hk : k = 0
  · subst hk; simpa using hc
  · have : ¬ s.data.toList.take k = [] := by
      intro e
      have := congrArg List.length e
      simp at this
      have h' : s.size = 0 ∨ k = 0 := by rcases this with h1 | h1; exact Or.inr h1; left; simp [h1] 
      omega
    rw [if_neg this]; rw [if_neg hk] at hc; exact hc
theorem step_bad (s : ByteArray) (k : Nat) (h : k < s.size) (hc : (if k = 0 then isL s[k] else isW s[k]) = false) : vk s.data.toList = false := by
  have e : s.data.toList = s.data.toList.take (k + 1) ++ s.data.toList.drop (k + 1) := (List.take_append_drop _ _).symm
  rw [e]
  apply vkp_front
  rw [take_snoc s k h, vkp_snoc]
  by_cases hk : k = 0
  · subst hk; simp at hc; simp [hc]
  · have : ¬ s.data.toList.take k = [] := by
      intro e
      have := congrArg List.length e
      simp at this
      have h' : s.size = 0 ∨ k = 0 := by rcases this with h1 | h1; exact Or.inr h1; left; simp [h1] 
      omega
    rw [if_neg this]; rw [if_neg hk] at hc; rw [hc, Bool.and_false]
theorem bad0 (s : ByteArray) (h : 0 < s.size) (hc : ¬ ((97 ≤ (s[0].toNat : Int) ∧ (s[0].toNat : Int) ≤ 122) ∨ (65 ≤ (s[0].toNat : Int) ∧ (s[0].toNat : Int) ≤ 90))) : vk s.data.toList = false := by
  apply step_bad s 0 h
  rw [if_pos rfl, ← Bool.not_eq_true, isL_iff]; omega
theorem badk (s : ByteArray) (k : Nat) (h : k < s.size) (hk : 0 < k) (hc : ¬ ((97 ≤ (s[k].toNat : Int) ∧ (s[k].toNat : Int) ≤ 122) ∨ (65 ≤ (s[k].toNat : Int) ∧ (s[k].toNat : Int) ≤ 90) ∨ (s[k].toNat : Int) = 95 ∨ (48 ≤ (s[k].toNat : Int) ∧ (s[k].toNat : Int) ≤ 57))) : vk s.data.toList = false := by
  apply step_bad s k h
  rw [if_neg (by omega), ← Bool.not_eq_true, isW_iff]; omega
theorem okL (s : ByteArray) (k : Nat) (h : k < s.size) (hv : vkp (s.data.toList.take k) = true) (hc : ((97 ≤ (s[k].toNat : Int) ∧ (s[k].toNat : Int) ≤ 122) ∨ (65 ≤ (s[k].toNat : Int) ∧ (s[k].toNat : Int) ≤ 90))) : vkp (s.data.toList.take (k + 1)) = true := by
  have hL : isL s[k] = true := by rw [isL_iff]; omega
  apply step_ok s k h hv
  split
  · exact hL
  · exact isW_of_isL hL
theorem okW (s : ByteArray) (k : Nat) (h : k < s.size) (hk : 0 < k) (hv : vkp (s.data.toList.take k) = true) (hc : (s[k].toNat : Int) = 95 ∨ (48 ≤ (s[k].toNat : Int) ∧ (s[k].toNat : Int) ≤ 57)) : vkp (s.data.toList.take (k + 1)) = true := by
  apply step_ok s k h hv
  rw [if_neg (by omega), isW_iff]; omega
theorem vk_end (s : ByteArray) (k : Nat) (h : s.size ≤ k) (hn : ¬ s.data.toList = []) (hv : vkp (s.data.toList.take k) = true) : true = vk s.data.toList := by
  rw [List.take_of_length_le (by simpa using h)] at hv
  unfold vkp at hv
  rw [List.isEmpty_eq_false_iff.2 hn, Bool.false_or] at hv
  exact hv.symm

set_option maxHeartbeats 1600000 in
theorem valid_any (s : ByteArray) (w : World) (hs : s.size ≤ maxLen) :
    Calls Try.prog 6 #[.string s] w fun e w' => e = .returned (.bool (vk s.data.toList)) ∧ w' = w := by
  unfold maxLen at hs
  by_cases h0 : s.data.toList = []
  · have h1 : s.toList.isEmpty = true := by rw [ByteArray.toList_eq, h0]; rfl
    go_enter Try.func6, Try.ntmps6
    go_wp2
    go_ret
    exact ⟨ret_bool (by rw [h0]; rfl), rfl⟩
  · have h1 : s.toList.isEmpty = false := by rw [ByteArray.toList_eq]; exact List.isEmpty_eq_false_iff.2 h0
    have H0 : Hid (¬ s.data.toList = []) := h0
    clear h0
    go_enter Try.func6, Try.ntmps6
    go_wp2
    go_loop [3] (fun i => ∃ k : Nat, k ≤ s.size ∧ i = .int .i64 k ∧ vkp (s.data.toList.take k) = true) (fun i => s.size - (intOf i).toNat)
    case atStart => exact ⟨0, Nat.zero_le _, rfl, rfl⟩
    case round =>
      obtain ⟨k, hk, rfl, hv⟩ := hrel
      have HV : Hid (vkp (s.data.toList.take k) = true) := hv
      clear hv
      by_cases hlt : k < s.size
      · have hcl := classes (s[k].toNat : Int)
        by_cases hk0 : k = 0
        · subst hk0
          rcases hcl with ⟨h1, h2⟩ | ⟨h1, h2, h3⟩ | ⟨h1, h2, h3, h4, h5, h6, h7⟩ | ⟨h1, h2, h3, h4, h5, h6⟩ | ⟨h1, h2, h3, h4⟩ | ⟨h1, h2, h3, h4, h5⟩ | ⟨h1, h2, h3, h4, h5⟩ | ⟨h1, h2, h3, h4⟩
          all_goals
            go_wp2
            first
              | (go_round
                 case rel => exact ⟨0 + 1, by omega, by go_num, okL s 0 hlt HV.out (by omega)⟩
                 case measure => simp [intOf]; omega)
              | (go_ret
                 exact ⟨ret_bool (bad0 s hlt (by omega)).symm, rfl⟩)
        · have hk1 : ((k : Int) == 0) = false := by simp; omega
          have hk2 : 0 < k := by omega
          clear hk0
          rcases hcl with ⟨h1, h2⟩ | ⟨h1, h2, h3⟩ | ⟨h1, h2, h3, h4, h5, h6, h7⟩ | ⟨h1, h2, h3, h4, h5, h6⟩ | ⟨h1, h2, h3, h4⟩ | ⟨h1, h2, h3, h4, h5⟩ | ⟨h1, h2, h3, h4, h5⟩ | ⟨h1, h2, h3, h4⟩
          all_goals
            go_wp2
            first
              | (go_round
                 case rel => exact ⟨k + 1, by omega, by go_num, by first | exact okL s k hlt HV.out (by omega) | exact okW s k hlt hk2 HV.out (by simp at *; omega)⟩
                 case measure => simp [intOf]; omega)
              | (go_ret
                 exact ⟨ret_bool (badk s k hlt hk2 (by simp at *; omega)).symm, rfl⟩)
      · go_wp2
        go_ret
        exact ⟨ret_bool (vk_end s k (by omega) H0.out HV.out), rfl⟩

theorem cnt_step (s : ByteArray) (k : Nat) (h : k < s.size) : cnt (s.data.toList.take (k + 1)) = cnt (s.data.toList.take k) + if isW s[k] = true then 1 else 0 := by
  rw [take_snoc s k h, cnt_snoc]
theorem cnt_end (s : ByteArray) (k : Nat) (h : s.size ≤ k) : (((cnt (s.data.toList.take k) : Nat) : Int) == (s.size : Int)) = allW s.data.toList := by
  unfold allW
  rw [List.take_of_length_le (by simpa using h)]
  have hc := cnt_all s.data.toList
  have hl : s.data.toList.length = s.size := by simp
  rw [hl] at hc
  rw [Bool.eq_iff_iff, ← hc, beq_iff_eq]; omega

set_option maxHeartbeats 400000 in
theorem allword_any (s : ByteArray) (w : World) (hs : s.size ≤ maxLen) :
    Calls Try.prog 8 #[.string s] w fun e w' => e = .returned (.bool (allW s.data.toList)) ∧ w' = w := by
  unfold maxLen at hs
  go_enter Try.func8, Try.ntmps8
  go_wp2
  go_loop [3, 4] (fun n i => ∃ k : Nat, k ≤ s.size ∧ i = .int .i64 k ∧ n = .int .i64 (cnt (s.data.toList.take k))) (fun _ i => s.size - (intOf i).toNat)
  case atStart => exact ⟨0, Nat.zero_le _, rfl, rfl⟩
  case round =>
    obtain ⟨k, hk, rfl, rfl⟩ := hrel
    have hd := cnt_le (s.data.toList.take k)
    have hl : (s.data.toList.take k).length ≤ k := List.length_take_le _ _
    by_cases hlt : k < s.size
    · have HS := hide (cnt_step s k hlt)
      cases hw : isW s[k]
      all_goals
        go_wp2_with (go_at_call 12; refine (word_any s[k] _).mono ?_; rintro e w' ⟨rfl, rfl⟩; rw [hw])
        go_round
        case rel => exact ⟨k + 1, by omega, by go_num, by rw [HS.out, hw]; go_num⟩
        case measure => simp [intOf]; omega
    · go_wp2
      go_ret
      exact ⟨ret_bool (cnt_end s k (by omega)), rfl⟩

theorem bytes5_yes (a b : ByteArray) (w : World) (h : a.size + b.size ≤ 1048576) :
    Calls Try.prog 5 #[.string a, .string b] w fun e w' => e = .returned (.bool true) ∧ w' = w := by
  have h1 : (a.size : Int) ≤ 1048576 := by omega
  have h2 : (b.size : Int) ≤ 1048576 := by omega
  have h3 : (a.size : Int) + (b.size : Int) ≤ 1048576 := by omega
  go_enter Try.func5, Try.ntmps5
  go_wp2
  go_ret
  exact ⟨rfl, rfl⟩
theorem bytes5_no (a b : ByteArray) (w : World) (ha : a.size ≤ maxLen) (hb : b.size ≤ maxLen) (h : ¬ a.size + b.size ≤ 1048576) :
    Calls Try.prog 5 #[.string a, .string b] w fun e w' => e = .returned (.bool false) ∧ w' = w := by
  unfold maxLen at ha hb
  by_cases h1 : (a.size : Int) ≤ 1048576
  · by_cases h2 : (b.size : Int) ≤ 1048576
    · go_enter Try.func5, Try.ntmps5
      go_wp2
      go_ret
      exact ⟨rfl, rfl⟩
    · go_enter Try.func5, Try.ntmps5
      go_wp2
      go_ret
      exact ⟨rfl, rfl⟩
  · go_enter Try.func5, Try.ntmps5
    go_wp2
    go_ret
    exact ⟨rfl, rfl⟩
end Go.Proofs.Qxb6628323a
