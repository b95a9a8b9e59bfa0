/-
  THE PLAIN LAWS OF SEAT Qxb6628323a: no Go in sight: lists of bytes.
-/
namespace Go.Proofs.Qxb6628323a

/-- an ASCII letter -/
def isL (c : UInt8) : Bool := decide ((97 ≤ c.toNat ∧ c.toNat ≤ 122) ∨ (65 ≤ c.toNat ∧ c.toNat ≤ 90))
/-- a letter, a digit or '_' -/
def isW (c : UInt8) : Bool := isL c || decide (c.toNat = 95 ∨ (48 ≤ c.toNat ∧ c.toNat ≤ 57))
/-- what ValidKey answers -/
def vk : List UInt8 → Bool
  | [] => false
  | c :: r => isL c && r.all isW
/-- how far ValidKey's loop has come: nothing yet refused -/
def vkp (l : List UInt8) : Bool := l.isEmpty || vk l

theorem isL_iff (c : UInt8) : isL c = true ↔ (97 ≤ c.toNat ∧ c.toNat ≤ 122) ∨ (65 ≤ c.toNat ∧ c.toNat ≤ 90) := by simp [isL]
theorem isW_iff (c : UInt8) : isW c = true ↔ ((97 ≤ c.toNat ∧ c.toNat ≤ 122) ∨ (65 ≤ c.toNat ∧ c.toNat ≤ 90)) ∨ (c.toNat = 95 ∨ (48 ≤ c.toNat ∧ c.toNat ≤ 57)) := by
  simp [isW, isL]
theorem isW_of_isL {c : UInt8} (h : isL c = true) : isW c = true := by simp [isW, h]

theorem vk_cons (c : UInt8) (r : List UInt8) : vk (c :: r) = (isL c && r.all isW) := rfl
theorem vk_nil : vk [] = false := rfl

theorem vkp_snoc (l : List UInt8) (c : UInt8) : vkp (l ++ [c]) = (vkp l && (if l = [] then isL c else isW c)) := by
  cases l with
  | nil => simp [vkp, vk]
  | cons a r => simp [vkp, vk, List.all_append, Bool.and_assoc]

theorem vkp_front (l m : List UInt8) (h : vkp l = false) : vk (l ++ m) = false := by
  cases l with
  | nil => simp [vkp] at h
  | cons a r =>
    simp only [vkp, List.isEmpty_cons, Bool.false_or, vk] at h
    simp only [List.cons_append, vk, List.all_append, ← Bool.and_assoc, h, Bool.false_and]

theorem vk_append (c : UInt8) (r b : List UInt8) : vk ((c :: r) ++ b) = (vk (c :: r) && vk ([c] ++ b)) := by
  simp only [List.cons_append, vk, List.all_append, List.nil_append]
  cases isL c <;> cases r.all isW <;> cases b.all isW <;> rfl

theorem vk_double (l : List UInt8) : vk (l ++ l) = vk l := by
  cases l with
  | nil => rfl
  | cons c r =>
    simp only [List.cons_append, vk, List.all_append, List.all_cons]
    cases h : isL c
    · simp
    · rw [isW_of_isL h]; cases r.all isW <;> rfl

/-- all are word bytes -/
def allW (l : List UInt8) : Bool := l.all isW
/-- the count of word bytes -/
def cnt (l : List UInt8) : Nat := (l.filter isW).length
theorem cnt_le (l : List UInt8) : cnt l ≤ l.length := List.length_filter_le _ _
theorem cnt_snoc (l : List UInt8) (c : UInt8) : cnt (l ++ [c]) = cnt l + if isW c = true then 1 else 0 := by
  unfold cnt; rw [List.filter_append]
  cases h : isW c <;> simp [h]
theorem cnt_all (l : List UInt8) : (cnt l = l.length) ↔ l.all isW = true := by
  unfold cnt
  induction l with
  | nil => simp
  | cons a r ih =>
    have hle := List.length_filter_le isW r
    cases h : isW a
    · simp [h]; omega
    · simp only [List.filter_cons, h, List.all_cons, if_true, List.length_cons, Bool.true_and]
      rw [← ih]; omega

/-- the case of a letter swapped -/
def swp (c : UInt8) : UInt8 := if isL c then c ^^^ 0x20 else c
theorem swp_facts : ∀ n : Fin 256, isL (swp (UInt8.ofNat n.val)) = isL (UInt8.ofNat n.val) ∧ isW (swp (UInt8.ofNat n.val)) = isW (UInt8.ofNat n.val) := by decide +kernel
theorem swp_isL (c : UInt8) : isL (swp c) = isL c := by
  have h := (swp_facts ⟨c.toNat, c.toNat_lt⟩).1
  simpa using h
theorem swp_isW (c : UInt8) : isW (swp c) = isW c := by
  have h := (swp_facts ⟨c.toNat, c.toNat_lt⟩).2
  simpa using h
theorem vk_swap (l : List UInt8) : vk (l.map swp) = vk l := by
  cases l with
  | nil => rfl
  | cons c r =>
    simp only [List.map_cons, vk, swp_isL, List.all_map]
    have : (isW ∘ swp) = isW := funext swp_isW
    rw [this]

theorem all_filter (l : List UInt8) : (l.filter isW).all isW = true := by simp
theorem vk_K (l : List UInt8) : vk (75 :: l.filter isW) = true := by
  rw [vk_cons, all_filter]; decide
theorem vk_us (l : List UInt8) : vk (95 :: l) = false := by
  rw [vk_cons]; have : isL 95 = false := by decide
  rw [this]; rfl
theorem vk_7 (l : List UInt8) : vk (55 :: l) = false := by
  rw [vk_cons]; have : isL 55 = false := by decide
  rw [this]; rfl

/-- the byte's own tests, as the Go text of the law has them: bit 5 set gives 'a'..'z'; c - '0' below ten -/
theorem or_facts : ∀ n : Fin 256, isL (UInt8.ofNat n.val) = decide (97 ≤ (n.val ||| 32) ∧ (n.val ||| 32) ≤ 122) := by decide +kernel
theorem isL_or (c : UInt8) : isL c = decide (97 ≤ (c.toNat ||| 32) ∧ (c.toNat ||| 32) ≤ 122) := by
  have h := or_facts ⟨c.toNat, c.toNat_lt⟩
  simpa using h

theorem all_of_ge (l : List UInt8) (k : Nat) (h : l.length ≤ k) : l.take k = l := List.take_of_length_le h
theorem take_snoc (s : ByteArray) (k : Nat) (h : k < s.size) : s.data.toList.take (k + 1) = s.data.toList.take k ++ [s[k]] := by
  rw [List.take_succ_eq_append_getElem (by simpa using h)]; rfl
end Go.Proofs.Qxb6628323a
