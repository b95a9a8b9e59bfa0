import Derived.Test.Qxb6628399aDeltas
namespace Go.Proofs.Qxb6628399a
open Go.RowKit Go.Joins

theorem ctrs_any (an : Option Addr) (n c : Nat) (xs : List K) (w : World) (h : InRow w an n c xs) (hn : n ≤ 4096) :
    Calls Try.prog 6 #[.slice an n c] w fun e w' => ∃ a' c', e = .returned (.slice a' n c') ∧ a'.isNone = an.isNone ∧ InRow w' a' n c' xs ∧ Below w.heap.size w w' := by
  cases an with
  | some x =>
    refine (ctrs_some x n c xs w h hn).mono ?_
    rintro e w' ⟨g, rfl, h1, h2⟩
    exact ⟨_, _, rfl, rfl, own_inrow h1, h2⟩
  | none =>
    have h0 := h
    obtain ⟨h1, _, _, h4, _⟩ := h
    obtain ⟨rfl, rfl⟩ := h4 rfl
    refine (ctrs_nil w).mono ?_
    rintro e w' ⟨rfl, rfl⟩
    exact ⟨_, _, rfl, rfl, h0, Below.refl _ _⟩

/-- the same names, each at zero -/
def zer (xs : List K) : List K := xs.map fun x => ⟨x.p, 0⟩
/-- is one of the first k negative -/
def neg (xs : List K) (k : Nat) : Bool := (xs.take k).any fun x => decide (x.v < 0)
theorem neg_succ (xs : List K) (k : Nat) (x : K) (hx : xs[k]? = some x) : neg xs (k + 1) = (neg xs k || decide (x.v < 0)) := by
  obtain ⟨hk, rfl⟩ := List.getElem?_eq_some_iff.1 hx
  unfold neg
  rw [List.take_succ_eq_append_getElem hk, List.any_append]; simp
/-- every value fits its kind -/
def Fits (xs : List K) : Prop := ∀ x ∈ xs, -9223372036854775808 ≤ x.v ∧ x.v ≤ 9223372036854775807
theorem wrap_fit {v : Int} (h : -9223372036854775808 ≤ v ∧ v ≤ 9223372036854775807) : wrap64 v = v := by unfold wrap64; omega

theorem minus_zeros (xs : List K) (hf : Fits xs) (n : Nat) : minus xs (fun _ => 0) n = xs := by
  apply List.ext_getElem?
  intro i
  unfold minus
  rw [List.getElem?_mapIdx]
  cases h : xs[i]? with
  | none => rfl
  | some x =>
    obtain ⟨hi, rfl⟩ := List.getElem?_eq_some_iff.1 h
    simp only [Option.map_some]
    split
    · rw [Int.sub_zero, wrap_fit (hf _ (List.getElem_mem hi))]
    · rfl
theorem minus_self (xs : List K) (n : Nat) (hn : xs.length = n) : minus xs (fun i => (xs[i]?.map K.v).getD 0) n = zer xs := by
  apply List.ext_getElem?
  intro i
  unfold minus zer
  rw [List.getElem?_mapIdx, List.getElem?_map]
  cases h : xs[i]? with
  | none => rfl
  | some x =>
    obtain ⟨hi, rfl⟩ := List.getElem?_eq_some_iff.1 h
    simp only [Option.map_some]
    rw [if_pos (by omega)]
    simp [h, wrap64]
theorem anyGt_nil (xs : List K) (k : Nat) : anyGt [] xs k = false := by simp [anyGt]
theorem anyGt_self (xs : List K) (k : Nat) : anyGt xs xs k = false := by
  unfold anyGt
  rw [List.any_eq_false]
  intro p hp
  have h1 := List.take_subset _ _ hp
  rw [List.zip_eq_zipWith, List.mem_iff_getElem?] at h1
  obtain ⟨i, hi⟩ := h1
  rw [List.getElem?_zipWith] at hi
  cases h : xs[i]? with
  | none => rw [h] at hi; cases hi
  | some x =>
    rw [h] at hi
    simp at hi
    subst hi
    simp
theorem anyGt_zer (xs : List K) (k : Nat) : anyGt (zer xs) xs k = neg xs k := by
  unfold anyGt neg zer
  rw [List.zip_map_left, ← List.map_take, List.any_map]
  induction xs generalizing k with
  | nil => simp
  | cons x r ih =>
    cases k with
    | zero => simp
    | succ k =>
      simp only [List.zip_cons_cons, List.take_succ_cons, List.any_cons]
      rw [ih k]
      rfl

theorem deltas_nil (an : Option Addr) (n c : Nat) (xs : List K) (w : World) (h : InRow w an n c xs) (hn : n ≤ 4096) (hf : Fits xs) :
    Calls Try.prog 5 #[.slice none 0 0, .slice an n c] w fun e w' => ∃ a' c', e = .returned (.tuple #[.slice a' n c', .bool false]) ∧ a'.isNone = an.isNone ∧ InRow w' a' n c' xs ∧ Below w.heap.size w w' := by
  refine (deltas_any none 0 0 [] an n c xs (fun _ => 0) w ⟨rfl, Nat.le_refl _, Nat.zero_le _, fun _ => ⟨rfl, rfl⟩, by intro x hx; cases hx⟩ h hn (Nat.zero_le _) (by intro i o x ho; simp at ho)
    (fun i x w1 _ _ => value_nil i x.p w1)).mono ?_
  rintro e w' ⟨v, rfl, ⟨a', c', rfl, hnn, hr⟩, hb⟩
  rw [outs_no (anyGt_nil xs 0), minus_zeros xs hf] at hr
  exact ⟨a', c', by rw [anyGt_nil], hnn, hr, hb⟩
theorem deltas_zero (ao : Option Addr) (co : Nat) (an : Option Addr) (n c : Nat) (xs : List K) (w : World) (ho : InRow w ao n co (zer xs)) (h : InRow w an n c xs) (hn : n ≤ 4096) (hf : Fits xs) :
    Calls Try.prog 5 #[.slice ao n co, .slice an n c] w fun e w' => ∃ a' c', e = .returned (.tuple #[.slice a' n c', .bool (neg xs n)]) ∧ a'.isNone = an.isNone ∧ InRow w' a' n c' xs ∧ Below w.heap.size w w' := by
  refine (deltas_any ao n co (zer xs) an n c xs (fun _ => 0) w ho h hn (Nat.le_refl _) (by
      intro i o x h1 h2
      unfold zer at h1
      rw [List.getElem?_map, h2] at h1
      simp at h1; rw [← h1])
    (fun i x w1 hx hb => by
      have hz : (zer xs)[i]? = some ⟨x.p, 0⟩ := by unfold zer; rw [List.getElem?_map, hx]; rfl
      exact value_at ao n co (zer xs) i ⟨x.p, 0⟩ w1 (ho.below hb) hz)).mono ?_
  rintro e w' ⟨v, rfl, ⟨a', c', rfl, hnn, hr⟩, hb⟩
  have e1 : outs (zer xs) xs (fun _ => 0) n n = xs := by
    cases h : anyGt (zer xs) xs n
    · rw [outs_no h, minus_zeros xs hf]
    · rw [outs_yes h]
  rw [e1] at hr
  exact ⟨a', c', by rw [anyGt_zer], hnn, hr, hb⟩
theorem deltas_self (ao : Option Addr) (co : Nat) (an : Option Addr) (n c : Nat) (xs : List K) (w : World) (ho : InRow w ao n co xs) (h : InRow w an n c xs) (hn : n ≤ 4096) :
    Calls Try.prog 5 #[.slice ao n co, .slice an n c] w fun e w' => ∃ a' c', e = .returned (.tuple #[.slice a' n c', .bool false]) ∧ a'.isNone = an.isNone ∧ InRow w' a' n c' (zer xs) ∧ Below w.heap.size w w' := by
  refine (deltas_any ao n co xs an n c xs (fun i => (xs[i]?.map K.v).getD 0) w ho h hn (Nat.le_refl _) (by
      intro i o x h1 h2
      rw [h1] at h2; cases h2; rfl)
    (fun i x w1 hx hb => by
      have := value_at ao n co xs i x w1 (ho.below hb) hx
      rw [show (xs[i]?.map K.v).getD 0 = x.v by rw [hx]; rfl]
      exact this)).mono ?_
  rintro e w' ⟨v, rfl, ⟨a', c', rfl, hnn, hr⟩, hb⟩
  rw [outs_no (anyGt_self xs n), minus_self xs n h.1] at hr
  exact ⟨a', c', by rw [anyGt_self], hnn, hr, hb⟩
end Go.Proofs.Qxb6628399a
