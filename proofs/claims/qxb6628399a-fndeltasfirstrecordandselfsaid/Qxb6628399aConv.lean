import Derived.Test.Qxb6628399aBase
namespace Go.Proofs.Qxb6628399a
open Go.RowKit Go.Joins

/-! ### slices.Clone -/
set_option maxHeartbeats 400000 in
theorem clone_some (x : Addr) (n c : Nat) (xs : List K) (w : World) (h : InRow w (some x) n c xs) (hn : n ≤ 4096) :
    Calls Try.prog 9 #[.slice (some x) n c] w fun e w' => ∃ g cap, e = .returned (.slice (some ⟨g, 0, none⟩) n cap) ∧ w'.ownsRow w.heap.size 27 2 (.slice (some ⟨g, 0, none⟩) n cap) n (flat xs) ∧ Below w.heap.size w w' := by
  have hnil := fun (w : World) (a : Option Addr) (n c : Nat) => Lib.run_eql_slice_nil (P := Try.prog) w 26 27 a n c 0 0 Try.underlying26
  obtain ⟨i0, hi, hz0, hz1, hz2⟩ := info_parts Try.info27
  have HI := hide hi
  have HZ0 := hide hz0
  have HZ1 := hide hz1
  have HZ2 := hide hz2
  have HR := hide (h.below ((Below.refl w.heap.size w).alloc (Nat.le_refl _) (.cells #[] 27)))
  have HL := hide h.1
  have HO := hide (World.ownsRow_lit (base := w.heap.size) (e := 27) (size := 2) w #[] 0 (Nat.le_refl _) (Nat.zero_le _) rfl)
  clear hi hz0 hz1 hz2 h
  go_enter Try.func9, Try.ntmps9
  go_wp2_with (at_builtin; refine wpList_append_own _ rfl _ _ 26 rfl w.heap.size 27 i0 _ 2 24 Try.underlying26 HI.out HZ0.out HZ1.out HZ2.out rfl (by decide) _ _ _ rfl HO.out x n c (flat xs) rfl ?c0 ?c1 ?c2 ?c3 ?c4 (by simp) ?_)
  case c0 => rw [flat_length, HL.out]
  case c1 => exact HR.out.2.2.2.2 x rfl
  case c2 =>
    intro u hu
    simp only [flat, List.mem_flatMap] at hu
    obtain ⟨y, _, hy⟩ := hu
    simp [K.cells] at hy
    rcases hy with rfl | rfl <;> rfl
  case c3 => unfold maxLen; omega
  case c4 => omega
  intro v' w1 hown hgrow hne
  have hb := Below.grown ((Below.refl w.heap.size w).alloc (Nat.le_refl _) (.cells #[] 27)) hgrow (by simp) (by intro q hq; cases hq; exact Nat.le_refl _)
  rcases ownsRow_forms hown with ⟨rfl, _⟩ | ⟨g, cap, rfl⟩
  · simp at hne
  have HO2 := hide hown
  have HB2 := hide hb
  clear hown hb hgrow hne
  go_wp2
  go_ret
  exact ⟨g, cap, rfl, HO2.out, HB2.out⟩

theorem clone_nil (w : World) : Calls Try.prog 9 #[.slice none 0 0] w fun e w' => e = .returned (.slice none 0 0) ∧ w' = w := by
  have hnil := fun (w : World) (a : Option Addr) (n c : Nat) => Lib.run_eql_slice_nil (P := Try.prog) w 26 27 a n c 0 0 Try.underlying26
  go_enter Try.func9, Try.ntmps9
  go_wp2
  go_ret
  exact ⟨rfl, rfl⟩

/-! ### ctrsToCounters -/
/-- the row behind k rounds -/
def rowF (xs : List K) (k : Nat) (Z : List Value) : List Value := flat (xs.take k) ++ Z.drop (k * 2)
theorem set2 (A B : List Value) (n : Nat) (hn : A.length = n) (z0 z1 v0 v1 : Value) : ((A ++ (z0 :: z1 :: B)).set n v0).set (n + 1) v1 = (A ++ [v0, v1]) ++ B := by
  subst hn
  simp [List.set_append_right]
theorem drop2 (Z : List Value) (m : Nat) (h : m + 2 ≤ Z.length) : ∃ z0 z1, Z.drop m = z0 :: z1 :: Z.drop (m + 2) := by
  refine ⟨Z[m], Z[m+1], ?_⟩
  rw [List.drop_eq_getElem_cons (by omega), List.drop_eq_getElem_cons (by omega)]
theorem rowF_step (xs : List K) (k : Nat) (Z : List Value) (x : K) (hx : xs[k]? = some x) (hZ : Z.length = xs.length * 2) :
    ∃ z0 z1, (rowF xs k Z)[k * 2]? = some z0 ∧ (rowF xs k Z)[k * 2 + 1]? = some z1 ∧ ((rowF xs k Z).set (k * 2) (.string x.p)).set (k * 2 + 1) (.int .i64 x.v) = rowF xs (k + 1) Z := by
  obtain ⟨hk, rfl⟩ := List.getElem?_eq_some_iff.1 hx
  obtain ⟨z0, z1, hd⟩ := drop2 Z (k * 2) (by omega)
  have hl : (flat (xs.take k)).length = k * 2 := by rw [flat_length, List.length_take]; congr 1; omega
  refine ⟨z0, z1, ?_, ?_, ?_⟩
  all_goals unfold rowF; rw [hd]
  · rw [List.getElem?_append_right (by omega), hl, Nat.sub_self]; rfl
  · rw [List.getElem?_append_right (by omega), hl, Nat.add_sub_cancel_left]; rfl
  · rw [set2 _ _ _ hl, List.take_succ_eq_append_getElem hk, flat_one, show (k + 1) * 2 = k * 2 + 2 by omega]
    rfl
theorem rowF_zero (xs : List K) (Z : List Value) : rowF xs 0 Z = Z := by simp [rowF, flat]
theorem rowF_end (xs : List K) (Z : List Value) (k : Nat) (hk : xs.length ≤ k) (hZ : Z.length = xs.length * 2) : rowF xs k Z = flat xs := by
  unfold rowF
  rw [List.take_of_length_le hk, List.drop_eq_nil_of_le (by omega), List.append_nil]
theorem stored2 {w : World} {base : Nat} {e : TypeId} {size g n cap : Nat} {xs : List Value} (h : w.ownsRow base e size (.slice (some ⟨g, 0, none⟩) n cap) n xs) (j : Nat) (v0 v1 : Value) :
    ((w.setCell ⟨g, j, none⟩ v0).setCell ⟨g, j + 1, none⟩ v1).ownsRow base e size (.slice (some ⟨g, 0, none⟩) n cap) n ((xs.set j v0).set (j + 1) v1) :=
  ((h.stored j v0).1.stored (j + 1) v1).1

set_option maxHeartbeats 400000 in
theorem ctrs_some (x : Addr) (n c : Nat) (xs : List K) (w : World) (h : InRow w (some x) n c xs) (hn : n ≤ 4096) :
    Calls Try.prog 6 #[.slice (some x) n c] w fun e w' => ∃ g, e = .returned (.slice (some ⟨g, 0, none⟩) n n) ∧ w'.ownsRow w.heap.size 27 2 (.slice (some ⟨g, 0, none⟩) n n) n (flat xs) ∧ Below w.heap.size w w' := by
  have HR := hide h
  clear h
  have hnil := fun (w : World) (a : Option Addr) (n c : Nat) => Lib.run_eql_slice_nil (P := Try.prog) w 22 25 a n c 0 0 Try.underlying22
  obtain ⟨i0, hi, hz0, hz1, hz2⟩ := info_parts Try.info27
  have HI := hide hi
  have HZ0 := hide hz0
  have HZ1 := hide hz1
  have HZ2 := hide hz2
  clear hi hz0 hz1 hz2
  go_enter Try.func6, Try.ntmps6
  go_wp2_with (at_make; refine wpList_make_full _ rfl _ _ 26 rfl w.heap.size 27 i0 _ 2 Try.underlying26 HI.out HZ0.out HZ1.out _ _ _ _ n rfl rfl rfl rfl ?b2 ?b3 ?b4 ?_)
  case b2 => rw [HZ2.out]; omega
  case b3 => unfold maxLen; omega
  case b4 => exact Nat.le_refl _
  intro w1 hown hgrow
  have hb1 : Below w.heap.size w w1 := (Below.refl _ _).grown hgrow (Nat.le_refl _) (by intro k hk; cases hk)
  obtain ⟨Z, HZ, hown2⟩ : ∃ Z : List Value, Z.length = xs.length * 2 ∧ w1.ownsRow w.heap.size 27 2 (.slice (some ⟨w.heap.size, 0, none⟩) n n) n (rowF xs 0 Z) :=
    ⟨_, by have := hown.1; rw [HR.out.1]; exact this, by rw [rowF_zero]; exact hown⟩
  have HO := hide hown2
  have HB := hide hb1
  have hsz := hide (hown2.lt w.heap.size rfl).2
  have HZL := hide HZ
  clear hown hown2 hb1 HZ hgrow
  go_wp2
  go_loopw [4] (fun i wr => ∃ k : Nat, k ≤ n ∧ i = .int .i64 k ∧ wr.ownsRow w.heap.size 27 2 (.slice (some ⟨w.heap.size, 0, none⟩) n n) n (rowF xs k Z) ∧ Below w.heap.size w wr ∧ w.heap.size < wr.heap.size)
    (fun i _ => n - (intOf i).toNat)
  case atStart => exact ⟨0, Nat.zero_le _, rfl, HO.out, HB.out, hsz.out⟩
  case round =>
    obtain ⟨k, hk, rfl, hown, hb, hsz2⟩ := hrel
    have HO2 := hide hown
    have HB2 := hide hb
    clear HO HB hsz hown
    by_cases hlt : k < n
    · obtain ⟨b, off, hba⟩ := HR.out.addr (by omega)
      obtain rfl := Option.some.inj hba
      clear hba
      obtain ⟨y, hy⟩ := HR.out.get k hlt
      obtain ⟨c0, c1⟩ := (HR.out.below hb).at k y hy
      obtain ⟨z0, z1, e0, e1, hset⟩ := rowF_step xs k Z y hy HZL.out
      have HE := hide hset
      have d0 := (HO2.out.cellAt (k * 2) (by omega)).trans e0
      have d1 := (HO2.out.cellAt (k * 2 + 1) (by omega)).trans e1
      have g0 := HO2.out.frozenAt (k * 2)
      have g1 := HO2.out.frozenAt (k * 2 + 1)
      have hlt' : (k : Int) < (n : Int) := by omega
      clear hset hb hy e0 e1
      go_wp2
      go_region
      go_wp2
      go_roundw
      case rel =>
        refine ⟨k + 1, by omega, by go_num, ?_, ?_, ?_⟩
        · rw [← HE.out]; exact (stored2 HO2.out (k * 2) _ _).drew
        · exact ((HB2.out.setCell (Nat.le_refl _) _).setCell (Nat.le_refl _) _).drew
        · simp; omega
      case measure => simp [intOf]; omega
    · go_wp2
      go_ret
      exact ⟨_, rfl, by rw [← rowF_end xs Z k (by rw [HR.out.1]; omega) HZL.out]; exact HO2.out, HB2.out⟩

theorem ctrs_nil (w : World) : Calls Try.prog 6 #[.slice none 0 0] w fun e w' => e = .returned (.slice none 0 0) ∧ w' = w := by
  have hnil := fun (w : World) (a : Option Addr) (n c : Nat) => Lib.run_eql_slice_nil (P := Try.prog) w 22 25 a n c 0 0 Try.underlying22
  go_enter Try.func6, Try.ntmps6
  go_wp2
  go_ret
  exact ⟨rfl, rfl⟩

/-! ### sameCounters: yes, where both hold the same counters -/
set_option maxHeartbeats 400000 in
theorem same_yes (a a' : Option Addr) (n c c' : Nat) (xs : List K) (w : World) (h : InRow w a n c xs) (h' : InRow w a' n c' xs) (hnn : a.isNone = a'.isNone) :
    Calls Try.prog 7 #[.slice a n c, .slice a' n c'] w fun e w' => e = .returned (.bool true) ∧ ∃ q, w' = w.drewN q := by
  have hn : n ≤ maxLen := Nat.le_trans h.2.1 h.2.2.1
  unfold maxLen at hn
  have hnil := fun (w : World) (a : Option Addr) (n c : Nat) => Lib.run_eql_slice_nil (P := Try.prog) w 22 25 a n c 0 0 Try.underlying22
  have hnil2 := fun (w : World) (a : Option Addr) (n c : Nat) => Lib.run_eql_slice_nil (P := Try.prog) w 26 27 a n c 0 0 Try.underlying26
  have HR := hide h
  have HR' := hide h'
  clear h h'
  go_enter Try.func7, Try.ntmps7
  go_wp2
  go_loopw [5] (fun i wr => ∃ k q : Nat, k ≤ n ∧ i = .int .i64 k ∧ wr = w.drewN q) (fun i _ => n - (intOf i).toNat)
  case atStart => exact ⟨0, 0, Nat.zero_le _, rfl, rfl⟩
  case round =>
    obtain ⟨k, q, hk, rfl, rfl⟩ := hrel
    by_cases hlt : k < n
    · obtain ⟨b, off, rfl⟩ := HR.out.addr (by omega)
      obtain ⟨b', off', rfl⟩ := HR'.out.addr (by omega)
      obtain ⟨x, hx⟩ := HR.out.get k hlt
      obtain ⟨c0, c1⟩ := HR.out.at k x hx
      obtain ⟨d0, d1⟩ := HR'.out.at k x hx
      have hlt' : (k : Int) < (n : Int) := by omega
      clear hx
      go_wp2
      go_quiet (fail)
      go_wp2
      go_roundw
      case rel => exact ⟨k + 1, _, by omega, by go_num, rfl⟩
      case measure => simp [intOf]; omega
    · go_wp2
      go_ret
      exact ⟨rfl, _, rfl⟩
end Go.Proofs.Qxb6628399a
