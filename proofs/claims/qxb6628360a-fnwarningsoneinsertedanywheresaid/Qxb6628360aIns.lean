import Derived.Test.Qxb6628360aSplit
import Derived.Deep.RegionWith
namespace Go.Proofs.Qxb6628360a
open Go.RowKit Go.Joins

set_option maxHeartbeats 400000 in
theorem bytes9_any (a : Option Addr) (n c : Nat) (xs : List R) (y : R) (z : Int) (w : World) (h : InRow w a n c xs) :
    Calls Try.prog 9 #[.slice a n c, .agg #[.string y.p, .string y.r, .int .i64 y.s, .int .i64 y.t, .int .i64 y.u], .int .i64 z] w fun e w' => SomeBool e ∧ Below w.heap.size w w' := by
  have hn : n ≤ maxLen := Nat.le_trans h.2.1 h.2.2.1
  unfold maxLen at hn
  have HR := hide (h.below ((Below.refl w.heap.size w).alloc (Nat.le_refl _) (.cells #[.string y.p, .string y.r, .int .i64 y.s, .int .i64 y.t, .int .i64 y.u] 33)))
  have HB := hide ((Below.refl w.heap.size w).alloc (Nat.le_refl _) (.cells #[.string y.p, .string y.r, .int .i64 y.s, .int .i64 y.t, .int .i64 y.u] 33))
  clear h
  by_cases hz : (1048576 : Int) < (n : Int)
  · go_enter Try.func9, Try.ntmps9
    go_wp2
    go_ret
    exact ⟨⟨_, rfl⟩, HB.out⟩
  go_enter Try.func9, Try.ntmps9
  go_wp2
  go_loop [7, 8] (fun t i => ∃ (k : Nat) (y : Int), k ≤ n ∧ i = .int .i64 k ∧ t = .int .i64 y) (fun _ i => n - (intOf i).toNat)
  case atStart => exact ⟨0, _, Nat.zero_le _, rfl, rfl⟩
  case round =>
    obtain ⟨k, t, hk, rfl, rfl⟩ := hrel
    by_cases hlt : k < n
    · obtain ⟨b, off, rfl⟩ := HR.out.addr (by omega)
      obtain ⟨x, hx, c0, c1, c2, c3, c4⟩ := HR.out.cells k hlt
      clear hx
      go_wp2
      all_goals first
        | (go_ret
           exact ⟨⟨_, rfl⟩, HB.out⟩)
        | (go_round
           case rel => exact ⟨k + 1, _, by omega, by go_num, rfl⟩
           case measure => simp [intOf]; omega)
    · go_wp2
      all_goals
        go_ret
        exact ⟨⟨_, rfl⟩, HB.out⟩

theorem own_inrow' {e : TypeId} {w : World} {base : Nat} {a : Option Addr} {n c : Nat} {xs : List R} (h : w.ownsRow base e 5 (.slice a n c) n (flat xs)) : InRow w a n c xs := by
  have hl : xs.length = n := by have := h.1; rw [flat_length] at this; omega
  rcases h.2 with ⟨h', h0⟩ | ⟨g, cap, cur, h', _, _, hnc, hcm, _⟩
  · simp only [Value.slice.injEq] at h'
    obtain ⟨rfl, rfl, rfl⟩ := h'
    exact ⟨hl, Nat.le_refl _, Nat.zero_le _, fun _ => ⟨rfl, rfl⟩, by intro x hx; cases hx⟩
  · simp only [Value.slice.injEq, true_and] at h'
    obtain ⟨rfl, rfl⟩ := h'
    exact ⟨hl, hnc, hcm, (fun h => by cases h), by intro x hx i u hu; cases hx; exact h.cells rfl i u hu⟩
theorem Try.info33 : (Try.prog.info? 33).map (fun i => (i.zero, i.size, i.bytes)) = some (some (.agg #[.string ByteArray.empty, .string ByteArray.empty, .int .i64 0, .int .i64 0, .int .i64 0]), 5, 56) := by kernel_rfl

/-- a record in a box of its own -/
def BoxAt (w : World) (B : Nat) (y : R) : Prop := w.cell? ⟨B, 0, none⟩ = some (.string y.p) ∧ w.cell? ⟨B, 1, none⟩ = some (.string y.r) ∧ w.cell? ⟨B, 2, none⟩ = some (.int .i64 y.s) ∧
  w.cell? ⟨B, 3, none⟩ = some (.int .i64 y.t) ∧ w.cell? ⟨B, 4, none⟩ = some (.int .i64 y.u) ∧ B < w.heap.size
theorem BoxAt.below {w w' : World} {B : Nat} {y : R} (h : BoxAt w B y) (hb : Below w.heap.size w w') : BoxAt w' B y := by
  obtain ⟨h0, h1, h2, h3, h4, hs⟩ := h
  exact ⟨(hb.cell hs).trans h0, (hb.cell hs).trans h1, (hb.cell hs).trans h2, (hb.cell hs).trans h3, (hb.cell hs).trans h4, Nat.lt_of_lt_of_le hs hb.size⟩
theorem BoxAt.mk (w : World) (y : R) : BoxAt (w.alloc (.cells #[.string y.p, .string y.r, .int .i64 y.s, .int .i64 y.t, .int .i64 y.u] 33)) w.heap.size y := by
  refine ⟨?_, ?_, ?_, ?_, ?_, by simp⟩
  all_goals rw [World.cell?_alloc_at _ _ _ _ rfl]; rfl

/-- the list with y put in at k -/
def ins (xs : List R) (k : Nat) (y : R) : List R := xs.take k ++ y :: xs.drop k
/-- what 'with' holds behind m rounds of the second loop -/
def mid (xs : List R) (k : Nat) (y : R) (m : Nat) : List R := xs.take k ++ y :: (xs.drop k).take (m - k)
theorem mid_start (xs : List R) (k : Nat) (y : R) : mid xs k y k = xs.take k ++ [y] := by simp [mid]
theorem mid_end (xs : List R) (k : Nat) (y : R) (m : Nat) (h : xs.length ≤ m) : mid xs k y m = ins xs k y := by
  unfold mid ins
  rw [List.take_of_length_le (l := xs.drop k) (by rw [List.length_drop]; omega)]
theorem mid_succ (xs : List R) (k : Nat) (y : R) (m : Nat) (hk : k ≤ m) (x : R) (hx : xs[m]? = some x) : mid xs k y (m + 1) = mid xs k y m ++ [x] := by
  obtain ⟨hm, rfl⟩ := List.getElem?_eq_some_iff.1 hx
  unfold mid
  rw [show m + 1 - k = (m - k) + 1 by omega, List.take_succ_eq_append_getElem (by rw [List.length_drop]; omega), List.append_assoc, List.cons_append]
  simp [show k + (m - k) = m by omega]
theorem mid_length (xs : List R) (k : Nat) (y : R) (m : Nat) (hk : k ≤ m) (hm : m ≤ xs.length) : (mid xs k y m).length = m + 1 := by
  simp [mid]; omega

theorem take_one (xs : List R) (k : Nat) (x : R) (hx : xs[k]? = some x) : xs.take (k + 1) = xs.take k ++ [x] := by
  obtain ⟨hk, rfl⟩ := List.getElem?_eq_some_iff.1 hx
  rw [List.take_succ_eq_append_getElem hk]
theorem flat_one (xs : List R) (x : R) : flat (xs ++ [x]) = flat xs ++ x.cells := by rw [flat_append]; simp [flat]
theorem cells_oneCell (y : R) : ∀ u ∈ y.cells, u.oneCell' = true := by
  intro u hu; simp [R.cells] at hu; rcases hu with rfl | rfl | rfl | rfl | rfl <;> rfl
theorem cells_new (w : World) (y : R) (t : TypeId) : ∀ j u, y.cells[j]? = some u → (w.alloc (.cells #[.string y.p, .string y.r, .int .i64 y.s, .int .i64 y.t, .int .i64 y.u] t)).cell? ((⟨w.heap.size, 0, none⟩ : Addr).add j) = some u := by
  intro j u hj
  rw [Addr.add_lit, Nat.zero_add, World.cell?_alloc_at _ _ _ _ rfl]; rw [← hj]; unfold R.cells; simp

theorem wk_ins_no (xs : List R) (k : Nat) (y : R) (n : Nat) (hl : xs.length = n) (hs : (y.s == 1) = false) : wk (ins xs k y) (n + 1) = wk xs n := by
  unfold wk ins
  have e : (xs.take k ++ y :: xs.drop k).length ≤ n + 1 := by simp; omega
  rw [List.take_of_length_le e, List.take_of_length_le (l := xs) (i := n) (by omega), List.filter_append, List.filter_cons, if_neg (by rw [hs]; decide), ← List.filter_append, List.take_append_drop]
theorem wk_ins_yes (xs : List R) (k : Nat) (y : R) (n : Nat) (hl : xs.length = n) (hs : (y.s == 1) = true) : wk (ins xs k y) (n + 1) = wk (xs.take k) k ++ y :: wk (xs.drop k) (n - k) := by
  unfold wk ins
  have e : (xs.take k ++ y :: xs.drop k).length ≤ n + 1 := by simp; omega
  rw [List.take_of_length_le e, List.filter_append, List.filter_cons, if_pos hs, List.take_take, Nat.min_self, List.take_of_length_le (l := xs.drop k) (by rw [List.length_drop]; omega)]

theorem one_exact (p r : ByteArray) (s t u : Int) (w : World) :
    Calls Try.prog 10 #[.agg #[.string p, .string r, .int .i64 s, .int .i64 t, .int .i64 u]] w fun e w' =>
      e = .returned (.agg #[.string p, .string r, .int .i64 s, .int .i64 t, .int .i64 u]) ∧ w' = (w.alloc (.cells #[.string p, .string r, .int .i64 s, .int .i64 t, .int .i64 u] 33)).alloc (.cells #[.string p, .string r, .int .i64 s, .int .i64 t, .int .i64 u] 31) := by
  go_enter Try.func10, Try.ntmps10
  go_wp2
  exact bodyPost_ret (v := .agg #[.string p, .string r, .int .i64 s, .int .i64 t, .int .i64 u]) (by simp [results, Try.results10, go_sem]) rfl ⟨rfl, rfl⟩

set_option maxRecDepth 100000 in
set_option maxHeartbeats 4000000 in
theorem walk4_main (a : Option Addr) (n c : Nat) (xs : List R) (y : R) (k : Nat) (w : World) (h : InRow w a n c xs) (hn : n ≤ 65536) (hk : k ≤ n) (hp : (y.p.size : Int) ≤ 1048576) (hr : (y.r.size : Int) ≤ 1048576) :
    Calls Try.prog 4 #[.slice a n c, .agg #[.string y.p, .string y.r, .int .i64 y.s, .int .i64 y.t, .int .i64 y.u], .int .i64 k] w fun e w' => e = .returned (.bool true) ∧ Below w.heap.size w w' := by
  have hnc : n ≤ c := h.2.1
  have hlx : xs.length = n := h.1
  have HL := hide hlx
  clear hlx
  obtain ⟨W0, hW0⟩ : ∃ W0, W0 = w.alloc (.cells #[.string y.p, .string y.r, .int .i64 y.s, .int .i64 y.t, .int .i64 y.u] 33) := ⟨_, rfl⟩
  have hbw : Below w.heap.size w W0 := by rw [hW0]; exact (Below.refl w.heap.size w).alloc (Nat.le_refl _) _
  have HR := hide (h.below hbw)
  have HBW := hide hbw
  have HX := hide (show BoxAt W0 w.heap.size y by rw [hW0]; exact BoxAt.mk w y)
  have HW0 := hide hW0
  clear h hbw hW0
  obtain ⟨i0, hi, hz0, hz1, hz2⟩ := info_parts Try.info33
  have HI := hide hi
  have HZ0 := hide hz0
  have HZ1 := hide hz1
  have HZ2 := hide hz2
  clear hi hz0 hz1 hz2
  have hn1 : decide ((65536 : Int) < (n : Int)) = false := decide_eq_false (by omega)
  have hp1 : decide ((1048576 : Int) < (y.p.size : Int)) = false := decide_eq_false (by omega)
  have hr1 : decide ((1048576 : Int) < (y.r.size : Int)) = false := decide_eq_false (by omega)
  have hk0 : decide ((k : Int) < 0) = false := decide_eq_false (by omega)
  have hk1 : decide ((n : Int) < (k : Int)) = false := decide_eq_false (by omega)
  have hk2 : (k : Int) ≤ (c : Int) := by omega
  have hk3 : (k : Int) ≤ (n : Int) := by omega
  have hk4 : (0 : Int) ≤ (k : Int) := by omega
  have hnil := fun (w : World) (a : Option Addr) (n c : Nat) => Lib.run_eql_slice_nil (P := Try.prog) w 24 31 a n c 0 0 Try.underlying24
  go_enter Try.func4, Try.ntmps4
  go_wp2_with fail
  rw [← HW0.out]
  refine (bytes9_any a n c xs y k _ HR.out).mono ?_
  rintro e w1 ⟨⟨b, rfl⟩, hb1⟩
  have HB1 := hide hb1
  clear hb1
  cases b
  · go_wp2
    go_ret
    exact ⟨rfl, HBW.out.trans (HB1.out.mono HBW.out.size)⟩
  obtain ⟨e0, e1, e2, e3, e4, eb⟩ := HX.out.below HB1.out
  go_wp2_with fail
  refine (over_any a n c xs _ _ (HR.out.below HB1.out)).mono ?_
  rintro e w' ⟨⟨b, rfl⟩, q, rfl⟩
  have HB2 := hide (HB1.out.trans (below_draws _ _ q))
  clear HB1
  cases b
  rotate_left
  · go_wp2
    go_ret
    exact ⟨rfl, HBW.out.trans (HB2.out.mono HBW.out.size)⟩
  clear e0 e1 e2 e3 e4 eb
  obtain ⟨W1, hW1⟩ : ∃ W1, W1 = w1.drewN q := ⟨_, rfl⟩
  rw [← hW1] at HB2 ⊢
  clear hW1
  go_wp2_with (at_make; refine wpList_make_own _ rfl _ _ 22 rfl W1.heap.size 33 i0 _ 5 Try.underlying22 HI.out HZ0.out HZ1.out _ _ _ (n + 1) rfl rfl (by omega) ?b2 ?b3 ?b4 ?_)
  case b2 => rw [HZ2.out]; omega
  case b3 => unfold maxLen; omega
  case b4 => exact Nat.le_refl _
  intro w2 hown hgrow
  have HO := hide hown
  have HB3 := hide ((Below.refl W1.heap.size W1).grown hgrow (Nat.le_refl _) (by intro q hq; cases hq))
  clear hown hgrow
  have HR1 := hide (HR.out.below HB2.out)
  have HX1 := hide (HX.out.below HB2.out)
  have hsz2 : W1.heap.size < w2.heap.size := (HO.out.lt W1.heap.size rfl).2
  go_wp2
  go_loopw [7, 8] (fun v i wr => ∃ j : Nat, j ≤ k ∧ i = .int .i64 j ∧ v = .slice (some ⟨W1.heap.size, 0, none⟩) j (n + 1) ∧
      wr.ownsRow W1.heap.size 33 5 (.slice (some ⟨W1.heap.size, 0, none⟩) j (n + 1)) j (flat (xs.take j)) ∧ Below W1.heap.size W1 wr ∧ W1.heap.size < wr.heap.size) (fun _ i _ => k - (intOf i).toNat)
  case atStart => exact ⟨0, Nat.zero_le _, rfl, rfl, HO.out, HB3.out, hsz2⟩
  case round =>
    obtain ⟨j, hj, rfl, rfl, hown, hb, hsz⟩ := hrel
    have HO2 := hide hown
    have HB4 := hide hb
    clear hown HO HB3 hsz2
    by_cases hlt : j < k
    · obtain ⟨b, off, rfl⟩ := HR1.out.addr (by omega)
      obtain ⟨x, hx, c0, c1, c2, c3, c4⟩ := (HR1.out.below hb).cells j (by omega)
      have HK := hide (take_one xs j x hx)
      clear hx hb
      have hlt2 : (j : Int) < (n : Int) := by omega
      go_wp2_with (at_builtin; refine wpList_append_fits _ rfl _ _ 22 rfl W1.heap.size 33 i0 5 Try.underlying22 HI.out HZ1.out W1.heap.size j (n + 1) _ rfl (HO2.out.alloc _) ⟨wr.heap.size, 0, none⟩ 1 1 x.cells rfl rfl ?c1 ?c2 ?c3 ?_)
      case c1 => exact cells_new _ _ _
      case c2 => exact cells_oneCell x
      case c3 => omega
      intro w3 hown3 hgrow
      have HO3 := hide hown3
      have HB5 := hide (Below.grown (HB4.out.alloc (Nat.le_of_lt hsz) _) hgrow (by simp; omega) (by intro q hq; cases hq; exact Nat.le_refl _))
      have hsz3 : W1.heap.size < w3.heap.size := by have := hgrow.size; simp at this; omega
      clear hown3 hgrow
      go_wp2
      go_roundw
      case rel => exact ⟨j + 1, by omega, by go_num, rfl, by rw [HK.out, flat_one]; exact HO3.out, HB5.out, hsz3⟩
      case measure => simp [intOf]; omega
    · obtain rfl : j = k := by omega
      obtain ⟨e0, e1, e2, e3, e4, eb⟩ := HX1.out.below hb
      clear hb
      go_wp2_with (at_builtin; refine wpList_append_fits _ rfl _ _ 22 rfl W1.heap.size 33 i0 5 Try.underlying22 HI.out HZ1.out W1.heap.size j (n + 1) _ rfl (HO2.out.alloc _) ⟨wr.heap.size, 0, none⟩ 1 1 y.cells rfl rfl ?c1 ?c2 ?c3 ?_)
      case c1 => exact cells_new _ _ _
      case c2 => exact cells_oneCell y
      case c3 => omega
      intro w3 hown3 hgrow
      have HO3 := hide hown3
      have HB5 := hide (Below.grown (HB4.out.alloc (Nat.le_of_lt hsz) _) hgrow (by simp; omega) (by intro q hq; cases hq; exact Nat.le_refl _))
      have hsz3 : W1.heap.size < w3.heap.size := by have := hgrow.size; simp at this; omega
      clear hown3 hgrow e0 e1 e2 e3 e4 eb
      go_wp2
      go_loopw [7, 9] (fun v i wr => ∃ m : Nat, j ≤ m ∧ m ≤ n ∧ i = .int .i64 m ∧ v = .slice (some ⟨W1.heap.size, 0, none⟩) (m + 1) (n + 1) ∧
          wr.ownsRow W1.heap.size 33 5 (.slice (some ⟨W1.heap.size, 0, none⟩) (m + 1) (n + 1)) (m + 1) (flat (mid xs j y m)) ∧ Below W1.heap.size W1 wr ∧ W1.heap.size < wr.heap.size) (fun _ i _ => n - (intOf i).toNat)
      case atStart => exact ⟨j, Nat.le_refl _, hk, rfl, rfl, by rw [mid_start, flat_one]; exact HO3.out, HB5.out, hsz3⟩
      case round =>
        obtain ⟨m, hm0, hm, rfl, rfl, hown, hb, hsz4⟩ := hrel
        have HO4 := hide hown
        have HB6 := hide hb
        clear hown HO3 HB5 HO2 HB4 hsz3 hsz
        by_cases hlt2 : m < n
        · obtain ⟨b, off, rfl⟩ := HR1.out.addr (by omega)
          obtain ⟨x, hx, c0, c1, c2, c3, c4⟩ := (HR1.out.below hb).cells m (by omega)
          have HK := hide (mid_succ xs j y m hm0 x hx)
          clear hx hb
          go_wp2_with (at_builtin; refine wpList_append_fits _ rfl _ _ 22 rfl W1.heap.size 33 i0 5 Try.underlying22 HI.out HZ1.out W1.heap.size (m + 1) (n + 1) _ rfl (HO4.out.alloc _) ⟨wr.heap.size, 0, none⟩ 1 1 x.cells rfl rfl ?c1 ?c2 ?c3 ?_)
          case c1 => exact cells_new _ _ _
          case c2 => exact cells_oneCell x
          case c3 => omega
          intro w5 hown5 hgrow
          have HO5 := hide hown5
          have HB7 := hide (Below.grown (HB6.out.alloc (Nat.le_of_lt hsz4) _) hgrow (by simp; omega) (by intro q hq; cases hq; exact Nat.le_refl _))
          have hsz5 : W1.heap.size < w5.heap.size := by have := hgrow.size; simp at this; omega
          clear hown5 hgrow
          go_wp2
          go_roundw
          case rel => exact ⟨m + 1, by omega, by omega, by go_num, rfl, by rw [HK.out, flat_one]; exact HO5.out, HB7.out, hsz5⟩
          case measure => simp [intOf]; omega
        · obtain rfl : m = n := by omega
          have HM := hide (mid_end xs j y m (by rw [HL.out]; exact Nat.le_refl _))
          rw [HM.out] at HO4
          have HI4 := hide (own_inrow' HO4.out)
          have HR4 := hide (HR1.out.below hb)
          have HX4 := hide (HX1.out.below hb)
          have HB8 := hide (HBW.out.trans ((HB2.out.mono HBW.out.size).trans (hb.mono (Nat.le_trans HBW.out.size HB2.out.size))))
          clear hb HO4 HB6 HR1 HX1 HR HX HB2 HM
          go_wp2_with fail
          refine (of_any a m c xs _ HR4.out (by omega)).mono ?_
          rintro e w6 ⟨g, cap, rfl, hown6, hb6⟩
          have HO6 := hide hown6
          have HI6 := hide (HI4.out.below hb6)
          have HR6 := hide (HR4.out.below hb6)
          have HX6 := hide (HX4.out.below hb6)
          have HB9 := hide (HB8.out.trans (hb6.mono HB8.out.size))
          clear hown6 hb6 HI4 HR4 HX4 HB8
          go_wp2_with fail
          refine (of_any _ (m + 1) (m + 1) (ins xs j y) _ HI6.out (by omega)).mono ?_
          rintro e w7 ⟨g1, cap1, rfl, hown7, hb7⟩
          have HO7 := hide hown7
          have HO8 := hide (own_below HO6.out hb7)
          have HR7 := hide (HR6.out.below hb7)
          have HX7 := hide (HX6.out.below hb7)
          have HB10 := hide (HB9.out.trans (hb7.mono HB9.out.size))
          clear hown7 hb7 HI6 HR6 HX6 HB9 HO6
          obtain ⟨e0, e1, e2, e3, e4, eb⟩ := HX7.out
          have hCl : (wk xs m).length ≤ 65536 := Nat.le_trans (wk_le _ _) (by omega)
          cases hs : (y.s == 1)
          · have hs2 : (y.s != 1) = true := by simp [bne, hs]
            have HD := hide (wk_ins_no xs j y m HL.out hs)
            rw [HD.out]
            rw [HD.out] at HO7
            clear hs HD
            go_wp2_with fail
            refine (count_any' a m c xs _ HR7.out).mono ?_
            rintro e w' ⟨rfl, hw'⟩
            obtain rfl := hw'.symm
            clear hw'
            generalize hC : wk xs m = C at *
            clear hC
            go_wp2_with fail
            go_loopw [12] (fun i wr => ∃ l q : Nat, l ≤ C.length ∧ i = .int .i64 l ∧ wr = w7.drewN q) (fun i _ => C.length - (intOf i).toNat)
            case atStart => exact ⟨0, 0, Nat.zero_le _, rfl, rfl⟩
            case round =>
              obtain ⟨l, q1, hl, rfl, rfl⟩ := hrel
              by_cases hlt3 : l < C.length
              · have hx : C[l]? = some C[l] := List.getElem?_eq_getElem hlt3
                obtain ⟨a0, a1, a2, a3, a4⟩ := own_cells HO7.out l C[l] hx
                obtain ⟨c0, c1, c2, c3, c4⟩ := own_cells HO8.out l C[l] hx
                clear hx e0 e1 e2 e3 e4
                have hl1 : (l : Int) < (C.length : Int) := by omega
                generalize C[l] = x at *
                go_wp2
                go_quiet (fail)
                go_wp2
                go_roundw
                case rel => exact ⟨l + 1, _, by omega, by go_num, rfl⟩
                case measure => simp [intOf]; omega
              · go_wp2
                go_ret
                exact ⟨rfl, HB10.out.trans (below_draws _ _ _)⟩
          · have hs2 : (y.s != 1) = false := by simp [bne, hs]
            have HD := hide (wk_ins_yes xs j y m HL.out hs)
            have HC := hide (wk_split xs m j HL.out)
            have hAl : (wk (xs.take j) j).length ≤ 65536 := Nat.le_trans (wk_le _ _) (by omega)
            have hBl : (wk (xs.drop j) (m - j)).length ≤ 65536 := Nat.le_trans (wk_le _ _) (by omega)
            have hDl : (wk (ins xs j y) (m + 1)).length = (wk xs m).length + 1 := by rw [HD.out, HC.out]; simp; omega
            have HDL := hide hDl
            have hne : (((wk (ins xs j y) (m + 1)).length : Int) != ((wk xs m).length : Int) + 1) = false := by rw [hDl]; simp
            clear hs hDl
            go_wp2_with fail
            refine (count_any' a m c xs _ HR7.out).mono ?_
            rintro e w' ⟨rfl, hw'⟩
            obtain rfl := hw'.symm
            clear hw'
            go_wp2_with fail
            refine (count_any' a j c (xs.take j) _ (HR7.out.take j hk)).mono ?_
            rintro e w' ⟨rfl, hw'⟩
            obtain rfl := hw'.symm
            clear hw'
            generalize hA : wk (xs.take j) j = A at *
            generalize hB : wk (xs.drop j) (m - j) = B at *
            generalize hC : wk xs m = C at *
            generalize hDD : wk (ins xs j y) (m + 1) = D at *
            clear hA hB hC hDD
            have HCL := hide (show C.length = A.length + B.length by rw [HC.out, List.length_append])
            have hpos : (A.length : Int) < (D.length : Int) := by have := HDL.out; have := HCL.out; omega
            have hg1 : g1 < w7.heap.size := (HO7.out.lt g1 rfl).2
            have hDy : D[A.length]? = some y := by rw [HD.out]; simp
            obtain ⟨a0, a1, a2, a3, a4⟩ := own_cells HO7.out A.length y hDy
            clear hDy
            go_wp2_with fail
            go_region_with (go_at_call 10; refine (one_exact _ _ _ _ _ _).mono ?_; rintro e w8 ⟨rfl, hw8⟩; obtain rfl := hw8)
            all_goals
              clear a0 a1 a2 a3 a4 e0 e1 e2 e3 e4
              go_wp2_with fail
              go_loopw [14] (fun i wr => ∃ l : Nat, l ≤ A.length ∧ i = .int .i64 l ∧ Below w7.heap.size w7 wr) (fun i _ => A.length - (intOf i).toNat)
              case atStart => exact ⟨0, Nat.zero_le _, rfl, (((Below.refl _ _).alloc (Nat.le_refl _) _).alloc (by simp) _).drew⟩
              case round =>
                obtain ⟨l, hl, rfl, hbl⟩ := hrel
                have HBL := hide hbl
                clear hbl
                by_cases hlt3 : l < A.length
                · have hx : A[l]? = some A[l] := List.getElem?_eq_getElem hlt3
                  obtain ⟨a0, a1, a2, a3, a4⟩ := own_cells (own_below HO7.out HBL.out) l A[l] (by rw [HD.out, List.getElem?_append_left hlt3]; exact hx)
                  obtain ⟨c0, c1, c2, c3, c4⟩ := own_cells (own_below HO8.out HBL.out) l A[l] (by rw [HC.out, List.getElem?_append_left hlt3]; exact hx)
                  clear hx
                  have hl1 : (l : Int) < (C.length : Int) := by have := HCL.out; omega
                  have hl2 : (l : Int) < (D.length : Int) := by omega
                  generalize A[l] = x at *
                  go_wp2
                  go_quiet (fail)
                  go_wp2
                  go_roundw
                  case rel => exact ⟨l + 1, by omega, by go_num, HBL.out.trans (below_draws _ _ _)⟩
                  case measure => simp [intOf]; omega
                · obtain rfl : l = A.length := by omega
                  go_wp2_with fail
                  go_loopw [15] (fun i wr => ∃ l : Nat, A.length ≤ l ∧ l ≤ C.length ∧ i = .int .i64 l ∧ Below w7.heap.size w7 wr) (fun i _ => C.length - (intOf i).toNat)
                  case atStart => exact ⟨A.length, Nat.le_refl _, by have := HCL.out; omega, rfl, HBL.out⟩
                  case round =>
                    obtain ⟨l, hl0, hl, rfl, hbl⟩ := hrel
                    have HBL2 := hide hbl
                    clear hbl
                    by_cases hlt4 : l < C.length
                    · have hx : C[l]? = some C[l] := List.getElem?_eq_getElem hlt4
                      obtain ⟨a0, a1, a2, a3, a4⟩ := own_cells (own_below HO7.out HBL2.out) (l + 1) C[l] (by
                        rw [← hx, HD.out, HC.out, List.getElem?_append_right (by omega), List.getElem?_append_right (by omega), show l + 1 - A.length = (l - A.length) + 1 by omega, List.getElem?_cons_succ])
                      obtain ⟨c0, c1, c2, c3, c4⟩ := own_cells (own_below HO8.out HBL2.out) l C[l] hx
                      clear hx
                      have hl1 : (l : Int) < (C.length : Int) := by omega
                      have hl2 : (l : Int) + 1 < (D.length : Int) := by have := HDL.out; omega
                      generalize C[l] = x at *
                      go_wp2
                      go_quiet (fail)
                      go_wp2
                      go_roundw
                      case rel => exact ⟨l + 1, by omega, by omega, by go_num, HBL2.out.trans (below_draws _ _ _)⟩
                      case measure => simp [intOf]; omega
                    · go_wp2
                      go_ret
                      exact ⟨rfl, HB10.out.trans (HBL2.out.mono HB10.out.size)⟩
end Go.Proofs.Qxb6628360a
