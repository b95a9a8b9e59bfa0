import Derived.Test.Qxb6628360aWarn
namespace Go.Proofs.Qxb6628360a
open Go.RowKit Go.Joins

theorem InRow.take {w : World} {a : Option Addr} {n c : Nat} {xs : List R} (h : InRow w a n c xs) (q : Nat) (hq : q ≤ n) : InRow w a q c (xs.take q) := by
  obtain ⟨h1, h2, h3, h4, h5⟩ := h
  refine ⟨by rw [List.length_take]; omega, by omega, h3, fun e => by have := h4 e; omega, fun x hx i u hu => h5 x hx i u ?_⟩
  have e : flat xs = flat (xs.take q) ++ flat (xs.drop q) := by rw [← flat_append, List.take_append_drop]
  rw [e, List.getElem?_append_left (List.getElem?_eq_some_iff.1 hu).1]
  exact hu
theorem InRow.drop {w : World} {a : Option Addr} {n c : Nat} {xs : List R} (h : InRow w a n c xs) (q : Nat) (hq : q ≤ n) : InRow w (if c = q then a else a.map (·.add (q * 5))) (n - q) (c - q) (xs.drop q) := by
  obtain ⟨h1, h2, h3, h4, h5⟩ := h
  refine ⟨by rw [List.length_drop, h1], by omega, by omega, ?_, ?_⟩
  · intro e
    by_cases hc : c = q
    · omega
    · rw [if_neg hc] at e
      have : a = none := by simpa using e
      have := h4 this; omega
  · intro x hx i u hu
    have e : flat xs = flat (xs.take q) ++ flat (xs.drop q) := by rw [← flat_append, List.take_append_drop]
    have hl : (flat (xs.take q)).length = q * 5 := by rw [flat_length, List.length_take]; congr 1; omega
    have hi := (List.getElem?_eq_some_iff.1 hu).1
    rw [flat_length, List.length_drop] at hi
    rw [if_neg (by omega)] at hx
    obtain ⟨y, hy, rfl⟩ := Option.map_eq_some_iff.1 hx
    have := h5 y hy (q * 5 + i) u (by rw [e, List.getElem?_append_right (by omega), hl, Nat.add_sub_cancel_left]; exact hu)
    rw [Go.Deep.add_add]; exact this
theorem InRow.below {w w' : World} {a : Option Addr} {n c : Nat} {xs : List R} (h : InRow w a n c xs) (hb : Below w.heap.size w w') : InRow w' a n c xs :=
  h.mono fun x _ hv => (hb.cell (World.block_lt_of_cell? w x hv)).trans hv

/-- 'us[k:]', its address behind a name -/
theorem law_sl {ops : Array Oper} {rest : List Oper} {o : Oper} {act : Act} {w : World} {Q : Exit → Act → World → Prop} (hg : o.guard = none) (x lo : Operand) (hop : o.op = .slice 22 x (some lo) none none)
    (a : Option Addr) (n c k : Nat) (a2 : Option Addr) (ha2 : a2 = if c = k then a else a.map (·.add (k * 5))) (hk : k ≤ n) (hx : act.eval x = .slice a n c) (hlo : act.eval lo = .int .i64 (k : Int))
    (h : wpList Try.prog ops Q rest (act.put o.dst (.slice a2 (n - k) (c - k))) w) : wpList Try.prog ops Q (o :: rest) act w :=
  wpList_val hg (by
    have e := run_slice_l (P := Try.prog) (w := w) (t := 22) (a := a) (len := n) (cap := c) Try.underlying22 .i64 (k : Int) (by omega) (by omega)
    have e2 := fun x lo hi mx => run_sliceAt_slice (P := Try.prog) w 22 x lo hi mx Try.underlying22
    have e3 : (sizeOf (Try.prog.elem 22)).run Try.prog w = .ok 5 w := by kernel_rfl
    unfold execOp
    simp only [hop, hx, hlo, Option.map, Sem.run_bind, e2, e, e3, Result.andThen_ok, sliced, Int.toNat_natCast, ha2]
    rfl) h

theorem count_any' (a : Option Addr) (n c : Nat) (xs : List R) (w : World) (h : InRow w a n c xs) :
    Calls Try.prog 8 #[.slice a n c] w fun e w' => e = .returned (.int .i64 (wk xs n).length) ∧ w' = w := count_any a n c xs w h
theorem own_cells {w : World} {base g m cap : Nat} {xs : List R} (h : w.ownsRow base 31 5 (.slice (some ⟨g, 0, none⟩) m cap) m (flat xs)) (i : Nat) (x : R) (hx : xs[i]? = some x) :
    w.cell? ⟨g, i * 5, none⟩ = some (.string x.p) ∧ w.cell? ⟨g, i * 5 + 1, none⟩ = some (.string x.r) ∧ w.cell? ⟨g, i * 5 + 2, none⟩ = some (.int .i64 x.s) ∧
      w.cell? ⟨g, i * 5 + 3, none⟩ = some (.int .i64 x.t) ∧ w.cell? ⟨g, i * 5 + 4, none⟩ = some (.int .i64 x.u) := by
  obtain ⟨hi, rfl⟩ := List.getElem?_eq_some_iff.1 hx
  have hl : xs.length = m := by have := h.1; rw [flat_length] at this; omega
  have g : ∀ j u, j < 5 → (xs[i].cells)[j]? = some u → w.cell? ⟨g, i * 5 + j, none⟩ = some u := by
    intro j u hj hu
    rw [h.cellAt (i * 5 + j) (by omega), flat_at xs i j hi hj]; exact hu
  exact ⟨g 0 _ (by omega) rfl, g 1 _ (by omega) rfl, g 2 _ (by omega) rfl, g 3 _ (by omega) rfl, g 4 _ (by omega) rfl⟩
theorem wk_split (xs : List R) (n k : Nat) (hl : xs.length = n) : wk xs n = wk (xs.take k) k ++ wk (xs.drop k) (n - k) := by
  unfold wk
  rw [List.take_take, Nat.min_self, List.take_of_length_le (l := xs.drop k) (by rw [List.length_drop]; omega), List.take_of_length_le (l := xs) (by omega), ← List.filter_append, List.take_append_drop]

set_option maxHeartbeats 1000000 in
theorem walk3_main (a : Option Addr) (n c : Nat) (xs : List R) (k : Nat) (w : World) (h : InRow w a n c xs) (hn : n ≤ 65536) (hk : k ≤ n) :
    Calls Try.prog 3 #[.slice a n c, .int .i64 k] w fun e w' => e = .returned (.bool true) ∧ Below w.heap.size w w' := by
  have hnc : n ≤ c := h.2.1
  have HR := hide h
  have HW := hide (wk_split xs n k h.1)
  clear h
  have hn1 : decide ((65536 : Int) < (n : Int)) = false := decide_eq_false (by omega)
  have hk0 : decide ((k : Int) < 0) = false := decide_eq_false (by omega)
  have hk1 : decide ((n : Int) < (k : Int)) = false := decide_eq_false (by omega)
  have hk2 : (k : Int) ≤ (c : Int) := by omega
  have hk3 : (k : Int) ≤ (n : Int) := by omega
  have hk4 : (0 : Int) ≤ (k : Int) := by omega
  have hnil := fun (w : World) (a : Option Addr) (n c : Nat) => Lib.run_eql_slice_nil (P := Try.prog) w 24 31 a n c 0 0 Try.underlying24
  go_enter Try.func3, Try.ntmps3
  go_wp2_with fail
  refine (bytes5_any a n c xs k _ HR.out).mono ?_
  rintro e w' ⟨⟨b, rfl⟩, hw'⟩
  obtain rfl := hw'.symm
  clear hw'
  cases b
  · go_wp2
    go_ret
    exact ⟨rfl, Below.refl _ _⟩
  go_wp2_with fail
  refine (over_any a n c xs 0 _ HR.out).mono ?_
  rintro e w' ⟨⟨b, rfl⟩, q, rfl⟩
  cases b
  rotate_left
  · go_wp2
    go_ret
    exact ⟨rfl, below_draws _ _ _⟩
  go_wp2_with fail
  refine (of_any a n c xs _ (HR.out.below (below_draws _ _ _)) (by omega)).mono ?_
  rintro e w1 ⟨g, cap, rfl, hown1, hb1⟩
  have HO1 := hide hown1
  have HB1 := hide ((below_draws w.heap.size w q).trans hb1)
  clear hown1 hb1
  go_wp2_with fail
  refine (of_any a k c (xs.take k) _ ((HR.out.below HB1.out).take k hk) (by omega)).mono ?_
  rintro e w2 ⟨g1, cap1, rfl, hown2, hb2⟩
  have HO2 := hide hown2
  have HO1' := hide (own_below HO1.out hb2)
  have HB2 := hide (HB1.out.trans (hb2.mono HB1.out.size))
  clear hown2 hb2 HO1 HB1
  obtain ⟨a2, ha2⟩ : ∃ a2, a2 = if c = k then a else a.map (·.add (k * 5)) := ⟨_, rfl⟩
  have HD := hide ((HR.out.below HB2.out).drop k hk)
  rw [← ha2] at HD
  have HA2 := hide ha2
  clear ha2
  go_wp2_with (refine law_sl rfl _ _ rfl a n c k a2 HA2.out hk rfl rfl ?_)
  refine (of_any a2 (n - k) (c - k) (xs.drop k) _ HD.out (by omega)).mono ?_
  rintro e w3 ⟨g2, cap2, rfl, hown3, hb3⟩
  have HO3 := hide hown3
  have HO2' := hide (own_below HO2.out hb3)
  have HO1 := hide (own_below HO1'.out hb3)
  have HB3 := hide (HB2.out.trans (hb3.mono HB2.out.size))
  clear hown3 hb3 HO2 HO1' HB2 HD HA2
  have hAl : (wk (List.take k xs) k).length ≤ 65536 := Nat.le_trans (wk_le _ _) (by omega)
  have hBl : (wk (List.drop k xs) (n - k)).length ≤ 65536 := Nat.le_trans (wk_le _ _) (by omega)
  generalize hA : wk (List.take k xs) k = A at *
  generalize hB : wk (List.drop k xs) (n - k) = B at *
  clear hA hB
  go_wp2_with fail
  refine (count_any' a n c xs _ (HR.out.below HB3.out)).mono ?_
  rintro e w' ⟨rfl, hw'⟩
  obtain rfl := hw'.symm
  clear hw'
  generalize hC : wk xs n = C at *
  clear hC
  have hCl : C.length = A.length + B.length := by rw [HW.out, List.length_append]
  have hne : ((A.length : Int) + (B.length : Int) != (C.length : Int)) = false := by rw [hCl]; simp
  go_wp2_with fail
  go_loopw [8] (fun i wr => ∃ j q : Nat, j ≤ A.length ∧ i = .int .i64 j ∧ wr = w3.drewN q) (fun i _ => A.length - (intOf i).toNat)
  case atStart => exact ⟨0, 0, Nat.zero_le _, rfl, rfl⟩
  case round =>
    obtain ⟨j, q1, hj, rfl, rfl⟩ := hrel
    by_cases hlt : j < A.length
    · have hx : A[j]? = some A[j] := List.getElem?_eq_getElem hlt
      obtain ⟨a0, a1, a2, a3, a4⟩ := own_cells HO2'.out j A[j] hx
      obtain ⟨c0, c1, c2, c3, c4⟩ := own_cells HO1.out j A[j] (by rw [HW.out, List.getElem?_append_left hlt]; exact hx)
      clear hx
      have hl1 : (j : Int) < (A.length : Int) := by omega
      have hl2 : (j : Int) < (C.length : Int) := by omega
      generalize A[j] = y at *
      go_wp2
      go_quiet (fail)
      go_wp2
      go_roundw
      case rel => exact ⟨j + 1, _, by omega, by go_num, rfl⟩
      case measure => simp [intOf]; omega
    · go_wp2_with fail
      go_loopw [9] (fun i wr => ∃ j q : Nat, j ≤ B.length ∧ i = .int .i64 j ∧ wr = w3.drewN q) (fun i _ => B.length - (intOf i).toNat)
      case atStart => exact ⟨0, q1, Nat.zero_le _, rfl, rfl⟩
      case round =>
        obtain ⟨j2, q2, hj2, rfl, rfl⟩ := hrel
        by_cases hlt2 : j2 < B.length
        · have hx : B[j2]? = some B[j2] := List.getElem?_eq_getElem hlt2
          obtain ⟨a0, a1, a2, a3, a4⟩ := own_cells HO3.out j2 B[j2] hx
          obtain ⟨c0, c1, c2, c3, c4⟩ := own_cells HO1.out (A.length + j2) B[j2] (by rw [HW.out, List.getElem?_append_right (by omega), Nat.add_sub_cancel_left]; exact hx)
          clear hx
          have hl1 : (j2 : Int) < (B.length : Int) := by omega
          have hl2 : (A.length : Int) + (j2 : Int) < (C.length : Int) := by omega
          generalize B[j2] = y at *
          go_wp2
          go_quiet (fail)
          go_wp2
          go_roundw
          case rel => exact ⟨j2 + 1, _, by omega, by go_num, rfl⟩
          case measure => simp [intOf]; omega
        · go_wp2
          go_ret
          exact ⟨rfl, HB3.out.trans (below_draws _ _ _)⟩
end Go.Proofs.Qxb6628360a
