import Derived.Test.Qxb6628360aRows
import Derived.WalkKit
import Derived.WalkLawsBesides
import Derived.WalkSpells
import Derived.Lib.SliceRun
import Derived.Outline
import Derived.Deep.QuietTactic
import Derived.BigQuiet
namespace Go.Proofs.Qxb6628360a
open Go.RowKit

def SomeBool (e : Ending) : Prop := ∃ b : Bool, e = .returned (.bool b)
theorem hide {p : Prop} (h : p) : Hid p := h

/-- a record's cells -/
structure R where
  p : ByteArray
  r : ByteArray
  s : Int
  t : Int
  u : Int
def R.cells (x : R) : List Value := [.string x.p, .string x.r, .int .i64 x.s, .int .i64 x.t, .int .i64 x.u]
def R.val (x : R) : Value := .agg #[.string x.p, .string x.r, .int .i64 x.s, .int .i64 x.t, .int .i64 x.u]
def flat (xs : List R) : List Value := xs.flatMap R.cells
theorem flat_length (xs : List R) : (flat xs).length = xs.length * 5 := by
  induction xs with
  | nil => rfl
  | cons x r ih =>
    have : flat (x :: r) = x.cells ++ flat r := rfl
    rw [this, List.length_append, ih, List.length_cons]
    show 5 + _ = _
    omega
theorem flat_append (xs ys : List R) : flat (xs ++ ys) = flat xs ++ flat ys := by simp [flat]
theorem flat_at (xs : List R) (i j : Nat) (hi : i < xs.length) (hj : j < 5) : (flat xs)[i * 5 + j]? = (xs[i].cells)[j]? := by
  have e : xs = xs.take i ++ (xs[i] :: xs.drop (i + 1)) := by simp
  have e2 : flat xs = flat (xs.take i) ++ (xs[i].cells ++ flat (xs.drop (i + 1))) := by
    conv => lhs; rw [e]
    rw [flat_append]; rfl
  have hl : (flat (xs.take i)).length = i * 5 := by rw [flat_length, List.length_take]; congr 1; omega
  rw [e2, List.getElem?_append_right (by omega), hl, Nat.add_sub_cancel_left, List.getElem?_append_left (by exact hj)]

/-- WHAT A WALK IS TOLD OF A SLICE OF RECORDS: its records lie where it leads. -/
def InRow (w : World) (a : Option Addr) (n c : Nat) (xs : List R) : Prop :=
  xs.length = n ∧ n ≤ c ∧ c ≤ maxLen ∧ (a = none → n = 0 ∧ c = 0) ∧ ∀ x, a = some x → ∀ i u, (flat xs)[i]? = some u → w.cell? (x.add i) = some u
theorem InRow.mono {w w' : World} {a : Option Addr} {n c : Nat} {xs : List R} (h : InRow w a n c xs) (hc : ∀ x v, w.cell? x = some v → w'.cell? x = some v) : InRow w' a n c xs :=
  ⟨h.1, h.2.1, h.2.2.1, h.2.2.2.1, fun x hx i u hu => hc _ _ (h.2.2.2.2 x hx i u hu)⟩
/-- where there is an element there is a plain address -/
theorem InRow.addr {w : World} {a : Option Addr} {n c : Nat} {xs : List R} (h : InRow w a n c xs) (hn : 0 < n) : ∃ b off, a = some ⟨b, off, none⟩ := by
  obtain ⟨h1, h2, h3, h4, h5⟩ := h
  match a, h4, h5 with
  | none, h4, _ => have := h4 rfl; omega
  | some ⟨b, off, spot⟩, _, h5 =>
    have hc := h5 _ rfl 0 (.string (xs[0]'(by omega)).p) (by
      have := flat_at xs 0 0 (by omega) (by omega)
      rw [Nat.zero_mul, Nat.zero_add] at this; rw [this]; rfl)
    have hspot : spot = none := by simpa [Addr.add] using World.cell?_spot hc
    subst hspot
    exact ⟨b, off, rfl⟩
theorem InRow.cells {w : World} {b off n c : Nat} {xs : List R} (h : InRow w (some ⟨b, off, none⟩) n c xs) (i : Nat) (hi : i < n) :
    ∃ x : R, xs[i]? = some x ∧ w.cell? ⟨b, off + i * 5, none⟩ = some (.string x.p) ∧ w.cell? ⟨b, off + i * 5 + 1, none⟩ = some (.string x.r) ∧ w.cell? ⟨b, off + i * 5 + 2, none⟩ = some (.int .i64 x.s) ∧
      w.cell? ⟨b, off + i * 5 + 3, none⟩ = some (.int .i64 x.t) ∧ w.cell? ⟨b, off + i * 5 + 4, none⟩ = some (.int .i64 x.u) := by
  obtain ⟨h1, h2, h3, h4, h5⟩ := h
  subst h1
  have g : ∀ j u, j < 5 → (xs[i].cells)[j]? = some u → w.cell? ⟨b, off + i * 5 + j, none⟩ = some u := by
    intro j u hj hu
    have := h5 _ rfl (i * 5 + j) u (by rw [flat_at xs i j hi hj]; exact hu)
    rw [Addr.add_lit] at this
    rw [Nat.add_assoc]; exact this
  exact ⟨xs[i], by simp [hi], g 0 _ (by omega) rfl, g 1 _ (by omega) rfl, g 2 _ (by omega) rfl, g 3 _ (by omega) rfl, g 4 _ (by omega) rfl⟩

theorem one_any (p r : ByteArray) (s t u : Int) (w : World) :
    Calls Try.prog 10 #[.agg #[.string p, .string r, .int .i64 s, .int .i64 t, .int .i64 u]] w fun e w' =>
      e = .returned (.agg #[.string p, .string r, .int .i64 s, .int .i64 t, .int .i64 u]) ∧ Below w.heap.size w w' := by
  go_enter Try.func10, Try.ntmps10
  go_wp2
  exact bodyPost_ret (v := .agg #[.string p, .string r, .int .i64 s, .int .i64 t, .int .i64 u]) (by simp [results, Try.results10, go_sem]) rfl
    ⟨rfl, ((Below.refl _ _).alloc (Nat.le_refl _) _).alloc (by simp) _⟩

/-- how many of the first k are warnings -/
def cw (xs : List R) (k : Nat) : Nat := ((xs.take k).filter (fun x => x.s == 1)).length
theorem cw_le (xs : List R) (k : Nat) : cw xs k ≤ k := Nat.le_trans (List.length_filter_le _ _) (List.length_take_le _ _)
theorem cw_succ (xs : List R) (k : Nat) (x : R) (h : xs[k]? = some x) : cw xs (k + 1) = cw xs k + if (x.s == 1) = true then 1 else 0 := by
  obtain ⟨hk, rfl⟩ := List.getElem?_eq_some_iff.1 h
  unfold cw
  rw [List.take_succ_eq_append_getElem hk, List.filter_append, List.length_append]
  congr 1
  cases h : (xs[k].s == 1) <;> simp [h]

set_option maxHeartbeats 400000 in
theorem count_any (a : Option Addr) (n c : Nat) (xs : List R) (w : World) (h : InRow w a n c xs) :
    Calls Try.prog 8 #[.slice a n c] w fun e w' => e = .returned (.int .i64 (cw xs n)) ∧ w' = w := by
  have hn : n ≤ maxLen := Nat.le_trans h.2.1 h.2.2.1
  unfold maxLen at hn
  have HR := hide h
  clear h
  go_enter Try.func8, Try.ntmps8
  go_wp2
  go_loop [3, 4] (fun t i => ∃ k : Nat, k ≤ n ∧ i = .int .i64 k ∧ t = .int .i64 (cw xs k)) (fun _ i => n - (intOf i).toNat)
  case atStart => exact ⟨0, Nat.zero_le _, rfl, rfl⟩
  case round =>
    obtain ⟨k, hk, rfl, rfl⟩ := hrel
    have hd := cw_le xs k
    by_cases hlt : k < n
    · obtain ⟨b, off, rfl⟩ := HR.out.addr (by omega)
      obtain ⟨x, hx, c0, c1, c2, c3, c4⟩ := HR.out.cells k hlt
      have HX := hide (cw_succ xs k x hx)
      clear hx
      go_wp2
      all_goals
        go_round
        case rel => exact ⟨k + 1, by omega, by go_num, by rw [HX.out]; first | (rw [if_pos (by assumption)]; go_num) | (rw [if_neg (by rw [Bool.not_eq_true]; assumption)]; go_num)⟩
        case measure => simp [intOf]; omega
    · obtain rfl : k = n := by omega
      go_wp2
      go_ret
      exact ⟨rfl, rfl⟩

set_option maxHeartbeats 400000 in
theorem over_any (a : Option Addr) (n c : Nat) (xs : List R) (z : Int) (w : World) (h : InRow w a n c xs) :
    Calls Try.prog 6 #[.slice a n c, .int .i64 z] w fun e w' => SomeBool e ∧ ∃ q, w' = w.drewN q := by
  have hn : n ≤ maxLen := Nat.le_trans h.2.1 h.2.2.1
  unfold maxLen at hn
  have HR := hide h
  clear h
  by_cases hz : 1048576 < z
  · go_enter Try.func6, Try.ntmps6
    go_wp2
    go_ret
    exact ⟨⟨_, rfl⟩, 0, rfl⟩
  go_enter Try.func6, Try.ntmps6
  go_wp2
  go_loopw [5, 6] (fun t i wr => ∃ (k : Nat) (y : Int) (q : Nat), k ≤ n ∧ i = .int .i64 k ∧ t = .int .i64 y ∧ wr = w.drewN q) (fun _ i _ => n - (intOf i).toNat)
  case atStart => exact ⟨0, z, 0, Nat.zero_le _, rfl, rfl, rfl⟩
  case round =>
    obtain ⟨k, y, q, hk, rfl, rfl, rfl⟩ := hrel
    by_cases hlt : k < n
    · obtain ⟨b, off, rfl⟩ := HR.out.addr (by omega)
      obtain ⟨x, hx, c0, c1, c2, c3, c4⟩ := HR.out.cells k hlt
      have hlt' : (k : Int) < (n : Int) := by omega
      clear hx
      go_wp2
      go_quiet (fail)
      go_wp2
      · go_ret
        exact ⟨⟨_, rfl⟩, _, rfl⟩
      · go_roundw
        case rel => exact ⟨k + 1, _, _, by omega, by go_num, rfl, rfl⟩
        case measure => simp [intOf]; omega
    · go_wp2
      go_ret
      exact ⟨⟨_, rfl⟩, q, rfl⟩

set_option maxHeartbeats 400000 in
theorem bytes5_any (a : Option Addr) (n c : Nat) (xs : List R) (z : Int) (w : World) (h : InRow w a n c xs) :
    Calls Try.prog 5 #[.slice a n c, .int .i64 z] w fun e w' => SomeBool e ∧ w' = w := by
  have hn : n ≤ maxLen := Nat.le_trans h.2.1 h.2.2.1
  unfold maxLen at hn
  have HR := hide h
  clear h
  by_cases hz : (1048576 : Int) < (n : Int)
  · go_enter Try.func5, Try.ntmps5
    go_wp2
    go_ret
    exact ⟨⟨_, rfl⟩, rfl⟩
  go_enter Try.func5, Try.ntmps5
  go_wp2
  go_loop [5, 6] (fun t i => ∃ (k : Nat) (y : Int), k ≤ n ∧ i = .int .i64 k ∧ t = .int .i64 y) (fun _ i => n - (intOf i).toNat)
  case atStart => exact ⟨0, _, Nat.zero_le _, rfl, rfl⟩
  case round =>
    obtain ⟨k, y, hk, rfl, rfl⟩ := hrel
    by_cases hlt : k < n
    · obtain ⟨b, off, rfl⟩ := HR.out.addr (by omega)
      obtain ⟨x, hx, c0, c1, c2, c3, c4⟩ := HR.out.cells k hlt
      clear hx
      go_wp2
      all_goals first
        | (go_ret
           exact ⟨⟨_, rfl⟩, rfl⟩)
        | (go_round
           case rel => exact ⟨k + 1, _, by omega, by go_num, rfl⟩
           case measure => simp [intOf]; omega)
    · go_wp2
      go_ret
      exact ⟨⟨_, rfl⟩, rfl⟩

theorem gb {w w' : World} (hb : Below w.heap.size w w') : w.grownBy w' none := ⟨hb.os, hb.tape, hb.output, hb.size, fun k hk _ => hb.block k hk⟩
theorem own_below {w w' : World} {base : Nat} {e : TypeId} {size : Nat} {v : Value} {n : Nat} {xs : List Value} (h : w.ownsRow base e size v n xs) (hb : Below w.heap.size w w') : w'.ownsRow base e size v n xs :=
  h.kept (gb hb) (by cases hv : v.ownBlock <;> simp)

theorem Try.info31 : (Try.prog.info? 31).map (fun i => (i.zero, i.size, i.bytes)) = some (some (.agg #[.string ByteArray.empty, .string ByteArray.empty, .int .i64 0, .int .i64 0, .int .i64 0]), 5, 56) := by kernel_rfl

/-- the row behind k rounds of toFleet -/
def rowF (xs : List R) (k : Nat) (Z : List Value) : List Value := flat (xs.take k) ++ Z.drop (k * 5)
theorem set5 (A B : List Value) (n : Nat) (hn : A.length = n) (z0 z1 z2 z3 z4 v0 v1 v2 v3 v4 : Value) :
    (((((A ++ (z0 :: z1 :: z2 :: z3 :: z4 :: B)).set n v0).set (n + 1) v1).set (n + 2) v2).set (n + 3) v3).set (n + 4) v4 = (A ++ [v0, v1, v2, v3, v4]) ++ B := by
  subst hn
  simp [List.set_append_right]
theorem drop5 (Z : List Value) (m : Nat) (h : m + 5 ≤ Z.length) : ∃ z0 z1 z2 z3 z4, Z.drop m = z0 :: z1 :: z2 :: z3 :: z4 :: Z.drop (m + 5) := by
  refine ⟨Z[m], Z[m+1], Z[m+2], Z[m+3], Z[m+4], ?_⟩
  rw [List.drop_eq_getElem_cons (by omega), List.drop_eq_getElem_cons (by omega), List.drop_eq_getElem_cons (by omega), List.drop_eq_getElem_cons (by omega), List.drop_eq_getElem_cons (by omega)]
theorem rowF_step (xs : List R) (k : Nat) (Z : List Value) (x : R) (hx : xs[k]? = some x) (hZ : Z.length = xs.length * 5) :
    ∃ z0 z1 z2 z3 z4, (rowF xs k Z)[k * 5]? = some z0 ∧ (rowF xs k Z)[k * 5 + 1]? = some z1 ∧ (rowF xs k Z)[k * 5 + 2]? = some z2 ∧ (rowF xs k Z)[k * 5 + 3]? = some z3 ∧ (rowF xs k Z)[k * 5 + 4]? = some z4 ∧
      (((((rowF xs k Z).set (k * 5) (.string x.p)).set (k * 5 + 1) (.string x.r)).set (k * 5 + 2) (.int .i64 x.s)).set (k * 5 + 3) (.int .i64 x.t)).set (k * 5 + 4) (.int .i64 x.u) = rowF xs (k + 1) Z := by
  obtain ⟨hk, rfl⟩ := List.getElem?_eq_some_iff.1 hx
  obtain ⟨z0, z1, z2, z3, z4, hd⟩ := drop5 Z (k * 5) (by omega)
  have hl : (flat (xs.take k)).length = k * 5 := by rw [flat_length, List.length_take]; congr 1; omega
  refine ⟨z0, z1, z2, z3, z4, ?_, ?_, ?_, ?_, ?_, ?_⟩
  all_goals unfold rowF; rw [hd]
  · rw [List.getElem?_append_right (by omega), hl, Nat.sub_self]; rfl
  · rw [List.getElem?_append_right (by omega), hl, Nat.add_sub_cancel_left]; rfl
  · rw [List.getElem?_append_right (by omega), hl, Nat.add_sub_cancel_left]; rfl
  · rw [List.getElem?_append_right (by omega), hl, Nat.add_sub_cancel_left]; rfl
  · rw [List.getElem?_append_right (by omega), hl, Nat.add_sub_cancel_left]; rfl
  · rw [set5 _ _ _ hl, List.take_succ_eq_append_getElem hk, flat_append, show (k + 1) * 5 = k * 5 + 5 by omega]
    rfl
theorem rowF_zero (xs : List R) (Z : List Value) : rowF xs 0 Z = Z := by simp [rowF, flat]
theorem rowF_end (xs : List R) (Z : List Value) (k : Nat) (hk : xs.length ≤ k) (hZ : Z.length = xs.length * 5) : rowF xs k Z = flat xs := by
  unfold rowF
  rw [List.take_of_length_le hk, List.drop_eq_nil_of_le (by omega), List.append_nil]
theorem stored5 {w : World} {base : Nat} {e : TypeId} {size g n cap : Nat} {xs : List Value} (h : w.ownsRow base e size (.slice (some ⟨g, 0, none⟩) n cap) n xs) (j : Nat) (v0 v1 v2 v3 v4 : Value) :
    (((((w.setCell ⟨g, j, none⟩ v0).setCell ⟨g, j + 1, none⟩ v1).setCell ⟨g, j + 2, none⟩ v2).setCell ⟨g, j + 3, none⟩ v3).setCell ⟨g, j + 4, none⟩ v4).ownsRow base e size (.slice (some ⟨g, 0, none⟩) n cap) n
      (((((xs.set j v0).set (j + 1) v1).set (j + 2) v2).set (j + 3) v3).set (j + 4) v4) :=
  ((((((h.stored j v0).1.stored (j + 1) v1).1.stored (j + 2) v2).1.stored (j + 3) v3).1.stored (j + 4) v4).1)

set_option maxHeartbeats 400000 in
theorem fleet_some (x : Addr) (n c : Nat) (xs : List R) (w : World) (h : InRow w (some x) n c xs) (hn : n ≤ 100000) :
    Calls Try.prog 11 #[.slice (some x) n c] w fun e w' => ∃ v, e = .returned v ∧ w'.ownsRow w.heap.size 31 5 v n (flat xs) ∧ Below w.heap.size w w' := by
  have HR := hide h
  clear h
  obtain ⟨i0, hi, hz0, hz1, hz2⟩ := info_parts Try.info31
  have HI := hide hi
  have HZ0 := hide hz0
  have HZ1 := hide hz1
  have HZ2 := hide hz2
  clear hi hz0 hz1 hz2
  have hnil := fun (w : World) (a : Option Addr) (n c : Nat) => Lib.run_eql_slice_nil (P := Try.prog) w 22 33 a n c 0 0 Try.underlying22
  go_enter Try.func11, Try.ntmps11
  go_wp2_with (at_make; refine wpList_make_full _ rfl _ _ 24 rfl w.heap.size 31 i0 _ 5 Try.underlying24 HI.out HZ0.out HZ1.out _ _ _ _ n rfl rfl rfl rfl ?b2 ?b3 ?b4 ?_)
  case b2 => rw [HZ2.out]; omega
  case b3 => unfold maxLen; omega
  case b4 => exact Nat.le_refl _
  intro w1 hown hgrow
  have hb1 : Below w.heap.size w w1 := (Below.refl _ _).grown hgrow (Nat.le_refl _) (by intro k hk; cases hk)
  clear hgrow
  obtain ⟨Z, HZ, hown2⟩ : ∃ Z : List Value, Z.length = xs.length * 5 ∧ w1.ownsRow w.heap.size 31 5 (.slice (some ⟨w.heap.size, 0, none⟩) n n) n (rowF xs 0 Z) :=
    ⟨_, by have := hown.1; rw [HR.out.1]; exact this, by rw [rowF_zero]; exact hown⟩
  have HO := hide hown2
  have HB := hide hb1
  have hsz := hide (hown2.lt w.heap.size rfl).2
  have HZL := hide HZ
  clear hown hown2 hb1 HZ
  go_wp2
  go_loopw [4] (fun i wr => ∃ k : Nat, k ≤ n ∧ i = .int .i64 k ∧ wr.ownsRow w.heap.size 31 5 (.slice (some ⟨w.heap.size, 0, none⟩) n n) n (rowF xs k Z) ∧ Below w.heap.size w wr ∧ w.heap.size < wr.heap.size)
    (fun i _ => n - (intOf i).toNat)
  case atStart => exact ⟨0, Nat.zero_le _, rfl, HO.out, HB.out, hsz.out⟩
  case round =>
    obtain ⟨k, hk, rfl, hown, hb, hsz2⟩ := hrel
    have HO2 := hide hown
    have HB2 := hide hb
    clear HO HB hsz hown
    by_cases hlt : k < n
    · obtain ⟨b, off, hba⟩ := HR.out.addr (by omega)
      obtain rfl := Option.some.inj hba
      clear hba
      obtain ⟨y, hy, c0, c1, c2, c3, c4⟩ := (HR.out.mono (fun x v hv => (hb.cell (World.block_lt_of_cell? w x hv)).trans hv)).cells k hlt
      obtain ⟨z0, z1, z2, z3, z4, e0, e1, e2, e3, e4, hset⟩ := rowF_step xs k Z y hy HZL.out
      have HE := hide hset
      clear hset hb hy
      go_wp2_with (go_at_call 10; refine (one_any _ _ _ _ _ _).mono ?_; rintro e w2 ⟨rfl, hb2⟩; have HB3 := hide hb2; have HO3 := hide (own_below HO2.out hb2); have d0 := (HO3.out.cellAt (k * 5) (by omega)).trans e0; have d1 := (HO3.out.cellAt (k * 5 + 1) (by omega)).trans e1; have d2 := (HO3.out.cellAt (k * 5 + 2) (by omega)).trans e2; have d3 := (HO3.out.cellAt (k * 5 + 3) (by omega)).trans e3; have d4 := (HO3.out.cellAt (k * 5 + 4) (by omega)).trans e4; have g0 := HO3.out.frozenAt (k * 5); have g1 := HO3.out.frozenAt (k * 5 + 1); have g2 := HO3.out.frozenAt (k * 5 + 2); have g3 := HO3.out.frozenAt (k * 5 + 3); have g4 := HO3.out.frozenAt (k * 5 + 4); clear hb2 e0 e1 e2 e3 e4)
      go_roundw
      case rel =>
        refine ⟨k + 1, by omega, by go_num, ?_, ?_, ?_⟩
        · rw [← HE.out]; exact stored5 HO3.out (k * 5) _ _ _ _ _
        · exact (((((HB2.out.trans (HB3.out.mono (Nat.le_of_lt hsz2))).setCell (Nat.le_refl _) _).setCell (Nat.le_refl _) _).setCell (Nat.le_refl _) _).setCell (Nat.le_refl _) _).setCell (Nat.le_refl _) _
        · have := HB3.out.size; simp; omega
      case measure => simp [intOf]; omega
    · go_wp2
      go_ret
      exact ⟨_, rfl, by rw [← rowF_end xs Z k (by rw [HR.out.1]; omega) HZL.out]; exact HO2.out, HB2.out⟩

theorem fleet_nil (w : World) :
    Calls Try.prog 11 #[.slice none 0 0] w fun e w' => ∃ v, e = .returned v ∧ w'.ownsRow w.heap.size 31 5 v 0 (flat []) ∧ Below w.heap.size w w' := by
  have hnil := fun (w : World) (a : Option Addr) (n c : Nat) => Lib.run_eql_slice_nil (P := Try.prog) w 22 33 a n c 0 0 Try.underlying22
  go_enter Try.func11, Try.ntmps11
  go_wp2
  go_ret
  exact ⟨_, rfl, World.ownsRow_nil _ _ _ _, Below.refl _ _⟩
theorem fleet_any (a : Option Addr) (n c : Nat) (xs : List R) (w : World) (h : InRow w a n c xs) (hn : n ≤ 100000) :
    Calls Try.prog 11 #[.slice a n c] w fun e w' => ∃ v, e = .returned v ∧ w'.ownsRow w.heap.size 31 5 v n (flat xs) ∧ Below w.heap.size w w' := by
  cases a with
  | some x => exact fleet_some x n c xs w h hn
  | none =>
    obtain ⟨h1, _, _, h4, _⟩ := h
    obtain ⟨rfl, rfl⟩ := h4 rfl
    obtain rfl := List.length_eq_zero_iff.1 h1
    exact fleet_nil w
end Go.Proofs.Qxb6628360a
