import Derived.Test.Qxb6628411aFmtData
import Derived.Deep.Slices
namespace Go.Proofs.Qxb6628411aFmt
open Go.RowKit Go.Joins Go.Extern.Stop Go.Stop Go.Extern

/-! ### A run: seven cells, one of them a slice of strings -/
structure Rn where
  t : ByteArray
  ph : ByteArray
  cmd : ByteArray
  a : Option Addr
  c : Nat
  xs : List ByteArray
  ec : Int
  du : Int
  tm : Bool
def Rn.cells (x : Rn) : List Value := [.string x.t, .string x.ph, .string x.cmd, .slice x.a x.xs.length x.c, .int .i64 x.ec, .int .i64 x.du, .bool x.tm]
def flat (xs : List Rn) : List Value := xs.flatMap Rn.cells
theorem flat_length (xs : List Rn) : (flat xs).length = xs.length * 7 := by
  induction xs with
  | nil => rfl
  | cons x r ih =>
    have : flat (x :: r) = x.cells ++ flat r := rfl
    rw [this, List.length_append, ih, List.length_cons]
    show 7 + _ = _
    omega
theorem flat_append (xs ys : List Rn) : flat (xs ++ ys) = flat xs ++ flat ys := by simp [flat]
theorem flat_one (xs : List Rn) (x : Rn) : flat (xs ++ [x]) = flat xs ++ x.cells := by rw [flat_append]; simp [flat]
theorem flat_at (xs : List Rn) (i j : Nat) (hi : i < xs.length) (hj : j < 7) : (flat xs)[i * 7 + j]? = (xs[i].cells)[j]? := by
  have e : xs = xs.take i ++ (xs[i] :: xs.drop (i + 1)) := by simp
  have e2 : flat xs = flat (xs.take i) ++ (xs[i].cells ++ flat (xs.drop (i + 1))) := by
    conv => lhs; rw [e]
    rw [flat_append]; rfl
  have hl : (flat (xs.take i)).length = i * 7 := by rw [flat_length, List.length_take]; congr 1; omega
  rw [e2, List.getElem?_append_right (by omega), hl, Nat.add_sub_cancel_left, List.getElem?_append_left (by exact hj)]

/-- WHAT A WALK IS TOLD OF A SLICE OF RUNS: they lie where it leads, and so do their arguments. -/
def InRuns (w : World) (a : Option Addr) (n c : Nat) (xs : List Rn) : Prop :=
  xs.length = n ∧ n ≤ c ∧ c ≤ maxLen ∧ (a = none → n = 0 ∧ c = 0) ∧ (∀ x, a = some x → ∀ i u, (flat xs)[i]? = some u → w.cell? (x.add i) = some u) ∧ ∀ r ∈ xs, StrRow w r.a r.c r.xs
theorem InRuns.below {w w' : World} {a : Option Addr} {n c : Nat} {xs : List Rn} (h : InRuns w a n c xs) (hb : Below w.heap.size w w') : InRuns w' a n c xs :=
  ⟨h.1, h.2.1, h.2.2.1, h.2.2.2.1, fun x hx i u hu => (hb.cell (World.block_lt_of_cell? w _ (h.2.2.2.2.1 x hx i u hu))).trans (h.2.2.2.2.1 x hx i u hu), fun r hr => (h.2.2.2.2.2 r hr).below hb⟩
theorem InRuns.addr {w : World} {a : Option Addr} {n c : Nat} {xs : List Rn} (h : InRuns w a n c xs) (hn : 0 < n) : ∃ b off, a = some ⟨b, off, none⟩ := by
  obtain ⟨h1, h2, h3, h4, h5, _⟩ := h
  match a, h4, h5 with
  | none, h4, _ => have := h4 rfl; omega
  | some ⟨b, off, spot⟩, _, h5 =>
    have hc := h5 _ rfl 0 (.string (xs[0]'(by omega)).t) (by
      have := flat_at xs 0 0 (by omega) (by omega)
      rw [Nat.zero_mul, Nat.zero_add] at this; rw [this]; rfl)
    have hspot : spot = none := by simpa [Addr.add] using World.cell?_spot hc
    subst hspot
    exact ⟨b, off, rfl⟩
/-- the seven cells at an address -/
def Seven (w : World) (b off : Nat) (x : Rn) : Prop :=
  w.cell? ⟨b, off, none⟩ = some (.string x.t) ∧ w.cell? ⟨b, off + 1, none⟩ = some (.string x.ph) ∧ w.cell? ⟨b, off + 2, none⟩ = some (.string x.cmd) ∧ w.cell? ⟨b, off + 3, none⟩ = some (.slice x.a x.xs.length x.c) ∧
    w.cell? ⟨b, off + 4, none⟩ = some (.int .i64 x.ec) ∧ w.cell? ⟨b, off + 5, none⟩ = some (.int .i64 x.du) ∧ w.cell? ⟨b, off + 6, none⟩ = some (.bool x.tm)
theorem seven_of {w : World} {b off : Nat} {x : Rn} (g : ∀ j u, j < 7 → (x.cells)[j]? = some u → w.cell? ⟨b, off + j, none⟩ = some u) : Seven w b off x :=
  ⟨g 0 _ (by omega) rfl, g 1 _ (by omega) rfl, g 2 _ (by omega) rfl, g 3 _ (by omega) rfl, g 4 _ (by omega) rfl, g 5 _ (by omega) rfl, g 6 _ (by omega) rfl⟩
theorem InRuns.at {w : World} {b off n c : Nat} {xs : List Rn} (h : InRuns w (some ⟨b, off, none⟩) n c xs) (i : Nat) (x : Rn) (hx : xs[i]? = some x) : Seven w b (off + i * 7) x := by
  obtain ⟨h1, h2, h3, h4, h5, _⟩ := h
  obtain ⟨hi, rfl⟩ := List.getElem?_eq_some_iff.1 hx
  refine seven_of fun j u hj hu => ?_
  have := h5 _ rfl (i * 7 + j) u (by rw [flat_at xs i j hi hj]; exact hu)
  rw [Addr.add_lit] at this
  rw [Nat.add_assoc]; exact this
theorem InRuns.get {w : World} {a : Option Addr} {n c : Nat} {xs : List Rn} (h : InRuns w a n c xs) (i : Nat) (hi : i < n) : ∃ x, xs[i]? = some x := by
  have := h.1; exact ⟨xs[i], List.getElem?_eq_getElem (by omega)⟩
theorem InRuns.args {w : World} {a : Option Addr} {n c : Nat} {xs : List Rn} (h : InRuns w a n c xs) (i : Nat) (x : Rn) (hx : xs[i]? = some x) : StrRow w x.a x.c x.xs := h.2.2.2.2.2 x (List.mem_of_getElem? hx)
theorem InRuns.take {w : World} {a : Option Addr} {n c : Nat} {xs : List Rn} (h : InRuns w a n c xs) (q : Nat) (hq : q ≤ n) : InRuns w a q c (xs.take q) := by
  obtain ⟨h1, h2, h3, h4, h5, h6⟩ := h
  refine ⟨by rw [List.length_take]; omega, by omega, h3, fun e => by have := h4 e; omega, fun x hx i u hu => h5 x hx i u ?_, fun r hr => h6 r (List.take_subset _ _ hr)⟩
  have e : flat xs = flat (xs.take q) ++ flat (xs.drop q) := by rw [← flat_append, List.take_append_drop]
  rw [e, List.getElem?_append_left (List.getElem?_eq_some_iff.1 hu).1]
  exact hu
theorem InRuns.drop {w : World} {a : Option Addr} {n c : Nat} {xs : List Rn} (h : InRuns w a n c xs) (q : Nat) (hq : q ≤ n) : InRuns w (if c = q then a else a.map (·.add (q * 7))) (n - q) (c - q) (xs.drop q) := by
  obtain ⟨h1, h2, h3, h4, h5, h6⟩ := h
  refine ⟨by rw [List.length_drop, h1], by omega, by omega, ?_, ?_, fun r hr => h6 r (List.drop_subset _ _ hr)⟩
  · intro e
    by_cases hc : c = q
    · omega
    · rw [if_neg hc] at e
      have : a = none := by simpa using e
      have := h4 this; omega
  · intro x hx i u hu
    have e : flat xs = flat (xs.take q) ++ flat (xs.drop q) := by rw [← flat_append, List.take_append_drop]
    have hl : (flat (xs.take q)).length = q * 7 := by rw [flat_length, List.length_take]; congr 1; omega
    have hi := (List.getElem?_eq_some_iff.1 hu).1
    rw [flat_length, List.length_drop] at hi
    rw [if_neg (by omega)] at hx
    obtain ⟨y, hy, rfl⟩ := Option.map_eq_some_iff.1 hx
    have := h5 y hy (q * 7 + i) u (by rw [e, List.getElem?_append_right (by omega), hl, Nat.add_sub_cancel_left]; exact hu)
    rw [Go.Deep.add_add]; exact this

/-! ### A row of runs that the call itself makes, filled one behind the other -/
def rowF (ks : List Rn) (Z : List Value) : List Value := flat ks ++ Z.drop (ks.length * 7)
theorem set7 (A B : List Value) (n : Nat) (hn : A.length = n) (z0 z1 z2 z3 z4 z5 z6 v0 v1 v2 v3 v4 v5 v6 : Value) :
    (((((((A ++ (z0 :: z1 :: z2 :: z3 :: z4 :: z5 :: z6 :: B)).set n v0).set (n + 1) v1).set (n + 2) v2).set (n + 3) v3).set (n + 4) v4).set (n + 5) v5).set (n + 6) v6 = (A ++ [v0, v1, v2, v3, v4, v5, v6]) ++ B := by
  subst hn
  simp [List.set_append_right]
theorem drop7 (Z : List Value) (m : Nat) (h : m + 7 ≤ Z.length) : ∃ z0 z1 z2 z3 z4 z5 z6, Z.drop m = z0 :: z1 :: z2 :: z3 :: z4 :: z5 :: z6 :: Z.drop (m + 7) := by
  refine ⟨Z[m], Z[m+1], Z[m+2], Z[m+3], Z[m+4], Z[m+5], Z[m+6], ?_⟩
  rw [List.drop_eq_getElem_cons (by omega), List.drop_eq_getElem_cons (by omega), List.drop_eq_getElem_cons (by omega), List.drop_eq_getElem_cons (by omega), List.drop_eq_getElem_cons (by omega), List.drop_eq_getElem_cons (by omega), List.drop_eq_getElem_cons (by omega)]
theorem rowF_step (ks : List Rn) (Z : List Value) (k : Nat) (hk : ks.length = k) (x : Rn) (hZ : k * 7 + 7 ≤ Z.length) :
    ∃ z0 z1 z2 z3 z4 z5 z6, (rowF ks Z)[k * 7]? = some z0 ∧ (rowF ks Z)[k * 7 + 1]? = some z1 ∧ (rowF ks Z)[k * 7 + 2]? = some z2 ∧ (rowF ks Z)[k * 7 + 3]? = some z3 ∧ (rowF ks Z)[k * 7 + 4]? = some z4 ∧ (rowF ks Z)[k * 7 + 5]? = some z5 ∧ (rowF ks Z)[k * 7 + 6]? = some z6 ∧
      (((((((rowF ks Z).set (k * 7) (.string x.t)).set (k * 7 + 1) (.string x.ph)).set (k * 7 + 2) (.string x.cmd)).set (k * 7 + 3) (.slice x.a x.xs.length x.c)).set (k * 7 + 4) (.int .i64 x.ec)).set (k * 7 + 5) (.int .i64 x.du)).set (k * 7 + 6) (.bool x.tm) = rowF (ks ++ [x]) Z := by
  subst hk
  obtain ⟨z0, z1, z2, z3, z4, z5, z6, hd⟩ := drop7 Z (ks.length * 7) hZ
  have hl := flat_length ks
  refine ⟨z0, z1, z2, z3, z4, z5, z6, ?_, ?_, ?_, ?_, ?_, ?_, ?_, ?_⟩
  all_goals unfold rowF; rw [hd]
  · rw [List.getElem?_append_right (by omega), hl, Nat.sub_self]; rfl
  · rw [List.getElem?_append_right (by omega), hl, Nat.add_sub_cancel_left]; rfl
  · rw [List.getElem?_append_right (by omega), hl, Nat.add_sub_cancel_left]; rfl
  · rw [List.getElem?_append_right (by omega), hl, Nat.add_sub_cancel_left]; rfl
  · rw [List.getElem?_append_right (by omega), hl, Nat.add_sub_cancel_left]; rfl
  · rw [List.getElem?_append_right (by omega), hl, Nat.add_sub_cancel_left]; rfl
  · rw [List.getElem?_append_right (by omega), hl, Nat.add_sub_cancel_left]; rfl
  · rw [set7 _ _ _ hl, flat_one, List.length_append, show (ks.length + [x].length) * 7 = ks.length * 7 + 7 by simp; omega]
    rfl
theorem rowF_nil (Z : List Value) : rowF [] Z = Z := by simp [rowF, flat]
theorem rowF_end (ks : List Rn) (Z : List Value) (hZ : Z.length ≤ ks.length * 7) : rowF ks Z = flat ks := by
  unfold rowF
  rw [List.drop_eq_nil_of_le hZ, List.append_nil]
theorem stored7 {w : World} {base : Nat} {e : TypeId} {size g n cap : Nat} {xs : List Value} (h : w.ownsRow base e size (.slice (some ⟨g, 0, none⟩) n cap) n xs) (j : Nat) (v0 v1 v2 v3 v4 v5 v6 : Value) :
    (((((((w.setCell ⟨g, j, none⟩ v0).setCell ⟨g, j + 1, none⟩ v1).setCell ⟨g, j + 2, none⟩ v2).setCell ⟨g, j + 3, none⟩ v3).setCell ⟨g, j + 4, none⟩ v4).setCell ⟨g, j + 5, none⟩ v5).setCell ⟨g, j + 6, none⟩ v6).ownsRow base e size (.slice (some ⟨g, 0, none⟩) n cap) n
      (((((((xs.set j v0).set (j + 1) v1).set (j + 2) v2).set (j + 3) v3).set (j + 4) v4).set (j + 5) v5).set (j + 6) v6) :=
  (((((((h.stored j v0).1.stored (j + 1) v1).1.stored (j + 2) v2).1.stored (j + 3) v3).1.stored (j + 4) v4).1.stored (j + 5) v5).1.stored (j + 6) v6).1
theorem below7 {B : Nat} {a w : World} (h : Below B a w) {g : Nat} (hg : B ≤ g) (j0 j1 j2 j3 j4 j5 j6 : Nat) (v0 v1 v2 v3 v4 v5 v6 : Value) :
    Below B a (((((((w.setCell ⟨g, j0, none⟩ v0).setCell ⟨g, j1, none⟩ v1).setCell ⟨g, j2, none⟩ v2).setCell ⟨g, j3, none⟩ v3).setCell ⟨g, j4, none⟩ v4).setCell ⟨g, j5, none⟩ v5).setCell ⟨g, j6, none⟩ v6) :=
  (((((((h.setCell hg _).setCell hg _).setCell hg _).setCell hg _).setCell hg _).setCell hg _).setCell hg _)
theorem own_seven {w : World} {base g m cap : Nat} {e : TypeId} {xs : List Rn} (h : w.ownsRow base e 7 (.slice (some ⟨g, 0, none⟩) m cap) m (flat xs)) (i : Nat) (x : Rn) (hx : xs[i]? = some x) : Seven w g (i * 7) x := by
  obtain ⟨hi, rfl⟩ := List.getElem?_eq_some_iff.1 hx
  have hl : xs.length = m := by have := h.1; rw [flat_length] at this; omega
  refine seven_of fun j u hj hu => ?_
  rw [h.cellAt (i * 7 + j) (by omega), flat_at xs i j hi hj]; exact hu
theorem own_inruns {e : TypeId} {w : World} {base : Nat} {a : Option Addr} {n c : Nat} {xs : List Rn} (h : w.ownsRow base e 7 (.slice a n c) n (flat xs)) (hs : ∀ r ∈ xs, StrRow w r.a r.c r.xs) : InRuns w a n c xs := by
  have hl : xs.length = n := by have := h.1; rw [flat_length] at this; omega
  rcases h.2 with ⟨h', h0⟩ | ⟨g, cap, cur, h', _, _, hnc, hcm, _⟩
  · simp only [Value.slice.injEq] at h'
    obtain ⟨rfl, rfl, rfl⟩ := h'
    exact ⟨hl, Nat.le_refl _, Nat.zero_le _, fun _ => ⟨rfl, rfl⟩, (by intro x hx; cases hx), hs⟩
  · simp only [Value.slice.injEq, true_and] at h'
    obtain ⟨rfl, rfl⟩ := h'
    exact ⟨hl, hnc, hcm, (fun h => by cases h), (by intro x hx i u hu; cases hx; exact h.cells rfl i u hu), hs⟩
end Go.Proofs.Qxb6628411aFmt
