import Derived.Test.Qxb6628399aRows
import Derived.WalkKit
import Derived.WalkLawsBesides
import Derived.WalkSpells
import Derived.Lib.SliceRun
import Derived.Lib.SmallJoins
import Derived.Outline
import Derived.Deep.QuietTactic
import Derived.Deep.RegionWith
import Derived.BigQuiet
namespace Go.Proofs.Qxb6628399a
open Go.RowKit Go.Joins

def SomeBool (e : Ending) : Prop := ∃ b : Bool, e = .returned (.bool b)
theorem hide {p : Prop} (h : p) : Hid p := h

/-- a counter -/
structure K where
  p : ByteArray
  v : Int
def K.cells (x : K) : List Value := [.string x.p, .int .i64 x.v]
def flat (xs : List K) : List Value := xs.flatMap K.cells
theorem flat_length (xs : List K) : (flat xs).length = xs.length * 2 := by
  induction xs with
  | nil => rfl
  | cons x r ih =>
    have : flat (x :: r) = x.cells ++ flat r := rfl
    rw [this, List.length_append, ih, List.length_cons]
    show 2 + _ = _
    omega
theorem flat_append (xs ys : List K) : flat (xs ++ ys) = flat xs ++ flat ys := by simp [flat]
theorem flat_one (xs : List K) (x : K) : flat (xs ++ [x]) = flat xs ++ x.cells := by rw [flat_append]; simp [flat]
theorem flat_at (xs : List K) (i j : Nat) (hi : i < xs.length) (hj : j < 2) : (flat xs)[i * 2 + j]? = (xs[i].cells)[j]? := by
  have e : xs = xs.take i ++ (xs[i] :: xs.drop (i + 1)) := by simp
  have e2 : flat xs = flat (xs.take i) ++ (xs[i].cells ++ flat (xs.drop (i + 1))) := by
    conv => lhs; rw [e]
    rw [flat_append]; rfl
  have hl : (flat (xs.take i)).length = i * 2 := by rw [flat_length, List.length_take]; congr 1; omega
  rw [e2, List.getElem?_append_right (by omega), hl, Nat.add_sub_cancel_left, List.getElem?_append_left (by exact hj)]

/-- WHAT A WALK IS TOLD OF A SLICE OF COUNTERS: they lie where it leads. -/
def InRow (w : World) (a : Option Addr) (n c : Nat) (xs : List K) : Prop :=
  xs.length = n ∧ n ≤ c ∧ c ≤ maxLen ∧ (a = none → n = 0 ∧ c = 0) ∧ ∀ x, a = some x → ∀ i u, (flat xs)[i]? = some u → w.cell? (x.add i) = some u
theorem InRow.mono {w w' : World} {a : Option Addr} {n c : Nat} {xs : List K} (h : InRow w a n c xs) (hc : ∀ x v, w.cell? x = some v → w'.cell? x = some v) : InRow w' a n c xs :=
  ⟨h.1, h.2.1, h.2.2.1, h.2.2.2.1, fun x hx i u hu => hc _ _ (h.2.2.2.2 x hx i u hu)⟩
theorem InRow.below {w w' : World} {a : Option Addr} {n c : Nat} {xs : List K} (h : InRow w a n c xs) (hb : Below w.heap.size w w') : InRow w' a n c xs :=
  h.mono fun x _ hv => (hb.cell (World.block_lt_of_cell? w x hv)).trans hv
theorem InRow.addr {w : World} {a : Option Addr} {n c : Nat} {xs : List K} (h : InRow w a n c xs) (hn : 0 < n) : ∃ b off, a = some ⟨b, off, none⟩ := by
  obtain ⟨h1, h2, h3, h4, h5⟩ := h
  match a, h4, h5 with
  | none, h4, _ => have := h4 rfl; omega
  | some ⟨b, off, spot⟩, _, h5 =>
    have hc := h5 _ rfl 0 (.string (xs[0]'(by omega)).p) (by
      have := flat_at xs 0 0 (by omega) (by omega)
      rw [Nat.zero_mul, Nat.zero_add] at this; rw [this]; rfl)
    have hspot : spot = none := by simpa [Addr.add] using World.cell?_spot hc
    subst hspot
    exact ⟨b, off, rfl⟩
theorem InRow.at {w : World} {b off n c : Nat} {xs : List K} (h : InRow w (some ⟨b, off, none⟩) n c xs) (i : Nat) (x : K) (hx : xs[i]? = some x) :
    w.cell? ⟨b, off + i * 2, none⟩ = some (.string x.p) ∧ w.cell? ⟨b, off + i * 2 + 1, none⟩ = some (.int .i64 x.v) := by
  obtain ⟨h1, h2, h3, h4, h5⟩ := h
  obtain ⟨hi, rfl⟩ := List.getElem?_eq_some_iff.1 hx
  have g : ∀ j u, j < 2 → (xs[i].cells)[j]? = some u → w.cell? ⟨b, off + i * 2 + j, none⟩ = some u := by
    intro j u hj hu
    have := h5 _ rfl (i * 2 + j) u (by rw [flat_at xs i j hi hj]; exact hu)
    rw [Addr.add_lit] at this
    rw [Nat.add_assoc]; exact this
  exact ⟨g 0 _ (by omega) rfl, g 1 _ (by omega) rfl⟩
theorem InRow.get {w : World} {a : Option Addr} {n c : Nat} {xs : List K} (h : InRow w a n c xs) (i : Nat) (hi : i < n) : ∃ x, xs[i]? = some x := by
  have := h.1; exact ⟨xs[i], List.getElem?_eq_getElem (by omega)⟩

theorem gb {w w' : World} (hb : Below w.heap.size w w') : w.grownBy w' none := ⟨hb.os, hb.tape, hb.output, hb.size, fun k hk _ => hb.block k hk⟩
theorem own_below {w w' : World} {base : Nat} {e : TypeId} {size : Nat} {v : Value} {n : Nat} {xs : List Value} (h : w.ownsRow base e size v n xs) (hb : Below w.heap.size w w') : w'.ownsRow base e size v n xs :=
  h.kept (gb hb) (by cases hv : v.ownBlock <;> simp)
theorem own_inrow {e : TypeId} {w : World} {base : Nat} {a : Option Addr} {n c : Nat} {xs : List K} (h : w.ownsRow base e 2 (.slice a n c) n (flat xs)) : InRow w a n c xs := by
  have hl : xs.length = n := by have := h.1; rw [flat_length] at this; omega
  rcases h.2 with ⟨h', h0⟩ | ⟨g, cap, cur, h', _, _, hnc, hcm, _⟩
  · simp only [Value.slice.injEq] at h'
    obtain ⟨rfl, rfl, rfl⟩ := h'
    exact ⟨hl, Nat.le_refl _, Nat.zero_le _, fun _ => ⟨rfl, rfl⟩, by intro x hx; cases hx⟩
  · simp only [Value.slice.injEq, true_and] at h'
    obtain ⟨rfl, rfl⟩ := h'
    exact ⟨hl, hnc, hcm, (fun h => by cases h), by intro x hx i u hu; cases hx; exact h.cells rfl i u hu⟩
theorem own_cells {w : World} {base g m cap : Nat} {e : TypeId} {xs : List K} (h : w.ownsRow base e 2 (.slice (some ⟨g, 0, none⟩) m cap) m (flat xs)) (i : Nat) (x : K) (hx : xs[i]? = some x) :
    w.cell? ⟨g, i * 2, none⟩ = some (.string x.p) ∧ w.cell? ⟨g, i * 2 + 1, none⟩ = some (.int .i64 x.v) := by
  obtain ⟨hi, rfl⟩ := List.getElem?_eq_some_iff.1 hx
  have hl : xs.length = m := by have := h.1; rw [flat_length] at this; omega
  have g : ∀ j u, j < 2 → (xs[i].cells)[j]? = some u → w.cell? ⟨g, i * 2 + j, none⟩ = some u := by
    intro j u hj hu
    rw [h.cellAt (i * 2 + j) (by omega), flat_at xs i j hi hj]; exact hu
  exact ⟨g 0 _ (by omega) rfl, g 1 _ (by omega) rfl⟩
theorem Try.info27 : (Try.prog.info? 27).map (fun i => (i.zero, i.size, i.bytes)) = some (some (.agg #[.string ByteArray.empty, .int .i64 0]), 2, 24) := by kernel_rfl

/-! ### The length guard -/
set_option maxHeartbeats 400000 in
theorem bytes4_any (a : Option Addr) (n c : Nat) (xs : List K) (w : World) (h : InRow w a n c xs) :
    Calls Try.prog 4 #[.slice a n c] w fun e w' => SomeBool e ∧ w' = w := by
  have hn : n ≤ maxLen := Nat.le_trans h.2.1 h.2.2.1
  unfold maxLen at hn
  have HR := hide h
  clear h
  by_cases hz : (1048576 : Int) < (n : Int)
  · go_enter Try.func4, Try.ntmps4
    go_wp2
    go_ret
    exact ⟨⟨_, rfl⟩, rfl⟩
  go_enter Try.func4, Try.ntmps4
  go_wp2
  go_loop [3, 4] (fun t i => ∃ (k : Nat) (y : Int), k ≤ n ∧ i = .int .i64 k ∧ t = .int .i64 y) (fun _ i => n - (intOf i).toNat)
  case atStart => exact ⟨0, _, Nat.zero_le _, rfl, rfl⟩
  case round =>
    obtain ⟨k, y, hk, rfl, rfl⟩ := hrel
    by_cases hlt : k < n
    · obtain ⟨b, off, rfl⟩ := HR.out.addr (by omega)
      obtain ⟨x, hx⟩ := HR.out.get k hlt
      obtain ⟨c0, c1⟩ := HR.out.at k x hx
      clear hx
      go_wp2
      all_goals first
        | (go_ret
           exact ⟨⟨_, rfl⟩, rfl⟩)
        | (go_round
           case rel => exact ⟨k + 1, _, by omega, by go_num, rfl⟩
           case measure => simp [intOf]; omega)
    · go_wp2
      go_ret
      exact ⟨⟨_, rfl⟩, rfl⟩

/-! ### rate.value -/
theorem index_nil (f : Value) (w : World) : Calls Try.prog 10 #[.slice none 0 0, f] w fun e w' => e = .returned (.int .i64 (-1)) ∧ w' = w := by
  go_enter Try.func10, Try.ntmps10
  go_wp2
  go_loop [8] (fun i => i = .int .i64 0) (fun _ => 0)
  case atStart => rfl
  case round =>
    obtain rfl := hrel
    go_wp2
    go_ret
    exact ⟨rfl, rfl⟩

set_option maxHeartbeats 400000 in
theorem value_at (a : Option Addr) (n c : Nat) (xs : List K) (i : Nat) (x : K) (w : World) (h : InRow w a n c xs) (hx : xs[i]? = some x) :
    Calls Try.prog 8 #[.slice a n c, .int .i64 i, .string x.p] w fun e w' => e = .returned (.int .i64 x.v) ∧ ∃ q, w' = (w.alloc (.cells #[.string x.p] 9)).drewN q := by
  have hi : i < n := by have := (List.getElem?_eq_some_iff.1 hx).1; have := h.1; omega
  have hi' : (i : Int) < (n : Int) := by omega
  obtain ⟨b, off, rfl⟩ := h.addr (by omega)
  obtain ⟨c0, c1⟩ := h.at i x hx
  have hb : b < w.heap.size := World.block_lt_of_cell? w _ c0
  clear h hx
  go_enter Try.func8, Try.ntmps8
  go_wp2
  go_quiet (fail)
  go_wp2
  go_ret
  exact ⟨rfl, _, rfl⟩

set_option maxHeartbeats 400000 in
theorem value_nil (i : Nat) (p : ByteArray) (w : World) :
    Calls Try.prog 8 #[.slice none 0 0, .int .i64 i, .string p] w fun e w' => e = .returned (.int .i64 0) ∧ ∃ q, w' = (w.alloc (.cells #[.string p] 9)).drewN q := by
  have hd : decide ((i : Int) < 0) = false := decide_eq_false (by omega)
  go_enter Try.func8, Try.ntmps8
  go_wp2
  go_quiet (fail)
  go_wp2_with (go_at_call 10; refine (index_nil _ _).mono ?_; rintro e w' ⟨rfl, hw'⟩; obtain rfl := hw')
  go_ret
  exact ⟨rfl, _, rfl⟩
end Go.Proofs.Qxb6628399a
