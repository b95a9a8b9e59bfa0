import Derived.Test.Qxb6628399aConv
namespace Go.Proofs.Qxb6628399a
open Go.RowKit Go.Joins

/-- some counter among the first k is lower in xs than in os -/
def anyGt (os xs : List K) (k : Nat) : Bool := ((os.zip xs).take k).any (fun p => decide (p.2.v < p.1.v))
/-- what is left behind k rounds of the second loop: 'ov i' taken off counter i -/
def minus (xs : List K) (ov : Nat → Int) (k : Nat) : List K := xs.mapIdx (fun i x => if i < k then ⟨x.p, wrap64 (x.v - ov i)⟩ else x)

theorem anyGt_succ (os xs : List K) (k : Nat) (o x : K) (ho : os[k]? = some o) (hx : xs[k]? = some x) (h : anyGt os xs k = false) : anyGt os xs (k + 1) = decide (x.v < o.v) := by
  obtain ⟨h1, rfl⟩ := List.getElem?_eq_some_iff.1 ho
  obtain ⟨h2, rfl⟩ := List.getElem?_eq_some_iff.1 hx
  unfold anyGt at *
  rw [List.take_succ_eq_append_getElem (by simp; omega), List.any_append, h]
  simp
theorem anyGt_stop (os xs : List K) (k n : Nat) (h : anyGt os xs k = true) (hk : k ≤ n) : anyGt os xs n = true := by
  unfold anyGt at *
  rw [List.any_eq_true] at h ⊢
  obtain ⟨p, hp, hd⟩ := h
  exact ⟨p, (List.take_subset_take_left _ hk) hp, hd⟩

/-- what Deltas hands back -/
def outs (os xs : List K) (ov : Nat → Int) (no n : Nat) : List K := if anyGt os xs no = true then xs else minus xs ov n
theorem outs_yes {os xs : List K} {ov : Nat → Int} {no n : Nat} (h : anyGt os xs no = true) : outs os xs ov no n = xs := if_pos h
theorem outs_no {os xs : List K} {ov : Nat → Int} {no n : Nat} (h : anyGt os xs no = false) : outs os xs ov no n = minus xs ov n := if_neg (by rw [h]; decide)
theorem ret_pair {v : Value} {b b' : Bool} (h : b = b') : Ending.returned (.tuple #[v, .bool b]) = .returned (.tuple #[v, .bool b']) := by rw [h]
theorem minus_zero (xs : List K) (ov : Nat → Int) : minus xs ov 0 = xs := by
  unfold minus
  simp only [Nat.not_lt_zero, if_false]
  exact List.mapIdx_eq_iff.2 (by intro i; simp)
theorem minus_length (xs : List K) (ov : Nat → Int) (k : Nat) : (minus xs ov k).length = xs.length := by simp [minus]
theorem minus_at (xs : List K) (ov : Nat → Int) (k : Nat) (x : K) (hx : xs[k]? = some x) : (minus xs ov k)[k]? = some x := by
  unfold minus
  rw [List.getElem?_mapIdx, hx]; simp
theorem minus_at' (xs : List K) (ov : Nat → Int) (n k : Nat) (x : K) (hx : xs[k]? = some x) (hk : k < n) : (minus xs ov n)[k]? = some ⟨x.p, wrap64 (x.v - ov k)⟩ := by
  unfold minus
  rw [List.getElem?_mapIdx, hx]; simp [hk]
theorem minus_succ (xs : List K) (ov : Nat → Int) (k : Nat) (x : K) (hx : xs[k]? = some x) : minus xs ov (k + 1) = (minus xs ov k).set k ⟨x.p, wrap64 (x.v - ov k)⟩ := by
  obtain ⟨hk, rfl⟩ := List.getElem?_eq_some_iff.1 hx
  apply List.ext_getElem?
  intro i
  unfold minus
  rw [List.getElem?_set, List.getElem?_mapIdx, List.getElem?_mapIdx, List.length_mapIdx]
  by_cases h : k = i
  · subst h; simp [hk]
  · rw [if_neg h]
    cases hxi : xs[i]? with
    | none => rfl
    | some y =>
      simp only [Option.map_some]
      by_cases h1 : i < k
      · rw [if_pos h1, if_pos (by omega)]
      · rw [if_neg h1, if_neg (by omega)]
/-- the second cell of element k set -/
theorem flat_set (xs : List K) (k : Nat) (x : K) (hx : xs[k]? = some x) (v : Int) : (flat xs).set (k * 2 + 1) (.int .i64 v) = flat (xs.set k ⟨x.p, v⟩) := by
  obtain ⟨hk, rfl⟩ := List.getElem?_eq_some_iff.1 hx
  have e : xs = xs.take k ++ (xs[k] :: xs.drop (k + 1)) := by simp
  have hl : (flat (xs.take k)).length = k * 2 := by rw [flat_length, List.length_take]; congr 1; omega
  have e2 : flat xs = flat (xs.take k) ++ (.string xs[k].p :: .int .i64 xs[k].v :: flat (xs.drop (k + 1))) := by
    conv => lhs; rw [e]
    rw [flat_append]; rfl
  have e3 : xs.set k ⟨xs[k].p, v⟩ = xs.take k ++ (⟨xs[k].p, v⟩ :: xs.drop (k + 1)) := by rw [List.set_eq_take_append_cons_drop, if_pos hk]
  rw [e2, e3, flat_append, List.set_append_right _ _ (by omega), hl, Nat.add_sub_cancel_left]
  rfl

theorem clone_any (an : Option Addr) (n c : Nat) (xs : List K) (w : World) (h : InRow w an n c xs) (hn : n ≤ 4096) :
    Calls Try.prog 9 #[.slice an n c] w fun e w' => ∃ a' c', e = .returned (.slice a' n c') ∧ a'.isNone = an.isNone ∧ w'.ownsRow w.heap.size 27 2 (.slice a' n c') n (flat xs) ∧ Below w.heap.size w w' := by
  cases an with
  | some x =>
    refine (clone_some x n c xs w h hn).mono ?_
    rintro e w' ⟨g, cap, rfl, h1, h2⟩
    exact ⟨_, _, rfl, rfl, h1, h2⟩
  | none =>
    obtain ⟨h1, _, _, h4, _⟩ := h
    obtain ⟨rfl, rfl⟩ := h4 rfl
    obtain rfl := List.length_eq_zero_iff.1 h1
    refine (clone_nil w).mono ?_
    rintro e w' ⟨rfl, rfl⟩
    exact ⟨_, _, rfl, rfl, World.ownsRow_nil _ _ _ _, Below.refl _ _⟩

set_option maxHeartbeats 1000000 in
theorem deltas_any (ao : Option Addr) (no co : Nat) (os : List K) (an : Option Addr) (n c : Nat) (xs : List K) (ov : Nat → Int) (w : World) (ho : InRow w ao no co os) (hx : InRow w an n c xs) (hn : n ≤ 4096) (hno : no ≤ n)
    (hnm : ∀ (i : Nat) (o x : K), os[i]? = some o → xs[i]? = some x → o.p = x.p)
    (hov : ∀ (i : Nat) (x : K) (w1 : World), xs[i]? = some x → Below w.heap.size w w1 → Calls Try.prog 8 #[.slice ao no co, .int .i64 i, .string x.p] w1 fun e w' => e = .returned (.int .i64 (ov i)) ∧ ∃ q, w' = (w1.alloc (.cells #[.string x.p] 9)).drewN q) :
    Calls Try.prog 5 #[.slice ao no co, .slice an n c] w fun e w' => ∃ v, e = .returned (.tuple #[v, .bool (anyGt os xs no)]) ∧
      (∃ a' c', v = .slice a' n c' ∧ a'.isNone = an.isNone ∧ InRow w' a' n c' (outs os xs ov no n)) ∧ Below w.heap.size w w' := by
  have HRO := hide ho
  have HRX := hide hx
  have HNM := hide hnm
  have HOV := hide hov
  clear ho hx hnm hov
  go_enter Try.func5, Try.ntmps5
  go_wp2
  go_loopw [5, 6, 7, 11] (fun r _ _ i wr => ∃ k : Nat, k ≤ no ∧ r = .bool false ∧ i = .int .i64 k ∧ anyGt os xs k = false ∧ Below w.heap.size w wr) (fun _ _ _ i _ => no - (intOf i).toNat)
  case atStart => exact ⟨0, Nat.zero_le _, rfl, rfl, rfl, Below.refl _ _⟩
  case round =>
    obtain ⟨k, hk, rfl, rfl, hag, hb⟩ := hrel
    have HAG := hide hag
    have HB := hide hb
    clear hag
    by_cases hlt : k < no
    · obtain ⟨b, off, rfl⟩ := HRO.out.addr (by omega)
      obtain ⟨o, hok⟩ := HRO.out.get k hlt
      obtain ⟨x, hxk⟩ := HRX.out.get k (by omega)
      obtain ⟨c0, c1⟩ := (HRO.out.below hb).at k o hok
      have hp := HNM.out k o x hok hxk
      have HP := hide hp
      have HS := hide (anyGt_succ os xs k o x hok hxk HAG.out)
      have HXK := hide hxk
      clear hok hxk hp
      have hlt' : (k : Int) < (no : Int) := by omega
      rw [HP.out] at c0
      go_wp2
      go_region_with (go_at_call 8; refine (value_at an n c xs k x _ (by exact HRX.out.below ((HB.out.alloc HB.out.size _).drew)) HXK.out).mono ?_; rintro e w8 ⟨rfl, q, hw8⟩; subst hw8)
      all_goals
        have HB5 := hide (((HB.out.alloc HB.out.size (.cells #[.string x.p, .int .i64 o.v] 27)).alloc (by have := HB.out.size; simp; omega) (.cells #[.string x.p] 9)).trans (below_draws _ _ (1 + q)))
        by_cases hgt : x.v < o.v
        · have HT := hide (anyGt_stop os xs (k + 1) no (by rw [HS.out]; exact decide_eq_true hgt) (by omega))
          go_wp2_with fail
          refine (clone_any an n c xs _ (by exact HRX.out.below HB5.out) hn).mono ?_
          rintro e w9 ⟨a', c', rfl, hnn, hown, hb9⟩
          have HB6 := hide (HB5.out.trans (hb9.mono HB5.out.size))
          have HO := hide (own_inrow hown)
          have HNN := hide hnn
          clear hown hb9 hnn
          go_wp2
          go_ret2
          exact ⟨_, ret_pair HT.out.symm, ⟨a', c', rfl, HNN.out, by rw [outs_yes HT.out]; exact HO.out⟩, HB6.out⟩
        · have HT := hide (show anyGt os xs (k + 1) = false by rw [HS.out]; exact decide_eq_false hgt)
          go_wp2
          go_roundw
          case rel => exact ⟨k + 1, by omega, rfl, by go_num, HT.out, HB5.out⟩
          case measure => simp [intOf]; omega
    · obtain rfl : k = no := by omega
      clear hb
      go_wp2_with fail
      refine (clone_any an n c xs _ (by exact HRX.out.below HB.out) hn).mono ?_
      rintro e w9 ⟨a', c', rfl, hnn, hown, hb9⟩
      have HB6 := hide (HB.out.trans (hb9.mono HB.out.size))
      have HNN := hide hnn
      have HO := hide (show w9.ownsRow w.heap.size 27 2 (.slice a' n c') n (flat (minus xs ov 0)) by rw [minus_zero]; exact ownsRow_le hown HB.out.size)
      clear hown hb9 hnn
      go_wp2
      go_loopw [8, 31] (fun _ i wr => ∃ j : Nat, j ≤ n ∧ i = .int .i64 j ∧ wr.ownsRow w.heap.size 27 2 (.slice a' n c') n (flat (minus xs ov j)) ∧ Below w.heap.size w wr) (fun _ i _ => n - (intOf i).toNat)
      case atStart => exact ⟨0, Nat.zero_le _, rfl, HO.out, HB6.out⟩
      case round =>
        obtain ⟨j, hj, rfl, hown, hb⟩ := hrel
        have HO2 := hide hown
        have HB7 := hide hb
        clear hown hb HO HB6 HB
        by_cases hlt2 : j < n
        · obtain ⟨x, hxj⟩ := HRX.out.get j hlt2
          obtain ⟨g, cap, hag⟩ := ownsRow_form HO2.out (by omega)
          simp only [Value.slice.injEq, true_and] at hag
          obtain ⟨rfl, rfl⟩ := hag
          obtain ⟨d0, d1⟩ := own_cells HO2.out j x (minus_at xs ov j x hxj)
          have g1 := HO2.out.frozenAt (j * 2 + 1)
          have hg := (HO2.out.lt g rfl).2
          have hg0 := (HO2.out.lt g rfl).1
          have hlt' : (j : Int) < (n : Int) := by omega
          have HXJ := hide hxj
          clear hxj
          go_wp2
          go_region_with (go_at_call 8; refine (HOV.out j x _ HXJ.out (by exact HB7.out.drew)).mono ?_; rintro e w8 ⟨rfl, q, hw8⟩; subst hw8)
          all_goals
            go_wp2
            go_roundw
            case rel =>
              refine ⟨j + 1, by omega, by go_num, ?_, ?_⟩
              · rw [minus_succ xs ov j x HXJ.out, ← flat_set _ j x (minus_at xs ov j x HXJ.out) _]
                exact ((own_below (HO2.out.alloc _) (below_draws _ _ _)).stored (j * 2 + 1) _).1
              · exact ((HB7.out.alloc HB7.out.size _).trans (below_draws _ _ _)).setCell hg0 _
            case measure => simp [intOf]; omega
        · obtain rfl : j = n := by omega
          go_wp2
          go_ret2
          exact ⟨_, ret_pair HAG.out.symm, ⟨a', c', rfl, HNN.out, by rw [outs_no HAG.out]; exact own_inrow HO2.out⟩, HB7.out⟩
end Go.Proofs.Qxb6628399a
