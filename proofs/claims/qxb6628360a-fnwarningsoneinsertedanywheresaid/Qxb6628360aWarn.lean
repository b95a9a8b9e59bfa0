import Derived.Test.Qxb6628360aWalks
import Derived.Lib.SmallJoins
import Derived.Laws.CopyRow
import Derived.Laws.Rows
namespace Go.Proofs.Qxb6628360a
open Go.RowKit Go.Joins

/-! ### A GREAT STRUCT (fleet.Answer: 31 cells), built, laid, stored and loaded whole: one law an operation, the cells behind a name -/
def entC (v : Value) : Array Value := #[.int .i64 0, .string ByteArray.empty, .string ByteArray.empty, .int .i64 0, .string ByteArray.empty, .string ByteArray.empty, .string ByteArray.empty, .pointer none, .pointer none, .int .i64 0, .int .i64 0, .int .i64 0, .int .i64 0,
  .pointer none, .pointer none, .pointer none, .string ByteArray.empty, .string ByteArray.empty, .pointer none, .pointer none, .pointer none, .pointer none, .pointer none, .pointer none, .pointer none, v, .pointer none, .slice none 0 0, .pointer none, .pointer none]
def ansC (v : Value) : Array Value := #[.int .i64 0, .string ByteArray.empty, .string ByteArray.empty, .int .i64 0, .string ByteArray.empty, .string ByteArray.empty, .string ByteArray.empty, .pointer none, .pointer none, .int .i64 0, .int .i64 0, .int .i64 0, .int .i64 0,
  .pointer none, .pointer none, .pointer none, .string ByteArray.empty, .string ByteArray.empty, .pointer none, .pointer none, .pointer none, .pointer none, .pointer none, .pointer none, .pointer none, v, .pointer none, .slice none 0 0, .pointer none, .pointer none, .pointer none]

theorem run_b44 (a : Option Addr) (n c : Nat) (w : World) : (Instr.build 44 #[(25, .slice a n c)]).run Try.prog w = .ok (.agg (entC (.slice a n c))) w := by kernel_rfl
theorem run_b46 (a : Option Addr) (n c : Nat) (w : World) : (Instr.build 46 #[(0, .agg (entC (.slice a n c)))]).run Try.prog w = .ok (.agg (ansC (.slice a n c))) w := by kernel_rfl
theorem run_a46 (w : World) : (Instr.alloc 46 true (.tuple #[])).run Try.prog w = .ok (.pointer (some ⟨w.heap.size, 0, none⟩)) (w.alloc (.cells (ansC (.slice none 0 0)) 46)) := by kernel_rfl
theorem run_x46 (v : Value) (w : World) : (Instr.box 46 (.agg (ansC v))).run Try.prog w = .ok (.pointer (some ⟨w.heap.size, 0, none⟩)) (w.alloc (.cells (ansC v) 46)) := rfl
theorem info46 : (Try.prog.info? 46).map (·.size) = some 31 := by kernel_rfl
theorem size_ansC (v : Value) : (ansC v).size = 31 := rfl
theorem ansC_25 (v : Value) : (ansC v)[25]? = some v := rfl
theorem setRow_new (w : World) (cs ds : Array Value) (t : TypeId) : (w.alloc (.cells cs t)).setRow w.heap.size ds = w.alloc (.cells ds t) := by
  have e : (w.heap.push (Obj.cells cs t)).modify w.heap.size (fun | .cells _ elem frozen => .cells ds elem frozen | o => o) = w.heap.push (Obj.cells ds t) := by
    apply Array.ext_getElem?
    intro i
    rw [Array.getElem?_modify]
    rcases Nat.lt_trichotomy i w.heap.size with h | h | h
    · rw [if_neg (by omega), Array.getElem?_push_lt h, Array.getElem?_push_lt h]
    · subst h; simp
    · rw [if_neg (by omega), Array.getElem?_eq_none (by simp; omega), Array.getElem?_eq_none (by simp; omega)]
  exact congrArg (fun hp => { w with heap := hp }) e
theorem run_s46 (a : Option Addr) (n c : Nat) (w : World) : (Instr.storeAt 46 (.pointer (some ⟨w.heap.size, 0, none⟩)) (.agg (ansC (.slice a n c)))).run Try.prog (w.alloc (.cells (ansC (.slice none 0 0)) 46)) = .ok () (w.alloc (.cells (ansC (.slice a n c)) 46)) := by
  have hg : (w.alloc (.cells (ansC (.slice none 0 0)) 46)).heap[w.heap.size]? = some (.cells (ansC (.slice none 0 0)) 46 (0, 0)) := heap_alloc_new w _
  have hst := run_storeCells_at Try.prog w.heap.size 0 46 (ansC (.slice a n c)).toList 0 _ _ hg (Nat.le_refl 31) (by
    intro v hv
    simp [ansC] at hv
    rcases hv with rfl | rfl | rfl | rfl | rfl | rfl | rfl | rfl | rfl | rfl | rfl | rfl | rfl | rfl | rfl | rfl | rfl | rfl | rfl | rfl | rfl | rfl | rfl | rfl | rfl | rfl | rfl | rfl | rfl | rfl | rfl <;> rfl)
  have e : ((ansC (.slice none 0 0)).toList.take (0 + 0) ++ (ansC (.slice a n c)).toList ++ (ansC (.slice none 0 0)).toList.drop (0 + 0 + (ansC (.slice a n c)).toList.length)).toArray = ansC (.slice a n c) := rfl
  rw [e, setRow_new] at hst
  obtain ⟨i, hi⟩ : ∃ i, Try.prog.info? 46 = some i := by
    cases h : Try.prog.info? 46 with
    | none => have := info46; rw [h] at this; cases this
    | some i => exact ⟨i, rfl⟩
  have hs : i.size = 31 := by have := info46; rw [hi] at this; simpa using this
  have hc : (Value.agg (ansC (.slice a n c))).cells = ansC (.slice a n c) := rfl
  simp [Instr.storeAt, Instr.sureAddr, storeVar, Sem.run_bind, sizeOf, typeInfo, hi, hs, hc, size_ansC, hst]

section
variable {ops : Array Oper} {rest : List Oper} {o : Oper} {a : Act} {w w' : World} {Q : Exit → Act → World → Prop}
theorem wpList_val {v : Value} (hg : o.guard = none) (hrun : (execOp a.eval o).run Try.prog w = .ok (.value v) w') (h : wpList Try.prog ops Q rest (a.put o.dst v) w') : wpList Try.prog ops Q (o :: rest) a w :=
  wpList_plain hg fun K hK => by
    unfold Oper.wp
    simp only [hrun]
    exact hK _ _ h
theorem wpList_unit (hg : o.guard = none) (hrun : (execOp a.eval o).run Try.prog w = .ok .skip w') (h : wpList Try.prog ops Q rest (a.put o.dst undef) w') : wpList Try.prog ops Q (o :: rest) a w :=
  wpList_plain hg fun K hK => by
    unfold Oper.wp
    simp only [hrun]
    exact hK _ _ h
theorem law_b44 (hg : o.guard = none) (x : Operand) (hop : o.op = .build 44 #[(25, x)]) (A : Option Addr) (n c : Nat) (hx : a.eval x = .slice A n c)
    (h : wpList Try.prog ops Q rest (a.put o.dst (.agg (entC (.slice A n c)))) w) : wpList Try.prog ops Q (o :: rest) a w :=
  wpList_val hg (by unfold execOp; simp only [hop, List.map_toArray, List.map_cons, List.map_nil, hx, Sem.run_bind, run_b44]; rfl) h
theorem law_b46 (hg : o.guard = none) (x : Operand) (hop : o.op = .build 46 #[(0, x)]) (A : Option Addr) (n c : Nat) (hx : a.eval x = .agg (entC (.slice A n c)))
    (h : wpList Try.prog ops Q rest (a.put o.dst (.agg (ansC (.slice A n c)))) w) : wpList Try.prog ops Q (o :: rest) a w :=
  wpList_val hg (by unfold execOp; simp only [hop, List.map_toArray, List.map_cons, List.map_nil, hx, Sem.run_bind, run_b46]; rfl) h
theorem law_a46 (hg : o.guard = none) (hop : o.op = .alloc 46)
    (h : wpList Try.prog ops Q rest (a.put o.dst (.pointer (some ⟨w.heap.size, 0, none⟩))) (w.alloc (.cells (ansC (.slice none 0 0)) 46))) : wpList Try.prog ops Q (o :: rest) a w :=
  wpList_val hg (by unfold execOp; simp only [hop, Sem.run_bind, run_a46]; rfl) h
theorem law_s46 (hg : o.guard = none) (p x : Operand) (hop : o.op = .store 46 p x) (A : Option Addr) (n c : Nat) (hp : a.eval p = .pointer (some ⟨w.heap.size, 0, none⟩)) (hx : a.eval x = .agg (ansC (.slice A n c)))
    (h : wpList Try.prog ops Q rest (a.put o.dst undef) (w.alloc (.cells (ansC (.slice A n c)) 46))) : wpList Try.prog ops Q (o :: rest) a (w.alloc (.cells (ansC (.slice none 0 0)) 46)) :=
  wpList_unit hg (by unfold execOp; simp only [hop, hp, hx, Sem.run_bind, run_s46]; rfl) h
theorem law_l46 (hg : o.guard = none) (p : Operand) (hop : o.op = .load 46 p) (v : Value) (hp : a.eval p = .pointer (some ⟨w.heap.size, 0, none⟩))
    (h : wpList Try.prog ops Q rest (a.put o.dst (.agg (ansC v))) (w.alloc (.cells (ansC v) 46))) : wpList Try.prog ops Q (o :: rest) a (w.alloc (.cells (ansC v) 46)) :=
  wpList_load_row hg 46 p hop w.heap.size hp 46 (ansC v) (0, 0) _ (heap_alloc_new w _) Try.underlying46 rfl info46 h
theorem law_x46 (hg : o.guard = none) (x : Operand) (hop : o.op = .box 46 x) (v : Value) (hx : a.eval x = .agg (ansC v))
    (h : wpList Try.prog ops Q rest (a.put o.dst (.pointer (some ⟨w.heap.size, 0, none⟩))) (w.alloc (.cells (ansC v) 46))) : wpList Try.prog ops Q (o :: rest) a w :=
  wpList_val hg (by unfold execOp; simp only [hop, hx, Sem.run_bind, run_x46]; rfl) h
end

/-- the warnings among the first k -/
def wk (xs : List R) (k : Nat) : List R := (xs.take k).filter (fun x => x.s == 1)
theorem wk_le (xs : List R) (k : Nat) : (wk xs k).length ≤ k := cw_le xs k
theorem wk_yes (xs : List R) (k : Nat) (x : R) (h : xs[k]? = some x) (hs : (x.s == 1) = true) : wk xs (k + 1) = wk xs k ++ [x] := by
  obtain ⟨hk, rfl⟩ := List.getElem?_eq_some_iff.1 h
  unfold wk
  rw [List.take_succ_eq_append_getElem hk, List.filter_append]
  simp [hs]
theorem wk_no (xs : List R) (k : Nat) (x : R) (h : xs[k]? = some x) (hs : (x.s == 1) = false) : wk xs (k + 1) = wk xs k := by
  obtain ⟨hk, rfl⟩ := List.getElem?_eq_some_iff.1 h
  unfold wk
  rw [List.take_succ_eq_append_getElem hk, List.filter_append]
  simp [hs]

theorem own_inrow {w : World} {base : Nat} {a : Option Addr} {n c : Nat} {xs : List R} (h : w.ownsRow base 31 5 (.slice a n c) n (flat xs)) : InRow w a n c xs := by
  have hl : xs.length = n := by have := h.1; rw [flat_length] at this; omega
  rcases h.2 with ⟨h', h0⟩ | ⟨g, cap, cur, h', _, _, hnc, hcm, _⟩
  · simp only [Value.slice.injEq] at h'
    obtain ⟨rfl, rfl, rfl⟩ := h'
    exact ⟨hl, Nat.le_refl _, Nat.zero_le _, fun _ => ⟨rfl, rfl⟩, by intro x hx; cases hx⟩
  · simp only [Value.slice.injEq, true_and] at h'
    obtain ⟨rfl, rfl⟩ := h'
    exact ⟨hl, hnc, hcm, (fun h => by cases h), by intro x hx i u hu; cases hx; exact h.cells rfl i u hu⟩

set_option maxHeartbeats 400000 in
theorem warn_any (A : Option Addr) (n c : Nat) (xs : List R) (w : World) (h : InRow w A n c xs) (hn : n ≤ 100000) :
    Calls Try.prog 12 #[.agg (ansC (.slice A n c))] w fun e w' => ∃ g cap, e = .returned (.slice (some ⟨g, 0, none⟩) (wk xs n).length cap) ∧
      w'.ownsRow w.heap.size 31 5 (.slice (some ⟨g, 0, none⟩) (wk xs n).length cap) (wk xs n).length (flat (wk xs n)) ∧ Below w.heap.size w w' := by
  have HR := hide h
  clear h
  obtain ⟨i0, hi, hz0, hz1, hz2⟩ := info_parts Try.info31
  have HI := hide hi
  have HZ0 := hide hz0
  have HZ1 := hide hz1
  have HZ2 := hide hz2
  clear hi hz0 hz1 hz2
  have h25 := ansC_25
  go_enter Try.func12, Try.ntmps12
  go_wp2_with (refine law_x46 rfl _ rfl _ rfl ?_)
  go_loopw [3, 11] (fun v i wr => ∃ (k g cap : Nat), k ≤ n ∧ i = .int .i64 k ∧ v = .slice (some ⟨g, 0, none⟩) (wk xs k).length cap ∧
      wr.ownsRow w.heap.size 31 5 (.slice (some ⟨g, 0, none⟩) (wk xs k).length cap) (wk xs k).length (flat (wk xs k)) ∧ Below w.heap.size w wr)
    (fun _ i _ => n - (intOf i).toNat)
  case atStart =>
    refine ⟨0, _, 0, Nat.zero_le _, rfl, rfl, ?_, ((Below.refl _ _).alloc (Nat.le_refl _) _).alloc (by simp) _⟩
    have := World.ownsRow_lit (base := w.heap.size) (e := 31) (size := 5) (w.alloc (.cells (ansC (.slice A n c)) 46)) #[] 0 (by simp) (Nat.zero_le _) rfl
    rw [show (w.alloc (.cells (ansC (.slice A n c)) 46)).heap.size = w.heap.size + 1 by simp] at this
    exact this
  case round =>
    obtain ⟨k, g, cap, hk, rfl, rfl, hown, hb⟩ := hrel
    have HO2 := hide hown
    have HB2 := hide hb
    have hsz : w.heap.size ≤ wr.heap.size := hb.size
    have hg : g < wr.heap.size := (hown.lt g rfl).2
    have hkl := wk_le xs k
    clear hown
    by_cases hlt : k < n
    · obtain ⟨b, off, rfl⟩ := HR.out.addr (by omega)
      obtain ⟨y, hy, c0, c1, c2, c3, c4⟩ := (HR.out.mono (fun x v hv => (hb.cell (World.block_lt_of_cell? w x hv)).trans hv)).cells k hlt
      clear hb
      cases hs : (y.s == 1)
      · have HK := hide (wk_no xs k y hy hs)
        clear hy
        go_wp2
        go_roundw
        case rel =>
          refine ⟨k + 1, g, cap, by omega, by go_num, by rw [HK.out], ?_, ?_⟩
          · rw [HK.out]; exact HO2.out.alloc _
          · exact HB2.out.alloc hsz _
        case measure => simp [intOf]; omega
      · have HK := hide (wk_yes xs k y hy hs)
        clear hy
        go_wp2_with (at_builtin; refine wpList_append_own _ rfl _ _ 24 rfl w.heap.size 31 i0 _ 5 56 Try.underlying24 HI.out HZ0.out HZ1.out HZ2.out rfl (by decide) _ _ _ rfl ((HO2.out.alloc _).alloc _) ⟨wr.heap.size + 1, 0, none⟩ 1 1 y.cells rfl rfl ?c1 ?c2 ?c3 ?c4 ?c5 ?_)
        case c1 => intro j u hj; rw [Addr.add_lit, Nat.zero_add, World.cell?_alloc_at _ _ _ _ (by simp)]; rw [← hj]; unfold R.cells; simp
        case c2 => intro u hu; simp [R.cells] at hu; rcases hu with rfl | rfl | rfl | rfl | rfl <;> rfl
        case c3 => unfold maxLen; omega
        case c4 => omega
        case c5 => simp; omega
        intro v' w1 hown' hgrow _
        obtain ⟨g', cap', hv'⟩ := ownsRow_form hown' (by omega)
        subst hv'
        have HB3 := hide (Below.grown ((HB2.out.alloc hsz _).alloc (by simp; omega) _) hgrow (by simp; omega) (by intro q hq; cases hq; exact (HO2.out.lt g rfl).1))
        have HO3 := hide hown'
        clear hown' hgrow
        go_wp2
        go_roundw
        case rel =>
          refine ⟨k + 1, g', cap', by omega, by go_num, ?_, ?_, HB3.out⟩
          · rw [HK.out, List.length_append]; rfl
          · rw [HK.out, List.length_append, flat_append]
            have e1 : flat [y] = y.cells := by simp [flat]
            rw [e1]; exact HO3.out
        case measure => simp [intOf]; omega
    · obtain rfl : k = n := by omega
      go_wp2
      go_ret
      exact ⟨g, cap, rfl, HO2.out, HB2.out⟩

set_option maxHeartbeats 400000 in
theorem of_any (a : Option Addr) (n c : Nat) (xs : List R) (w : World) (h : InRow w a n c xs) (hn : n ≤ 100000) :
    Calls Try.prog 7 #[.slice a n c] w fun e w' => ∃ g cap, e = .returned (.slice (some ⟨g, 0, none⟩) (wk xs n).length cap) ∧
      w'.ownsRow w.heap.size 31 5 (.slice (some ⟨g, 0, none⟩) (wk xs n).length cap) (wk xs n).length (flat (wk xs n)) ∧ Below w.heap.size w w' := by
  have HR := hide h
  clear h
  go_enter Try.func7, Try.ntmps7
  go_wp2_with fail
  refine (fleet_any a n c xs _ HR.out hn).mono ?_
  rintro e w1 ⟨v, rfl, hown, hb⟩
  obtain ⟨A, c', rfl⟩ : ∃ A c', v = .slice A n c' := by
    rcases ownsRow_forms hown with ⟨rfl, rfl⟩ | ⟨g, cap, rfl⟩
    · exact ⟨_, _, rfl⟩
    · exact ⟨_, _, rfl⟩
  have HO := hide (own_inrow (hown.alloc (.cells (ansC (.slice A n c')) 46)))
  have HB := hide hb
  clear hown hb
  go_wp2_with (first | (refine law_b44 rfl _ rfl _ _ _ rfl ?_) | (refine law_b46 rfl _ rfl _ _ _ rfl ?_) | (refine law_a46 rfl rfl ?_) | (refine law_s46 rfl _ _ rfl _ _ _ rfl rfl ?_) | (refine law_l46 rfl _ rfl _ rfl ?_))
  refine (warn_any A n c' xs _ HO.out hn).mono ?_
  rintro e w2 ⟨g, cap, rfl, hown2, hb2⟩
  have HB2 := hide (HB.out.trans (((Below.refl _ _).alloc HB.out.size _).trans (hb2.mono (by have := HB.out.size; simp; omega))))
  have HO2 := hide (ownsRow_le hown2 (base' := w.heap.size) (by have := HB.out.size; simp; omega))
  clear hown2 hb2
  go_wp2
  go_ret
  exact ⟨g, cap, rfl, HO2.out, HB2.out⟩
end Go.Proofs.Qxb6628360a
