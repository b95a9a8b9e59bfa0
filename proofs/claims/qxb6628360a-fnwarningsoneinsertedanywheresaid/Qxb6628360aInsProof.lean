import Derived.Test.Qxb6628360aOpen
import Derived.Test.Qxb6628360aIns
namespace Go.Proofs.Qxb6628360a
open Go.ChangeShapes Go.WideShapes Go.ChangeAt Go.RowKit Go.Joins Go.Deep

theorem open_rec_val {H : Type} {enc : TypeId × Value → H} {W : World} {r : Reach} {b0 : Nat} {v : Value} {d : DataW H} {p : List MemPlace} (hv : Value.okWide Try.prog W r b0 33 v)
    (h : DataW.Trod enc Try.prog W 0 (fun _ => true) true 33 v d p) : ∃ y : R, v = .agg #[.string y.p, .string y.r, .int .i64 y.s, .int .i64 y.t, .int .i64 y.u] := by
  obtain ⟨cs, rfl, hsz⟩ := okWide_struct Try.underlying33 hv
  obtain ⟨fuel, hf⟩ := h
  obtain ⟨y, hy⟩ := open_rec (cs := cs.toList) (by rw [Array.length_toList]; exact hsz.trans Try.cells33) (by simpa [Value.cells] using hf)
  refine ⟨y, ?_⟩
  obtain ⟨l⟩ := cs
  simp only at hy
  rw [hy]; rfl

set_option maxRecDepth 100000 in
set_option maxHeartbeats 1000000 in
theorem walk4 (a : Option Addr) (n c : Nat) (xs : List R) (y : R) (z : Int) (w : World) (h : InRow w a n c xs) :
    Calls Try.prog 4 #[.slice a n c, .agg #[.string y.p, .string y.r, .int .i64 y.s, .int .i64 y.t, .int .i64 y.u], .int .i64 z] w fun e w' => e = .returned (.bool true) ∧ Below w.heap.size w w' := by
  obtain ⟨W0, hW0⟩ : ∃ W0, W0 = w.alloc (.cells #[.string y.p, .string y.r, .int .i64 y.s, .int .i64 y.t, .int .i64 y.u] 33) := ⟨_, rfl⟩
  have hbw : Below w.heap.size w W0 := by rw [hW0]; exact (Below.refl w.heap.size w).alloc (Nat.le_refl _) _
  have HR := hide (h.below hbw)
  have HBW := hide hbw
  have HX := hide (show BoxAt W0 w.heap.size y by rw [hW0]; exact BoxAt.mk w y)
  have HW0 := hide hW0
  have H := hide h
  clear h hbw hW0
  by_cases hn : n ≤ 65536
  · by_cases hp : (y.p.size : Int) ≤ 1048576
    · by_cases hr : (y.r.size : Int) ≤ 1048576
      · by_cases hz : 0 ≤ z ∧ z ≤ (n : Int)
        · obtain ⟨k, rfl⟩ := Int.eq_ofNat_of_zero_le hz.1
          exact walk4_main a n c xs y k w H.out hn (by omega) hp hr
        · have hn1 : decide ((65536 : Int) < (n : Int)) = false := decide_eq_false (by omega)
          have hp1 : decide ((1048576 : Int) < (y.p.size : Int)) = false := decide_eq_false (by omega)
          have hr1 : decide ((1048576 : Int) < (y.r.size : Int)) = false := decide_eq_false (by omega)
          by_cases hz0 : z < 0
          all_goals
            go_enter Try.func4, Try.ntmps4
            go_wp2_with fail
            rw [← HW0.out]
            refine (bytes9_any a n c xs y z _ HR.out).mono ?_
            rintro e w1 ⟨⟨b, rfl⟩, hb1⟩
            have HB1 := hide hb1
            clear hb1
            cases b
            · go_wp2
              go_ret
              exact ⟨rfl, HBW.out.trans (HB1.out.mono HBW.out.size)⟩
            obtain ⟨e0, e1, e2, e3, e4, eb⟩ := HX.out.below HB1.out
            go_wp2_with fail
            refine (over_any a n c xs _ _ (HR.out.below HB1.out)).mono ?_
            rintro e w' ⟨⟨b, rfl⟩, q, rfl⟩
            have HB2 := hide (HB1.out.trans (below_draws _ _ q))
            clear HB1
            cases b
            · have hz1 : 0 ≤ z → (n : Int) < z := by omega
              go_wp2
              go_ret
              exact ⟨rfl, HBW.out.trans (HB2.out.mono HBW.out.size)⟩
            · go_wp2
              go_ret
              exact ⟨rfl, HBW.out.trans (HB2.out.mono HBW.out.size)⟩
      · go_enter Try.func4, Try.ntmps4
        go_wp2_with fail
        rw [← HW0.out]
        refine (bytes9_any a n c xs y z _ HR.out).mono ?_
        rintro e w1 ⟨⟨b, rfl⟩, hb1⟩
        have HB1 := hide hb1
        clear hb1
        obtain ⟨e0, e1, e2, e3, e4, eb⟩ := HX.out.below HB1.out
        cases b
        all_goals
          go_wp2
          go_ret
          exact ⟨rfl, HBW.out.trans (HB1.out.mono HBW.out.size)⟩
    · go_enter Try.func4, Try.ntmps4
      go_wp2_with fail
      rw [← HW0.out]
      refine (bytes9_any a n c xs y z _ HR.out).mono ?_
      rintro e w1 ⟨⟨b, rfl⟩, hb1⟩
      have HB1 := hide hb1
      clear hb1
      obtain ⟨e0, e1, e2, e3, e4, eb⟩ := HX.out.below HB1.out
      cases b
      all_goals
        go_wp2
        go_ret
        exact ⟨rfl, HBW.out.trans (HB1.out.mono HBW.out.size)⟩
  · have hn1 : (65536 : Int) < (n : Int) := by omega
    go_enter Try.func4, Try.ntmps4
    go_wp2_with fail
    rw [← HW0.out]
    refine (bytes9_any a n c xs y z _ HR.out).mono ?_
    rintro e w1 ⟨⟨b, rfl⟩, hb1⟩
    have HB1 := hide hb1
    clear hb1
    cases b
    all_goals
      go_wp2
      go_ret
      exact ⟨rfl, HBW.out.trans (HB1.out.mono HBW.out.size)⟩

/-! ### THE ROW's STEP -/
set_option maxRecDepth 100000 in
theorem ins_lifted (os : Os) (started : os.Started) (H : Type) (enc : TypeId × Value → H) :
    ReturnsInHanded {} Try.checked os 4 .any (Rows.fnWarningsOneInsertedAnywhereSpec.pre6 enc Try.prog Try.f4 Rows.fnWarningsOneInsertedAnywhereRow.domain false) (Rows.fnWarningsOneInsertedAnywhereSpec.post enc Try.prog Try.f4 false true false false) := by
  refine returnsInHanded_of_change (C := Try.checked) own started (by kernel_rfl) Try.func4
    (ChangeSpec.witness6 (enc := enc) (C := Try.checked) false ⟨#[], #[.slice none 0 0, .agg #[.string ByteArray.empty, .string ByteArray.empty, .int .i64 0, .int .i64 0, .int .i64 0], .int .i64 0], []⟩ 8 (by kernel_rfl) (by kernel_rfl) (by kernel_rfl) (by kernel_rfl)) ?_
  intro W base args ds gs before hval0 hW hcnd _
  have hval : ∀ (j : Nat) t v, Try.f4.params[j]? = some t → args[j]? = some v → Value.okWide Try.prog W .any base t v := hval0
  have hW' := hW
  obtain ⟨p, q, hA0, hV, rfl, hfz, hnd⟩ := hW
  have hA : DataW.TrodAll enc Try.prog W 0 (fun _ => true) true Try.f4.params.toList args.toList ds p := hA0
  rw [Try.params4] at hA hval
  obtain ⟨v0, vs0, d0, ds0, p0, q0, hargs, rfl, rfl, h0, r0⟩ := trodAll_cons hA
  obtain ⟨v1, vs1, d1, ds1, p1, q1, rfl, rfl, rfl, h1, r1⟩ := trodAll_cons r0
  obtain ⟨v2, vs2, d2, ds2, p2, q2, rfl, rfl, rfl, h2, r2⟩ := trodAll_cons r1
  obtain ⟨rfl, rfl, rfl⟩ := trodAll_nil r2
  obtain rfl : args = #[v0, v1, v2] := by cases args; simp_all
  obtain ⟨rfl, rfl⟩ := trodVars_none hV
  obtain ⟨a0, len0, cap0, rfl⟩ := okWide_slice Try.underlying22 (hval 0 22 v0 rfl rfl)
  have k0 := h0
  have k1 := h1
  have lt0 : ∀ x ∈ p0, x.block < W.heap.size := by obtain ⟨m, hm⟩ := k0; exact DataW.trod_lt m _ _ _ hm
  have lt1 : ∀ x ∈ p1, x.block < W.heap.size := by obtain ⟨m, hm⟩ := k1; exact DataW.trod_lt m _ _ _ hm
  obtain ⟨xs, w0⟩ : ∃ xs, InRow W a0 len0 cap0 xs := by
    obtain ⟨fuel, hf⟩ := h0
    exact open_recs (by simpa [Value.cells] using hf)
  obtain ⟨y, rfl⟩ := open_rec_val (hval 1 33 v1 rfl rfl) h1
  obtain ⟨a2, rfl, rfl, rfl, w2⟩ := open_int Try.underlying3 (hval 2 3 v2 rfl rfl) h2
  clear hA0 hval0
  refine (walk4 a0 len0 cap0 xs y a2 W w0).mono fun e W' ⟨he, bel⟩ => ?_
  subst he
  exact ⟨_, rfl, _, _, _, [], _, [], hW', trodAll_mk1 (shut_bool Try.underlying4 _), (trodAll_cons_mk (Below.trod laidOut (by kernel_rfl) (of_decide_eq_true (by kernel_rfl)) k0 bel lt0) (trodAll_cons_mk (Below.trod laidOut (by kernel_rfl) (of_decide_eq_true (by kernel_rfl)) k1 bel lt1) (trodAll_cons_mk (shut_int Try.underlying3 w2) trodAll_mk0))), rfl, bel.frame _, fun h => by cases h⟩

theorem ins_over : Rows.fnWarningsOneInsertedAnywhereRow.holds Try.pinned (OpenSpec.ofChange Rows.fnWarningsOneInsertedAnywhereSpec) :=
  OpenClaim.holds_of_wide 4 Try.f4 rfl rfl rfl rfl rfl rfl rfl ⟨rfl, rfl, rfl, rfl, rfl⟩ rfl rfl rfl rfl rfl (by kernel_rfl) Try.func4 (by kernel_rfl)
    (of_decide_eq_true (by kernel_rfl)) (by unfold Func.isWrapper; first | (rw [if_pos (by decide +kernel)]; kernel_rfl) | (rw [if_neg (by decide +kernel)]; exact ⟨rfl, rfl⟩))
    (fun os started H enc _ => ins_lifted os started H enc)

/-- THE STATEMENT -/
theorem ins_proved : Rows.FnWarningsOneInsertedAnywhereSaid := ins_over
end Go.Proofs.Qxb6628360a
