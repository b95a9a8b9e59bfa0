import Derived.Test.Qxb6628360aOpen
import Derived.Test.Qxb6628360aSplit
namespace Go.Proofs.Qxb6628360a
open Go.ChangeShapes Go.WideShapes Go.ChangeAt Go.RowKit Go.Joins Go.Deep

set_option maxHeartbeats 400000 in
theorem walk3 (a : Option Addr) (n c : Nat) (xs : List R) (z : Int) (w : World) (h : InRow w a n c xs) :
    Calls Try.prog 3 #[.slice a n c, .int .i64 z] w fun e w' => e = .returned (.bool true) ∧ Below w.heap.size w w' := by
  by_cases hn : n ≤ 65536
  · by_cases hz0 : z < 0
    · have hn1 : decide ((65536 : Int) < (n : Int)) = false := decide_eq_false (by omega)
      have HR := hide h
      clear h
      go_enter Try.func3, Try.ntmps3
      go_wp2_with fail
      refine (bytes5_any a n c xs z _ HR.out).mono ?_
      rintro e w' ⟨⟨b, rfl⟩, hw'⟩
      obtain rfl := hw'.symm
      clear hw'
      cases b
      · go_wp2
        go_ret
        exact ⟨rfl, Below.refl _ _⟩
      go_wp2_with fail
      refine (over_any a n c xs 0 _ HR.out).mono ?_
      rintro e w' ⟨⟨b, rfl⟩, q, rfl⟩
      cases b
      all_goals
        go_wp2
        go_ret
        exact ⟨rfl, below_draws _ _ _⟩
    by_cases hz1 : (n : Int) < z
    · have hn1 : decide ((65536 : Int) < (n : Int)) = false := decide_eq_false (by omega)
      have HR := hide h
      clear h
      go_enter Try.func3, Try.ntmps3
      go_wp2_with fail
      refine (bytes5_any a n c xs z _ HR.out).mono ?_
      rintro e w' ⟨⟨b, rfl⟩, hw'⟩
      obtain rfl := hw'.symm
      clear hw'
      cases b
      · go_wp2
        go_ret
        exact ⟨rfl, Below.refl _ _⟩
      go_wp2_with fail
      refine (over_any a n c xs 0 _ HR.out).mono ?_
      rintro e w' ⟨⟨b, rfl⟩, q, rfl⟩
      cases b
      all_goals
        go_wp2
        go_ret
        exact ⟨rfl, below_draws _ _ _⟩
    obtain ⟨k, rfl⟩ := Int.eq_ofNat_of_zero_le (show 0 ≤ z by omega)
    exact walk3_main a n c xs k w h hn (by omega)
  · have hn1 : (65536 : Int) < (n : Int) := by omega
    have HR := hide h
    clear h
    go_enter Try.func3, Try.ntmps3
    go_wp2_with fail
    refine (bytes5_any a n c xs z _ HR.out).mono ?_
    rintro e w' ⟨⟨b, rfl⟩, hw'⟩
    obtain rfl := hw'.symm
    clear hw'
    cases b
    all_goals
      go_wp2
      go_ret
      exact ⟨rfl, Below.refl _ _⟩

/-! ### THE ROW's STEP -/
set_option maxRecDepth 100000 in
theorem split_lifted (os : Os) (started : os.Started) (H : Type) (enc : TypeId × Value → H) :
    ReturnsInHanded {} Try.checked os 3 .any (Rows.fnWarningsSplitsOverAnyCutSpec.pre6 enc Try.prog Try.f3 Rows.fnWarningsSplitsOverAnyCutRow.domain false) (Rows.fnWarningsSplitsOverAnyCutSpec.post enc Try.prog Try.f3 false true false false) := by
  refine returnsInHanded_of_change (C := Try.checked) own started (by kernel_rfl) Try.func3
    (ChangeSpec.witness6 (enc := enc) (C := Try.checked) false ⟨#[], #[.slice none 0 0, .int .i64 0], []⟩ 8 (by kernel_rfl) (by kernel_rfl) (by kernel_rfl) (by kernel_rfl)) ?_
  intro W base args ds gs before hval0 hW hcnd _
  have hval : ∀ (j : Nat) t v, Try.f3.params[j]? = some t → args[j]? = some v → Value.okWide Try.prog W .any base t v := hval0
  have hW' := hW
  obtain ⟨p, q, hA0, hV, rfl, hfz, hnd⟩ := hW
  have hA : DataW.TrodAll enc Try.prog W 0 (fun _ => true) true Try.f3.params.toList args.toList ds p := hA0
  rw [Try.params3] at hA hval
  obtain ⟨v0, vs0, d0, ds0, p0, q0, hargs, rfl, rfl, h0, r0⟩ := trodAll_cons hA
  obtain ⟨v1, vs1, d1, ds1, p1, q1, rfl, rfl, rfl, h1, r1⟩ := trodAll_cons r0
  obtain ⟨rfl, rfl, rfl⟩ := trodAll_nil r1
  obtain rfl : args = #[v0, v1] := by cases args; simp_all
  obtain ⟨rfl, rfl⟩ := trodVars_none hV
  obtain ⟨a0, len0, cap0, rfl⟩ := okWide_slice Try.underlying22 (hval 0 22 v0 rfl rfl)
  have k0 := h0
  have lt0 : ∀ x ∈ p0, x.block < W.heap.size := by obtain ⟨m, hm⟩ := k0; exact DataW.trod_lt m _ _ _ hm
  obtain ⟨xs, w0⟩ : ∃ xs, InRow W a0 len0 cap0 xs := by
    obtain ⟨fuel, hf⟩ := h0
    exact open_recs (by simpa [Value.cells] using hf)
  obtain ⟨a1, rfl, rfl, rfl, w1⟩ := open_int Try.underlying3 (hval 1 3 v1 rfl rfl) h1
  clear hA0 hval0
  refine (walk3 a0 len0 cap0 xs a1 W w0).mono fun e W' ⟨he, bel⟩ => ?_
  subst he
  exact ⟨_, rfl, _, _, _, [], _, [], hW', trodAll_mk1 (shut_bool Try.underlying4 _), (trodAll_cons_mk (Below.trod laidOut (by kernel_rfl) (of_decide_eq_true (by kernel_rfl)) k0 bel lt0) (trodAll_cons_mk (shut_int Try.underlying3 w1) trodAll_mk0)), rfl, bel.frame _, fun h => by cases h⟩

theorem split_over : Rows.fnWarningsSplitsOverAnyCutRow.holds Try.pinned (OpenSpec.ofChange Rows.fnWarningsSplitsOverAnyCutSpec) :=
  OpenClaim.holds_of_wide 3 Try.f3 rfl rfl rfl rfl rfl rfl rfl ⟨rfl, rfl, rfl, rfl, rfl⟩ rfl rfl rfl rfl rfl (by kernel_rfl) Try.func3 (by kernel_rfl)
    (of_decide_eq_true (by kernel_rfl)) (by unfold Func.isWrapper; first | (rw [if_pos (by decide +kernel)]; kernel_rfl) | (rw [if_neg (by decide +kernel)]; exact ⟨rfl, rfl⟩))
    (fun os started H enc _ => split_lifted os started H enc)

/-- THE STATEMENT -/
theorem split_proved : Rows.FnWarningsSplitsOverAnyCutSaid := split_over
end Go.Proofs.Qxb6628360a
