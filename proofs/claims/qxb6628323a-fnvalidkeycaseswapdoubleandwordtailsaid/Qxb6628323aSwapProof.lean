/-
  THE PROOF OF 'Rows.FnValidKeyCaseSwapDoubleAndWordTailSaid': the frame is the shell's (with 'Below' for 'Grown': the callees make memory), the walk is filled by hand out of the contracts in Qxb6628323aWalks and Qxb6628323aWalks2.
-/
import Derived.Test.Qxb6628323aRows
import Derived.WalkKit
import Derived.ProofKit
import Derived.OpenShut
import Derived.ShutString
import Derived.ChangeOld
import Derived.Below
import Derived.Test.Qxb6628323aWalks2
namespace Go.Proofs.Qxb6628323a.fnValidKeyCaseSwapDoubleAndWordTail
open Go.ChangeShapes Go.WideShapes Go.ChangeAt Go.RowKit
open Go.ChangeMaps (open_string shut_string)
set_option linter.unusedVariables false      -- a walk need not use every 'w<i>' (that an integer argument fits its kind)

theorem own : ownKnob Try.prog.godebug = none := by kernel_rfl

theorem bytes9_yes (a : ByteArray) (w : World) (h : a.size ≤ 1048576) :
    Calls Try.prog 9 #[.string a] w fun e w' => e = .returned (.bool true) ∧ w' = w := by
  have h1 : (a.size : Int) ≤ 1048576 := by omega
  go_enter Try.func9, Try.ntmps9
  go_wp2
  go_ret
  exact ⟨rfl, rfl⟩
theorem bytes9_no (a : ByteArray) (w : World) (h : ¬ a.size ≤ 1048576) :
    Calls Try.prog 9 #[.string a] w fun e w' => e = .returned (.bool false) ∧ w' = w := by
  have h1 : ¬ (a.size : Int) ≤ 1048576 := by omega
  go_enter Try.func9, Try.ntmps9
  go_wp2
  go_ret
  exact ⟨rfl, rfl⟩

/-! ### STEP 1: THE WALK: the Go text returns true, and writes nothing that was there. -/
set_option maxHeartbeats 4000000 in
theorem walk (a0 : ByteArray) (w0 : a0.size ≤ maxLen) (w : World) :
    Calls Try.prog 4 #[.string a0] w fun e w' => e = .returned (.bool true) ∧ Below w.heap.size w w' := by
  by_cases h : a0.size ≤ 1048576
  · by_cases h2 : a0.size ≤ 524288
    · have h1 : (a0.size : Int) ≤ 524288 := by omega
      have h3 : (a0.size : Int) + (a0.size : Int) ≤ 9223372036854775807 := by omega
      have hfl : (a0.data.toList.filter isW).length ≤ a0.size := by have := List.length_filter_le isW a0.data.toList; simpa using this
      have hml : (a0.data.toList.map swp).length = a0.size := by simp
      have HSW := hide (vk_swap a0.data.toList)
      have HDB := hide (show vk (a0 ++ a0).data.toList = vk a0.data.toList by rw [ByteArray.data_append, Array.toList_append, vk_double])
      obtain ⟨sw, hsw⟩ : ∃ sw : ByteArray, sw = ⟨(a0.data.toList.map swp).toArray⟩ := ⟨_, rfl⟩
      obtain ⟨t, ht⟩ : ∃ t : ByteArray, t = ⟨(a0.data.toList.filter isW).toArray⟩ := ⟨_, rfl⟩
      have htl : t.data.toList = a0.data.toList.filter isW := by rw [ht]
      have hts : t.size ≤ a0.size := by have e : t.size = t.data.toList.length := by simp
                                        rw [e, htl]; exact hfl
      have hts' : (t.size : Int) ≤ 524288 := by omega
      have hss : sw.size ≤ maxLen := by have e : sw.size = sw.data.toList.length := by simp
                                        rw [e, hsw]; simp only []; rw [hml]; exact w0
      have hc1 : ∀ c : ByteArray, c.size = 1 → (c ++ t).size ≤ maxLen := by intro c hc; rw [ByteArray.size_append, hc]; unfold maxLen; omega
      have H1 := hide (show vk sw.data.toList = vk a0.data.toList by rw [hsw]; exact HSW.out)
      have H3 := hide (show vk ((⟨#[75]⟩ : ByteArray) ++ t).data.toList = true by rw [ByteArray.data_append, Array.toList_append, htl]; exact vk_K _)
      have H4 := hide (show vk ((⟨#[95]⟩ : ByteArray) ++ t).data.toList = false by rw [ByteArray.data_append, Array.toList_append]; exact vk_us _)
      have H5 := hide (show vk ((⟨#[55]⟩ : ByteArray) ++ t).data.toList = false by rw [ByteArray.data_append, Array.toList_append]; exact vk_7 _)
      have HM1 := hide (hc1 ⟨#[75]⟩ rfl)
      have HM2 := hide (hc1 ⟨#[95]⟩ rfl)
      have HM3 := hide (hc1 ⟨#[55]⟩ rfl)
      have HMD := hide (show (a0 ++ a0).size ≤ maxLen by rw [ByteArray.size_append]; unfold maxLen; omega)
      have HS := hide hsw
      have HT := hide ht
      clear hsw ht hc1 htl hml hfl HSW
      cases hv : vk a0.data.toList
      all_goals
        have HV := hide hv
        clear hv
        go_enter Try.func4, Try.ntmps4
        go_wp2_with fail
        refine (bytes9_yes a0 _ h).mono ?_
        rintro e w' ⟨rfl, hw'⟩
        obtain rfl := hw'.symm
        go_wp2_with fail
        refine (valid_any a0 _ w0).mono ?_
        rintro e w' ⟨rfl, hw'⟩
        obtain rfl := hw'.symm
        rw [HV.out]
        go_wp2_with fail
        refine (swap_any a0 _ h).mono ?_
        rintro e w1 ⟨rfl, hb1⟩
        rw [← HS.out]
        have HB1 := hide hb1
        clear hb1
        go_wp2_with fail
        refine (keep_any a0 _ h).mono ?_
        rintro e w2 ⟨rfl, hb2⟩
        rw [← HT.out]
        have HB2 := hide (HB1.out.trans (hb2.mono HB1.out.size))
        clear hb2
        go_wp2_with fail
        refine (valid_any sw _ hss).mono ?_
        rintro e w' ⟨rfl, hw'⟩
        obtain rfl := hw'.symm
        rw [H1.out, HV.out]
        go_wp2_with fail
        refine (valid_any (a0 ++ a0) _ HMD.out).mono ?_
        rintro e w' ⟨rfl, hw'⟩
        obtain rfl := hw'.symm
        rw [HDB.out, HV.out]
        go_wp2_with fail
        refine (valid_any ((⟨#[75]⟩ : ByteArray) ++ t) _ HM1.out).mono ?_
        rintro e w' ⟨rfl, hw'⟩
        obtain rfl := hw'.symm
        rw [H3.out]
        go_wp2_with fail
        refine (valid_any ((⟨#[95]⟩ : ByteArray) ++ t) _ HM2.out).mono ?_
        rintro e w' ⟨rfl, hw'⟩
        obtain rfl := hw'.symm
        rw [H4.out]
        go_wp2_with fail
        refine (valid_any ((⟨#[55]⟩ : ByteArray) ++ t) _ HM3.out).mono ?_
        rintro e w' ⟨rfl, hw'⟩
        obtain rfl := hw'.symm
        rw [H5.out]
        go_wp2_with fail
        go_ret
        exact ⟨rfl, HB2.out⟩
    · go_enter Try.func4, Try.ntmps4
      go_wp2_with (go_at_call 9; refine (bytes9_yes a0 _ h).mono ?_; rintro e w' ⟨rfl, rfl⟩)
      go_ret
      exact ⟨rfl, Below.refl _ _⟩
  · go_enter Try.func4, Try.ntmps4
    go_wp2_with (go_at_call 9; refine (bytes9_no a0 _ h).mono ?_; rintro e w' ⟨rfl, rfl⟩)
    go_ret
    exact ⟨rfl, Below.refl _ _⟩

/-! ### THE ROW's STEP: WRITTEN OUT: LEAVE IT -/
set_option maxRecDepth 100000 in
theorem lifted (os : Os) (started : os.Started) (H : Type) (enc : TypeId × Value → H) :
    ReturnsInHanded {} Try.checked os 4 .any (Rows.fnValidKeyCaseSwapDoubleAndWordTailSpec.pre6 enc Try.prog Try.f4 Rows.fnValidKeyCaseSwapDoubleAndWordTailRow.domain false) (Rows.fnValidKeyCaseSwapDoubleAndWordTailSpec.post enc Try.prog Try.f4 false true false false) := by
  refine returnsInHanded_of_change (C := Try.checked) own started (by kernel_rfl) Try.func4
    (ChangeSpec.witness6 (enc := enc) (C := Try.checked) false ⟨#[], #[.string ByteArray.empty], []⟩ 8 (by kernel_rfl) (by kernel_rfl) (by kernel_rfl) (by kernel_rfl)) ?_
  intro W base args ds gs before hval0 hW hcnd _
  have hval : ∀ (j : Nat) t v, Try.f4.params[j]? = some t → args[j]? = some v → Value.okWide Try.prog W .any base t v := hval0
  have hW' := hW
  obtain ⟨p, q, hA0, hV, rfl, hfz, hnd⟩ := hW
  have hA : DataW.TrodAll enc Try.prog W 0 (fun _ => true) true Try.f4.params.toList args.toList ds p := hA0
  rw [Try.params4] at hA hval
  obtain ⟨v0, vs0, d0, ds0, p0, q0, hargs, rfl, rfl, h0, r0⟩ := trodAll_cons hA
  obtain ⟨rfl, rfl, rfl⟩ := trodAll_nil r0
  obtain rfl : args = #[v0] := by cases args; simp_all
  obtain ⟨rfl, rfl⟩ := trodVars_none hV
  obtain ⟨a0, rfl, rfl, rfl, w0⟩ := open_string Try.underlying9 (hval 0 9 v0 rfl rfl) h0
  clear hA0 hval0
  simp only [List.append_nil] at hW'
  refine (walk a0 w0 W).mono fun e W' ⟨he, hg⟩ => ?_
  subst he
  exact ⟨_, rfl, _, _, _, [], _, [], hW', trodAll_mk1 (shut_bool Try.underlying4 _), (trodAll_cons_mk (shut_string Try.underlying9 w0) trodAll_mk0), rfl, hg.frame _, fun h => by cases h⟩

theorem over : Rows.fnValidKeyCaseSwapDoubleAndWordTailRow.holds Try.pinned (OpenSpec.ofChange Rows.fnValidKeyCaseSwapDoubleAndWordTailSpec) :=
  OpenClaim.holds_of_wide 4 Try.f4 rfl rfl rfl rfl rfl rfl rfl ⟨rfl, rfl, rfl, rfl, rfl⟩ rfl rfl rfl rfl rfl (by kernel_rfl) Try.func4 (by kernel_rfl)
    (of_decide_eq_true (by kernel_rfl)) (by unfold Func.isWrapper; first | (rw [if_pos (by decide +kernel)]; kernel_rfl) | (rw [if_neg (by decide +kernel)]; exact ⟨rfl, rfl⟩))
    (fun os started H enc _ => lifted os started H enc)

/-- ████ THE STATEMENT ████ -/
theorem proved : Rows.FnValidKeyCaseSwapDoubleAndWordTailSaid :=
  over
end Go.Proofs.Qxb6628323a.fnValidKeyCaseSwapDoubleAndWordTail
namespace Go.Proofs.Qxb6628323a
/-- the statement, under a name without a dot -/
theorem swap_proved : Rows.FnValidKeyCaseSwapDoubleAndWordTailSaid := fnValidKeyCaseSwapDoubleAndWordTail.proved
end Go.Proofs.Qxb6628323a
