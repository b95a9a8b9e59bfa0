/-
  THE PROOF OF 'Rows.FnValidKeyConcatAtAnyCutSaid': the frame is the shell's own, the walk is filled by hand out of the contracts in Qxb6628323aWalks.
-/
import Derived.Test.Qxb6628323aRows
import Derived.WalkKit
import Derived.ProofKit
import Derived.OpenShut
import Derived.ShutString
import Derived.Test.Qxb6628323aWalks
import Derived.Lib.Strings
namespace Go.Proofs.Qxb6628323a.fnValidKeyConcatAtAnyCut
open Go.ChangeShapes Go.WideShapes Go.ChangeAt Go.RowKit
open Go.ChangeMaps (open_string shut_string)
set_option linter.unusedVariables false      -- a walk need not use every 'w<i>' (that an integer argument fits its kind)

theorem own : ownKnob Try.prog.godebug = none := by kernel_rfl

/-! ### STEP 1: THE WALK: the Go text returns true. 'Grown w w'': the world has at most new blocks (Derived/RowKit3.lean). Part the cases AHEAD of 'go_enter' where a test parts the walk; take each callee by a contract of your own. -/
set_option maxHeartbeats 4000000 in
theorem walk (a0 : ByteArray) (a1 : ByteArray) (w0 : a0.size ≤ maxLen) (w1 : a1.size ≤ maxLen) (w : World) :
    Calls Try.prog 3 #[.string a0, .string a1] w fun e w' => e = .returned (.bool true) ∧ Grown w w' := by
  by_cases h : a0.size + a1.size ≤ 1048576
  · have h1 : (a0.size : Int) ≤ 1048576 := by omega
    have h2 : (a1.size : Int) ≤ 1048576 := by omega
    have h3 : (a0.size : Int) + (a1.size : Int) ≤ 1048576 := by omega
    have h4 : (a0.size : Int) + (a1.size : Int) ≤ 9223372036854775807 := by omega
    have hm : (a0 ++ a1).size ≤ maxLen := by rw [ByteArray.size_append]; unfold maxLen; omega
    by_cases h0 : a0.data.toList = []
    · have he : a0.toList.isEmpty = true := by rw [ByteArray.toList_eq, h0]; rfl
      have HD := hide (show vk (a0 ++ a1).data.toList = vk a1.data.toList by simp [h0])
      have HN := hide (show vk a0.data.toList = false by rw [h0]; rfl)
      clear h0
      cases hb : vk a1.data.toList
      all_goals
        have HB := hide hb
        clear hb
        go_enter Try.func3, Try.ntmps3
        go_wp2_with fail
        refine (bytes5_yes a0 a1 _ h).mono ?_
        rintro e w' ⟨rfl, rfl⟩
        go_wp2_with fail
        refine (valid_any (a0 ++ a1) _ hm).mono ?_
        rintro e w' ⟨rfl, rfl⟩
        rw [HD.out, HB.out]
        go_wp2_with fail
        refine (valid_any a1 _ w1).mono ?_
        rintro e w' ⟨rfl, rfl⟩
        rw [HB.out]
        go_wp2_with fail
        refine (valid_any a0 _ w0).mono ?_
        rintro e w' ⟨rfl, rfl⟩
        rw [HN.out]
        go_wp2_with fail
        go_ret
        exact ⟨rfl, Grown.refl _⟩
    · have he : a0.toList.isEmpty = false := by rw [ByteArray.toList_eq]; exact List.isEmpty_eq_false_iff.2 h0
      have hpos : 0 < a0.size := by
        rcases Nat.eq_zero_or_pos a0.size with hz | hz
        · exfalso; apply h0
          have hl : a0.data.toList.length = 0 := by simpa using hz
          exact List.length_eq_zero_iff.1 hl
        · exact hz
      have hpos' : (1 : Int) ≤ (a0.size : Int) := by omega
      have hm1 : (a0.extract 0 1 ++ a1).size ≤ maxLen := by rw [ByteArray.size_append, ByteArray.size_extract]; unfold maxLen; omega
      have hls : a0.data.toList = a0[0] :: a0.data.toList.drop 1 := by
        cases hl : a0.data.toList with
        | nil => exact absurd hl h0
        | cons c r =>
          have hg : a0.data.toList[0]'(by simpa using hpos) = a0[0] := rfl
          simp only [hl, List.getElem_cons_zero] at hg
          rw [← hg]; rfl
      have hx : (a0.extract 0 1).data.toList = [a0[0]] := by
        rw [Lib.extract_data, hls]; rfl
      have HT := hide (show vk (a0.extract 0 1 ++ a1).data.toList = (isL a0[0] && allW a1.data.toList) by
        rw [ByteArray.data_append, Array.toList_append, hx]; rfl)
      have HW := hide (show vk (a0 ++ a1).data.toList = (vk a0.data.toList && (isL a0[0] && allW a1.data.toList)) by
        rw [ByteArray.data_append, Array.toList_append, hls, vk_append]; rfl)
      clear h0 hx hls
      cases hA : vk a0.data.toList <;> cases hL : isL a0[0] <;> cases hB : allW a1.data.toList
      all_goals
        rw [hA, hL, hB] at HW
        rw [hL, hB] at HT
        have HA := hide hA
        have HL := hide hL
        have HB := hide hB
        clear hA hL hB
        go_enter Try.func3, Try.ntmps3
        go_wp2_with fail
        refine (bytes5_yes a0 a1 _ h).mono ?_
        rintro e w' ⟨rfl, rfl⟩
        go_wp2_with fail
        refine (valid_any (a0 ++ a1) _ hm).mono ?_
        rintro e w' ⟨rfl, rfl⟩
        rw [HW.out]
        go_wp2_with fail
        refine (valid_any a0 _ w0).mono ?_
        rintro e w' ⟨rfl, rfl⟩
        rw [HA.out]
        go_wp2_with fail
        refine (valid_any (a0.extract 0 1 ++ a1) _ hm1).mono ?_
        rintro e w' ⟨rfl, rfl⟩
        rw [HT.out]
        go_wp2_with fail
        refine (letter_any a0[0] _).mono ?_
        rintro e w' ⟨rfl, rfl⟩
        rw [HL.out]
        go_wp2_with (go_at_call 8; refine (allword_any a1 _ w1).mono ?_; rintro e w' ⟨rfl, rfl⟩; rw [HB.out])
        go_ret
        exact ⟨rfl, Grown.refl _⟩
  · go_enter Try.func3, Try.ntmps3
    go_wp2_with (go_at_call 5; refine (bytes5_no a0 a1 _ w0 w1 h).mono ?_; rintro e w' ⟨rfl, rfl⟩)
    go_ret
    exact ⟨rfl, Grown.refl _⟩

/-! ### THE ROW's STEP: WRITTEN OUT: LEAVE IT -/
set_option maxRecDepth 100000 in
theorem lifted (os : Os) (started : os.Started) (H : Type) (enc : TypeId × Value → H) :
    ReturnsInHanded {} Try.checked os 3 .any (Rows.fnValidKeyConcatAtAnyCutSpec.pre6 enc Try.prog Try.f3 Rows.fnValidKeyConcatAtAnyCutRow.domain false) (Rows.fnValidKeyConcatAtAnyCutSpec.post enc Try.prog Try.f3 false true false false) := by
  refine returnsInHanded_of_change (C := Try.checked) own started (by kernel_rfl) Try.func3
    (ChangeSpec.witness6 (enc := enc) (C := Try.checked) false ⟨#[], #[.string ByteArray.empty, .string ByteArray.empty], []⟩ 8 (by kernel_rfl) (by kernel_rfl) (by kernel_rfl) (by kernel_rfl)) ?_
  intro W base args ds gs before hval0 hW hcnd _
  have hval : ∀ (j : Nat) t v, Try.f3.params[j]? = some t → args[j]? = some v → Value.okWide Try.prog W .any base t v := hval0
  have hW' := hW
  obtain ⟨p, q, hA0, hV, rfl, hfz, hnd⟩ := hW
  have hA : DataW.TrodAll enc Try.prog W 0 (fun _ => true) true Try.f3.params.toList args.toList ds p := hA0
  rw [Try.params3] at hA hval
  obtain ⟨v0, vs0, d0, ds0, p0, q0, hargs, rfl, rfl, h0, r0⟩ := trodAll_cons hA
  obtain ⟨v1, vs1, d1, ds1, p1, q1, rfl, rfl, rfl, h1, r1⟩ := trodAll_cons r0
  obtain ⟨rfl, rfl, rfl⟩ := trodAll_nil r1
  obtain rfl : args = #[v0, v1] := by cases args; simp_all
  obtain ⟨rfl, rfl⟩ := trodVars_none hV
  obtain ⟨a0, rfl, rfl, rfl, w0⟩ := open_string Try.underlying9 (hval 0 9 v0 rfl rfl) h0
  obtain ⟨a1, rfl, rfl, rfl, w1⟩ := open_string Try.underlying9 (hval 1 9 v1 rfl rfl) h1
  clear hA0 hval0
  simp only [List.append_nil] at hW'
  refine (walk a0 a1 w0 w1 W).mono fun e W' ⟨he, hg⟩ => ?_
  subst he
  exact ⟨_, rfl, post_of_same (pa := []) (pv := []) hW' (fun _ _ _ => (trodAll_cons_mk (shut_bool Try.underlying4 _) trodAll_mk0)) (fun sp _ => (trodAll_cons_mk (shut_string Try.underlying9 w0) (trodAll_cons_mk (shut_string Try.underlying9 w1) trodAll_mk0))) (fun _ _ => rfl) rfl
    (hg.frame _) hg.2.1 (ok_one (by kernel_rfl) rfl (okWide_bool_mk Try.underlying4 _))⟩

theorem over : Rows.fnValidKeyConcatAtAnyCutRow.holds Try.pinned (OpenSpec.ofChange Rows.fnValidKeyConcatAtAnyCutSpec) :=
  OpenClaim.holds_of_wide 3 Try.f3 rfl rfl rfl rfl rfl rfl rfl ⟨rfl, rfl, rfl, rfl, rfl⟩ rfl rfl rfl rfl rfl (by kernel_rfl) Try.func3 (by kernel_rfl)
    (of_decide_eq_true (by kernel_rfl)) (by unfold Func.isWrapper; first | (rw [if_pos (by decide +kernel)]; kernel_rfl) | (rw [if_neg (by decide +kernel)]; exact ⟨rfl, rfl⟩))
    (fun os started H enc _ => lifted os started H enc)

/-- ████ THE STATEMENT ████ -/
theorem proved : Rows.FnValidKeyConcatAtAnyCutSaid :=
  over
end Go.Proofs.Qxb6628323a.fnValidKeyConcatAtAnyCut
namespace Go.Proofs.Qxb6628323a
/-- the statement, under a name without a dot -/
theorem concat_proved : Rows.FnValidKeyConcatAtAnyCutSaid := fnValidKeyConcatAtAnyCut.proved
end Go.Proofs.Qxb6628323a
