import Derived.Test.Qxb6628399aLaw
import Derived.ProofKit
import Derived.OpenShut
import Derived.ShutString
import Derived.ChangeOld
import Derived.Carry
import Derived.Below
import Derived.Deep.Slices
namespace Go.Proofs.Qxb6628399a
open Go.ChangeShapes Go.WideShapes Go.ChangeAt Go.RowKit Go.Joins Go.Deep

theorem own : ownKnob Try.prog.godebug = none := by kernel_rfl
theorem laidOut : laidOutB Try.prog = true := by kernel_rfl
theorem Try.cells25 : Try.prog.cellsOf 25 = 2 := by kernel_rfl
theorem Try.cells9 : Try.prog.cellsOf 9 = 1 := by kernel_rfl
theorem Try.cells2 : Try.prog.cellsOf 2 = 1 := by kernel_rfl

section
variable {H : Type} {enc : TypeId × Value → H} {W : World}
theorem open_ctr {fuel : Nat} {cs : List Value} {x : DataW H × List MemPlace} (hcs : cs.length = 2) (h : DataW.trod enc Try.prog W 0 (fun _ => true) true fuel 25 cs = some x) :
    ∃ y : K, cs = y.cells ∧ (-9223372036854775808 ≤ y.v ∧ y.v ≤ 9223372036854775807) := by
  obtain ⟨xs, k, _, _, _, hxl, hf⟩ := DataW.trod_struct Try.underlying25 h
  match cs, hcs with
  | [v0, v1], _ =>
    have g0 : DataW.trod enc Try.prog W 0 (fun _ => true) true k 9 (([v0, v1].drop 0).take (Try.prog.cellsOf 9)) = xs[0]? := hf 0 _ rfl
    have g1 : DataW.trod enc Try.prog W 0 (fun _ => true) true k 2 (([v0, v1].drop 1).take (Try.prog.cellsOf 2)) = xs[1]? := hf 1 _ rfl
    rw [Try.cells9] at g0
    rw [Try.cells2] at g1
    match xs, hxl with
    | [y0, y1], _ =>
      obtain ⟨p, e0, _, _⟩ := DataW.trod_string Try.underlying9 g0
      obtain ⟨s, e1, _, hw⟩ := DataW.trod_int Try.underlying2 g1
      simp at e0 e1
      subst e0 e1
      exact ⟨⟨p, s⟩, rfl, by have := bounds_i64 hw; unfold In64 at this; omega⟩
theorem open_ctrs {fuel : Nat} {a : Option Addr} {n c : Nat} {x : DataW H × List MemPlace} (h : DataW.trod enc Try.prog W 0 (fun _ => true) true fuel 22 [.slice a n c] = some x) : ∃ xs, InRow W a n c xs ∧ Fits xs := by
  rcases open_slice Try.underlying22 h with ⟨h0, _⟩ | ⟨ad, len, cap, m, nn, D, Pl, hcs, _, hl, hm, hmm, _, hx⟩
  · simp at h0
    obtain ⟨rfl, rfl, rfl⟩ := h0
    exact ⟨[], ⟨rfl, Nat.le_refl _, Nat.zero_le _, fun _ => ⟨rfl, rfl⟩, by intro x hx; cases hx⟩, by intro x hx; cases hx⟩
  · simp at hcs
    obtain ⟨rfl, rfl, rfl⟩ := hcs
    simp only [if_true] at hmm
    rw [Try.cells25] at hx
    have key : ∀ q, q ≤ n → ∃ xs : List K, xs.length = q ∧ (∀ i u, (flat xs)[i]? = some u → W.cell? (ad.add i) = some u) ∧ Fits xs := by
      intro q
      induction q with
      | zero => intro _; exact ⟨[], rfl, by intro i u hu; simp [flat] at hu, by intro x hx; cases hx⟩
      | succ q ih =>
        intro hq
        obtain ⟨xs, hlx, hc, hft⟩ := ih (by omega)
        obtain ⟨cs', h1, h2⟩ := hx q (by omega)
        obtain ⟨_, hlen, hcell⟩ := World.cells?_some h1
        obtain ⟨y, rfl, hy⟩ := open_ctr hlen h2
        refine ⟨xs ++ [y], by rw [List.length_append, hlx]; rfl, ?_, ?_⟩
        · intro i u hu
          rw [flat_one] at hu
          by_cases hi : i < (flat xs).length
          · rw [List.getElem?_append_left hi] at hu; exact hc i u hu
          · rw [List.getElem?_append_right (by omega)] at hu
            have hfl := flat_length xs
            have hj := (List.getElem?_eq_some_iff.1 hu).1
            have := hcell (i - (flat xs).length) (by simpa [K.cells] using hj)
            rw [hu, add_add] at this
            rw [show i = q * 2 + (i - (flat xs).length) by omega]; exact this
        · intro x hx
          rcases List.mem_append.1 hx with h | h
          · exact hft x h
          · simp at h; subst h; exact hy
    obtain ⟨xs, h1, h2, h3⟩ := key n (Nat.le_refl _)
    exact ⟨xs, ⟨h1, hl, hm, (fun e => by cases e), by intro x hx i u hu; cases hx; exact h2 i u hu⟩, h3⟩
end

set_option maxHeartbeats 400000 in
theorem walk (a : Option Addr) (n c : Nat) (xs : List K) (w : World) (h : InRow w a n c xs) (hf : Fits xs) :
    Calls Try.prog 3 #[.slice a n c] w fun e w' => e = .returned (.bool true) ∧ Below w.heap.size w w' := by
  by_cases hn : n ≤ 4096
  · cases a with
    | some x => exact walk_some x n c xs w h hn hf
    | none =>
      obtain ⟨h1, _, _, h4, _⟩ := h
      obtain ⟨rfl, rfl⟩ := h4 rfl
      exact walk_nil w
  · have hn1 : (4096 : Int) < (n : Int) := by omega
    have HR := hide h
    clear h hf
    go_enter Try.func3, Try.ntmps3
    go_wp2_with fail
    refine (bytes4_any a n c xs _ HR.out).mono ?_
    rintro e w' ⟨⟨b, rfl⟩, hw'⟩
    obtain rfl := hw'.symm
    clear hw'
    cases b
    all_goals
      go_wp2
      go_ret
      exact ⟨rfl, Below.refl _ _⟩

/-! ### THE ROW's STEP -/
set_option maxRecDepth 100000 in
theorem lifted (os : Os) (started : os.Started) (H : Type) (enc : TypeId × Value → H) :
    ReturnsInHanded {} Try.checked os 3 .any (Rows.fnDeltasFirstRecordAndSelfSpec.pre6 enc Try.prog Try.f3 Rows.fnDeltasFirstRecordAndSelfRow.domain false) (Rows.fnDeltasFirstRecordAndSelfSpec.post enc Try.prog Try.f3 false true false false) := by
  refine returnsInHanded_of_change (C := Try.checked) own started (by kernel_rfl) Try.func3
    (ChangeSpec.witness6 (enc := enc) (C := Try.checked) false ⟨#[], #[.slice none 0 0], []⟩ 8 (by kernel_rfl) (by kernel_rfl) (by kernel_rfl) (by kernel_rfl)) ?_
  intro W base args ds gs before hval0 hW hcnd _
  have hval : ∀ (j : Nat) t v, Try.f3.params[j]? = some t → args[j]? = some v → Value.okWide Try.prog W .any base t v := hval0
  have hW' := hW
  obtain ⟨p, q, hA0, hV, rfl, hfz, hnd⟩ := hW
  have hA : DataW.TrodAll enc Try.prog W 0 (fun _ => true) true Try.f3.params.toList args.toList ds p := hA0
  rw [Try.params3] at hA hval
  obtain ⟨v0, vs0, d0, ds0, p0, q0, hargs, rfl, rfl, h0, r0⟩ := trodAll_cons hA
  obtain ⟨rfl, rfl, rfl⟩ := trodAll_nil r0
  obtain rfl : args = #[v0] := by cases args; simp_all
  obtain ⟨rfl, rfl⟩ := trodVars_none hV
  obtain ⟨a0, len0, cap0, rfl⟩ := okWide_slice Try.underlying22 (hval 0 22 v0 rfl rfl)
  have k0 := h0
  have lt0 : ∀ x ∈ p0, x.block < W.heap.size := by obtain ⟨m, hm⟩ := k0; exact DataW.trod_lt m _ _ _ hm
  obtain ⟨xs, w0, f0⟩ : ∃ xs, InRow W a0 len0 cap0 xs ∧ Fits xs := by
    obtain ⟨fuel, hf⟩ := h0
    exact open_ctrs (by simpa [Value.cells] using hf)
  clear hA0 hval0
  refine (walk a0 len0 cap0 xs W w0 f0).mono fun e W' ⟨he, bel⟩ => ?_
  subst he
  exact ⟨_, rfl, _, _, _, [], _, [], hW', trodAll_mk1 (shut_bool Try.underlying4 _), (trodAll_cons_mk (Below.trod laidOut (by kernel_rfl) (of_decide_eq_true (by kernel_rfl)) k0 bel lt0) trodAll_mk0), rfl, bel.frame _, fun h => by cases h⟩

theorem over : Rows.fnDeltasFirstRecordAndSelfRow.holds Try.pinned (OpenSpec.ofChange Rows.fnDeltasFirstRecordAndSelfSpec) :=
  OpenClaim.holds_of_wide 3 Try.f3 rfl rfl rfl rfl rfl rfl rfl ⟨rfl, rfl, rfl, rfl, rfl⟩ rfl rfl rfl rfl rfl (by kernel_rfl) Try.func3 (by kernel_rfl)
    (of_decide_eq_true (by kernel_rfl)) (by unfold Func.isWrapper; first | (rw [if_pos (by decide +kernel)]; kernel_rfl) | (rw [if_neg (by decide +kernel)]; exact ⟨rfl, rfl⟩))
    (fun os started H enc _ => lifted os started H enc)

/-- THE STATEMENT -/
theorem deltas_proved : Rows.FnDeltasFirstRecordAndSelfSaid := over
end Go.Proofs.Qxb6628399a
