import Derived.Test.Qxb6628411aFmtKeep
import Derived.ProofKit
import Derived.OpenShut
import Derived.ShutString
import Derived.ChangeOld
import Derived.Carry
import Derived.Below
import Derived.Deep.Slices
import Derived.Stop.JoinedAt
import Derived.Stop.Texts
import Derived.Stop.Told
import Derived.Stop.JoinedTold
import Derived.Stop.FmtTextKit
import Derived.SizedLaws
namespace Go.Proofs.Qxb6628411aFmt
open Go.ChangeShapes Go.WideShapes Go.ChangeAt Go.RowKit Go.Joins Go.Deep Go.Kit
open Go.Extern.Stop Go.Stop Go.Extern

theorem own : ownKnob Tryf.prog.godebug = none := by kernel_rfl
theorem laidOut : laidOutB Tryf.prog = true := by kernel_rfl
theorem Tryf.cells33 : Tryf.prog.cellsOf 33 = 7 := by kernel_rfl
theorem Tryf.cells9 : Tryf.prog.cellsOf 9 = 1 := by kernel_rfl
theorem Tryf.cells3 : Tryf.prog.cellsOf 3 = 1 := by kernel_rfl
theorem Tryf.cells2 : Tryf.prog.cellsOf 2 = 1 := by kernel_rfl
theorem Tryf.cells4 : Tryf.prog.cellsOf 4 = 1 := by kernel_rfl
theorem Tryf.cells31 : Tryf.prog.cellsOf 31 = 1 := by kernel_rfl

section
variable {H : Type} {enc : TypeId × Value → H} {W : World}
theorem open_strs {fuel : Nat} {cs : List Value} {x : DataW H × List MemPlace} (h : DataW.trod enc Tryf.prog W 0 (fun _ => true) true fuel 31 cs = some x) : ∃ a c xs, cs = [.slice a (List.length (α := ByteArray) xs) c] ∧ StrRow W a c xs := by
  rcases open_slice1 Tryf.underlying31 Tryf.cells9 h with ⟨h0, _⟩ | ⟨ad, len, cap, m, nn, V, D, Pl, hcs, _, hl, hm, hmm, _, hx⟩
  · exact ⟨none, 0, [], h0, Nat.le_refl _, Nat.zero_le _, fun _ => ⟨rfl, rfl⟩, by intro x hx; cases hx⟩
  · simp only [if_true] at hmm
    subst hmm
    have key : ∀ q, q ≤ len → ∃ xs : List ByteArray, xs.length = q ∧ ∀ i s, xs[i]? = some s → W.cell? (ad.add i) = some (.string s) := by
      intro q
      induction q with
      | zero => intro _; exact ⟨[], rfl, by intro i u hu; simp at hu⟩
      | succ q ih =>
        intro hq
        obtain ⟨xs, hlx, hc⟩ := ih (by omega)
        obtain ⟨h1, h2⟩ := hx q (by omega)
        obtain ⟨p, e0, _, _⟩ := DataW.trod_string Tryf.underlying9 h2
        simp at e0
        refine ⟨xs ++ [p], by rw [List.length_append, hlx]; rfl, ?_⟩
        intro i u hu
        by_cases hi : i < xs.length
        · rw [List.getElem?_append_left hi] at hu; exact hc i u hu
        · have hi2 := (List.getElem?_eq_some_iff.1 hu).1
          simp at hi2
          obtain rfl : i = q := by omega
          rw [List.getElem?_append_right (by omega)] at hu
          simp [hlx] at hu
          subst hu
          rw [h1, e0]
    obtain ⟨xs, h1, h2⟩ := key len (Nat.le_refl _)
    exact ⟨some ad, m, xs, by rw [hcs, h1], by omega, hm, (fun e => by cases e), by intro x hx i s hs; cases hx; exact h2 i s hs⟩
theorem open_run {fuel : Nat} {cs : List Value} {x : DataW H × List MemPlace} (hcs : cs.length = 7) (h : DataW.trod enc Tryf.prog W 0 (fun _ => true) true fuel 33 cs = some x) : ∃ y : Rn, cs = y.cells ∧ StrRow W y.a y.c y.xs := by
  obtain ⟨xs, k, _, _, _, hxl, hf⟩ := DataW.trod_struct Tryf.underlying33 h
  match cs, hcs with
  | [v0, v1, v2, v3, v4, v5, v6], _ =>
    have g0 : DataW.trod enc Tryf.prog W 0 (fun _ => true) true k 9 (([v0, v1, v2, v3, v4, v5, v6].drop 0).take (Tryf.prog.cellsOf 9)) = xs[0]? := hf 0 _ rfl
    have g1 : DataW.trod enc Tryf.prog W 0 (fun _ => true) true k 9 (([v0, v1, v2, v3, v4, v5, v6].drop 1).take (Tryf.prog.cellsOf 9)) = xs[1]? := hf 1 _ rfl
    have g2 : DataW.trod enc Tryf.prog W 0 (fun _ => true) true k 9 (([v0, v1, v2, v3, v4, v5, v6].drop 2).take (Tryf.prog.cellsOf 9)) = xs[2]? := hf 2 _ rfl
    have g3 : DataW.trod enc Tryf.prog W 0 (fun _ => true) true k 31 (([v0, v1, v2, v3, v4, v5, v6].drop 3).take (Tryf.prog.cellsOf 31)) = xs[3]? := hf 3 _ rfl
    have g4 : DataW.trod enc Tryf.prog W 0 (fun _ => true) true k 3 (([v0, v1, v2, v3, v4, v5, v6].drop 4).take (Tryf.prog.cellsOf 3)) = xs[4]? := hf 4 _ rfl
    have g5 : DataW.trod enc Tryf.prog W 0 (fun _ => true) true k 2 (([v0, v1, v2, v3, v4, v5, v6].drop 5).take (Tryf.prog.cellsOf 2)) = xs[5]? := hf 5 _ rfl
    have g6 : DataW.trod enc Tryf.prog W 0 (fun _ => true) true k 4 (([v0, v1, v2, v3, v4, v5, v6].drop 6).take (Tryf.prog.cellsOf 4)) = xs[6]? := hf 6 _ rfl
    rw [Tryf.cells9] at g0 g1 g2
    rw [Tryf.cells31] at g3
    rw [Tryf.cells3] at g4
    rw [Tryf.cells2] at g5
    rw [Tryf.cells4] at g6
    match xs, hxl with
    | [y0, y1, y2, y3, y4, y5, y6], _ =>
      obtain ⟨t, e0, _, _⟩ := DataW.trod_string Tryf.underlying9 g0
      obtain ⟨ph, e1, _, _⟩ := DataW.trod_string Tryf.underlying9 g1
      obtain ⟨cmd, e2, _, _⟩ := DataW.trod_string Tryf.underlying9 g2
      obtain ⟨a, c, ss, e3, hss⟩ := open_strs g3
      obtain ⟨ec, e4, _, _⟩ := DataW.trod_int Tryf.underlying3 g4
      obtain ⟨du, e5, _, _⟩ := DataW.trod_int Tryf.underlying2 g5
      obtain ⟨tm, e6, _⟩ := DataW.trod_bool Tryf.underlying4 g6
      simp at e0 e1 e2 e3 e4 e5 e6
      subst e0 e1 e2 e3 e4 e5 e6
      exact ⟨⟨t, ph, cmd, a, c, ss, ec, du, tm⟩, rfl, hss⟩
theorem open_runs {fuel : Nat} {a : Option Addr} {n c : Nat} {x : DataW H × List MemPlace} (h : DataW.trod enc Tryf.prog W 0 (fun _ => true) true fuel 22 [.slice a n c] = some x) : ∃ xs, InRuns W a n c xs := by
  rcases open_slice Tryf.underlying22 h with ⟨h0, _⟩ | ⟨ad, len, cap, m, nn, D, Pl, hcs, _, hl, hm, hmm, _, hx⟩
  · simp at h0
    obtain ⟨rfl, rfl, rfl⟩ := h0
    exact ⟨[], rfl, Nat.le_refl _, Nat.zero_le _, fun _ => ⟨rfl, rfl⟩, (by intro x hx; cases hx), by intro x hx; cases hx⟩
  · simp at hcs
    obtain ⟨rfl, rfl, rfl⟩ := hcs
    simp only [if_true] at hmm
    rw [Tryf.cells33] at hx
    have key : ∀ q, q ≤ n → ∃ xs : List Rn, xs.length = q ∧ (∀ i u, (flat xs)[i]? = some u → W.cell? (ad.add i) = some u) ∧ ∀ r ∈ xs, StrRow W r.a r.c r.xs := by
      intro q
      induction q with
      | zero => intro _; exact ⟨[], rfl, (by intro i u hu; simp [flat] at hu), by intro x hx; cases hx⟩
      | succ q ih =>
        intro hq
        obtain ⟨xs, hlx, hc, hft⟩ := ih (by omega)
        obtain ⟨cs', h1, h2⟩ := hx q (by omega)
        obtain ⟨_, hlen, hcell⟩ := World.cells?_some h1
        obtain ⟨y, rfl, hy⟩ := open_run hlen h2
        refine ⟨xs ++ [y], by rw [List.length_append, hlx]; rfl, ?_, ?_⟩
        · intro i u hu
          rw [flat_one] at hu
          by_cases hi : i < (flat xs).length
          · rw [List.getElem?_append_left hi] at hu; exact hc i u hu
          · rw [List.getElem?_append_right (by omega)] at hu
            have hfl := flat_length xs
            have hj := (List.getElem?_eq_some_iff.1 hu).1
            have := hcell (i - (flat xs).length) (by simpa [Rn.cells] using hj)
            rw [hu, add_add] at this
            rw [show i = q * 7 + (i - (flat xs).length) by omega]; exact this
        · intro x hx
          rcases List.mem_append.1 hx with h | h
          · exact hft x h
          · simp at h; subst h; exact hy
    obtain ⟨xs, h1, h2, h3⟩ := key n (Nat.le_refl _)
    exact ⟨xs, h1, hl, hm, (fun e => by cases e), (by intro x hx i u hu; cases hx; exact h2 i u hu), h3⟩
end

/-! ### fmt's text, told -/
theorem t_parse : (FmtText.parse [46, 46, 46, 32, 97, 110, 100, 32, 37, 100, 32, 109, 111, 114, 101]).map FmtText.glue = some [.lit [46, 46, 46, 32, 97, 110, 100, 32], .verb {} 100, .lit [32, 109, 111, 114, 101]] := by rfl
theorem t_text (x : Int) (hw : (Lit.int .i64 x).wf = true) : FmtText.text "fmt.Sprintf" [[46, 46, 46, 32, 97, 110, 100, 32, 37, 100, 32, 109, 111, 114, 101], Tryf.shape3, digits 8 (x % 18446744073709551616).toNat] = some ([46, 46, 46, 32, 97, 110, 100, 32] ++ (Lib.itoa x ++ [32, 109, 111, 114, 101])) := by
  have hi := FmtText.operand_int_at (sh := Tryf.shape3) (k := .i64) rfl rfl x hw
  rw [FmtText.text_sprintf_glued t_parse (FmtText.operands_cons hi FmtText.operands_nil)]
  simp [FmtText.render, FmtText.printArg_d _ _ hw]
theorem more_ok (F : Interp) : MoreOk F.told := by
  intro k
  obtain ⟨x, hw, hx⟩ : ∃ x : Int, (Lit.int .i64 x).wf = true ∧ (x % 18446744073709551616).toNat = k % 18446744073709551616 := by
    by_cases hk : k % 18446744073709551616 < 9223372036854775808
    · exact ⟨((k % 18446744073709551616 : Nat) : Int), by simp [Lit.wf, IntKind.min, IntKind.max, IntKind.bits, IntKind.signed]; omega, by omega⟩
    · exact ⟨((k % 18446744073709551616 : Nat) : Int) - 18446744073709551616, by simp [Lit.wf, IntKind.min, IntKind.max, IntKind.bits, IntKind.signed]; omega, by omega⟩
  have l := FmtText.itoa_length_le hw
  have ht := told_string F (t_text x hw) (by simp; omega)
  unfold more reading
  rw [← hx]
  have e := textOf_list F.told "fmt.Sprintf" [[46, 46, 46, 32, 97, 110, 100, 32, 37, 100, 32, 109, 111, 114, 101], Tryf.shape3, digits 8 (x % 18446744073709551616).toNat]
  rw [ht] at e
  have e2 := congrArg List.length e
  rw [Array.length_toList] at e2
  show (FmtStop.textOf _).data.size ≤ _
  rw [e2]
  simp
  omega
theorem Tryf.stops : Tryf.pinned.checked.prog.stops = ["fmt.Sprintf"] := by kernel_rfl
theorem Tryf.stopKnobs : Tryf.pinned.checked.prog.stopKnobs = [] := by kernel_rfl
theorem Tryf.quiet (os : Os) : Stop.quiet Tryf.pinned.checked.prog os := by
  intro k hk
  rw [Tryf.stopKnobs] at hk
  cases hk
end Go.Proofs.Qxb6628411aFmt
