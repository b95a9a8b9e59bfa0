import Derived.Test.Qxb6628360aWarn
import Derived.ProofKit
import Derived.OpenShut
import Derived.ShutString
import Derived.ChangeOld
import Derived.Carry
import Derived.Below
import Derived.Deep.Slices
namespace Go.Proofs.Qxb6628360a
open Go.ChangeShapes Go.WideShapes Go.ChangeAt Go.RowKit Go.Joins Go.Deep

theorem own : ownKnob Try.prog.godebug = none := by kernel_rfl
theorem laidOut : laidOutB Try.prog = true := by kernel_rfl
theorem Try.cells33 : Try.prog.cellsOf 33 = 5 := by kernel_rfl
theorem Try.cells9 : Try.prog.cellsOf 9 = 1 := by kernel_rfl
theorem Try.cells3 : Try.prog.cellsOf 3 = 1 := by kernel_rfl

section
variable {H : Type} {enc : TypeId × Value → H} {W : World}
theorem open_rec {fuel : Nat} {cs : List Value} {x : DataW H × List MemPlace} (hcs : cs.length = 5) (h : DataW.trod enc Try.prog W 0 (fun _ => true) true fuel 33 cs = some x) : ∃ y : R, cs = y.cells := by
  obtain ⟨xs, k, _, _, _, hxl, hf⟩ := DataW.trod_struct Try.underlying33 h
  match cs, hcs with
  | [v0, v1, v2, v3, v4], _ =>
    have g0 : DataW.trod enc Try.prog W 0 (fun _ => true) true k 9 (([v0, v1, v2, v3, v4].drop 0).take (Try.prog.cellsOf 9)) = xs[0]? := hf 0 _ rfl
    have g1 : DataW.trod enc Try.prog W 0 (fun _ => true) true k 9 (([v0, v1, v2, v3, v4].drop 1).take (Try.prog.cellsOf 9)) = xs[1]? := hf 1 _ rfl
    have g2 : DataW.trod enc Try.prog W 0 (fun _ => true) true k 3 (([v0, v1, v2, v3, v4].drop 2).take (Try.prog.cellsOf 3)) = xs[2]? := hf 2 _ rfl
    have g3 : DataW.trod enc Try.prog W 0 (fun _ => true) true k 3 (([v0, v1, v2, v3, v4].drop 3).take (Try.prog.cellsOf 3)) = xs[3]? := hf 3 _ rfl
    have g4 : DataW.trod enc Try.prog W 0 (fun _ => true) true k 3 (([v0, v1, v2, v3, v4].drop 4).take (Try.prog.cellsOf 3)) = xs[4]? := hf 4 _ rfl
    rw [Try.cells9] at g0 g1
    rw [Try.cells3] at g2 g3 g4
    match xs, hxl with
    | [y0, y1, y2, y3, y4], _ =>
      obtain ⟨p, e0, _, _⟩ := DataW.trod_string Try.underlying9 g0
      obtain ⟨r, e1, _, _⟩ := DataW.trod_string Try.underlying9 g1
      obtain ⟨s, e2, _, _⟩ := DataW.trod_int Try.underlying3 g2
      obtain ⟨t, e3, _, _⟩ := DataW.trod_int Try.underlying3 g3
      obtain ⟨u, e4, _, _⟩ := DataW.trod_int Try.underlying3 g4
      simp at e0 e1 e2 e3 e4
      subst e0 e1 e2 e3 e4
      exact ⟨⟨p, r, s, t, u⟩, rfl⟩
theorem open_recs {fuel : Nat} {a : Option Addr} {n c : Nat} {x : DataW H × List MemPlace} (h : DataW.trod enc Try.prog W 0 (fun _ => true) true fuel 22 [.slice a n c] = some x) : ∃ xs, InRow W a n c xs := by
  rcases open_slice Try.underlying22 h with ⟨h0, _⟩ | ⟨ad, len, cap, m, nn, D, Pl, hcs, _, hl, hm, hmm, _, hx⟩
  · simp at h0
    obtain ⟨rfl, rfl, rfl⟩ := h0
    exact ⟨[], rfl, Nat.le_refl _, Nat.zero_le _, fun _ => ⟨rfl, rfl⟩, by intro x hx; cases hx⟩
  · simp at hcs
    obtain ⟨rfl, rfl, rfl⟩ := hcs
    simp only [if_true] at hmm
    rw [Try.cells33] at hx
    have key : ∀ q, q ≤ n → ∃ xs : List R, xs.length = q ∧ ∀ i u, (flat xs)[i]? = some u → W.cell? (ad.add i) = some u := by
      intro q
      induction q with
      | zero => intro _; exact ⟨[], rfl, by intro i u hu; simp [flat] at hu⟩
      | succ q ih =>
        intro hq
        obtain ⟨xs, hlx, hc⟩ := ih (by omega)
        obtain ⟨cs', h1, h2⟩ := hx q (by omega)
        obtain ⟨_, hlen, hcell⟩ := World.cells?_some h1
        obtain ⟨y, rfl⟩ := open_rec hlen h2
        refine ⟨xs ++ [y], by rw [List.length_append, hlx]; rfl, ?_⟩
        intro i u hu
        have e1 : flat [y] = y.cells := by simp [flat]
        rw [flat_append, e1] at hu
        by_cases hi : i < (flat xs).length
        · rw [List.getElem?_append_left hi] at hu; exact hc i u hu
        · rw [List.getElem?_append_right (by omega)] at hu
          have hfl := flat_length xs
          have hj := (List.getElem?_eq_some_iff.1 hu).1
          have := hcell (i - (flat xs).length) (by simpa [R.cells] using hj)
          rw [hu, add_add] at this
          rw [show i = q * 5 + (i - (flat xs).length) by omega]; exact this
    obtain ⟨xs, h1, h2⟩ := key n (Nat.le_refl _)
    exact ⟨xs, h1, hl, hm, (fun e => by cases e), by intro x hx i u hu; cases hx; exact h2 i u hu⟩
end
end Go.Proofs.Qxb6628360a
