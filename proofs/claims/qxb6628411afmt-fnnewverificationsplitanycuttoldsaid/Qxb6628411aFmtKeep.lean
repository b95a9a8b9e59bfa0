import Derived.Test.Qxb6628411aFmtVerif
namespace Go.Proofs.Qxb6628411aFmt
open Go.RowKit Go.Joins Go.Extern.Stop Go.Stop Go.Extern

theorem KeptR.form {F : Interp} {r r1 : Rn} (h : KeptR F r r1) : ∃ a' c', r1 = ⟨r.t, r.ph, sh 120 r.cmd, a', c', bnd F r.xs, r.ec, r.du, r.tm⟩ ∧ a'.isNone = false := by
  obtain ⟨t, ph, cmd, a, c, xs, ec, du, tm⟩ := r1
  obtain ⟨h1, h2, h3, h4, h5, h6, h7, h8⟩ := h
  simp only at h1 h2 h3 h4 h5 h6 h7 h8
  subst h1 h2 h3 h4 h5 h6 h7
  exact ⟨a, c, rfl, h8⟩
theorem Kept.get {F : Interp} {rs ks : List Rn} (h : Kept F rs ks) (i : Nat) (r : Rn) (hr : rs[i]? = some r) : ∃ a' c', ks[i]? = some ⟨r.t, r.ph, sh 120 r.cmd, a', c', bnd F r.xs, r.ec, r.du, r.tm⟩ ∧ a'.isNone = false := by
  have hi : i < ks.length := by rw [h.1]; exact (List.getElem?_eq_some_iff.1 hr).1
  have hk : ks[i]? = some ks[i] := List.getElem?_eq_getElem hi
  obtain ⟨a', c', e, hn⟩ := (h.2 i r _ hr hk).form
  exact ⟨a', c', by rw [hk, e], hn⟩
theorem cnt_sh (m : Nat) (hm : 3 ≤ m) (s : ByteArray) : cnt (sh m s) ≤ m := by
  unfold cnt sh
  exact short_count m hm _
theorem sh_sh (m : Nat) (hm : 3 ≤ m) (s : ByteArray) : sh m (sh m s) = sh m s := sh_le m _ (cnt_sh m hm s)
theorem sh_size (m : Nat) (hm : m ≤ 1000) (s : ByteArray) (hs : s.size ≤ 1048576) : (sh m s).size ≤ 1048576 := by
  by_cases h : cnt s ≤ m
  · rw [sh_le m s h]; exact hs
  · rw [← sh_cut m s h, ByteArray.size_append]
    have := runesBytes_size_le (((runes s.data.toList).take (m - 3)).map (fun r : Nat => (r : Int)))
    rw [List.length_map, List.length_take] at this
    have e : (⟨#[46, 46, 46]⟩ : ByteArray).size = 3 := rfl
    omega
theorem bnd_length (F : Interp) (xs : List ByteArray) : (bnd F xs).length ≤ 40 := by
  by_cases h : xs.length ≤ 40
  · rw [bnd_le F xs h, List.length_map]; exact h
  · rw [bnd_gt F xs h]; simp; omega
theorem bnd_length_le (F : Interp) (xs : List ByteArray) (h : xs.length ≤ 40) : (bnd F xs).length = xs.length := by rw [bnd_le F xs h, List.length_map]
theorem bnd_length_gt (F : Interp) (xs : List ByteArray) (h : 40 < xs.length) : (bnd F xs).length = 40 := by rw [bnd_gt F xs (by omega)]; simp; omega
/-- but for the summary, each entry is one of xs, cut -/
theorem bnd_at (F : Interp) (xs : List ByteArray) (j : Nat) (hj : j < (bnd F xs).length) (hn : ¬ (40 < xs.length ∧ j = 39)) : ∃ s, xs[j]? = some s ∧ (bnd F xs)[j]? = some (sh 200 s) := by
  by_cases h : xs.length ≤ 40
  · rw [bnd_length_le F xs h] at hj
    refine ⟨xs[j], List.getElem?_eq_getElem hj, ?_⟩
    rw [bnd_le F xs h, List.getElem?_map, List.getElem?_eq_getElem hj]; rfl
  · rw [bnd_length_gt F xs (by omega)] at hj
    have hj39 : j < 39 := by omega
    refine ⟨xs[j]'(by omega), List.getElem?_eq_getElem _, ?_⟩
    rw [bnd_gt F xs h, List.getElem?_append_left (by simp; omega), List.getElem?_map, List.getElem?_take, if_pos hj39, List.getElem?_eq_getElem (by omega)]; rfl
/-- fmt's summary is small -/
def MoreOk (F : Interp) : Prop := ∀ k, (more F k).size ≤ 1048576
theorem bnd_small (F : Interp) (hM : MoreOk F) (xs : List ByteArray) (h : ∀ s ∈ xs, s.size ≤ 1048576) : ∀ s ∈ bnd F xs, s.size ≤ 1048576 := by
  intro s hs
  by_cases hl : xs.length ≤ 40
  · rw [bnd_le F xs hl] at hs
    obtain ⟨y, hy, rfl⟩ := List.mem_map.1 hs
    exact sh_size 200 (by omega) y (h y hy)
  · rw [bnd_gt F xs hl] at hs
    rcases List.mem_append.1 hs with h' | h'
    · obtain ⟨y, hy, rfl⟩ := List.mem_map.1 h'
      exact sh_size 200 (by omega) y (h y (List.take_subset _ _ hy))
    · simp at h'; subst h'; exact hM _
theorem kept_small {F : Interp} (hM : MoreOk F) {rs ks : List Rn} (h : Kept F rs ks) (hs : Small rs) : Small ks := by
  intro r1 hr1
  obtain ⟨i, hi⟩ := List.mem_iff_getElem?.1 hr1
  have hl : i < rs.length := by rw [← h.1]; exact (List.getElem?_eq_some_iff.1 hi).1
  have hr : rs[i]? = some rs[i] := List.getElem?_eq_getElem hl
  obtain ⟨h1, h2, h3, h4, _⟩ := h.2 i _ _ hr hi
  obtain ⟨s1, s2, s3⟩ := hs _ (List.mem_of_getElem? hr)
  refine ⟨by rw [h3]; exact sh_size 120 (by omega) _ s1, ?_, by rw [h4]; exact bnd_small F hM _ s3⟩
  rw [h4]; have := bnd_length F rs[i].xs; omega
/-- cut again, nothing turns, but perhaps the summary -/
theorem bnd_bnd (F : Interp) (xs : List ByteArray) (j : Nat) (hj : j < (bnd F (bnd F xs)).length) : (decide ((40 : Int) < (xs.length : Int)) = true ∧ j + 1 = (bnd F (bnd F xs)).length) ∨ (bnd F (bnd F xs))[j]? = (bnd F xs)[j]? := by
  have hb := bnd_length F xs
  have hl := bnd_length_le F _ hb
  rw [hl] at hj ⊢
  by_cases hsk : 40 < xs.length ∧ j = 39
  · left
    refine ⟨decide_eq_true (by omega), ?_⟩
    rw [bnd_length_gt F xs hsk.1]; omega
  · right
    obtain ⟨s, _, h2⟩ := bnd_at F xs j hj hsk
    rw [bnd_le F _ hb, List.getElem?_map, h2]
    simp [sh_sh 200 (by omega)]
end Go.Proofs.Qxb6628411aFmt
