import Derived.Test.Qxb6628411aFmtRuns
namespace Go.Proofs.Qxb6628411aFmt
open Go.RowKit Go.Joins Go.Extern.Stop Go.Stop Go.Extern

theorem Tryf.info35' : (Tryf.prog.info? 35).map (fun i => (i.zero, i.size, i.bytes)) = some (some (.agg #[.string ByteArray.empty, .string ByteArray.empty, .string ByteArray.empty, .slice none 0 0, .int .i64 0, .int .i64 0, .bool false]), 7, 96) := by kernel_rfl

/-- run r kept within the bounds -/
def KeptR (F : Interp) (r r' : Rn) : Prop := r'.t = r.t ∧ r'.ph = r.ph ∧ r'.cmd = sh 120 r.cmd ∧ r'.xs = bnd F r.xs ∧ r'.ec = r.ec ∧ r'.du = r.du ∧ r'.tm = r.tm ∧ r'.a.isNone = false
/-- each of ks is the run of rs at the same place, kept within the bounds -/
def Kept (F : Interp) (rs ks : List Rn) : Prop := ks.length = rs.length ∧ ∀ (i : Nat) (r r' : Rn), rs[i]? = some r → ks[i]? = some r' → KeptR F r r'
theorem Kept.one {F : Interp} {rs ks : List Rn} (h : Kept F rs ks) {r r' : Rn} (hr : KeptR F r r') : Kept F (rs ++ [r]) (ks ++ [r']) := by
  refine ⟨by simp [h.1], ?_⟩
  intro i x x' hx hx'
  by_cases hi : i < rs.length
  · rw [List.getElem?_append_left hi] at hx
    rw [List.getElem?_append_left (by rw [h.1]; exact hi)] at hx'
    exact h.2 i x x' hx hx'
  · rw [List.getElem?_append_right (by omega)] at hx
    rw [List.getElem?_append_right (by rw [h.1]; omega), h.1] at hx'
    have hj : i - rs.length = 0 := by
      have := (List.getElem?_eq_some_iff.1 hx).1; simp at this; omega
    rw [hj] at hx hx'
    simp at hx hx'
    subst hx; subst hx'; exact hr
/-- each text is short enough to be cut -/
def Small (rs : List Rn) : Prop := ∀ r ∈ rs, r.cmd.size ≤ 1048576 ∧ r.xs.length ≤ 1048576 ∧ ∀ s ∈ r.xs, s.size ≤ 1048576
/-- the arguments lie in a block of their own, behind g -/
def Away (w : World) (g : Nat) (r : Rn) : Prop := ∃ b, r.a = some ⟨b, 0, none⟩ ∧ g < b ∧ StrRow w r.a r.c r.xs
theorem Away.below {w w' : World} {g : Nat} {r : Rn} (h : Away w g r) (hb : Below w.heap.size w w') : Away w' g r := by
  obtain ⟨b, h1, h2, h3⟩ := h
  exact ⟨b, h1, h2, h3.below hb⟩
theorem Away.set {w : World} {g g' j : Nat} {v : Value} {r : Rn} (h : Away w g r) (hg : g' ≤ g) : Away (w.setCell ⟨g', j, none⟩ v) g r := by
  obtain ⟨b, h1, h2, h3⟩ := h
  refine ⟨b, h1, h2, ⟨h3.1, h3.2.1, h3.2.2.1, ?_⟩⟩
  intro x hx i s hs
  have hc := h3.2.2.2 x hx i s hs
  rw [h1] at hx
  cases hx
  rw [Addr.add_lit] at hc ⊢
  rw [← hc]
  exact World.cell?_of_block (heap_setCell_other w ⟨g', j, none⟩ b v (by show b ≠ g'; omega))

/-- a run in a box of its own -/
def Box7 (w : World) (R : Nat) (x : Rn) : Prop :=
  (w.cell? ⟨R, 0, none⟩ = some (.string x.t) ∧ w.cell? ⟨R, 1, none⟩ = some (.string x.ph) ∧ w.cell? ⟨R, 2, none⟩ = some (.string x.cmd) ∧ w.cell? ⟨R, 3, none⟩ = some (.slice x.a x.xs.length x.c) ∧
    w.cell? ⟨R, 4, none⟩ = some (.int .i64 x.ec) ∧ w.cell? ⟨R, 5, none⟩ = some (.int .i64 x.du) ∧ w.cell? ⟨R, 6, none⟩ = some (.bool x.tm)) ∧ (w.frozen? ⟨R, 2, none⟩ = false ∧ w.frozen? ⟨R, 3, none⟩ = false) ∧ R < w.heap.size
theorem Box7.below {w w' : World} {R : Nat} {x : Rn} (h : Box7 w R x) (hb : Below w.heap.size w w') : Box7 w' R x := by
  obtain ⟨⟨h0, h1, h2, h3, h4, h5, h6⟩, ⟨f2, f3⟩, hs⟩ := h
  exact ⟨⟨(hb.cell hs).trans h0, (hb.cell hs).trans h1, (hb.cell hs).trans h2, (hb.cell hs).trans h3, (hb.cell hs).trans h4, (hb.cell hs).trans h5, (hb.cell hs).trans h6⟩, ⟨(hb.frozen hs).trans f2, (hb.frozen hs).trans f3⟩, Nat.lt_of_lt_of_le hs hb.size⟩
theorem Box7.mk' (w : World) (x : Rn) : Box7 (w.alloc (.cells #[.string x.t, .string x.ph, .string x.cmd, .slice x.a x.xs.length x.c, .int .i64 x.ec, .int .i64 x.du, .bool x.tm] 35)) w.heap.size x := by
  refine ⟨⟨?_, ?_, ?_, ?_, ?_, ?_, ?_⟩, ⟨?_, ?_⟩, by simp⟩
  any_goals (rw [World.cell?_alloc_at _ _ _ _ rfl]; rfl)
  all_goals exact World.frozen?_alloc_at _ _ _ _ rfl
theorem other_off {w : World} {R i j : Nat} {v : Value} (h : i ≠ j) : (w.setCell ⟨R, i, none⟩ v).cell? ⟨R, j, none⟩ = w.cell? ⟨R, j, none⟩ :=
  World.cell?_setCell_other _ _ _ _ (by intro e; cases e; exact h rfl)
theorem Box7.setCmd {w : World} {R : Nat} {x : Rn} (h : Box7 w R x) (s : ByteArray) : Box7 (w.setCell ⟨R, 2, none⟩ (.string s)) R { x with cmd := s } := by
  obtain ⟨⟨h0, h1, h2, h3, h4, h5, h6⟩, ⟨f2, f3⟩, hs⟩ := h
  refine ⟨⟨?_, ?_, World.cell?_setCell_same _ _ _ h2, ?_, ?_, ?_, ?_⟩, ⟨by rw [World.frozen?_setCell]; exact f2, by rw [World.frozen?_setCell]; exact f3⟩, by simpa [World.setCell] using hs⟩
  all_goals (rw [other_off (by decide)]; assumption)
theorem Box7.setArgs {w : World} {R : Nat} {x : Rn} (h : Box7 w R x) (a : Option Addr) (c : Nat) (xs : List ByteArray) : Box7 (w.setCell ⟨R, 3, none⟩ (.slice a xs.length c)) R { x with a := a, c := c, xs := xs } := by
  obtain ⟨⟨h0, h1, h2, h3, h4, h5, h6⟩, ⟨f2, f3⟩, hs⟩ := h
  refine ⟨⟨?_, ?_, ?_, World.cell?_setCell_same _ _ _ h3, ?_, ?_, ?_⟩, ⟨by rw [World.frozen?_setCell]; exact f2, by rw [World.frozen?_setCell]; exact f3⟩, by simpa [World.setCell] using hs⟩
  all_goals (rw [other_off (by decide)]; assumption)

set_option maxRecDepth 100000 in
set_option maxHeartbeats 4000000 in
theorem verif_any (F : Interp) (a : Option Addr) (n c : Nat) (rs : List Rn) (path : ByteArray) (w : World) (h : InRuns w a n c rs) (hn : n ≤ 1048576) (hsm : Small rs) (hF : F.answers w.tape) :
    Calls Tryf.prog 8 #[.slice a n c, .string path] w fun e w' => ∃ g ks, e = .returned (.agg #[.string ⟨#[97, 114, 103, 118, 95, 110, 111, 95, 115, 104, 101, 108, 108]⟩, .slice (some ⟨g, 0, none⟩) n n, .string path]) ∧
      InRuns w' (some ⟨g, 0, none⟩) n n ks ∧ Kept F rs ks ∧ Below w.heap.size w w' := by
  have HR := hide h
  have HSM := hide hsm
  have HF := hide hF
  clear h hsm hF
  obtain ⟨i0, hi, hz0, hz1, hz2⟩ := info_parts Tryf.info35'
  have HI := hide hi
  have HZ0 := hide hz0
  have HZ1 := hide hz1
  have HZ2 := hide hz2
  clear hi hz0 hz1 hz2
  go_enter Tryf.func8, Tryf.ntmps8
  go_wp2_with (at_make; refine wpList_make_full _ rfl _ _ 25 rfl (w.heap.size + 1) 35 i0 _ 7 Tryf.underlying25 HI.out HZ0.out HZ1.out _ _ _ _ n rfl rfl rfl rfl ?b2 ?b3 ?b4 ?_)
  case b2 => rw [HZ2.out]; omega
  case b3 => unfold maxLen; omega
  case b4 => simp
  intro w1 hown hgrow
  obtain ⟨W0, hW0⟩ : ∃ W0, W0 = w.alloc (.cells #[.string ⟨#[]⟩, .slice none 0 0, .string ⟨#[]⟩] 28) := ⟨_, rfl⟩
  rw [← hW0] at hgrow
  have hs0 : W0.heap.size = w.heap.size + 1 := by rw [hW0]; simp
  have hbw : Below w.heap.size w W0 := by rw [hW0]; exact (Below.refl _ _).alloc (Nat.le_refl _) _
  have hr0 : W0.cell? ⟨w.heap.size, 0, none⟩ = some (.string ⟨#[]⟩) := by rw [hW0, World.cell?_alloc_at _ _ _ _ rfl]; rfl
  have hr1 : W0.cell? ⟨w.heap.size, 1, none⟩ = some (.slice none 0 0) := by rw [hW0, World.cell?_alloc_at _ _ _ _ rfl]; rfl
  have hr2 : W0.cell? ⟨w.heap.size, 2, none⟩ = some (.string ⟨#[]⟩) := by rw [hW0, World.cell?_alloc_at _ _ _ _ rfl]; rfl
  have hf0 : W0.frozen? ⟨w.heap.size, 0, none⟩ = false := by rw [hW0]; exact World.frozen?_alloc_at _ _ _ _ rfl
  have hf1 : W0.frozen? ⟨w.heap.size, 1, none⟩ = false := by rw [hW0]; exact World.frozen?_alloc_at _ _ _ _ rfl
  have hf2 : W0.frozen? ⟨w.heap.size, 2, none⟩ = false := by rw [hW0]; exact World.frozen?_alloc_at _ _ _ _ rfl
  have HRES := hide (And.intro hs0 (And.intro hr0 (And.intro hr1 (And.intro hr2 (And.intro hf0 (And.intro hf1 hf2))))))
  have HBW := hide hbw
  have hb1 : Below W0.heap.size W0 w1 := (Below.refl _ _).grown hgrow (Nat.le_refl _) (by intro k hk; cases hk)
  obtain ⟨Z, HZ, hown2⟩ : ∃ Z : List Value, Z.length = n * 7 ∧ w1.ownsRow (w.heap.size + 1) 35 7 (.slice (some ⟨w.heap.size + 1, 0, none⟩) n n) n (rowF [] Z) :=
    ⟨_, hown.1, by rw [rowF_nil]; exact hown⟩
  have HO := hide hown2
  have HB := hide hb1
  have HZL := hide HZ
  have HR0 := hide (HR.out.below hbw)
  clear hown hown2 hb1 HZ hgrow hr0 hr1 hr2 hf0 hf1 hf2 hW0 hbw hs0
  go_wp2
  go_loopw [6, 7, 13] (fun _ _ i wr => ∃ (k : Nat) (ks : List Rn), k ≤ n ∧ i = .int .i64 k ∧ ks.length = k ∧ Kept F (rs.take k) ks ∧ wr.ownsRow (w.heap.size + 1) 35 7 (.slice (some ⟨w.heap.size + 1, 0, none⟩) n n) n (rowF ks Z) ∧
      (∀ r ∈ ks, Away wr (w.heap.size + 1) r) ∧ Below W0.heap.size W0 wr) (fun _ _ i _ => n - (intOf i).toNat)
  case atStart => exact ⟨0, [], Nat.zero_le _, rfl, rfl, ⟨rfl, by intro i r r' h; simp at h⟩, HO.out, by intro r hr; (cases hr), HB.out⟩
  case round =>
    obtain ⟨k, ks, hk, rfl, hks, hkept, hown, haway, hb⟩ := hrel
    have HO2 := hide hown
    have HB2 := hide hb
    have HKS := hide hks
    have HKP := hide hkept
    have HAW := hide haway
    have hG := (hown.lt (w.heap.size + 1) rfl).2
    clear HO HB hown hks hkept haway
    by_cases hlt : k < n
    · obtain ⟨b, off, rfl⟩ := HR0.out.addr (by omega)
      obtain ⟨y, hy⟩ := HR0.out.get k hlt
      obtain ⟨c0, c1, c2, c3, c4, c5, c6⟩ := (HR0.out.below hb).at k y hy
      have hsy := HSM.out y (List.mem_of_getElem? hy)
      have HSY := hide hsy
      have HAR := hide ((HR0.out.below hb).args k y hy)
      have HT := hide (show rs.take (k + 1) = rs.take k ++ [y] by
        obtain ⟨hk', rfl⟩ := List.getElem?_eq_some_iff.1 hy
        rw [List.take_succ_eq_append_getElem hk'])
      have HBX := hide (Box7.mk' wr y)
      have hlt' : (k : Int) < (n : Int) := by omega
      clear hb hy hsy
      go_wp2_with fail
      refine (shorten_any y.cmd 120 _ HSY.out.1 (by omega) (by omega)).mono ?_
      rintro e w8 ⟨rfl, hb8⟩
      have HBX8 := hide (HBX.out.below hb8)
      have HB8 := hide (((Below.refl wr.heap.size wr).alloc (Nat.le_refl _) _).trans (hb8.mono (by simp)))
      obtain ⟨⟨d0, d1, d2, d3, d4, d5, d6⟩, ⟨f2, f3⟩, hR8⟩ := HBX8.out
      clear hb8 c0 c1 c2 c3 c4 c5 c6
      go_wp2_with fail
      have HB9 := hide (HB8.out.setCell (p := ⟨wr.heap.size, 2, none⟩) (Nat.le_refl _) (.string (sh 120 y.cmd)))
      have HBX9 := hide (HBX8.out.setCmd (sh 120 y.cmd))
      refine (bounded_any F y.a y.c y.xs _ (by exact HAR.out.below HB9.out) HSY.out.2.2 HSY.out.2.1 (by rw [HB9.out.tape, HB2.out.tape, HBW.out.tape]; exact HF.out)).mono ?_
      rintro e w10 ⟨ab, acap, rfl, hown10, hb10⟩
      have HBX10 := hide (HBX9.out.below hb10)
      have HB10 := hide (HB9.out.trans (hb10.mono HB9.out.size))
      have hab : wr.heap.size < ab := by
        have h1 := (hown10.lt ab rfl).1
        have h2 := HBX9.out.2.2
        omega
      have HS10 := hide (own_strrow hown10).2
      clear d0 d1 d2 d3 d4 d5 d6 f2 f3 hR8 hb10 hown10
      obtain ⟨⟨d0, d1, d2, d3, d4, d5, d6⟩, ⟨f2, f3⟩, hR10⟩ := HBX10.out
      have HB11 := hide (HB10.out.setCell (p := ⟨wr.heap.size, 3, none⟩) (Nat.le_refl _) (.slice (some ⟨ab, 0, none⟩) (bnd F y.xs).length acap))
      have HBX11 := hide (HBX10.out.setArgs (some ⟨ab, 0, none⟩) acap (bnd F y.xs))
      have HO11 := hide (own_below HO2.out HB11.out)
      have HS11 := hide (show StrRow (w10.setCell ⟨wr.heap.size, 3, none⟩ (.slice (some ⟨ab, 0, none⟩) (bnd F y.xs).length acap)) (some ⟨ab, 0, none⟩) acap (bnd F y.xs) from
        ((Away.set (j := 3) (v := .slice (some ⟨ab, 0, none⟩) (bnd F y.xs).length acap) (show Away w10 wr.heap.size { y with a := some ⟨ab, 0, none⟩, c := acap, xs := bnd F y.xs } from ⟨ab, rfl, hab, HS10.out⟩) (Nat.le_refl _)).choose_spec.2.2))
      obtain ⟨z0, z1, z2, z3, z4, z5, z6, q0, q1, q2, q3, q4, q5, q6, hset⟩ := rowF_step ks Z k HKS.out ⟨y.t, y.ph, sh 120 y.cmd, some ⟨ab, 0, none⟩, acap, bnd F y.xs, y.ec, y.du, y.tm⟩ (by have := HZL.out; omega)
      have HE := hide hset
      have m0 := (HO11.out.cellAt (k * 7) (by omega)).trans q0
      have m1 := (HO11.out.cellAt (k * 7 + 1) (by omega)).trans q1
      have m2 := (HO11.out.cellAt (k * 7 + 2) (by omega)).trans q2
      have m3 := (HO11.out.cellAt (k * 7 + 3) (by omega)).trans q3
      have m4 := (HO11.out.cellAt (k * 7 + 4) (by omega)).trans q4
      have m5 := (HO11.out.cellAt (k * 7 + 5) (by omega)).trans q5
      have m6 := (HO11.out.cellAt (k * 7 + 6) (by omega)).trans q6
      have g0 := HO11.out.frozenAt (k * 7)
      have g1 := HO11.out.frozenAt (k * 7 + 1)
      have g2 := HO11.out.frozenAt (k * 7 + 2)
      have g3 := HO11.out.frozenAt (k * 7 + 3)
      have g4 := HO11.out.frozenAt (k * 7 + 4)
      have g5 := HO11.out.frozenAt (k * 7 + 5)
      have g6 := HO11.out.frozenAt (k * 7 + 6)
      obtain ⟨⟨p0, p1, p2, p3, p4, p5, p6⟩, _, _⟩ := HBX11.out
      clear hset q0 q1 q2 q3 q4 q5 q6
      go_wp2
      go_roundw
      case rel =>
        refine ⟨k + 1, ks ++ [⟨y.t, y.ph, sh 120 y.cmd, some ⟨ab, 0, none⟩, acap, bnd F y.xs, y.ec, y.du, y.tm⟩], by omega, by go_num, by simp [HKS.out], ?_, ?_, ?_, ?_⟩
        · rw [HT.out]; exact HKP.out.one ⟨rfl, rfl, rfl, rfl, rfl, rfl, rfl, rfl⟩
        · rw [← HE.out]; exact stored7 HO11.out (k * 7) _ _ _ _ _ _ _
        · intro r hr
          have hA : Away (w10.setCell ⟨wr.heap.size, 3, none⟩ (.slice (some ⟨ab, 0, none⟩) (bnd F y.xs).length acap)) (w.heap.size + 1) r := by
            rcases List.mem_append.1 hr with h | h
            · exact (HAW.out r h).below HB11.out
            · simp only [List.mem_singleton] at h
              subst h
              exact ⟨ab, rfl, by omega, HS11.out⟩
          exact (((((((hA.set (Nat.le_refl _)).set (Nat.le_refl _)).set (Nat.le_refl _)).set (Nat.le_refl _)).set (Nat.le_refl _)).set (Nat.le_refl _)).set (Nat.le_refl _))
        · exact below7 (HB2.out.trans (HB11.out.mono HB2.out.size)) (by rw [HRES.out.1]; exact Nat.le_refl _) _ _ _ _ _ _ _ _ _ _ _ _ _ _
      case measure => simp [intOf]; omega
    · obtain rfl : k = n := by omega
      obtain ⟨hs0, hr0, hr1, hr2, hf0, hf1, hf2⟩ := HRES.out
      have hlt0 : w.heap.size < W0.heap.size := by omega
      have r0 := (hb.cell (p := ⟨w.heap.size, 0, none⟩) hlt0).trans hr0
      have r1 := (hb.cell (p := ⟨w.heap.size, 1, none⟩) hlt0).trans hr1
      have r2 := (hb.cell (p := ⟨w.heap.size, 2, none⟩) hlt0).trans hr2
      have s0 := (hb.frozen (p := ⟨w.heap.size, 0, none⟩) hlt0).trans hf0
      have s1 := (hb.frozen (p := ⟨w.heap.size, 1, none⟩) hlt0).trans hf1
      have s2 := (hb.frozen (p := ⟨w.heap.size, 2, none⟩) hlt0).trans hf2
      have HTK := hide (show rs.take k = rs from List.take_of_length_le (by rw [HR0.out.1]; exact Nat.le_refl _))
      have HOE := hide (show wr.ownsRow (w.heap.size + 1) 35 7 (.slice (some ⟨w.heap.size + 1, 0, none⟩) k k) k (flat ks) by
        rw [← rowF_end ks Z (by rw [HKS.out, HZL.out]; exact Nat.le_refl _)]; exact HO2.out)
      clear hb hs0 hr0 hr1 hr2 hf0 hf1 hf2
      go_wp2
      refine bodyPost_ret (v := .agg #[.string ⟨#[97, 114, 103, 118, 95, 110, 111, 95, 115, 104, 101, 108, 108]⟩, .slice (some ⟨w.heap.size + 1, 0, none⟩) k k, .string path]) (by simp [results, Tryf.results8, go_sem, r0, r1, r2]) rfl
        ⟨w.heap.size + 1, ks, rfl, ?_, ?_, ?_⟩
      · refine own_inruns (base := w.heap.size + 1) (e := 35) (ownsRow_setCell_below (ownsRow_setCell_below (ownsRow_setCell_below HOE.out (Nat.lt_succ_self _) _) (Nat.lt_succ_self _) _) (Nat.lt_succ_self _) _) ?_
        intro r hr
        exact ((((HAW.out r hr).set (Nat.le_succ _)).set (Nat.le_succ _)).set (Nat.le_succ _)).choose_spec.2.2
      · rw [HTK.out] at HKP; exact HKP.out
      · exact (((HBW.out.trans (HB2.out.mono HBW.out.size)).setCell (Nat.le_refl _) _).setCell (Nat.le_refl _) _).setCell (Nat.le_refl _) _
end Go.Proofs.Qxb6628411aFmt
