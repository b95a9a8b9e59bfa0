import Derived.Test.Qxb6628411aFmtRuns
import Derived.BigRegion
namespace Go.Proofs.Qxb6628411aFmt
open Go.RowKit Go.Joins Go.Extern.Stop Go.Stop Go.Extern

theorem Tryf.info35 : (Tryf.prog.info? 35).map (fun i => (i.zero, i.size, i.bytes)) = some (some (.agg #[.string ByteArray.empty, .string ByteArray.empty, .string ByteArray.empty, .slice none 0 0, .int .i64 0, .int .i64 0, .bool false]), 7, 96) := by kernel_rfl
theorem take_one (xs : List Rn) (k : Nat) (x : Rn) (hx : xs[k]? = some x) : xs.take (k + 1) = xs.take k ++ [x] := by
  obtain ⟨hk, rfl⟩ := List.getElem?_eq_some_iff.1 hx
  rw [List.take_succ_eq_append_getElem hk]

set_option maxRecDepth 100000 in
set_option maxHeartbeats 4000000 in
theorem proj_some (x : Addr) (n c : Nat) (xs : List Rn) (w : World) (h : InRuns w (some x) n c xs) (hn : n ≤ 1048576) :
    Calls Tryf.prog 7 #[.slice (some x) n c] w fun e w' => ∃ g, e = .returned (.slice (some ⟨g, 0, none⟩) n n) ∧ InRuns w' (some ⟨g, 0, none⟩) n n xs ∧ Below w.heap.size w w' := by
  have HR := hide h
  clear h
  have hnil := fun (w : World) (a : Option Addr) (n c : Nat) => Lib.run_eql_slice_nil (P := Tryf.prog) w 22 33 a n c 0 0 Tryf.underlying22
  obtain ⟨i0, hi, hz0, hz1, hz2⟩ := info_parts Tryf.info35
  have HI := hide hi
  have HZ0 := hide hz0
  have HZ1 := hide hz1
  have HZ2 := hide hz2
  clear hi hz0 hz1 hz2
  go_enter Tryf.func7, Tryf.ntmps7
  go_wp2_with (at_make; refine wpList_make_full _ rfl _ _ 25 rfl w.heap.size 35 i0 _ 7 Tryf.underlying25 HI.out HZ0.out HZ1.out _ _ _ _ n rfl rfl rfl rfl ?b2 ?b3 (Nat.le_refl _) ?_)
  case b2 => rw [HZ2.out]; omega
  case b3 => unfold maxLen; omega
  intro w1 hown hgrow
  have hb1 : Below w.heap.size w w1 := (Below.refl _ _).grown hgrow (Nat.le_refl _) (by intro k hk; cases hk)
  obtain ⟨Z, HZ, hown2⟩ : ∃ Z : List Value, Z.length = n * 7 ∧ w1.ownsRow w.heap.size 35 7 (.slice (some ⟨w.heap.size, 0, none⟩) n n) n (rowF (xs.take 0) Z) :=
    ⟨_, hown.1, by rw [List.take_zero, rowF_nil]; exact hown⟩
  have HO := hide hown2
  have HB := hide hb1
  have HZL := hide HZ
  clear hown hown2 hb1 HZ hgrow
  go_wp2
  go_loopw [4] (fun i wr => ∃ k : Nat, k ≤ n ∧ i = .int .i64 k ∧ wr.ownsRow w.heap.size 35 7 (.slice (some ⟨w.heap.size, 0, none⟩) n n) n (rowF (xs.take k) Z) ∧ Below w.heap.size w wr)
    (fun i _ => n - (intOf i).toNat)
  case atStart => exact ⟨0, Nat.zero_le _, rfl, HO.out, HB.out⟩
  case round =>
    obtain ⟨k, hk, rfl, hown, hb⟩ := hrel
    have HO2 := hide hown
    have HB2 := hide hb
    clear HO HB hown
    by_cases hlt : k < n
    · obtain ⟨b, off, hba⟩ := HR.out.addr (by omega)
      obtain rfl := Option.some.inj hba
      clear hba
      obtain ⟨y, hy⟩ := HR.out.get k hlt
      obtain ⟨c0, c1, c2, c3, c4, c5, c6⟩ := (HR.out.below hb).at k y hy
      obtain ⟨z0, z1, z2, z3, z4, z5, z6, e0, e1, e2, e3, e4, e5, e6, hset⟩ := rowF_step (xs.take k) Z k (by rw [List.length_take, HR.out.1]; omega) y (by have := HZL.out; omega)
      rw [← take_one xs k y hy] at hset
      have HE := hide hset
      have d0 := (HO2.out.cellAt (k * 7) (by omega)).trans e0
      have d1 := (HO2.out.cellAt (k * 7 + 1) (by omega)).trans e1
      have d2 := (HO2.out.cellAt (k * 7 + 2) (by omega)).trans e2
      have d3 := (HO2.out.cellAt (k * 7 + 3) (by omega)).trans e3
      have d4 := (HO2.out.cellAt (k * 7 + 4) (by omega)).trans e4
      have d5 := (HO2.out.cellAt (k * 7 + 5) (by omega)).trans e5
      have d6 := (HO2.out.cellAt (k * 7 + 6) (by omega)).trans e6
      have g0 := HO2.out.frozenAt (k * 7)
      have g1 := HO2.out.frozenAt (k * 7 + 1)
      have g2 := HO2.out.frozenAt (k * 7 + 2)
      have g3 := HO2.out.frozenAt (k * 7 + 3)
      have g4 := HO2.out.frozenAt (k * 7 + 4)
      have g5 := HO2.out.frozenAt (k * 7 + 5)
      have g6 := HO2.out.frozenAt (k * 7 + 6)
      have hlt' : (k : Int) < (n : Int) := by omega
      clear hset hb hy e0 e1 e2 e3 e4 e5 e6
      go_wp2
      go_region
      go_wp2
      go_roundw
      case rel =>
        refine ⟨k + 1, by omega, by go_num, ?_, ?_⟩
        · rw [← HE.out]; exact (stored7 HO2.out (k * 7) _ _ _ _ _ _ _).drew
        · exact (below7 HB2.out (Nat.le_refl _) _ _ _ _ _ _ _ _ _ _ _ _ _ _).drew
      case measure => simp [intOf]; omega
    · have HI2 := hide (own_inruns (show wr.ownsRow w.heap.size 35 7 (.slice (some ⟨w.heap.size, 0, none⟩) n n) n (flat xs) by
        have e : xs.take k = xs := List.take_of_length_le (by rw [HR.out.1]; omega)
        rw [← rowF_end xs Z (by rw [HR.out.1]; have := HZL.out; omega)]
        rw [e] at HO2; exact HO2.out) (HR.out.below hb).2.2.2.2.2)
      go_wp2
      go_ret
      exact ⟨_, rfl, HI2.out, HB2.out⟩
theorem proj_nil (w : World) : Calls Tryf.prog 7 #[.slice none 0 0] w fun e w' => e = .returned (.slice none 0 0) ∧ w' = w := by
  have hnil := fun (w : World) (a : Option Addr) (n c : Nat) => Lib.run_eql_slice_nil (P := Tryf.prog) w 22 33 a n c 0 0 Tryf.underlying22
  go_enter Tryf.func7, Tryf.ntmps7
  go_wp2
  go_ret
  exact ⟨rfl, rfl⟩
theorem proj_any (a : Option Addr) (n c : Nat) (xs : List Rn) (w : World) (h : InRuns w a n c xs) (hn : n ≤ 1048576) :
    Calls Tryf.prog 7 #[.slice a n c] w fun e w' => ∃ a' c', e = .returned (.slice a' n c') ∧ InRuns w' a' n c' xs ∧ Below w.heap.size w w' := by
  cases a with
  | some x =>
    refine (proj_some x n c xs w h hn).mono ?_
    rintro e w' ⟨g, rfl, h1, h2⟩
    exact ⟨_, _, rfl, h1, h2⟩
  | none =>
    have h0 := h
    obtain ⟨h1, _, _, h4, _⟩ := h
    obtain ⟨rfl, rfl⟩ := h4 rfl
    refine (proj_nil w).mono ?_
    rintro e w' ⟨rfl, rfl⟩
    exact ⟨_, _, rfl, h0, Below.refl _ _⟩
end Go.Proofs.Qxb6628411aFmt
