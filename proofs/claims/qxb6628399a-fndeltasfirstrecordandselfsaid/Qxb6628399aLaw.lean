import Derived.Test.Qxb6628399aUses
namespace Go.Proofs.Qxb6628399a
open Go.RowKit Go.Joins

theorem zer_length (xs : List K) : (zer xs).length = xs.length := by simp [zer]
set_option maxRecDepth 100000 in
set_option maxHeartbeats 4000000 in
theorem walk_some (ad : Addr) (n c : Nat) (xs : List K) (w : World) (h : InRow w (some ad) n c xs) (hn : n ≤ 4096) (hf : Fits xs) :
    Calls Try.prog 3 #[.slice (some ad) n c] w fun e w' => e = .returned (.bool true) ∧ Below w.heap.size w w' := by
  have HR := hide h
  have HF := hide hf
  clear h hf
  have hn1 : decide ((4096 : Int) < (n : Int)) = false := decide_eq_false (by omega)
  have hnil := fun (w : World) (a : Option Addr) (n c : Nat) => Lib.run_eql_slice_nil (P := Try.prog) w 22 25 a n c 0 0 Try.underlying22
  have hnil2 := fun (w : World) (a : Option Addr) (n c : Nat) => Lib.run_eql_slice_nil (P := Try.prog) w 26 27 a n c 0 0 Try.underlying26
  have hneq := fun (w : World) (a : Option Addr) (n c : Nat) => run_neq_slice_nil_any (P := Try.prog) w 22 25 a n c 0 0 Try.underlying22
  obtain ⟨i0, hi, hz0, hz1, hz2⟩ := info_parts Try.info27
  have HI := hide hi
  have HZ0 := hide hz0
  have HZ1 := hide hz1
  have HZ2 := hide hz2
  clear hi hz0 hz1 hz2
  go_enter Try.func3, Try.ntmps3
  go_wp2_with fail
  refine (bytes4_any (some ad) n c xs _ HR.out).mono ?_
  rintro e w' ⟨⟨b, rfl⟩, hw'⟩
  obtain rfl := hw'.symm
  clear hw'
  cases b
  · go_wp2
    go_ret
    exact ⟨rfl, Below.refl _ _⟩
  go_wp2
  go_loop [3, 4] (fun t i => ∃ (k : Nat) (y : Int), k ≤ n ∧ i = .int .i64 k ∧ t = .int .i64 y) (fun _ i => n - (intOf i).toNat)
  case atStart => exact ⟨0, _, Nat.zero_le _, rfl, rfl⟩
  case round =>
    obtain ⟨k, y, hk, rfl, rfl⟩ := hrel
    by_cases hlt : k < n
    · obtain ⟨b, off, hba⟩ := HR.out.addr (by omega)
      obtain rfl := Option.some.inj hba
      clear hba
      obtain ⟨x, hx⟩ := HR.out.get k hlt
      obtain ⟨c0, c1⟩ := HR.out.at k x hx
      clear hx
      go_wp2
      · go_ret
        exact ⟨rfl, Below.refl _ _⟩
      · go_round
        case rel => exact ⟨k + 1, _, by omega, by go_num, rfl⟩
        case measure => simp [intOf]; omega
    · go_wp2
      go_loop [5, 6] (fun t i => ∃ (k : Nat), k ≤ n ∧ i = .int .i64 k ∧ t = .bool (neg xs k)) (fun _ i => n - (intOf i).toNat)
      case atStart => exact ⟨0, Nat.zero_le _, rfl, rfl⟩
      case round =>
        obtain ⟨k2, hk2, rfl, rfl⟩ := hrel
        by_cases hlt2 : k2 < n
        · obtain ⟨b, off, hba⟩ := HR.out.addr (by omega)
          obtain rfl := Option.some.inj hba
          clear hba
          obtain ⟨x, hx⟩ := HR.out.get k2 hlt2
          obtain ⟨c0, c1⟩ := HR.out.at k2 x hx
          have HS := hide (neg_succ xs k2 x hx)
          clear hx
          by_cases hv : x.v < 0
          · have HT := hide (show neg xs (k2 + 1) = true by rw [HS.out, decide_eq_true hv, Bool.or_true])
            go_wp2
            go_round
            case rel => exact ⟨k2 + 1, by omega, by go_num, by rw [HT.out]⟩
            case measure => simp [intOf]; omega
          · have HT := hide (show neg xs (k2 + 1) = neg xs k2 by rw [HS.out, decide_eq_false hv, Bool.or_false])
            go_wp2
            go_round
            case rel => exact ⟨k2 + 1, by omega, by go_num, by rw [HT.out]⟩
            case measure => simp [intOf]; omega
        · obtain rfl : k2 = n := by omega
          go_wp2_with (at_make; refine wpList_make_full _ rfl _ _ 26 rfl w.heap.size 27 i0 _ 2 Try.underlying26 HI.out HZ0.out HZ1.out _ _ _ _ k2 rfl rfl rfl rfl ?b2 ?b3 (Nat.le_refl _) ?_)
          case b2 => rw [HZ2.out]; omega
          case b3 => unfold maxLen; omega
          intro w1 hown hgrow
          have hb1 : Below w.heap.size w w1 := (Below.refl _ _).grown hgrow (Nat.le_refl _) (by intro k hk; cases hk)
          obtain ⟨Z, HZ, hown2⟩ : ∃ Z : List Value, Z.length = (zer xs).length * 2 ∧ w1.ownsRow w.heap.size 27 2 (.slice (some ⟨w.heap.size, 0, none⟩) k2 k2) k2 (rowF (zer xs) 0 Z) :=
            ⟨_, by have := hown.1; rw [zer_length, HR.out.1]; exact this, by rw [rowF_zero]; exact hown⟩
          have HO := hide hown2
          have HB1 := hide hb1
          have HZL := hide HZ
          clear hown hown2 hb1 HZ hgrow
          go_wp2
          go_loopw [8] (fun i wr => ∃ k : Nat, k ≤ k2 ∧ i = .int .i64 k ∧ wr.ownsRow w.heap.size 27 2 (.slice (some ⟨w.heap.size, 0, none⟩) k2 k2) k2 (rowF (zer xs) k Z) ∧ Below w.heap.size w wr)
            (fun i _ => k2 - (intOf i).toNat)
          case atStart => exact ⟨0, Nat.zero_le _, rfl, HO.out, HB1.out⟩
          case round =>
            obtain ⟨k3, hk3, rfl, hown, hb⟩ := hrel
            have HO2 := hide hown
            have HB2 := hide hb
            clear HO HB1 hown
            by_cases hlt3 : k3 < k2
            · obtain ⟨b, off, hba⟩ := HR.out.addr (by omega)
              obtain rfl := Option.some.inj hba
              clear hba
              obtain ⟨x, hx⟩ := HR.out.get k3 hlt3
              obtain ⟨c0, c1⟩ := (HR.out.below hb).at k3 x hx
              have hz : (zer xs)[k3]? = some ⟨x.p, 0⟩ := by unfold zer; rw [List.getElem?_map, hx]; rfl
              obtain ⟨z0, z1, e0, e1, hset⟩ := rowF_step (zer xs) k3 Z _ hz HZL.out
              have HE := hide hset
              have d0 := (HO2.out.cellAt (k3 * 2) (by omega)).trans e0
              have d1 := (HO2.out.cellAt (k3 * 2 + 1) (by omega)).trans e1
              have g0 := HO2.out.frozenAt (k3 * 2)
              have g1 := HO2.out.frozenAt (k3 * 2 + 1)
              clear hset hb hx hz e0 e1
              go_wp2
              go_roundw
              case rel =>
                refine ⟨k3 + 1, by omega, by go_num, ?_, ?_⟩
                · rw [← HE.out]; exact stored2 HO2.out (k3 * 2) _ _
                · exact (HB2.out.setCell (Nat.le_refl _) _).setCell (Nat.le_refl _) _
              case measure => simp [intOf]; omega
            · have HB := hide hb
              have HZ := hide (show InRow wr (some ⟨w.heap.size, 0, none⟩) k2 k2 (zer xs) from own_inrow (by rw [← rowF_end (zer xs) Z k3 (by rw [zer_length, HR.out.1]; omega) HZL.out]; exact HO2.out))
              clear hb HB2 HO2
              go_wp2_with fail
              refine (ctrs_any _ k2 c xs _ (HR.out.below HB.out) hn).mono ?_
              rintro e w2 ⟨a2, c2, rfl, hnn2, hr2, hb2⟩
              have HR2 := hide hr2
              have HB2 := hide (HB.out.trans (hb2.mono HB.out.size))
              have HZ2 := hide (HZ.out.below hb2)
              have HN2 := hide hnn2
              clear hr2 hb2 hnn2
              go_wp2_with fail
              refine (deltas_nil a2 k2 c2 xs _ HR2.out hn HF.out).mono ?_
              rintro e w3 ⟨a3, c3, rfl, hnn3, hr3, hb3⟩
              have HR3 := hide hr3
              have HB3 := hide (HB2.out.trans (hb3.mono HB2.out.size))
              have HZ3 := hide (HZ2.out.below hb3)
              have HN3 := hide (hnn3.trans HN2.out)
              clear hr3 hb3 hnn3
              go_wp2_with fail
              refine (same_yes a3 _ k2 c3 c xs _ HR3.out (HR.out.below HB3.out) HN3.out).mono ?_
              rintro e w4 ⟨rfl, q4, hw4⟩
              have HB4 := hide (show Below w.heap.size w w4 by rw [hw4]; exact HB3.out.trans (below_draws _ _ _))
              have HZ4 := hide (show InRow w4 (some ⟨w.heap.size, 0, none⟩) k2 k2 (zer xs) by rw [hw4]; exact HZ3.out.below (below_draws _ _ _))
              clear hw4
              go_wp2_with fail
              refine (ctrs_any _ k2 c xs _ (HR.out.below HB4.out) hn).mono ?_
              rintro e w5 ⟨a5, c5, rfl, hnn5, hr5, hb5⟩
              have HR5 := hide hr5
              have HB5 := hide (HB4.out.trans (hb5.mono HB4.out.size))
              have HZ5 := hide (HZ4.out.below hb5)
              have HN5 := hide hnn5
              clear hr5 hb5 hnn5
              go_wp2_with fail
              refine (deltas_zero (some ⟨w.heap.size, 0, none⟩) k2 a5 k2 c5 xs _ HZ5.out HR5.out hn HF.out).mono ?_
              rintro e w6 ⟨a6, c6, rfl, hnn6, hr6, hb6⟩
              have HR6 := hide hr6
              have HB6 := hide (HB5.out.trans (hb6.mono HB5.out.size))
              have HN6 := hide (hnn6.trans HN5.out)
              clear hr6 hb6 hnn6
              go_wp2_with fail
              refine (same_yes a6 _ k2 c6 c xs _ HR6.out (HR.out.below HB6.out) HN6.out).mono ?_
              rintro e w7 ⟨rfl, q7, hw7⟩
              have HB7 := hide (show Below w.heap.size w w7 by rw [hw7]; exact HB6.out.trans (below_draws _ _ _))
              clear hw7
              go_wp2_with fail
              refine (ctrs_any _ k2 c xs _ (HR.out.below HB7.out) hn).mono ?_
              rintro e w8 ⟨a8, c8, rfl, hnn8, hr8, hb8⟩
              have HR8 := hide hr8
              have HB8 := hide (HB7.out.trans (hb8.mono HB7.out.size))
              clear hr8 hb8 hnn8
              go_wp2_with fail
              refine (ctrs_any _ k2 c xs _ (HR.out.below HB8.out) hn).mono ?_
              rintro e w9 ⟨a9, c9, rfl, hnn9, hr9, hb9⟩
              have HR9 := hide hr9
              have HR8' := hide (HR8.out.below hb9)
              have HB9 := hide (HB8.out.trans (hb9.mono HB8.out.size))
              have HN9 := hide hnn9
              clear hr9 hb9 hnn9
              go_wp2_with fail
              refine (deltas_self a8 c8 a9 k2 c9 xs _ HR8'.out HR9.out hn).mono ?_
              rintro e w10 ⟨a10, c10, rfl, hnn10, hr10, hb10⟩
              have HR10 := hide hr10
              have HB10 := hide (HB9.out.trans (hb10.mono HB9.out.size))
              have hn10 := hnn10.trans HN9.out
              clear hr10 hb10 hnn10 HR2 HB2 HZ2 HN2 HR3 HB3 HZ3 HN3 HB4 HZ4 HR5 HB5 HZ5 HN5 HR6 HB6 HN6 HB7 HR8 HB8 HR9 HR8' HB9 HN9
              go_wp2_with fail
              go_loopw [15] (fun i wr => ∃ k q : Nat, k ≤ k2 ∧ i = .int .i64 k ∧ wr = w10.drewN q) (fun i _ => k2 - (intOf i).toNat)
              case atStart => exact ⟨0, 0, Nat.zero_le _, rfl, rfl⟩
              case round =>
                obtain ⟨k4, q, hk4, rfl, rfl⟩ := hrel
                by_cases hlt4 : k4 < k2
                · obtain ⟨x, hx⟩ := HR.out.get k4 hlt4
                  have hz : (zer xs)[k4]? = some ⟨x.p, 0⟩ := by unfold zer; rw [List.getElem?_map, hx]; rfl
                  obtain ⟨b', off', rfl⟩ := HR10.out.addr (by omega)
                  obtain ⟨d0, d1⟩ := HR10.out.at k4 _ hz
                  obtain ⟨b, off, hba⟩ := HR.out.addr (by omega)
                  obtain rfl := Option.some.inj hba
                  obtain ⟨c0, c1⟩ := (HR.out.below HB10.out).at k4 x hx
                  have hlt4' : (k4 : Int) < (k2 : Int) := by omega
                  clear hx hz
                  go_wp2
                  go_quiet (fail)
                  go_wp2
                  go_roundw
                  case rel => exact ⟨k4 + 1, _, by omega, by go_num, rfl⟩
                  case measure => simp [intOf]; omega
                · go_wp2
                  go_ret
                  exact ⟨rfl, HB10.out.trans (below_draws _ _ _)⟩

set_option maxRecDepth 100000 in
set_option maxHeartbeats 4000000 in
theorem walk_nil (w : World) : Calls Try.prog 3 #[.slice none 0 0] w fun e w' => e = .returned (.bool true) ∧ Below w.heap.size w w' := by
  obtain ⟨xs, hxs⟩ : ∃ xs : List K, xs = [] := ⟨_, rfl⟩
  have HR : Hid (InRow w none 0 0 xs) := by rw [hxs]; exact ⟨rfl, Nat.le_refl _, Nat.zero_le _, fun _ => ⟨rfl, rfl⟩, by intro x hx; cases hx⟩
  have HF : Hid (Fits xs) := by rw [hxs]; intro x hx; cases hx
  have hn : 0 ≤ 4096 := Nat.zero_le _
  have HZ : Hid (InRow w none 0 0 (zer xs)) := by rw [hxs]; exact ⟨rfl, Nat.le_refl _, Nat.zero_le _, fun _ => ⟨rfl, rfl⟩, by intro x hx; cases hx⟩
  clear hxs
  have HB := hide (Below.refl w.heap.size w)
  have hnil := fun (w : World) (a : Option Addr) (n c : Nat) => Lib.run_eql_slice_nil (P := Try.prog) w 22 25 a n c 0 0 Try.underlying22
  have hnil2 := fun (w : World) (a : Option Addr) (n c : Nat) => Lib.run_eql_slice_nil (P := Try.prog) w 26 27 a n c 0 0 Try.underlying26
  have hneq := fun (w : World) (a : Option Addr) (n c : Nat) => run_neq_slice_nil_any (P := Try.prog) w 22 25 a n c 0 0 Try.underlying22
  go_enter Try.func3, Try.ntmps3
  go_wp2_with fail
  refine (bytes4_any none 0 0 xs _ HR.out).mono ?_
  rintro e w' ⟨⟨b, rfl⟩, hw'⟩
  obtain rfl := hw'.symm
  clear hw'
  cases b
  · go_wp2
    go_ret
    exact ⟨rfl, Below.refl _ _⟩
  go_wp2
  go_loop [4] (fun i => i = .int .i64 0) (fun _ => 0)
  case atStart => rfl
  case round =>
    obtain rfl := hrel
    go_wp2
    go_loop [5, 6] (fun t i => t = .bool (neg xs 0) ∧ i = .int .i64 0) (fun _ _ => 0)
    case atStart => exact ⟨rfl, rfl⟩
    case round =>
      obtain ⟨rfl, rfl⟩ := hrel
      go_wp2_with fail
      refine (ctrs_any _ 0 0 xs _ (HR.out.below HB.out) hn).mono ?_
      rintro e w2 ⟨a2, c2, rfl, hnn2, hr2, hb2⟩
      have HR2 := hide hr2
      have HB2 := hide (HB.out.trans (hb2.mono HB.out.size))
      have HZ2 := hide (HZ.out.below hb2)
      have HN2 := hide hnn2
      clear hr2 hb2 hnn2
      go_wp2_with fail
      refine (deltas_nil a2 0 c2 xs _ HR2.out hn HF.out).mono ?_
      rintro e w3 ⟨a3, c3, rfl, hnn3, hr3, hb3⟩
      have HR3 := hide hr3
      have HB3 := hide (HB2.out.trans (hb3.mono HB2.out.size))
      have HZ3 := hide (HZ2.out.below hb3)
      have HN3 := hide (hnn3.trans HN2.out)
      clear hr3 hb3 hnn3
      go_wp2_with fail
      refine (same_yes a3 _ 0 c3 0 xs _ HR3.out (HR.out.below HB3.out) HN3.out).mono ?_
      rintro e w4 ⟨rfl, q4, hw4⟩
      have HB4 := hide (show Below w.heap.size w w4 by rw [hw4]; exact HB3.out.trans (below_draws _ _ _))
      have HZ4 := hide (show InRow w4 none 0 0 (zer xs) by rw [hw4]; exact HZ3.out.below (below_draws _ _ _))
      clear hw4
      go_wp2_with fail
      refine (ctrs_any _ 0 0 xs _ (HR.out.below HB4.out) hn).mono ?_
      rintro e w5 ⟨a5, c5, rfl, hnn5, hr5, hb5⟩
      have HR5 := hide hr5
      have HB5 := hide (HB4.out.trans (hb5.mono HB4.out.size))
      have HZ5 := hide (HZ4.out.below hb5)
      have HN5 := hide hnn5
      clear hr5 hb5 hnn5
      go_wp2_with fail
      refine (deltas_zero none 0 a5 0 c5 xs _ HZ5.out HR5.out hn HF.out).mono ?_
      rintro e w6 ⟨a6, c6, rfl, hnn6, hr6, hb6⟩
      have HR6 := hide hr6
      have HB6 := hide (HB5.out.trans (hb6.mono HB5.out.size))
      have HN6 := hide (hnn6.trans HN5.out)
      clear hr6 hb6 hnn6
      go_wp2_with fail
      refine (same_yes a6 _ 0 c6 0 xs _ HR6.out (HR.out.below HB6.out) HN6.out).mono ?_
      rintro e w7 ⟨rfl, q7, hw7⟩
      have HB7 := hide (show Below w.heap.size w w7 by rw [hw7]; exact HB6.out.trans (below_draws _ _ _))
      clear hw7
      go_wp2_with fail
      refine (ctrs_any _ 0 0 xs _ (HR.out.below HB7.out) hn).mono ?_
      rintro e w8 ⟨a8, c8, rfl, hnn8, hr8, hb8⟩
      have HR8 := hide hr8
      have HB8 := hide (HB7.out.trans (hb8.mono HB7.out.size))
      clear hr8 hb8 hnn8
      go_wp2_with fail
      refine (ctrs_any _ 0 0 xs _ (HR.out.below HB8.out) hn).mono ?_
      rintro e w9 ⟨a9, c9, rfl, hnn9, hr9, hb9⟩
      have HR9 := hide hr9
      have HR8' := hide (HR8.out.below hb9)
      have HB9 := hide (HB8.out.trans (hb9.mono HB8.out.size))
      have HN9 := hide hnn9
      clear hr9 hb9 hnn9
      go_wp2_with fail
      refine (deltas_self a8 c8 a9 0 c9 xs _ HR8'.out HR9.out hn).mono ?_
      rintro e w10 ⟨a10, c10, rfl, hnn10, hr10, hb10⟩
      have HR10 := hide hr10
      have HB10 := hide (HB9.out.trans (hb10.mono HB9.out.size))
      have hn10 := hnn10.trans HN9.out
      clear hr10 hb10 hnn10 HR2 HB2 HZ2 HN2 HR3 HB3 HZ3 HN3 HB4 HZ4 HR5 HB5 HZ5 HN5 HR6 HB6 HN6 HB7 HR8 HB8 HR9 HR8' HB9 HN9
      go_wp2_with fail
      go_loopw [15] (fun i wr => ∃ k q : Nat, k ≤ 0 ∧ i = .int .i64 k ∧ wr = w10.drewN q) (fun i _ => 0 - (intOf i).toNat)
      case atStart => exact ⟨0, 0, Nat.zero_le _, rfl, rfl⟩
      case round =>
        obtain ⟨k4, q, hk4, rfl, rfl⟩ := hrel
        by_cases hlt4 : k4 < 0
        · exact absurd hlt4 (by omega)
        · go_wp2
          go_ret
          exact ⟨rfl, HB10.out.trans (below_draws _ _ _)⟩
end Go.Proofs.Qxb6628399a
