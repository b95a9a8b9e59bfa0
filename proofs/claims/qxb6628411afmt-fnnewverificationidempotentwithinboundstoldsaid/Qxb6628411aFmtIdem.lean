import Derived.Test.Qxb6628411aFmtKeep
import Derived.Test.Qxb6628411aFmtGuard
import Derived.Test.Qxb6628411aFmtWithin
import Derived.Test.Qxb6628411aFmtSame
import Derived.Test.Qxb6628411aFmtProj
import Derived.Deep.RegionHeld3
namespace Go.Proofs.Qxb6628411aFmt
open Go.RowKit Go.Joins Go.Extern.Stop Go.Stop Go.Extern

set_option maxRecDepth 100000 in
set_option maxHeartbeats 8000000 in
theorem idem_main (F : Interp) (a : Option Addr) (n c : Nat) (rs : List Rn) (path : ByteArray) (w : World) (h : InRuns w a n c rs) (hM : MoreOk F) (hF : F.answers w.tape) :
    Calls Tryf.prog 4 #[.slice a n c, .string path] w fun e w' => e = .returned (.bool true) ∧ Below w.heap.size w w' := by
  have HR := hide h
  have HM := hide hM
  have HF := hide hF
  clear h hM hF
  have hnil := fun (w : World) (a : Option Addr) (n c : Nat) => Lib.run_eql_slice_nil (P := Tryf.prog) w 25 35 a n c 0 0 Tryf.underlying25
  have hnil2 := fun (w : World) (a : Option Addr) (n c : Nat) => Lib.run_eql_slice_nil (P := Tryf.prog) w 31 9 a n c 0 0 Tryf.underlying31
  go_enter Tryf.func4, Tryf.ntmps4
  go_wp2_with fail
  refine (bytes11_any a n c rs path _ HR.out).mono ?_
  rintro e w' ⟨⟨b, rfl, hsm⟩, hw'⟩
  obtain rfl := hw'.symm
  clear hw'
  cases b
  · go_wp2
    go_ret
    exact ⟨rfl, Below.refl _ _⟩
  obtain ⟨hn, hsm⟩ := hsm rfl
  have HSM := hide hsm
  clear hsm
  go_wp2_with fail
  refine (within_any a n c rs path _ HR.out).mono ?_
  rintro e w' ⟨⟨b, rfl⟩, hw'⟩
  obtain rfl := hw'.symm
  clear hw'
  cases b
  · go_wp2
    go_ret
    exact ⟨rfl, Below.refl _ _⟩
  go_wp2_with fail
  refine (proj_any a n c rs _ HR.out hn).mono ?_
  rintro e w1 ⟨a1, c1, rfl, hr1, hb1⟩
  have HR1 := hide hr1
  have HB1 := hide hb1
  clear hr1 hb1
  go_wp2_with fail
  refine (verif_any F a1 n c1 rs path _ HR1.out hn HSM.out (by rw [HB1.out.tape]; exact HF.out)).mono ?_
  rintro e w2 ⟨g, ks, rfl, hin2, hkp, hb2⟩
  have HI2 := hide hin2
  have HKP := hide hkp
  have HB2 := hide (HB1.out.trans (hb2.mono HB1.out.size))
  clear hin2 hkp hb2
  go_wp2
  obtain ⟨W3, hW3⟩ : ∃ W3, W3 = w2.alloc (.cells #[.string ⟨#[97, 114, 103, 118, 95, 110, 111, 95, 115, 104, 101, 108, 108]⟩, .slice (some ⟨g, 0, none⟩) n n, .string path] 28) := ⟨_, rfl⟩
  rw [← hW3]
  have hb23 : Below w2.heap.size w2 W3 := by rw [hW3]; exact (Below.refl _ _).alloc (Nat.le_refl _) _
  have hV : w2.heap.size < W3.heap.size := by rw [hW3]; simp
  have HV0 := hide (show W3.cell? ⟨w2.heap.size, 0, none⟩ = some (.string ⟨#[97, 114, 103, 118, 95, 110, 111, 95, 115, 104, 101, 108, 108]⟩) by rw [hW3, World.cell?_alloc_at _ _ _ _ rfl]; rfl)
  have HV1 := hide (show W3.cell? ⟨w2.heap.size, 1, none⟩ = some (.slice (some ⟨g, 0, none⟩) n n) by rw [hW3, World.cell?_alloc_at _ _ _ _ rfl]; rfl)
  have HV2 := hide (show W3.cell? ⟨w2.heap.size, 2, none⟩ = some (.string path) by rw [hW3, World.cell?_alloc_at _ _ _ _ rfl]; rfl)
  have HI3 := hide (HI2.out.below hb23)
  have HB3 := hide (HB2.out.trans (hb23.mono HB2.out.size))
  have HR3 := hide (HR.out.below HB3.out)
  clear hb23 hW3 HI2 HB2 HR1 HB1
  go_loopw [7] (fun i wr => ∃ k : Nat, k ≤ n ∧ i = .int .i64 k ∧ Below W3.heap.size W3 wr) (fun i _ => n - (intOf i).toNat)
  case atStart => exact ⟨0, Nat.zero_le _, rfl, Below.refl _ _⟩
  case round =>
    obtain ⟨k, hk, rfl, hb⟩ := hrel
    have HBK := hide hb
    by_cases hlt : k < n
    · obtain ⟨b, off, rfl⟩ := HR3.out.addr (by omega)
      obtain ⟨r, hr⟩ := HR3.out.get k hlt
      obtain ⟨a', c', hk1, hnn⟩ := HKP.out.get k r hr
      obtain ⟨c0, c1, c2, c3, c4, c5, c6⟩ := (HR3.out.below hb).at k r hr
      obtain ⟨d0, d1, d2, d3, d4, d5, d6⟩ := (HI3.out.below hb).at k _ hk1
      simp only [Nat.zero_add] at d0 d1 d2 d3 d4 d5 d6
      have HAS := hide ((HI3.out.below hb).args k _ hk1)
      have v1 := (hb.cell (p := ⟨w2.heap.size, 1, none⟩) hV).trans HV1.out
      have hlt' : (k : Int) < (n : Int) := by omega
      have hV' : w2.heap.size < wr.heap.size := Nat.lt_of_lt_of_le hV hb.size
      have hbb : b < wr.heap.size := World.block_lt_of_cell? wr _ c0
      have hgg : g < wr.heap.size := World.block_lt_of_cell? wr _ d0
      have hsz := HSM.out r (List.mem_of_getElem? hr)
      have HS1 := hide (sh_size 120 (by omega) r.cmd hsz.1)
      have HCS := hide hsz.1
      have HXS := hide hsz.2.2
      have hc1 : ((cnt (sh 120 r.cmd) : Nat) : Int) ≤ 120 := by have := cnt_sh 120 (by omega) r.cmd; omega
      have hd1 : decide ((120 : Int) < ((cnt (sh 120 r.cmd) : Nat) : Int)) = false := decide_eq_false (by omega)
      have HBS := hide (bnd_length F r.xs)
      clear hr hk1 hb hsz
      go_wp2_with fail
      refine (count_any (sh 120 r.cmd) _ (by have := HS1.out; omega)).mono ?_
      rintro e w8 ⟨rfl, hw8⟩
      subst hw8
      go_wp2_with fail
      refine (count_any r.cmd _ (by have := HCS.out; omega)).mono ?_
      rintro e w8 ⟨rfl, hw8⟩
      subst hw8
      have hd40 : decide ((40 : Int) < (((bnd F r.xs).length : Nat) : Int)) = false := decide_eq_false (by have := HBS.out; omega)
      have HAT := hide (bnd_at F r.xs)
      have HEQ := hide (bnd_length_le F r.xs)
      have hE : (cnt r.cmd : Int) ≤ 120 → sh 120 r.cmd = r.cmd := fun h => sh_le 120 r.cmd (by omega)
      have HAS2 := hide (show StrRow wr a' c' (bnd F r.xs) from HAS.out)
      have hys : (bnd F r.xs).length ≤ 40 := HBS.out
      generalize hcm : sh 120 r.cmd = cm at *
      generalize hyy : bnd F r.xs = ys at *
      clear hcm hyy HAS HS1 HBS
      have hne : (r.xs.length : Int) ≤ 40 → (((ys.length : Nat) : Int) != ((r.xs.length : Nat) : Int)) = false := by
        intro h
        rw [HEQ.out (by omega)]; simp
      generalize hml : r.xs.length = m at *
      have HML := hide hml
      clear hml
      by_cases hle : (cnt r.cmd : Int) ≤ 120
      all_goals by_cases h40 : (m : Int) ≤ 40
      all_goals
        first
          | (have hE1 := hE hle; subst hE1)
          | (have hle1 : decide ((cnt r.cmd : Int) ≤ 120) = false := decide_eq_false hle)
        first
          | (have hne1 := hne h40)
          | (have h401 : decide ((m : Int) ≤ 40) = false := decide_eq_false h40)
        clear hE hne
        go_wp2_with fail
        go_loop [10] (fun i => ∃ j : Nat, j ≤ ys.length ∧ i = .int .i64 j) (fun i => ys.length - (intOf i).toNat)
        case atStart => exact ⟨0, Nat.zero_le _, rfl⟩
        case round =>
          obtain ⟨j, hj, rfl⟩ := hrel
          by_cases hltj : j < ys.length
          · by_cases hsk : 40 < m ∧ j = 39
            · obtain ⟨hm40, rfl⟩ := hsk
              have hm40' : (40 : Int) < (m : Int) := by omega
              first
                | (exfalso; omega)
                | (go_wp2
                   go_round
                   case rel => exact ⟨39 + 1, by omega, by go_num⟩
                   case measure => simp [intOf]; omega)
            · obtain ⟨s, hsx, hsj⟩ := HAT.out j hltj hsk
              obtain ⟨ab, aoff, hab⟩ := HAS2.out.addr (by omega)
              have e0 := (show StrRow wr (some ⟨ab, aoff, none⟩) c' ys by rw [← hab]; exact HAS2.out).at j _ hsj
              have hablt : ab < wr.heap.size := World.block_lt_of_cell? wr _ e0
              subst hab
              have hltj' : (j : Int) < (ys.length : Int) := by omega
              have HSS := hide (show (sh 200 s).size ≤ 9223372036854775807 by have := sh_size 200 (by omega) s (HXS.out s (List.mem_of_getElem? hsx)); omega)
              have hd200 : decide ((200 : Int) < ((cnt (sh 200 s) : Nat) : Int)) = false := decide_eq_false (by have := cnt_sh 200 (by omega) s; omega)
              generalize sh 200 s = sj at *
              clear hsj hsx
              by_cases hm40 : (40 : Int) < (m : Int)
              any_goals (exfalso; omega)
              all_goals
                first
                  | (have hj39 : ((j : Int) == 39) = false := by rw [beq_eq_false_iff_ne]; intro e; exact hsk ⟨by omega, by omega⟩)
                  | skip
                first
                  | (have hm41 : decide ((40 : Int) < (m : Int)) = false := decide_eq_false hm40)
                  | skip
                clear hsk
                go_wp2_with (go_at_call 12; refine (count_any sj _ HSS.out).mono ?_; rintro e w9 ⟨rfl, hw9⟩; subst hw9)
                go_round
                case rel => exact ⟨j + 1, by omega, by go_num⟩
                case measure => simp [intOf]; omega
          · go_wp2
            go_roundw
            case rel => exact ⟨k + 1, by omega, by go_num, (HBK.out.alloc HBK.out.size _).alloc (by have := HBK.out.size; simp; omega) _⟩
            case measure => simp [intOf]; omega
    · obtain rfl : k = n := by omega
      have v0 := (hb.cell (p := ⟨w2.heap.size, 0, none⟩) hV).trans HV0.out
      have v1 := (hb.cell (p := ⟨w2.heap.size, 1, none⟩) hV).trans HV1.out
      have v2 := (hb.cell (p := ⟨w2.heap.size, 2, none⟩) hV).trans HV2.out
      have HIK := hide (HI3.out.below hb)
      have hVk : w2.heap.size < wr.heap.size := Nat.lt_of_lt_of_le hV hb.size
      have HSK := hide (kept_small HM.out HKP.out HSM.out)
      have HBT := hide (HB3.out.trans (hb.mono HB3.out.size))
      clear hb
      go_wp2_with fail
      refine (verif_any F (some ⟨g, 0, none⟩) k k ks path _ HIK.out hn HSK.out (by rw [HBT.out.tape]; exact HF.out)).mono ?_
      rintro e w5 ⟨g2, ks2, rfl, hin5, hkp5, hb5⟩
      have HKP2 := hide hkp5
      have u0 := (hb5.cell (p := ⟨w2.heap.size, 0, none⟩) hVk).trans v0
      have u1 := (hb5.cell (p := ⟨w2.heap.size, 1, none⟩) hVk).trans v1
      have u2 := (hb5.cell (p := ⟨w2.heap.size, 2, none⟩) hVk).trans v2
      have hV5 : w2.heap.size < w5.heap.size := Nat.lt_of_lt_of_le hVk hb5.size
      have HIK5 := hide (HIK.out.below hb5)
      have HI5 := hide hin5
      have HB5 := hide (HBT.out.trans (hb5.mono HBT.out.size))
      clear hin5 hkp5 hb5 v0 v1 v2
      go_wp2_with fail
      obtain ⟨W6, hW6⟩ : ∃ W6, W6 = w5.alloc (.cells #[.string ⟨#[97, 114, 103, 118, 95, 110, 111, 95, 115, 104, 101, 108, 108]⟩, .slice (some ⟨g2, 0, none⟩) k k, .string path] 28) := ⟨_, rfl⟩
      rw [← hW6]
      have hb56 : Below w5.heap.size w5 W6 := by rw [hW6]; exact (Below.refl _ _).alloc (Nat.le_refl _) _
      have hV6 : w5.heap.size < W6.heap.size := by rw [hW6]; simp
      have HU1 := hide ((hb56.cell (p := ⟨w2.heap.size, 1, none⟩) hV5).trans u1)
      have HU2 := hide (show W6.cell? ⟨w5.heap.size, 1, none⟩ = some (.slice (some ⟨g2, 0, none⟩) k k) by rw [hW6, World.cell?_alloc_at _ _ _ _ rfl]; rfl)
      have HA6 := hide (HIK5.out.below hb56)
      have HB6 := hide (HI5.out.below hb56)
      have HBT6 := hide (HB5.out.trans (hb56.mono HB5.out.size))
      have HR6 := hide (HR.out.below HBT6.out)
      clear hb56 hW6 u0 u1 u2 HIK HIK5 HI5 HB5 HBT
      go_loopw [12] (fun i wr => ∃ j : Nat, j ≤ k ∧ i = .int .i64 j ∧ Below W6.heap.size W6 wr) (fun i _ => k - (intOf i).toNat)
      case atStart => exact ⟨0, Nat.zero_le _, rfl, Below.refl _ _⟩
      case round =>
        obtain ⟨j, hj, rfl, hbj⟩ := hrel
        have HBJ := hide hbj
        have t1 := (hbj.cell (p := ⟨w2.heap.size, 1, none⟩) (Nat.lt_trans hV5 hV6)).trans HU1.out
        have t2 := (hbj.cell (p := ⟨w5.heap.size, 1, none⟩) hV6).trans HU2.out
        by_cases hltj : j < k
        · obtain ⟨b, off, rfl⟩ := HR6.out.addr (by omega)
          obtain ⟨r, hr⟩ := HR6.out.get j hltj
          obtain ⟨a', c', hk1, hnn⟩ := HKP.out.get j r hr
          obtain ⟨a'', c'', hk2, hnn2⟩ := HKP2.out.get j _ hk1
          simp only at hk2
          obtain ⟨c0, c1, c2, c3, c4, c5, c6⟩ := (HR6.out.below hbj).at j r hr
          obtain ⟨d0, d1, d2, d3, d4, d5, d6⟩ := (HA6.out.below hbj).at j _ hk1
          obtain ⟨e0, e1, e2, e3, e4, e5, e6⟩ := (HB6.out.below hbj).at j _ hk2
          simp only [Nat.zero_add] at d0 d1 d2 d3 d4 d5 d6 e0 e1 e2 e3 e4 e5 e6
          rw [sh_sh 120 (by omega)] at e2
          have HL2 := hide (bnd_length_le F _ (bnd_length F r.xs))
          have HS1 := hide ((HB6.out.below hbj).args j _ hk2)
          have HS2 := hide ((HA6.out.below hbj).args j _ hk1)
          have HBB := hide (bnd_bnd F r.xs)
          have hdr : Below W6.heap.size W6 wr.drew := hbj.drew
          have hltj' : (j : Int) < (k : Int) := by omega
          clear hr hk1 hk2 hbj
          simp only at HS1 HS2
          generalize hcm : sh 120 r.cmd = cm at *
          generalize hy2 : bnd F (bnd F r.xs) = y2 at *
          generalize hy1 : bnd F r.xs = y1 at *
          clear hcm hy1 hy2
          rw [← HL2.out] at d3
          go_wp2
          go_region_held3 (fun w' => w'.cell? ⟨w2.heap.size, 1, none⟩ = some (.slice (some ⟨g, 0, none⟩) k k) ∧ w'.cell? ⟨w5.heap.size, 1, none⟩ = some (.slice (some ⟨g2, 0, none⟩) k k) ∧
              w'.cell? ⟨b, off + j * 7 + 3, none⟩ = some (.slice r.a r.xs.length r.c) ∧
              w'.cell? ⟨g, j * 7, none⟩ = some (.string r.t) ∧ w'.cell? ⟨g, j * 7 + 1, none⟩ = some (.string r.ph) ∧ w'.cell? ⟨g, j * 7 + 2, none⟩ = some (.string cm) ∧ w'.cell? ⟨g, j * 7 + 3, none⟩ = some (.slice a' y2.length c') ∧
              w'.cell? ⟨g, j * 7 + 4, none⟩ = some (.int .i64 r.ec) ∧ w'.cell? ⟨g, j * 7 + 5, none⟩ = some (.int .i64 r.du) ∧ w'.cell? ⟨g, j * 7 + 6, none⟩ = some (.bool r.tm) ∧
              w'.cell? ⟨g2, j * 7, none⟩ = some (.string r.t) ∧ w'.cell? ⟨g2, j * 7 + 1, none⟩ = some (.string r.ph) ∧ w'.cell? ⟨g2, j * 7 + 2, none⟩ = some (.string cm) ∧ w'.cell? ⟨g2, j * 7 + 3, none⟩ = some (.slice a'' y2.length c'') ∧
              w'.cell? ⟨g2, j * 7 + 4, none⟩ = some (.int .i64 r.ec) ∧ w'.cell? ⟨g2, j * 7 + 5, none⟩ = some (.int .i64 r.du) ∧ w'.cell? ⟨g2, j * 7 + 6, none⟩ = some (.bool r.tm) ∧ Below W6.heap.size W6 w') ((first | ((refine ⟨cell_later HB9.out ?_, cell_later HB9.out ?_, cell_later HB9.out ?_, cell_later HB9.out ?_, cell_later HB9.out ?_, cell_later HB9.out ?_, cell_later HB9.out ?_, cell_later HB9.out ?_, cell_later HB9.out ?_, cell_later HB9.out ?_, cell_later HB9.out ?_, cell_later HB9.out ?_, cell_later HB9.out ?_, cell_later HB9.out ?_, cell_later HB9.out ?_, cell_later HB9.out ?_, cell_later HB9.out ?_, hdr.trans (HB9.out.mono hdr.size)⟩ <;> assumption)) | go_keep))
            (first | (go_at_call 10; refine (same_any ⟨r.t, r.ph, cm, a'', c'', y2, r.ec, r.du, r.tm⟩ a' c' y1 _ _ (by exact HS1.out) (by exact HS2.out) HL2.out.symm (by rw [hnn2, hnn]) (by exact HBB.out)).mono ?_; rintro e w9 ⟨rfl, hb9⟩; have HB9 := hide hb9; clear hb9))
          go_wp2
          go_roundw
          case rel => exact ⟨j + 1, by omega, by go_num, hdr.trans (HB9.out.mono hdr.size)⟩
          case measure => simp [intOf]; omega
        · go_wp2
          go_ret
          exact ⟨rfl, HBT6.out.trans (HBJ.out.mono HBT6.out.size)⟩
end Go.Proofs.Qxb6628411aFmt
