import Derived.Test.Qxb6628411aFmtKeptOk
import Derived.Test.Qxb6628411aFmtGuard5
import Derived.Test.Qxb6628411aFmtWithin
import Derived.Test.Qxb6628411aFmtSame
import Derived.Test.Qxb6628411aFmtProj
import Derived.Deep.RegionHeld3
namespace Go.Proofs.Qxb6628411aFmt
open Go.RowKit Go.Joins Go.Extern.Stop Go.Stop Go.Extern

section
variable {ops : Array Oper} {rest : List Oper} {o : Oper} {a : Act} {w w' : World} {Q : Exit → Act → World → Prop}
theorem wpList_val {v : Value} (hg : o.guard = none) (hrun : (execOp a.eval o).run Tryf.prog w = .ok (.value v) w') (h : wpList Tryf.prog ops Q rest (a.put o.dst v) w') : wpList Tryf.prog ops Q (o :: rest) a w :=
  wpList_plain hg fun K hK => by
    unfold Oper.wp
    simp only [hrun]
    exact hK _ _ h
end
theorem sliced_zero (a : Option Addr) (k c s : Nat) : sliced a 0 k c s = .slice a k c := by
  unfold sliced
  have : (if c = 0 then a else a.map (·.add (0 * s))) = a := by
    split
    · rfl
    · cases a <;> simp [Addr.add]
  rw [this]; rfl
/-- 'all[k:]', its address behind a name -/
theorem law_lo {ops : Array Oper} {rest : List Oper} {o : Oper} {act : Act} {w : World} {Q : Exit → Act → World → Prop} (hg : o.guard = none) (x lo : Operand) (hop : o.op = .slice 25 x (some lo) none none)
    (a : Option Addr) (n c k : Nat) (a2 : Option Addr) (ha2 : a2 = if c = k then a else a.map (·.add (k * 7))) (hk : k ≤ n) (q : Nat) (hq : q = n - k) (hx : act.eval x = .slice a n c) (hlo : act.eval lo = .int .i64 (k : Int))
    (h : wpList Tryf.prog ops Q rest (act.put o.dst (.slice a2 q (c - k))) w) : wpList Tryf.prog ops Q (o :: rest) act w :=
  wpList_val hg (by
    have e := run_slice_l (P := Tryf.prog) (w := w) (t := 25) (a := a) (len := n) (cap := c) Tryf.underlying25 .i64 (k : Int) (by omega) (by omega)
    have e2 := fun x lo hi mx => run_sliceAt_slice (P := Tryf.prog) w 25 x lo hi mx Tryf.underlying25
    have e3 : (sizeOf (Tryf.prog.elem 25)).run Tryf.prog w = .ok 7 w := by kernel_rfl
    unfold execOp
    simp only [hop, hx, hlo, Option.map, Sem.run_bind, e2, e, e3, Result.andThen_ok, sliced, Int.toNat_natCast, ha2, hq]
    rfl) h
/-- 'all[:k]' -/
theorem law_hi {ops : Array Oper} {rest : List Oper} {o : Oper} {act : Act} {w : World} {Q : Exit → Act → World → Prop} (hg : o.guard = none) (x hi : Operand) (hop : o.op = .slice 25 x none (some hi) none)
    (a : Option Addr) (n c k : Nat) (hk : k ≤ c) (hx : act.eval x = .slice a n c) (hhi : act.eval hi = .int .i64 (k : Int))
    (h : wpList Tryf.prog ops Q rest (act.put o.dst (.slice a k c)) w) : wpList Tryf.prog ops Q (o :: rest) act w :=
  wpList_val hg (by
    have e := run_slice_h (P := Tryf.prog) (w := w) (t := 25) (a := a) (len := n) (cap := c) Tryf.underlying25 .i64 (k : Int) (by omega) (by omega)
    have e2 := fun x lo hi mx => run_sliceAt_slice (P := Tryf.prog) w 25 x lo hi mx Tryf.underlying25
    have e3 : (sizeOf (Tryf.prog.elem 25)).run Tryf.prog w = .ok 7 w := by kernel_rfl
    unfold execOp
    simp only [hop, hx, hhi, Option.map, Sem.run_bind, e2, e, e3, Result.andThen_ok, sliced_zero, Int.toNat_natCast]
    rfl) h
theorem Small.take {rs : List Rn} (h : Small rs) (k : Nat) : Small (rs.take k) := fun r hr => h r (List.take_subset _ _ hr)
theorem Small.drop {rs : List Rn} (h : Small rs) (k : Nat) : Small (rs.drop k) := fun r hr => h r (List.drop_subset _ _ hr)

set_option maxRecDepth 100000 in
set_option maxHeartbeats 8000000 in
theorem split_main (F : Interp) (a : Option Addr) (n c : Nat) (rs : List Rn) (path : ByteArray) (k : Nat) (w : World) (h : InRuns w a n c rs) (hk : k ≤ n) (hF : F.answers w.tape) :
    Calls Tryf.prog 3 #[.slice a n c, .string path, .int .i64 (k : Int)] w fun e w' => e = .returned (.bool true) ∧ Below w.heap.size w w' := by
  have HR := hide h
  have HF := hide hF
  clear h hF
  have hnil := fun (w : World) (a : Option Addr) (n c : Nat) => Lib.run_eql_slice_nil (P := Tryf.prog) w 25 35 a n c 0 0 Tryf.underlying25
  have hk1 : decide (n < k) = false := decide_eq_false (by omega)
  go_enter Tryf.func3, Tryf.ntmps3
  go_wp2_with fail
  refine (bytes5_any a n c rs path _ _ HR.out).mono ?_
  rintro e w' ⟨⟨b, rfl, hsm⟩, hw'⟩
  obtain rfl := hw'.symm
  clear hw'
  cases b
  · go_wp2
    go_ret
    exact ⟨rfl, Below.refl _ _⟩
  obtain ⟨hn, hsm⟩ := hsm rfl
  have HSM := hide hsm
  clear hsm
  go_wp2_with fail
  refine (within_any a n c rs path _ HR.out).mono ?_
  rintro e w' ⟨⟨b, rfl⟩, hw'⟩
  obtain rfl := hw'.symm
  clear hw'
  cases b
  · go_wp2
    go_ret
    exact ⟨rfl, Below.refl _ _⟩
  go_wp2_with fail
  refine (proj_any a n c rs _ HR.out hn).mono ?_
  rintro e w1 ⟨a1, c1, rfl, hr1, hb1⟩
  have HR1 := hide hr1
  have HB1 := hide hb1
  clear hr1 hb1
  go_wp2_with fail
  refine (verif_any F a1 n c1 rs path _ HR1.out hn HSM.out (by rw [HB1.out.tape]; exact HF.out)).mono ?_
  rintro e w2 ⟨g, ks, rfl, hin2, hkp, hb2⟩
  have HI2 := hide hin2
  have HKP := hide hkp
  have HB2 := hide (HB1.out.trans (hb2.mono HB1.out.size))
  have HR2 := hide (HR1.out.below hb2)
  clear hin2 hkp hb2 HB1 HR1
  go_wp2_with (refine law_hi rfl _ _ rfl a1 n c1 k (Nat.le_trans hk HR2.out.2.1) rfl rfl ?_)
  obtain ⟨W3, hW3⟩ : ∃ W3, W3 = w2.alloc (.cells #[.string ⟨#[97, 114, 103, 118, 95, 110, 111, 95, 115, 104, 101, 108, 108]⟩, .slice (some ⟨g, 0, none⟩) n n, .string path] 28) := ⟨_, rfl⟩
  rw [← hW3]
  have hbW3 : Below w2.heap.size w2 W3 := by rw [hW3]; exact (Below.refl _ _).alloc (Nat.le_refl _) _
  have hsW3 : w2.heap.size < W3.heap.size := by rw [hW3]; simp
  have V0 := hide (show W3.cell? ⟨w2.heap.size, 0, none⟩ = some (.string ⟨#[97, 114, 103, 118, 95, 110, 111, 95, 115, 104, 101, 108, 108]⟩) by rw [hW3, World.cell?_alloc_at _ _ _ _ rfl]; rfl)
  have V1 := hide (show W3.cell? ⟨w2.heap.size, 1, none⟩ = some (.slice (some ⟨g, 0, none⟩) n n) by rw [hW3, World.cell?_alloc_at _ _ _ _ rfl]; rfl)
  have V2 := hide (show W3.cell? ⟨w2.heap.size, 2, none⟩ = some (.string path) by rw [hW3, World.cell?_alloc_at _ _ _ _ rfl]; rfl)
  have HI3 := hide (HI2.out.below hbW3)
  have HB3 := hide (HB2.out.trans (hbW3.mono HB2.out.size))
  have HR3 := hide (HR2.out.below hbW3)
  clear hbW3 hW3 HI2 HB2 HR2
  refine (verif_any F a1 k c1 (rs.take k) path _ (HR3.out.take k hk) (by omega) (HSM.out.take k) (by rw [HB3.out.tape]; exact HF.out)).mono ?_
  rintro e w4 ⟨g2, ks2, rfl, hin4, hkp4, hb4⟩
  have HI4 := hide hin4
  have HKP2 := hide hkp4
  replace V0 := hide (cell_later hb4 V0.out)
  replace V1 := hide (cell_later hb4 V1.out)
  replace V2 := hide (cell_later hb4 V2.out)
  replace HI3 := hide (HI3.out.below hb4)
  have HB4 := hide (HB3.out.trans (hb4.mono HB3.out.size))
  have HR4 := hide (HR3.out.below hb4)
  clear hin4 hkp4 hb4 HB3 HR3
  obtain ⟨a2, ha2⟩ : ∃ a2, a2 = if c1 = k then a1 else a1.map (·.add (k * 7)) := ⟨_, rfl⟩
  have HA2 := hide ha2
  clear ha2
  obtain ⟨q, hq⟩ : ∃ q, q = n - k := ⟨_, rfl⟩
  have HQ := hide hq
  have hqi : (n : Int) - (k : Int) = (q : Int) := by omega
  clear hq
  go_wp2_with (refine law_lo rfl _ _ rfl a1 n c1 k a2 HA2.out hk q HQ.out rfl rfl ?_)
  obtain ⟨W5, hW5⟩ : ∃ W5, W5 = w4.alloc (.cells #[.string ⟨#[97, 114, 103, 118, 95, 110, 111, 95, 115, 104, 101, 108, 108]⟩, .slice (some ⟨g2, 0, none⟩) k k, .string path] 28) := ⟨_, rfl⟩
  rw [← hW5]
  have hbW5 : Below w4.heap.size w4 W5 := by rw [hW5]; exact (Below.refl _ _).alloc (Nat.le_refl _) _
  have hsW5 : w4.heap.size < W5.heap.size := by rw [hW5]; simp
  have A0 := hide (show W5.cell? ⟨w4.heap.size, 0, none⟩ = some (.string ⟨#[97, 114, 103, 118, 95, 110, 111, 95, 115, 104, 101, 108, 108]⟩) by rw [hW5, World.cell?_alloc_at _ _ _ _ rfl]; rfl)
  have A1 := hide (show W5.cell? ⟨w4.heap.size, 1, none⟩ = some (.slice (some ⟨g2, 0, none⟩) k k) by rw [hW5, World.cell?_alloc_at _ _ _ _ rfl]; rfl)
  have A2 := hide (show W5.cell? ⟨w4.heap.size, 2, none⟩ = some (.string path) by rw [hW5, World.cell?_alloc_at _ _ _ _ rfl]; rfl)
  replace V0 := hide (cell_later hbW5 V0.out)
  replace V1 := hide (cell_later hbW5 V1.out)
  replace V2 := hide (cell_later hbW5 V2.out)
  have HI5 := hide (HI3.out.below hbW5)
  have HJ5 := hide (HI4.out.below hbW5)
  have HB5 := hide (HB4.out.trans (hbW5.mono HB4.out.size))
  have HR5 := hide (HR4.out.below hbW5)
  clear hbW5 hW5 HI3 HI4 HB4 HR4
  refine (verif_any F a2 q (c1 - k) (rs.drop k) path _ (by rw [HA2.out, HQ.out]; exact HR5.out.drop k hk) (by omega) (HSM.out.drop k) (by rw [HB5.out.tape]; exact HF.out)).mono ?_
  rintro e w6 ⟨g3, ks3, rfl, hin6, hkp6, hb6⟩
  have HM6 := hide hin6
  have HKP3 := hide hkp6
  replace V0 := hide (cell_later hb6 V0.out)
  replace V1 := hide (cell_later hb6 V1.out)
  replace V2 := hide (cell_later hb6 V2.out)
  replace A1 := hide (cell_later hb6 A1.out)
  have HI6 := hide (HI5.out.below hb6)
  have HJ6 := hide (HJ5.out.below hb6)
  have HB6 := hide (HB5.out.trans (hb6.mono HB5.out.size))
  clear hin6 hkp6 hb6 HB5 HR5 HI5 HJ5 A0 A2
  obtain ⟨W7, hW7⟩ : ∃ W7, W7 = w6.alloc (.cells #[.string ⟨#[97, 114, 103, 118, 95, 110, 111, 95, 115, 104, 101, 108, 108]⟩, .slice (some ⟨g3, 0, none⟩) q q, .string path] 28) := ⟨_, rfl⟩
  have hbW7 : Below w6.heap.size w6 W7 := by rw [hW7]; exact (Below.refl _ _).alloc (Nat.le_refl _) _
  have C1 := hide (show W7.cell? ⟨w6.heap.size, 1, none⟩ = some (.slice (some ⟨g3, 0, none⟩) q q) by rw [hW7, World.cell?_alloc_at _ _ _ _ rfl]; rfl)
  replace V0 := hide (cell_later hbW7 V0.out)
  replace V1 := hide (cell_later hbW7 V1.out)
  replace V2 := hide (cell_later hbW7 V2.out)
  replace A1 := hide (cell_later hbW7 A1.out)
  have HI7 := hide (HI6.out.below hbW7)
  have HJ7 := hide (HJ6.out.below hbW7)
  have HM7 := hide (HM6.out.below hbW7)
  have HB7 := hide (HB6.out.trans (hbW7.mono HB6.out.size))
  have HR7 := hide (HR.out.below HB7.out)
  have HW7 := hide hW7
  clear hbW7 hW7 HI6 HJ6 HM6 HB6 HR
  have hv0 := V0.out
  have hv1 := V1.out
  have hv2 := V2.out
  have ha1 := A1.out
  have hc1 := C1.out
  rw [HW7.out] at hv0 hv1 hv2 ha1 hc1
  go_wp2
  rw [← HW7.out]
  rw [← HW7.out] at hv0 hv1 hv2 ha1 hc1
  clear hv0 hv1 hv2 ha1 hc1 V0 V2 HW7 hnil HA2 HF hk1
  go_loopw [11, 12] (fun i _ wr => ∃ j : Nat, j ≤ n ∧ i = .int .i64 j ∧ Below W7.heap.size W7 wr) (fun i _ _ => n - (intOf i).toNat)
  case atStart => exact ⟨0, Nat.zero_le _, rfl, Below.refl _ _⟩
  case round =>
    obtain ⟨j, hj, rfl, hbj⟩ := hrel
    have HBJ := hide hbj
    by_cases hltj : j < n
    · obtain ⟨b, off, rfl⟩ := HR7.out.addr (by omega)
      obtain ⟨r, hr⟩ := HR7.out.get j hltj
      obtain ⟨a', c', hk1, hnn⟩ := HKP.out.get j r hr
      obtain ⟨c0, c1', c2, c3, c4, c5, c6⟩ := (HR7.out.below hbj).at j r hr
      obtain ⟨d0, d1, d2, d3, d4, d5, d6⟩ := (HI7.out.below hbj).at j _ hk1
      simp only [Nat.zero_add] at d0 d1 d2 d3 d4 d5 d6
      have t1 := cell_later hbj V1.out
      have HS0 := hide ((HR7.out.below hbj).args j r hr)
      have HS1 := hide ((HI7.out.below hbj).args j _ hk1)
      simp only at HS1
      have HSZ := hide (HSM.out r (List.mem_of_getElem? hr))
      have hdr : Below W7.heap.size W7 wr.drew := hbj.drew
      have hltj' : (j : Int) < (n : Int) := by omega
      have HRJ := hide hr
      have HK1 := hide hk1
      clear hbj hr hk1
      go_wp2
      go_region_held3 (fun w' => w'.cell? ⟨w2.heap.size, 1, none⟩ = some (.slice (some ⟨g, 0, none⟩) n n) ∧ w'.cell? ⟨b, off + j * 7, none⟩ = some (.string r.t) ∧ w'.cell? ⟨b, off + j * 7 + 1, none⟩ = some (.string r.ph) ∧ w'.cell? ⟨b, off + j * 7 + 2, none⟩ = some (.string r.cmd) ∧ w'.cell? ⟨b, off + j * 7 + 3, none⟩ = some (.slice r.a r.xs.length r.c) ∧ w'.cell? ⟨b, off + j * 7 + 4, none⟩ = some (.int .i64 r.ec) ∧ w'.cell? ⟨b, off + j * 7 + 5, none⟩ = some (.int .i64 r.du) ∧ w'.cell? ⟨b, off + j * 7 + 6, none⟩ = some (.bool r.tm) ∧ w'.cell? ⟨g, j * 7, none⟩ = some (.string r.t) ∧ w'.cell? ⟨g, j * 7 + 1, none⟩ = some (.string r.ph) ∧ w'.cell? ⟨g, j * 7 + 2, none⟩ = some (.string (sh 120 r.cmd)) ∧ w'.cell? ⟨g, j * 7 + 3, none⟩ = some (.slice a' (bnd F r.xs).length c') ∧ w'.cell? ⟨g, j * 7 + 4, none⟩ = some (.int .i64 r.ec) ∧ w'.cell? ⟨g, j * 7 + 5, none⟩ = some (.int .i64 r.du) ∧ w'.cell? ⟨g, j * 7 + 6, none⟩ = some (.bool r.tm) ∧ Below W7.heap.size W7 w')
        (first | ((refine ⟨cell_later HB9.out ?_, cell_later HB9.out ?_, cell_later HB9.out ?_, cell_later HB9.out ?_, cell_later HB9.out ?_, cell_later HB9.out ?_, cell_later HB9.out ?_, cell_later HB9.out ?_, cell_later HB9.out ?_, cell_later HB9.out ?_, cell_later HB9.out ?_, cell_later HB9.out ?_, cell_later HB9.out ?_, cell_later HB9.out ?_, cell_later HB9.out ?_, hdr.trans (HB9.out.mono hdr.size)⟩ <;> assumption)) | go_keep)
        (first | (go_at_call 9; refine (keptok_any F r a' c' _ (by exact HS0.out) (by exact HS1.out) hnn HSZ.out.1 HSZ.out.2.1 HSZ.out.2.2).mono ?_; rintro e w9 ⟨rfl, hb9⟩; have HB9 := hide hb9; clear hb9))
      have hb9 : Below W7.heap.size W7 w9 := hdr.trans (HB9.out.mono hdr.size)
      clear HB9 hdr HS0 HS1 c0 c1' c2 c3 c4 c5 c6 d0 d1 d2 d3 d4 d5 d6 t1 HSZ
      obtain ⟨c0, c1', c2, c3, c4, c5, c6⟩ := (HR7.out.below hb9).at j r HRJ.out
      clear c0 c1' c2 c4 c5 c6
      obtain ⟨d0, d1, d2, d3, d4, d5, d6⟩ := (HI7.out.below hb9).at j _ HK1.out
      simp only [Nat.zero_add] at d0 d1 d2 d3 d4 d5 d6
      have HS1 := hide ((HI7.out.below hb9).args j _ HK1.out)
      simp only at HS1
      have t1 := cell_later hb9 V1.out
      have hdr : Below W7.heap.size W7 w9.drew := hb9.drew
      by_cases hjk : j < k
      · obtain ⟨a'', c'', hk2, hnn2⟩ := HKP2.out.get j r (by rw [List.getElem?_take, if_pos hjk]; exact HRJ.out)
        obtain ⟨e0, e1, e2, e3, e4, e5, e6⟩ := (HJ7.out.below hb9).at j _ hk2
        simp only [Nat.zero_add] at e0 e1 e2 e3 e4 e5 e6
        have HS2 := hide ((HJ7.out.below hb9).args j _ hk2)
        simp only at HS2
        have t2 := cell_later hb9 A1.out
        have HB9 := hide hb9
        clear hk2 hb9 HRJ HK1
        generalize sh 120 r.cmd = cm at *
        generalize bnd F r.xs = y at *
        go_wp2
        go_region_held3 (fun w' => w'.cell? ⟨w2.heap.size, 1, none⟩ = some (.slice (some ⟨g, 0, none⟩) n n) ∧ w'.cell? ⟨w4.heap.size, 1, none⟩ = some (.slice (some ⟨g2, 0, none⟩) k k) ∧ w'.cell? ⟨g, j * 7, none⟩ = some (.string r.t) ∧ w'.cell? ⟨g, j * 7 + 1, none⟩ = some (.string r.ph) ∧ w'.cell? ⟨g, j * 7 + 2, none⟩ = some (.string cm) ∧ w'.cell? ⟨g, j * 7 + 3, none⟩ = some (.slice a' y.length c') ∧ w'.cell? ⟨g, j * 7 + 4, none⟩ = some (.int .i64 r.ec) ∧ w'.cell? ⟨g, j * 7 + 5, none⟩ = some (.int .i64 r.du) ∧ w'.cell? ⟨g, j * 7 + 6, none⟩ = some (.bool r.tm) ∧ w'.cell? ⟨g2, j * 7, none⟩ = some (.string r.t) ∧ w'.cell? ⟨g2, j * 7 + 1, none⟩ = some (.string r.ph) ∧ w'.cell? ⟨g2, j * 7 + 2, none⟩ = some (.string cm) ∧ w'.cell? ⟨g2, j * 7 + 3, none⟩ = some (.slice a'' y.length c'') ∧ w'.cell? ⟨g2, j * 7 + 4, none⟩ = some (.int .i64 r.ec) ∧ w'.cell? ⟨g2, j * 7 + 5, none⟩ = some (.int .i64 r.du) ∧ w'.cell? ⟨g2, j * 7 + 6, none⟩ = some (.bool r.tm) ∧ Below W7.heap.size W7 w')
          (first | ((refine ⟨cell_later HB10.out ?_, cell_later HB10.out ?_, cell_later HB10.out ?_, cell_later HB10.out ?_, cell_later HB10.out ?_, cell_later HB10.out ?_, cell_later HB10.out ?_, cell_later HB10.out ?_, cell_later HB10.out ?_, cell_later HB10.out ?_, cell_later HB10.out ?_, cell_later HB10.out ?_, cell_later HB10.out ?_, cell_later HB10.out ?_, cell_later HB10.out ?_, cell_later HB10.out ?_, hdr.trans (HB10.out.mono hdr.size)⟩ <;> assumption)) | go_keep)
          (first | (go_at_call 10; refine (same_any ⟨r.t, r.ph, cm, a', c', y, r.ec, r.du, r.tm⟩ a'' c'' y _ _ (by exact HS1.out) (by exact HS2.out) rfl (by rw [hnn2, hnn]) (fun _ _ => Or.inr rfl)).mono ?_; rintro e w10 ⟨rfl, hb10⟩; have HB10 := hide hb10; clear hb10))
        go_wp2
        go_roundw
        case rel => exact ⟨j + 1, by omega, by go_num, hdr.trans (HB10.out.mono hdr.size)⟩
        case measure => simp [intOf]; omega
      · obtain ⟨i, hi⟩ : ∃ i, i = j - k := ⟨_, rfl⟩
        obtain ⟨a'', c'', hk2, hnn2⟩ := HKP3.out.get i r (by rw [List.getElem?_drop, hi, show k + (j - k) = j by omega]; exact HRJ.out)
        obtain ⟨e0, e1, e2, e3, e4, e5, e6⟩ := (HM7.out.below hb9).at i _ hk2
        simp only [Nat.zero_add] at e0 e1 e2 e3 e4 e5 e6
        have HS2 := hide ((HM7.out.below hb9).args i _ hk2)
        simp only at HS2
        have t2 := cell_later hb9 C1.out
        have HB9 := hide hb9
        have hii : (j : Int) - (k : Int) = (i : Int) := by omega
        have hwr : IntKind.i64.wrap (i : Int) = (i : Int) := by unfold IntKind.wrap; simp [IntKind.bits, IntKind.signed]; omega
        have hiq : i < q := by have := HQ.out; omega
        have hiq' : (i : Int) < (q : Int) := by omega
        have hjk' : decide (j < k) = false := decide_eq_false hjk
        clear hk2 hb9 HRJ HK1 hi hjk
        generalize sh 120 r.cmd = cm at *
        generalize bnd F r.xs = y at *
        go_wp2
        go_region_held3 (fun w' => w'.cell? ⟨w2.heap.size, 1, none⟩ = some (.slice (some ⟨g, 0, none⟩) n n) ∧ w'.cell? ⟨w6.heap.size, 1, none⟩ = some (.slice (some ⟨g3, 0, none⟩) q q) ∧ w'.cell? ⟨g, j * 7, none⟩ = some (.string r.t) ∧ w'.cell? ⟨g, j * 7 + 1, none⟩ = some (.string r.ph) ∧ w'.cell? ⟨g, j * 7 + 2, none⟩ = some (.string cm) ∧ w'.cell? ⟨g, j * 7 + 3, none⟩ = some (.slice a' y.length c') ∧ w'.cell? ⟨g, j * 7 + 4, none⟩ = some (.int .i64 r.ec) ∧ w'.cell? ⟨g, j * 7 + 5, none⟩ = some (.int .i64 r.du) ∧ w'.cell? ⟨g, j * 7 + 6, none⟩ = some (.bool r.tm) ∧ w'.cell? ⟨g3, i * 7, none⟩ = some (.string r.t) ∧ w'.cell? ⟨g3, i * 7 + 1, none⟩ = some (.string r.ph) ∧ w'.cell? ⟨g3, i * 7 + 2, none⟩ = some (.string cm) ∧ w'.cell? ⟨g3, i * 7 + 3, none⟩ = some (.slice a'' y.length c'') ∧ w'.cell? ⟨g3, i * 7 + 4, none⟩ = some (.int .i64 r.ec) ∧ w'.cell? ⟨g3, i * 7 + 5, none⟩ = some (.int .i64 r.du) ∧ w'.cell? ⟨g3, i * 7 + 6, none⟩ = some (.bool r.tm) ∧ Below W7.heap.size W7 w')
          (first | ((refine ⟨cell_later HB10.out ?_, cell_later HB10.out ?_, cell_later HB10.out ?_, cell_later HB10.out ?_, cell_later HB10.out ?_, cell_later HB10.out ?_, cell_later HB10.out ?_, cell_later HB10.out ?_, cell_later HB10.out ?_, cell_later HB10.out ?_, cell_later HB10.out ?_, cell_later HB10.out ?_, cell_later HB10.out ?_, cell_later HB10.out ?_, cell_later HB10.out ?_, cell_later HB10.out ?_, hdr.trans (HB10.out.mono hdr.size)⟩ <;> assumption)) | go_keep)
          (first | (go_at_call 10; refine (same_any ⟨r.t, r.ph, cm, a', c', y, r.ec, r.du, r.tm⟩ a'' c'' y _ _ (by exact HS1.out) (by exact HS2.out) rfl (by rw [hnn2, hnn]) (fun _ _ => Or.inr rfl)).mono ?_; rintro e w10 ⟨rfl, hb10⟩; have HB10 := hide hb10; clear hb10))
        go_wp2
        go_roundw
        case rel => exact ⟨j + 1, by omega, by go_num, hdr.trans (HB10.out.mono hdr.size)⟩
        case measure => simp [intOf]; omega
    · go_wp2
      go_ret
      exact ⟨rfl, HB7.out.trans (HBJ.out.mono HB7.out.size)⟩
end Go.Proofs.Qxb6628411aFmt
