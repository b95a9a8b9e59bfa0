import Derived.Test.Qxb6628411aFmtKeep
import Derived.Test.Qxb6628411aFmtShort
import Derived.Deep.RegionHeld3
namespace Go.Proofs.Qxb6628411aFmt
open Go.RowKit Go.Joins Go.Extern.Stop Go.Stop Go.Extern

set_option maxRecDepth 100000 in
set_option maxHeartbeats 4000000 in
theorem keptok_any (F : Interp) (x : Rn) (a2 : Option Addr) (c2 : Nat) (w : World) (hx : StrRow w x.a x.c x.xs) (hy : StrRow w a2 c2 (bnd F x.xs)) (hnn : a2.isNone = false)
    (hcm : x.cmd.size ≤ 1048576) (hxs : x.xs.length ≤ 1048576) (hsm : ∀ s ∈ x.xs, s.size ≤ 1048576) :
    Calls Tryf.prog 9 #[.agg #[.string x.t, .string x.ph, .string x.cmd, .slice x.a x.xs.length x.c, .int .i64 x.ec, .int .i64 x.du, .bool x.tm],
      .agg #[.string x.t, .string x.ph, .string (sh 120 x.cmd), .slice a2 (bnd F x.xs).length c2, .int .i64 x.ec, .int .i64 x.du, .bool x.tm]] w fun e w' => e = .returned (.bool true) ∧ Below w.heap.size w w' := by
  obtain ⟨n, hn⟩ : ∃ n, n = x.xs.length := ⟨_, rfl⟩
  obtain ⟨L, hL⟩ : ∃ L, L = (bnd F x.xs).length := ⟨_, rfl⟩
  rw [← hn] at hxs ⊢
  rw [← hL]
  have HN := hide hn
  have HL := hide hL
  obtain ⟨W2, hW2⟩ : ∃ W2, W2 = (w.alloc (.cells #[.string x.t, .string x.ph, .string x.cmd, .slice x.a n x.c, .int .i64 x.ec, .int .i64 x.du, .bool x.tm] 33)).alloc (.cells #[.string x.t, .string x.ph, .string (sh 120 x.cmd), .slice a2 L c2, .int .i64 x.ec, .int .i64 x.du, .bool x.tm] 35) := ⟨_, rfl⟩
  have hb : Below w.heap.size w W2 := by rw [hW2]; exact ((Below.refl _ _).alloc (Nat.le_refl _) _).alloc (by simp) _
  have q0 : W2.cell? ⟨w.heap.size, 0, none⟩ = some (.string x.t) := by rw [hW2, World.cell?_alloc_past _ _ _ (by simp), World.cell?_alloc_at _ _ _ _ rfl]; rfl
  have q1 : W2.cell? ⟨w.heap.size, 1, none⟩ = some (.string x.ph) := by rw [hW2, World.cell?_alloc_past _ _ _ (by simp), World.cell?_alloc_at _ _ _ _ rfl]; rfl
  have q2 : W2.cell? ⟨w.heap.size, 2, none⟩ = some (.string x.cmd) := by rw [hW2, World.cell?_alloc_past _ _ _ (by simp), World.cell?_alloc_at _ _ _ _ rfl]; rfl
  have q3 : W2.cell? ⟨w.heap.size, 3, none⟩ = some (.slice x.a n x.c) := by rw [hW2, World.cell?_alloc_past _ _ _ (by simp), World.cell?_alloc_at _ _ _ _ rfl]; rfl
  have r2 : W2.cell? ⟨w.heap.size + 1, 2, none⟩ = some (.string (sh 120 x.cmd)) := by rw [hW2, World.cell?_alloc_at _ _ _ _ (by simp)]; rfl
  have r3 : W2.cell? ⟨w.heap.size + 1, 3, none⟩ = some (.slice a2 L c2) := by rw [hW2, World.cell?_alloc_at _ _ _ _ (by simp)]; rfl
  have hsz2 : W2.heap.size = w.heap.size + 2 := by rw [hW2]; simp
  have HX := hide (hx.below hb)
  have HY := hide (hy.below hb)
  have HB := hide hb
  have HW2 := hide hW2
  have HSM := hide hsm
  have HZ := hide hsz2
  have Q2 := hide q2
  have Q3 := hide q3
  have R2 := hide r2
  have R3 := hide r3
  have hnil := fun (w : World) (a : Option Addr) (n c : Nat) => Lib.run_eql_slice_nil (P := Tryf.prog) w 31 9 a n c 0 0 Tryf.underlying31
  clear hn hL hx hy hb hW2 q0 q1 q2 q3 r2 r3 hsz2 hsm
  go_enter Tryf.func9, Tryf.ntmps9
  go_wp2
  rw [← HW2.out]
  have p2 := Q2.out
  have p3 := Q3.out
  have s2 := R2.out
  have s3 := R3.out
  have hdr : Below w.heap.size w W2.drew := HB.out.drew
  generalize hcc : sh 120 x.cmd = cm at *
  go_region_held3 (fun w' => w'.cell? ⟨w.heap.size, 2, none⟩ = some (.string x.cmd) ∧ w'.cell? ⟨w.heap.size, 3, none⟩ = some (.slice x.a n x.c) ∧ w'.cell? ⟨w.heap.size + 1, 2, none⟩ = some (.string cm) ∧ w'.cell? ⟨w.heap.size + 1, 3, none⟩ = some (.slice a2 L c2) ∧ Below w.heap.size w w')
    (first | ((refine ⟨cell_later HB9.out ?_, cell_later HB9.out ?_, cell_later HB9.out ?_, cell_later HB9.out ?_, hdr.trans (HB9.out.mono hdr.size)⟩ <;> assumption)) | go_keep)
    (first | (go_at_call 15; refine (short15_any x.cmd 120 _ hcm (by omega) (by omega)).mono ?_; rw [hcc]; rintro e w9 ⟨rfl, hb9⟩; have HB9 := hide hb9; clear hb9))
  have hB29 : Below W2.heap.size W2 w9 := ((Below.refl _ _).drew).trans HB9.out
  have HT9 := hide (HB.out.trans (hB29.mono HB.out.size))
  replace HX := hide (HX.out.below hB29)
  replace HY := hide (HY.out.below hB29)
  replace Q3 := hide (cell_later hB29 Q3.out)
  replace R3 := hide (cell_later hB29 R3.out)
  clear hB29 HB9 hcc hdr p2 p3 s2 s3 Q2 R2
  have p3 := Q3.out
  have s3 := R3.out
  by_cases h40 : 40 < n
  · have hL40 : L = 40 := by rw [HL.out]; exact bnd_length_gt F _ (by rw [← HN.out]; exact h40)
    have h40' : (40 : Int) < (n : Int) := by omega
    subst hL40
    go_wp2
    go_loopw [7] (fun i wr => ∃ j : Nat, j ≤ 39 ∧ i = .int .i64 j ∧ Below w9.heap.size w9 wr) (fun i _ => 39 - (intOf i).toNat)
    case atStart => exact ⟨0, Nat.zero_le _, rfl, Below.refl _ _⟩
    case round =>
      obtain ⟨j, hj, rfl, hbj⟩ := hrel
      have HBJ := hide hbj
      by_cases hltj : j < 39
      · obtain ⟨s, hs1, hs2⟩ := bnd_at F x.xs j (by rw [← HL.out]; omega) (by rw [← HN.out]; omega)
        obtain ⟨ab, aoff, hab⟩ := HX.out.addr (by rw [← HN.out]; omega)
        obtain ⟨bb, boff, hbb⟩ := HY.out.addr (by rw [← HL.out]; omega)
        have e0 := ((show StrRow w9 (some ⟨ab, aoff, none⟩) x.c x.xs by rw [← hab]; exact HX.out).below hbj).at j s hs1
        have e1 := ((show StrRow w9 (some ⟨bb, boff, none⟩) c2 (bnd F x.xs) by rw [← hbb]; exact HY.out).below hbj).at j _ hs2
        have hss : s.size ≤ 1048576 := HSM.out s (List.mem_of_getElem? hs1)
        have u3 := cell_later hbj Q3.out
        have v3 := cell_later hbj R3.out
        rw [hab] at u3
        rw [hbb] at v3
        have hdr9 : Below w9.heap.size w9 wr.drew := hbj.drew
        have hltj' : (j : Int) < (39 : Int) := by omega
        have hjn : j < n := by omega
        have hj40 : (j : Int) < 40 := by omega
        clear hs1 hs2 hab hbb hbj
        generalize hcc : sh 200 s = ss at *
        go_wp2
        go_region_held3 (fun w' => w'.cell? ⟨w.heap.size, 3, none⟩ = some (.slice (some ⟨ab, aoff, none⟩) n x.c) ∧ w'.cell? ⟨w.heap.size + 1, 3, none⟩ = some (.slice (some ⟨bb, boff, none⟩) 40 c2) ∧ w'.cell? ⟨ab, aoff + j, none⟩ = some (.string s) ∧ w'.cell? ⟨bb, boff + j, none⟩ = some (.string ss) ∧ Below w9.heap.size w9 w')
          (first | ((refine ⟨cell_later HB10.out ?_, cell_later HB10.out ?_, cell_later HB10.out ?_, cell_later HB10.out ?_, hdr9.trans (HB10.out.mono hdr9.size)⟩ <;> assumption)) | go_keep)
          (first | (go_at_call 15; refine (short15_any s 200 _ hss (by omega) (by omega)).mono ?_; rw [hcc]; rintro e w10 ⟨rfl, hb10⟩; have HB10 := hide hb10; clear hb10))
        go_wp2
        go_roundw
        case rel => exact ⟨j + 1, by omega, by go_num, hdr9.trans (HB10.out.mono hdr9.size)⟩
        case measure => simp [intOf]; omega
      · obtain rfl : j = 39 := by omega
        go_wp2
        go_ret
        exact ⟨rfl, HT9.out.trans (HBJ.out.mono HT9.out.size)⟩
  · have hLn : L = n := by rw [HL.out, HN.out]; exact bnd_length_le F _ (by have := HN.out; omega)
    have h40' : decide ((40 : Int) < (n : Int)) = false := decide_eq_false (by omega)
    subst hLn
    go_wp2
    go_loopw [7] (fun i wr => ∃ j : Nat, j ≤ L ∧ i = .int .i64 j ∧ Below w9.heap.size w9 wr) (fun i _ => L - (intOf i).toNat)
    case atStart => exact ⟨0, Nat.zero_le _, rfl, Below.refl _ _⟩
    case round =>
      obtain ⟨j, hj, rfl, hbj⟩ := hrel
      have HBJ := hide hbj
      by_cases hltj : j < L
      · obtain ⟨s, hs1, hs2⟩ := bnd_at F x.xs j (by have := HL.out; omega) (by have := HN.out; omega)
        obtain ⟨ab, aoff, hab⟩ := HX.out.addr (by have := HN.out; omega)
        obtain ⟨bb, boff, hbb⟩ := HY.out.addr (by have := HL.out; omega)
        have e0 := ((show StrRow w9 (some ⟨ab, aoff, none⟩) x.c x.xs by rw [← hab]; exact HX.out).below hbj).at j s hs1
        have e1 := ((show StrRow w9 (some ⟨bb, boff, none⟩) c2 (bnd F x.xs) by rw [← hbb]; exact HY.out).below hbj).at j _ hs2
        have hss : s.size ≤ 1048576 := HSM.out s (List.mem_of_getElem? hs1)
        have u3 := cell_later hbj Q3.out
        have v3 := cell_later hbj R3.out
        rw [hab] at u3
        rw [hbb] at v3
        have hdr9 : Below w9.heap.size w9 wr.drew := hbj.drew
        have hltj' : (j : Int) < (L : Int) := by omega
        clear hs1 hs2 hab hbb hbj
        generalize hcc : sh 200 s = ss at *
        go_wp2
        go_region_held3 (fun w' => w'.cell? ⟨w.heap.size, 3, none⟩ = some (.slice (some ⟨ab, aoff, none⟩) L x.c) ∧ w'.cell? ⟨w.heap.size + 1, 3, none⟩ = some (.slice (some ⟨bb, boff, none⟩) L c2) ∧ w'.cell? ⟨ab, aoff + j, none⟩ = some (.string s) ∧ w'.cell? ⟨bb, boff + j, none⟩ = some (.string ss) ∧ Below w9.heap.size w9 w')
          (first | ((refine ⟨cell_later HB10.out ?_, cell_later HB10.out ?_, cell_later HB10.out ?_, cell_later HB10.out ?_, hdr9.trans (HB10.out.mono hdr9.size)⟩ <;> assumption)) | go_keep)
          (first | (go_at_call 15; refine (short15_any s 200 _ hss (by omega) (by omega)).mono ?_; rw [hcc]; rintro e w10 ⟨rfl, hb10⟩; have HB10 := hide hb10; clear hb10))
        go_wp2
        go_roundw
        case rel => exact ⟨j + 1, by omega, by go_num, hdr9.trans (HB10.out.mono hdr9.size)⟩
        case measure => simp [intOf]; omega
      · obtain rfl : j = L := by omega
        go_wp2
        go_ret
        exact ⟨rfl, HT9.out.trans (HBJ.out.mono HT9.out.size)⟩
end Go.Proofs.Qxb6628411aFmt
