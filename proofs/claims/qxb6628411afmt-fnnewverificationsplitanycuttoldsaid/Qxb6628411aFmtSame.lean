import Derived.Test.Qxb6628411aFmtVerif
namespace Go.Proofs.Qxb6628411aFmt
open Go.RowKit Go.Joins Go.Extern.Stop Go.Stop Go.Extern

set_option maxRecDepth 100000 in
set_option maxHeartbeats 2000000 in
theorem same_any (x : Rn) (a2 : Option Addr) (c2 : Nat) (ys : List ByteArray) (skip : Bool) (w : World) (hx : StrRow w x.a x.c x.xs) (hy : StrRow w a2 c2 ys) (hl : ys.length = x.xs.length) (hnn : x.a.isNone = a2.isNone)
    (heq : ∀ j, j < x.xs.length → (skip = true ∧ j + 1 = x.xs.length) ∨ x.xs[j]? = ys[j]?) :
    Calls Tryf.prog 10 #[.agg #[.string x.t, .string x.ph, .string x.cmd, .slice x.a x.xs.length x.c, .int .i64 x.ec, .int .i64 x.du, .bool x.tm],
      .agg #[.string x.t, .string x.ph, .string x.cmd, .slice a2 x.xs.length c2, .int .i64 x.ec, .int .i64 x.du, .bool x.tm], .bool skip] w fun e w' => e = .returned (.bool true) ∧ Below w.heap.size w w' := by
  have hxl : x.xs.length ≤ 9223372036854775807 := by have := hx.1; have := hx.2.1; unfold maxLen at this; omega
  obtain ⟨n, hn⟩ : ∃ n, n = x.xs.length := ⟨_, rfl⟩
  rw [← hn] at hxl ⊢
  have HN := hide hn
  obtain ⟨W2, hW2⟩ : ∃ W2, W2 = (w.alloc (.cells #[.string x.t, .string x.ph, .string x.cmd, .slice x.a n x.c, .int .i64 x.ec, .int .i64 x.du, .bool x.tm] 35)).alloc (.cells #[.string x.t, .string x.ph, .string x.cmd, .slice a2 n c2, .int .i64 x.ec, .int .i64 x.du, .bool x.tm] 35) := ⟨_, rfl⟩
  have hb : Below w.heap.size w W2 := by rw [hW2]; exact ((Below.refl _ _).alloc (Nat.le_refl _) _).alloc (by simp) _
  have p3 : W2.cell? ⟨w.heap.size, 3, none⟩ = some (.slice x.a n x.c) := by rw [hW2, World.cell?_alloc_past _ _ _ (by simp), World.cell?_alloc_at _ _ _ _ rfl]; rfl
  have r3 : W2.cell? ⟨w.heap.size + 1, 3, none⟩ = some (.slice a2 n c2) := by rw [hW2, World.cell?_alloc_at _ _ _ _ (by simp)]; rfl
  have HX := hide (hx.below hb)
  have HY := hide (hy.below hb)
  have HL := hide hl
  have HQ := hide heq
  have HB := hide hb
  have HW2 := hide hW2
  have P3 := hide p3
  have R3 := hide r3
  have hnil := fun (w : World) (a : Option Addr) (n c : Nat) => Lib.run_eql_slice_nil (P := Tryf.prog) w 31 9 a n c 0 0 Tryf.underlying31
  clear hn hx hy hl heq hb hW2 p3 r3
  go_enter Tryf.func10, Tryf.ntmps10
  go_wp2
  rw [← HW2.out]
  go_loopw [7] (fun i wr => ∃ k q : Nat, k ≤ n ∧ i = .int .i64 k ∧ wr = W2.drewN q) (fun i _ => n - (intOf i).toNat)
  case atStart => exact ⟨0, 0, Nat.zero_le _, rfl, rfl⟩
  case round =>
    obtain ⟨k, q, hk, rfl, rfl⟩ := hrel
    have p3 := P3.out
    have r3 := R3.out
    by_cases hlt : k < n
    · obtain ⟨ab, aoff, hab⟩ := HX.out.addr (by rw [← HN.out]; omega)
      obtain ⟨bb, boff, hbb⟩ := HY.out.addr (by rw [HL.out, ← HN.out]; omega)
      by_cases hsk : skip = true ∧ k + 1 = n
      · obtain ⟨rfl, hk1⟩ := hsk
        have hke : ((k : Int) == (n : Int) - 1) = true := by rw [beq_iff_eq]; omega
        clear hab hbb
        go_wp2
        go_roundw
        case rel => exact ⟨k + 1, q, by omega, by go_num, rfl⟩
        case measure => simp [intOf]; omega
      · have hxy : x.xs[k]? = ys[k]? := by
          rcases HQ.out k (by rw [← HN.out]; exact hlt) with h | h
          · exact absurd ⟨h.1, by rw [HN.out]; exact h.2⟩ hsk
          · exact h
        obtain ⟨s, hs⟩ : ∃ s, x.xs[k]? = some s := ⟨x.xs[k]'(by rw [← HN.out]; exact hlt), List.getElem?_eq_getElem _⟩
        have e0 := (show StrRow W2 (some ⟨ab, aoff, none⟩) x.c x.xs by rw [← hab]; exact HX.out).at k s hs
        have e1 := (show StrRow W2 (some ⟨bb, boff, none⟩) c2 ys by rw [← hbb]; exact HY.out).at k s (by rw [← hxy]; exact hs)
        rw [hab] at p3
        rw [hbb] at r3
        have hlt' : (k : Int) < (n : Int) := by omega
        cases skip
        · clear hab hbb hxy hs hsk
          go_wp2
          go_quiet (fail)
          go_wp2
          go_roundw
          case rel => exact ⟨k + 1, _, by omega, by go_num, rfl⟩
          case measure => simp [intOf]; omega
        · have hke : ((k : Int) == (n : Int) - 1) = false := by rw [beq_eq_false_iff_ne]; intro e; exact hsk ⟨rfl, by omega⟩
          clear hab hbb hxy hs hsk
          go_wp2
          go_quiet (fail)
          go_wp2
          go_roundw
          case rel => exact ⟨k + 1, _, by omega, by go_num, rfl⟩
          case measure => simp [intOf]; omega
    · go_wp2
      go_ret
      exact ⟨rfl, HB.out.trans (below_draws _ _ _)⟩
end Go.Proofs.Qxb6628411aFmt
