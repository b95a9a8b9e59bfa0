import Derived.Test.Qxb6628411aFmtGuard
namespace Go.Proofs.Qxb6628411aFmt
open Go.RowKit Go.Joins Go.Extern.Stop Go.Stop Go.Extern

set_option maxRecDepth 100000 in
set_option maxHeartbeats 2000000 in
theorem bytes5_any (a : Option Addr) (n c : Nat) (rs : List Rn) (path : ByteArray) (z : Int) (w : World) (h : InRuns w a n c rs) :
    Calls Tryf.prog 5 #[.slice a n c, .string path, .int .i64 z] w fun e w' => BytesOk e rs n ∧ w' = w := by
  have hn : n ≤ maxLen := Nat.le_trans h.2.1 h.2.2.1
  unfold maxLen at hn
  have HR := hide h
  clear h
  by_cases hz : (1048576 : Int) < (n : Int)
  · go_enter Tryf.func5, Tryf.ntmps5
    go_wp2
    go_ret
    exact ⟨⟨_, rfl, fun h => by cases h⟩, rfl⟩
  have hn1 : n ≤ 1048576 := by omega
  go_enter Tryf.func5, Tryf.ntmps5
  go_wp2
  go_loop [7, 8] (fun t i => ∃ (k : Nat) (y : Int), k ≤ n ∧ i = .int .i64 k ∧ t = .int .i64 y ∧ Small (rs.take k)) (fun _ i => n - (intOf i).toNat)
  case atStart => exact ⟨0, _, Nat.zero_le _, rfl, rfl, small_zero _⟩
  case round =>
    obtain ⟨k, y, hk, rfl, rfl, hsm⟩ := hrel
    have HSM := hide hsm
    clear hsm
    by_cases hlt : k < n
    · obtain ⟨b, off, rfl⟩ := HR.out.addr (by omega)
      obtain ⟨x, hx⟩ := HR.out.get k hlt
      obtain ⟨c0, c1, c2, c3, c4, c5, c6⟩ := HR.out.at k x hx
      have HX := hide hx
      have HA := hide (HR.out.args k x hx)
      have hxl : x.xs.length ≤ 9223372036854775807 := by have := HA.out.1; have := HA.out.2.1; unfold maxLen at this; omega
      clear hx
      go_wp2
      all_goals first
        | (go_ret
           exact ⟨⟨_, rfl, fun h => by cases h⟩, rfl⟩)
        | skip
      go_loop [7, 9] (fun t i => ∃ (k : Nat) (y : Int), k ≤ x.xs.length ∧ i = .int .i64 k ∧ t = .int .i64 y ∧ ∀ s ∈ x.xs.take k, s.size ≤ 1048576) (fun _ i => x.xs.length - (intOf i).toNat)
      case atStart => exact ⟨0, _, Nat.zero_le _, rfl, rfl, by intro s hs; simp at hs⟩
      case round =>
        obtain ⟨m, y2, hm, rfl, rfl, hst⟩ := hrel
        have HST := hide hst
        clear hst
        by_cases hlt2 : m < x.xs.length
        · obtain ⟨ab, aoff, hab⟩ := HA.out.addr (by omega)
          have hs : x.xs[m]? = some x.xs[m] := List.getElem?_eq_getElem hlt2
          have HA2 := hide (show StrRow w (some ⟨ab, aoff, none⟩) x.c x.xs by rw [← hab]; exact HA.out)
          have e0 := HA2.out.at m _ hs
          rw [hab] at c3
          have HS := hide hs
          clear hab hs
          generalize x.xs[m] = s at *
          go_wp2
          all_goals first
            | (go_ret
               exact ⟨⟨_, rfl, fun h => by cases h⟩, rfl⟩)
            | (go_round
               case rel => exact ⟨m + 1, _, by omega, by go_num, rfl, strs_succ HST.out HS.out (by omega)⟩
               case measure => simp [intOf]; omega)
        · go_wp2
          go_round
          case rel => exact ⟨k + 1, _, by omega, by go_num, rfl, small_succ HSM.out HX.out (by omega) (by omega) (by rw [List.take_of_length_le (by omega)] at HST; exact HST.out)⟩
          case measure => simp [intOf]; omega
    · have HT := hide (show Small rs by have := HSM.out; rw [List.take_of_length_le (by rw [HR.out.1]; omega)] at this; exact this)
      go_wp2
      all_goals
        go_ret
        exact ⟨⟨_, rfl, fun _ => ⟨hn1, HT.out⟩⟩, rfl⟩
end Go.Proofs.Qxb6628411aFmt
