import Derived.Test.Qxb6628411aFmtVerif
namespace Go.Proofs.Qxb6628411aFmt
open Go.RowKit Go.Joins Go.Extern.Stop Go.Stop Go.Extern

/-- it answers yes or no -/
def AnyBool (e : Ending) : Prop := ∃ b : Bool, e = .returned (.bool b)
set_option maxRecDepth 100000 in
set_option maxHeartbeats 2000000 in
theorem within_any (a : Option Addr) (n c : Nat) (rs : List Rn) (path : ByteArray) (w : World) (h : InRuns w a n c rs) :
    Calls Tryf.prog 6 #[.slice a n c, .string path] w fun e w' => AnyBool e ∧ w' = w := by
  have hn : n ≤ maxLen := Nat.le_trans h.2.1 h.2.2.1
  unfold maxLen at hn
  have HR := hide h
  clear h
  go_enter Tryf.func6, Tryf.ntmps6
  go_wp2
  all_goals first
    | (go_ret
       exact ⟨⟨_, rfl⟩, rfl⟩)
    | skip
  go_loop [5, 6] (fun t i => ∃ (k : Nat) (y : Int), k ≤ n ∧ i = .int .i64 k ∧ t = .int .i64 y) (fun _ i => n - (intOf i).toNat)
  case atStart => exact ⟨0, _, Nat.zero_le _, rfl, rfl⟩
  case round =>
    obtain ⟨k, y, hk, rfl, rfl⟩ := hrel
    by_cases hlt : k < n
    · obtain ⟨b, off, rfl⟩ := HR.out.addr (by omega)
      obtain ⟨x, hx⟩ := HR.out.get k hlt
      obtain ⟨c0, c1, c2, c3, c4, c5, c6⟩ := HR.out.at k x hx
      have HA := hide (HR.out.args k x hx)
      have hxl : x.xs.length ≤ 9223372036854775807 := by have := HA.out.1; have := HA.out.2.1; unfold maxLen at this; omega
      clear hx
      go_wp2
      all_goals first
        | (go_ret
           exact ⟨⟨_, rfl⟩, rfl⟩)
        | skip
      go_loop [5, 7] (fun t i => ∃ (k : Nat) (y : Int), k ≤ x.xs.length ∧ i = .int .i64 k ∧ t = .int .i64 y) (fun _ i => x.xs.length - (intOf i).toNat)
      case atStart => exact ⟨0, _, Nat.zero_le _, rfl, rfl⟩
      case round =>
        obtain ⟨m, y2, hm, rfl, rfl⟩ := hrel
        by_cases hlt2 : m < x.xs.length
        · obtain ⟨ab, aoff, hab⟩ := HA.out.addr (by omega)
          have hs : x.xs[m]? = some x.xs[m] := List.getElem?_eq_getElem hlt2
          have HA2 := hide (show StrRow w (some ⟨ab, aoff, none⟩) x.c x.xs by rw [← hab]; exact HA.out)
          have e0 := HA2.out.at m _ hs
          rw [hab] at c3
          clear hab hs
          generalize x.xs[m] = s at *
          go_wp2
          all_goals first
            | (go_ret
               exact ⟨⟨_, rfl⟩, rfl⟩)
            | (go_round
               case rel => exact ⟨m + 1, _, by omega, by go_num, rfl⟩
               case measure => simp [intOf]; omega)
        · go_wp2
          go_round
          case rel => exact ⟨k + 1, _, by omega, by go_num, rfl⟩
          case measure => simp [intOf]; omega
    · go_wp2
      go_ret
      exact ⟨⟨_, rfl⟩, rfl⟩
end Go.Proofs.Qxb6628411aFmt
