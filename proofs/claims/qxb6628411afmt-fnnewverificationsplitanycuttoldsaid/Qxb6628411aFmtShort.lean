import Derived.Test.Qxb6628411aFmtData
namespace Go.Proofs.Qxb6628411aFmt
open Go.RowKit Go.Joins
open Go.Lib (decodeL decodeL_width decodeL_le strCells strCells_length)

/-- bytes as cells -/
def bc (l : List UInt8) : List Value := l.map fun b => Value.int .u8 b.toNat
theorem bc_append (a b : List UInt8) : bc (a ++ b) = bc a ++ bc b := by simp [bc]
theorem bc_length (a : List UInt8) : (bc a).length = a.length := by simp [bc]
theorem Tryf.info5 : (Tryf.prog.info? 5).map (fun i => (i.zero, i.size, i.bytes)) = some (some (.int .u8 0), 1, 1) := by kernel_rfl
/-- the first k runes' bytes -/
def hd (s : ByteArray) (k : Nat) : List UInt8 := encs ((runes s.data.toList).take k)
theorem hd_size (s : ByteArray) (k : Nat) : (hd s k).length ≤ 4 * k := by
  have h := runesBytes_size_le (((runes s.data.toList).take k).map (fun r : Nat => (r : Int)))
  have e := runesBytes_enc ((runes s.data.toList).take k)
  have e2 := congrArg List.length e
  rw [Array.length_toList] at e2
  rw [List.length_map, List.length_take] at h
  unfold hd
  rw [← e2]
  have e3 : ∀ b : ByteArray, b.data.size = b.size := fun _ => rfl
  rw [e3]
  omega
theorem hd_succ (s : ByteArray) (k p : Nat) (hp : p < s.size) (hr : runes (s.data.toList.drop p) = (runes s.data.toList).drop k) :
    hd s (k + 1) = hd s k ++ enc (decodeL (s.data.toList.drop p)).1 ∧ runes (s.data.toList.drop (p + dw s p)) = (runes s.data.toList).drop (k + 1) := by
  have h := runes_at s p hp
  rw [hr] at h
  have hk : k < (runes s.data.toList).length := by
    have := congrArg List.length h
    rw [List.length_drop, List.length_cons] at this
    omega
  rw [List.drop_eq_getElem_cons hk] at h
  injection h with h1 h2
  refine ⟨?_, h2.symm⟩
  unfold hd
  rw [List.take_succ_eq_append_getElem hk, h1]
  simp [encs]
theorem enc_ok (s : ByteArray) (p : Nat) (hp : p < s.size) (h : dok s p = true) : enc (decodeL (s.data.toList.drop p)).1 = (s.data.toList.drop p).take (dw s p) := by
  rw [enc_eq]
  refine Lib.encode_decode _ (drop_ne s p hp) ?_
  intro ⟨h1, h2⟩
  unfold dok okL at h
  have := of_decide_eq_true h
  exact this (by rw [← h1, ← h2])
theorem enc_bad (s : ByteArray) (p : Nat) (h : dok s p = false) : enc (decodeL (s.data.toList.drop p)).1 = [239, 191, 189] := by
  unfold dok okL at h
  have h' := of_decide_eq_false h
  rw [Classical.not_not.1 h']
  decide +kernel
theorem ext_toList (s : ByteArray) (p q : Nat) : (s.extract p (p + q)).data.toList = (s.data.toList.drop p).take q := by
  rw [ByteArray.data_extract]
  simp [Array.toList_extract, List.extract]
theorem strCells_ext (s : ByteArray) (p q : Nat) : strCells (s.extract p (p + q)) = bc ((s.data.toList.drop p).take q) := by
  unfold strCells bc
  rw [ext_toList]
theorem ext_size (s : ByteArray) (p q : Nat) (h : p + q ≤ s.size) : (s.extract p (p + q)).size = q := by
  rw [ByteArray.size_extract]; omega
theorem sh_hd (m : Nat) (s : ByteArray) (h : ¬ cnt s ≤ m) : (⟨(hd s (m - 3)).toArray⟩ : ByteArray) ++ ⟨#[46, 46, 46]⟩ = sh m s := by
  apply Go.WideShapes.bytes_inj
  unfold cnt at h
  unfold sh short hd
  rw [if_neg h, ByteArray.data_append, Array.toList_append]

set_option maxRecDepth 100000 in
set_option maxHeartbeats 1000000 in
theorem short15_any (s : ByteArray) (m : Nat) (w : World) (hs : s.size ≤ 1048576) (hm : 3 ≤ m) (hm2 : m ≤ 1000) :
    Calls Tryf.prog 15 #[.string s, .int .i64 m] w fun e w' => e = .returned (.string (sh m s)) ∧ Below w.heap.size w w' := by
  have hc := cnt_le s
  by_cases hle : cnt s ≤ m
  · have HS := hide (sh_le m s hle)
    have hd : (cnt s : Int) ≤ (m : Int) := by omega
    go_enter Tryf.func15, Tryf.ntmps15
    go_wp2_with (go_at_call 12; refine (count_any s _ (by omega)).mono ?_; rintro e w' ⟨rfl, hw'⟩; obtain rfl := hw'.symm; clear hw')
    go_ret
    exact ⟨ret_str HS.out.symm, Below.refl _ _⟩
  · have HS := hide (sh_hd m s hle)
    have hd' : decide (cnt s ≤ m) = false := decide_eq_false (by omega)
    obtain ⟨i0, hi, hz0, hz1, hz2⟩ := info_parts Tryf.info5
    have HI := hide hi
    have HZ0 := hide hz0
    have HZ1 := hide hz1
    have HZ2 := hide hz2
    have hlt0 : m < cnt s := by omega
    have HC := hide hlt0
    clear hi hz0 hz1 hz2 hle hlt0
    go_enter Tryf.func15, Tryf.ntmps15
    go_wp2_with (go_at_call 12; refine (count_any s _ (by omega)).mono ?_; rintro e w' ⟨rfl, hw'⟩; obtain rfl := hw'.symm; clear hw')
    clear hd' hc
    go_loopw [5, 6, 7, 8, 9] (fun v i kk _ _ wr => ∃ k p b cap : Nat, k ≤ m - 3 ∧ p ≤ s.size ∧ i = .int .i64 p ∧ kk = .int .i64 k ∧ runes (s.data.toList.drop p) = (runes s.data.toList).drop k ∧ v = .slice (some ⟨b, 0, none⟩) (hd s k).length cap ∧
        wr.ownsRow w.heap.size 5 1 (.slice (some ⟨b, 0, none⟩) (hd s k).length cap) (hd s k).length (bc (hd s k)) ∧ Below w.heap.size w wr) (fun _ _ kk _ _ _ => m - 3 - (intOf kk).toNat)
    case atStart => exact ⟨0, 0, _, 0, Nat.zero_le _, Nat.zero_le _, rfl, rfl, rfl, rfl, World.ownsRow_lit w #[] 0 (Nat.le_refl _) (Nat.zero_le _) rfl, (Below.refl _ _).alloc (Nat.le_refl _) _⟩
    case round =>
      obtain ⟨k, p, b, cap, hk, hp, rfl, rfl, hrun, rfl, hown, hb⟩ := hrel
      have HO := hide hown
      have HB := hide hb
      have hsz : w.heap.size ≤ wr.heap.size := hb.size
      have hl4 := hd_size s k
      clear hown hb
      by_cases hlt : k < m - 3
      · have hpl : p < s.size := by
          rcases Nat.lt_or_ge p s.size with h | h
          · exact h
          · rw [runes_past s p h] at hrun
            have h1 := congrArg List.length hrun
            have h2 := HC.out
            unfold cnt at h2
            rw [List.length_drop] at h1
            simp at h1
            omega
        obtain ⟨hs1, hs2⟩ := hd_succ s k p hpl hrun
        have HS1 := hide hs1
        have HS2 := hide hs2
        clear hs1 hs2 hrun
        have hdw := dw_pos s p
        have hdl := dw_le s p hpl
        have hlt' : (k : Int) < (m : Int) - 3 := by omega
        cases hok : dok s p
        · have HE := hide (enc_bad s p hok)
          generalize hL : (hd s k).length = L at *
          go_wp2_with (first | (go_at_call 16; refine (dec_any s p _ (by omega) hpl).mono ?_; rintro e w' ⟨rfl, hw'⟩; obtain rfl := hw'.symm; clear hw'; rw [hok]) | (at_builtin; refine wpList_append_own _ rfl _ _ 44 rfl w.heap.size 5 i0 _ 1 1 Tryf.underlying44 HI.out HZ0.out HZ1.out HZ2.out rfl (by decide) _ L (bc (hd s k)) rfl ?own ⟨wr.heap.size, 0, none⟩ 3 3 [.int .u8 239, .int .u8 191, .int .u8 189] rfl rfl ?c1 ?c2 ?c3 ?c4 ?c5 ?_))
          case own => exact HO.out.alloc _
          case c1 =>
            intro j u hj
            rw [← hj, Addr.add_lit, Nat.zero_add, World.cell?_alloc_at _ _ _ _ rfl]
            simp
          case c2 => intro u hu; simp at hu; rcases hu with rfl | rfl | rfl <;> rfl
          case c3 => unfold maxLen; omega
          case c4 => omega
          case c5 => simp; omega
          intro v' w1 hown' hgrow _
          obtain ⟨b', cap', hv'⟩ := ownsRow_form hown' (by omega)
          subst hv'
          have HB3 := hide (Below.grown (HB.out.alloc hsz _) hgrow (by simp; omega) (by intro q hq; cases hq; exact (HO.out.lt b rfl).1))
          have HO3 := hide hown'
          clear hown' hgrow
          go_wp2
          go_roundw
          case rel =>
            have e1 : (hd s (k + 1)).length = L + 3 := by rw [HS1.out, List.length_append, hL, HE.out]; rfl
            have e2 : bc (hd s (k + 1)) = bc (hd s k) ++ [.int .u8 239, .int .u8 191, .int .u8 189] := by rw [HS1.out, bc_append, HE.out]; rfl
            exact ⟨k + 1, p + dw s p, b', cap', by omega, hdl, by go_num, by go_num, HS2.out, by rw [e1], by rw [e1, e2]; exact HO3.out, HB3.out⟩
          case measure => simp [intOf]; omega
        · have HE := hide (enc_ok s p hpl hok)
          have HD := hide (dec_any s p wr (by omega) hpl)
          obtain ⟨d, hdd⟩ : ∃ d, dw s p = d := ⟨_, rfl⟩
          rw [hdd] at HE HD HS2 hdw hdl
          rw [hok] at HD
          have HX1 := hide (ext_size s p d hdl)
          have HX2 := hide (strCells_ext s p d)
          have hdl' : (p : Int) + (d : Int) ≤ (s.size : Int) := by omega
          generalize hL : (hd s k).length = L at *
          clear hok hdd
          go_wp2_with (first | (go_at_call 16; refine HD.out.mono ?_; rintro e w' ⟨rfl, hw'⟩; obtain rfl := hw'.symm; clear hw') | (at_builtin; refine Lib.wpList_append_own_string _ rfl _ _ 44 9 rfl w.heap.size 5 i0 Tryf.underlying44 Tryf.underlying9 HI.out HZ0.out HZ1.out HZ2.out _ L (bc (hd s k)) rfl ?own (s.extract p (p + d)) ?c1 ?c3 ?c4 ?c5 ?_))
          case own => exact HO.out
          case c1 => rfl
          case c3 => rw [HX1.out]; unfold maxLen; omega
          case c4 => rw [HX1.out]; omega
          case c5 => exact hsz
          intro v' w1 hown' hgrow _
          rw [HX2.out] at hown'
          obtain ⟨b', cap', hv'⟩ := ownsRow_form hown' (by omega)
          subst hv'
          have HB3 := hide (Below.grown HB.out hgrow hsz (by intro q hq; cases hq; exact (HO.out.lt b rfl).1))
          have HO3 := hide hown'
          clear hown' hgrow
          go_wp2
          go_roundw
          case rel =>
            have e1 : (hd s (k + 1)).length = L + d := by rw [HS1.out, List.length_append, hL, HE.out, List.length_take, List.length_drop]; simp; omega
            have e2 : bc (hd s (k + 1)) = bc (hd s k) ++ bc ((s.data.toList.drop p).take d) := by rw [HS1.out, bc_append, HE.out]
            exact ⟨k + 1, p + d, b', cap', by omega, hdl, by go_num, by go_num, HS2.out, by rw [e1], by rw [e1, e2]; exact HO3.out, HB3.out⟩
          case measure => simp [intOf]; omega
      · obtain rfl : k = m - 3 := by omega
        have hcv := run_convert_bytes_back (P := Tryf.prog) wr 44 9 5 ⟨b, 0, none⟩ cap (hd s (m - 3)) Tryf.underlying44 Tryf.underlying5 Tryf.underlying9 (by
          intro j hj
          exact HO.out.cells rfl j _ (by unfold bc; rw [List.getElem?_map, List.getElem?_eq_getElem hj]; rfl))
        have hT : (((⟨(hd s (m - 3)).toArray⟩ : ByteArray).size : Nat) : Int) ≤ 4000 := by
          have e : (⟨(hd s (m - 3)).toArray⟩ : ByteArray).size = (hd s (m - 3)).length := by show (hd s (m - 3)).toArray.size = _; simp
          rw [e]; omega
        have hnl : decide (((m - 3 : Nat) : Int) < (m : Int) - 3) = false := decide_eq_false (by omega)
        generalize (⟨(hd s (m - 3)).toArray⟩ : ByteArray) = T at *
        go_wp2
        go_ret
        exact ⟨ret_str HS.out, HB.out⟩
end Go.Proofs.Qxb6628411aFmt
