import Derived.Test.Qxb6628323aWalks
import Derived.Laws.IdiomStrings
import Derived.WalkSpells
namespace Go.Proofs.Qxb6628323a
open Go.RowKit

theorem Try.info5 : (Try.prog.info? 5).map (fun i => (i.zero, i.size, i.bytes)) = some (some (.int .u8 0), 1, 1) := by kernel_rfl

theorem ret_str {a b : ByteArray} (h : a = b) : Ending.returned (.string a) = .returned (.string b) := by rw [h]
/-- a byte as a cell -/
def bv (b : UInt8) : Value := .int .u8 (b.toNat : Int)
/-- the row behind k rounds of vkSwapCase -/
def rowS (l : List UInt8) (k : Nat) : List Value := (l.take k).map (fun b => bv (swp b)) ++ List.replicate (l.length - k) (.int .u8 0)
theorem rowS_zero (l : List UInt8) : rowS l 0 = List.replicate l.length (.int .u8 0) := by simp [rowS]
theorem rowS_at (l : List UInt8) (k : Nat) (h : k < l.length) : (rowS l k)[k]? = some (.int .u8 0) := by
  unfold rowS
  have e : (List.map (fun b => bv (swp b)) (List.take k l)).length = k := by simp; omega
  rw [List.getElem?_append_right (by omega), e, Nat.sub_self]
  have e2 : l.length - k = (l.length - (k + 1)) + 1 := by omega
  rw [e2, List.replicate_succ]; rfl
theorem rowS_succ (l : List UInt8) (k : Nat) (h : k < l.length) : (rowS l k).set k (bv (swp l[k])) = rowS l (k + 1) := by
  unfold rowS
  rw [List.take_succ_eq_append_getElem h, List.map_append, List.set_append_right _ _ (by simp; omega)]
  have e : l.length - k = (l.length - (k + 1)) + 1 := by omega
  have e2 : k - (List.map (fun b => bv (swp b)) (List.take k l)).length = 0 := by simp; omega
  rw [e2, e, List.replicate_succ, List.set_cons_zero]
  simp
theorem rowS_end (l : List UInt8) (k : Nat) (h : l.length ≤ k) : rowS l k = (l.map swp).map bv := by
  unfold rowS
  rw [List.take_of_length_le h, show l.length - k = 0 by omega]
  simp
theorem xor32_facts : ∀ n : Fin 256, bits BinOp.xor IntKind.u8 (n.val : Int) 32 = (((UInt8.ofNat n.val) ^^^ 0x20).toNat : Int) := by decide +kernel
theorem xor32 (c : UInt8) : bits BinOp.xor IntKind.u8 (c.toNat : Int) 32 = ((c ^^^ 0x20).toNat : Int) := by
  have h := xor32_facts ⟨c.toNat, c.toNat_lt⟩
  simpa using h
theorem swp_yes (c : UInt8) (h : isL c = true) : Value.int .u8 (bits BinOp.xor IntKind.u8 (c.toNat : Int) 32) = bv (swp c) := by
  unfold bv swp; rw [if_pos h, xor32]
theorem swp_no (c : UInt8) (h : isL c = false) : Value.int .u8 (c.toNat : Int) = bv (swp c) := by
  unfold bv swp; rw [h]; rfl
theorem made_row (n : Nat) : (madeCells #[Value.int .u8 0] n).toList = List.replicate n (.int .u8 0) := toList_madeCells_one _ n

/-- 'string(b)' of an owned row of bytes -/
theorem back_own {P : Program} (w : World) (src dst e : TypeId) (g : Nat) (l : List UInt8) (n cap : Nat) (hs : P.underlying src = some (.slice e)) (he : P.underlying e = some (.int .u8)) (hd : P.underlying dst = some .string)
    (hn : l.length = n) {base : Nat} (hown : w.ownsRow base e 1 (.slice (some ⟨g, 0, none⟩) n cap) n (l.map bv)) :
    (convert src dst (.slice (some ⟨g, 0, none⟩) n cap)).run P w = .ok (.string ⟨l.toArray⟩) w := by
  subst hn
  refine run_convert_bytes_back w src dst e ⟨g, 0, none⟩ cap l hs he hd ?_
  intro j hj
  rw [Addr.add_lit, Nat.zero_add, hown.cellAt j (by omega)]
  simp [bv, hj]

set_option maxHeartbeats 400000 in
theorem swap_any (s : ByteArray) (w : World) (hs : s.size ≤ 1048576) :
    Calls Try.prog 10 #[.string s] w fun e w' => e = .returned (.string ⟨(s.data.toList.map swp).toArray⟩) ∧ Below w.heap.size w w' := by
  have hl : s.data.toList.length = s.size := by simp
  have HL := hide hl
  clear hl
  obtain ⟨i0, hi, hz0, hz1, hz2⟩ := info_parts Try.info5
  have HI := hide hi
  have HZ0 := hide hz0
  have HZ1 := hide hz1
  have HZ2 := hide hz2
  clear hi hz0 hz1 hz2
  go_enter Try.func10, Try.ntmps10
  go_wp2_with (at_make; refine wpList_make_full _ rfl _ _ 26 rfl w.heap.size 5 i0 (.int .u8 0) 1 Try.underlying26 HI.out HZ0.out HZ1.out _ _ _ _ s.size rfl rfl rfl rfl ?b2 ?b3 ?b4 ?_)
  case b2 => rw [HZ2.out]; omega
  case b3 => unfold maxLen; omega
  case b4 => exact Nat.le_refl _
  intro w1 hown hgrow
  rw [made_row] at hown
  have hb1 : Below w.heap.size w w1 := (Below.refl _ _).grown hgrow (Nat.le_refl _) (by intro k hk; cases hk)
  clear hgrow
  have HO : Hid (w1.ownsRow w.heap.size 5 1 (.slice (some ⟨w.heap.size, 0, none⟩) s.size s.size) s.size (rowS s.data.toList 0)) := by
    rw [rowS_zero, HL.out]; exact hown
  have HB := hide hb1
  clear hown hb1
  go_wp2
  go_loopw [4] (fun i wr => ∃ k : Nat, k ≤ s.size ∧ i = .int .i64 k ∧ wr.ownsRow w.heap.size 5 1 (.slice (some ⟨w.heap.size, 0, none⟩) s.size s.size) s.size (rowS s.data.toList k) ∧ Below w.heap.size w wr)
    (fun i _ => s.size - (intOf i).toNat)
  case atStart => exact ⟨0, Nat.zero_le _, rfl, HO.out, HB.out⟩
  case round =>
    obtain ⟨k, hk, rfl, hown, hb⟩ := hrel
    have HO2 := hide hown
    have HB2 := hide hb
    by_cases hlt : k < s.size
    · have hcell : wr.cell? ⟨w.heap.size, k, none⟩ = some (.int .u8 0) := by
        rw [hown.cellAt k (by omega)]; exact rowS_at _ _ (by rw [HL.out]; exact hlt)
      have hfz : wr.frozen? ⟨w.heap.size, k, none⟩ = false := hown.frozenAt k
      clear hown hb HO HB
      cases hL : isL s[k]
      · have HV := hide (swp_no s[k] hL)
        go_wp2_with (go_at_call 7; refine (letter_any s[k] _).mono ?_; rintro e w' ⟨rfl, rfl⟩; rw [hL])
        go_roundw
        case rel =>
          rw [HV.out]
          exact ⟨k + 1, by omega, by go_num, by rw [← rowS_succ _ k (by rw [HL.out]; exact hlt)]; exact (HO2.out.stored k _).1, HB2.out.setCell (Nat.le_refl _) _⟩
        case measure => simp [intOf]; omega
      · have HV := hide (swp_yes s[k] hL)
        go_wp2_with (go_at_call 7; refine (letter_any s[k] _).mono ?_; rintro e w' ⟨rfl, rfl⟩; rw [hL])
        go_roundw
        case rel =>
          rw [HV.out]
          exact ⟨k + 1, by omega, by go_num, by rw [← rowS_succ _ k (by rw [HL.out]; exact hlt)]; exact (HO2.out.stored k _).1, HB2.out.setCell (Nat.le_refl _) _⟩
        case measure => simp [intOf]; omega
    · have hm : (s.data.toList.map swp).length = s.size := by rw [List.length_map, HL.out]
      have hcv := back_own wr 26 9 5 w.heap.size (s.data.toList.map swp) s.size s.size Try.underlying26 Try.underlying5 Try.underlying9 hm (by rw [← rowS_end _ k (by rw [HL.out]; omega)]; exact hown)
      clear hown hb HO HB hm
      go_wp2
      go_ret
      exact ⟨rfl, HB2.out⟩

/-- the word bytes among the first k -/
def kw (l : List UInt8) (k : Nat) : List UInt8 := (l.take k).filter isW
theorem kw_le (l : List UInt8) (k : Nat) : (kw l k).length ≤ k := Nat.le_trans (List.length_filter_le _ _) (List.length_take_le _ _)
theorem kw_yes (s : ByteArray) (k : Nat) (h : k < s.size) (hw : isW s[k] = true) : kw s.data.toList (k + 1) = kw s.data.toList k ++ [s[k]] := by
  unfold kw; rw [take_snoc s k h, List.filter_append]; simp [hw]
theorem kw_no (s : ByteArray) (k : Nat) (h : k < s.size) (hw : isW s[k] = false) : kw s.data.toList (k + 1) = kw s.data.toList k := by
  unfold kw; rw [take_snoc s k h, List.filter_append]; simp [hw]
theorem kw_end (s : ByteArray) (k : Nat) (h : s.size ≤ k) : kw s.data.toList k = s.data.toList.filter isW := by
  unfold kw; rw [List.take_of_length_le (by simpa using h)]

set_option maxHeartbeats 400000 in
theorem keep_any (s : ByteArray) (w : World) (hs : s.size ≤ 1048576) :
    Calls Try.prog 11 #[.string s] w fun e w' => e = .returned (.string ⟨(s.data.toList.filter isW).toArray⟩) ∧ Below w.heap.size w w' := by
  obtain ⟨i0, hi, hz0, hz1, hz2⟩ := info_parts Try.info5
  have HI := hide hi
  have HZ0 := hide hz0
  have HZ1 := hide hz1
  have HZ2 := hide hz2
  clear hi hz0 hz1 hz2
  go_enter Try.func11, Try.ntmps11
  go_wp2_with (at_make; refine wpList_make_own _ rfl _ _ 26 rfl w.heap.size 5 i0 (.int .u8 0) 1 Try.underlying26 HI.out HZ0.out HZ1.out _ _ _ s.size rfl rfl rfl ?b2 ?b3 ?b4 ?_)
  case b2 => rw [HZ2.out]; omega
  case b3 => unfold maxLen; omega
  case b4 => exact Nat.le_refl _
  intro w1 hown hgrow
  have hb1 : Below w.heap.size w w1 := (Below.refl _ _).grown hgrow (Nat.le_refl _) (by intro k hk; cases hk)
  have HO := hide hown
  have HB := hide hb1
  have hsz1 : w.heap.size < w1.heap.size := (hown.lt w.heap.size rfl).2
  clear hown hb1 hgrow
  go_wp2
  go_loopw [3, 4] (fun v i wr => ∃ k : Nat, k ≤ s.size ∧ i = .int .i64 k ∧ v = .slice (some ⟨w.heap.size, 0, none⟩) (kw s.data.toList k).length s.size ∧
      wr.ownsRow w.heap.size 5 1 (.slice (some ⟨w.heap.size, 0, none⟩) (kw s.data.toList k).length s.size) (kw s.data.toList k).length ((kw s.data.toList k).map bv) ∧ Below w.heap.size w wr ∧ w.heap.size < wr.heap.size)
    (fun _ i _ => s.size - (intOf i).toNat)
  case atStart => exact ⟨0, Nat.zero_le _, rfl, rfl, HO.out, HB.out, hsz1⟩
  case round =>
    obtain ⟨k, hk, rfl, rfl, hown, hb, hsz⟩ := hrel
    have HO2 := hide hown
    have HB2 := hide hb
    have hkl := kw_le s.data.toList k
    clear hown hb HO HB
    by_cases hlt : k < s.size
    · cases hW : isW s[k]
      · have HK := hide (kw_no s k hlt hW)
        go_wp2_with (go_at_call 12; refine (word_any s[k] _).mono ?_; rintro e w' ⟨rfl, rfl⟩; rw [hW])
        go_roundw
        case rel => exact ⟨k + 1, by omega, by go_num, by rw [HK.out], by rw [HK.out]; exact HO2.out, HB2.out, hsz⟩
        case measure => simp [intOf]; omega
      · have HK := hide (kw_yes s k hlt hW)
        go_wp2_with (first | (go_at_call 12; refine (word_any s[k] _).mono ?_; rintro e w' ⟨rfl, hw'⟩; obtain rfl := hw'.symm; rw [hW]) | (at_builtin; refine wpList_append_fits _ rfl _ _ 26 rfl w.heap.size 5 i0 1 Try.underlying26 HI.out HZ1.out w.heap.size (kw s.data.toList k).length s.size ((kw s.data.toList k).map bv) rfl (HO2.out.alloc _) ⟨wr.heap.size, 0, none⟩ 1 1 [bv s[k]] rfl rfl ?c1 ?c2 ?c3 ?_))
        case c1 => exact cell_one_new _ _ _
        case c2 => intro u hu; simp at hu; subst hu; rfl
        case c3 => omega
        intro w1 hown' hgrow
        have HO3 := hide hown'
        have HB3 := hide (Below.grown (HB2.out.alloc (Nat.le_of_lt hsz) _) hgrow (by simp; omega) (by intro q hq; cases hq; exact Nat.le_refl _))
        have hsz' : w.heap.size < w1.heap.size := by have := hgrow.size; simp at this; omega
        clear hown' hgrow
        go_wp2
        go_roundw
        case rel => exact ⟨k + 1, by omega, by go_num, by rw [HK.out]; simp, by rw [HK.out]; simpa using HO3.out, HB3.out, hsz'⟩
        case measure => simp [intOf]; omega
    · have hcv := back_own wr 26 9 5 w.heap.size (kw s.data.toList k) (kw s.data.toList k).length s.size Try.underlying26 Try.underlying5 Try.underlying9 rfl HO2.out
      have HE := hide (kw_end s k (by omega))
      go_wp2
      go_ret
      exact ⟨ret_str (by rw [HE.out]), HB2.out⟩
end Go.Proofs.Qxb6628323a
