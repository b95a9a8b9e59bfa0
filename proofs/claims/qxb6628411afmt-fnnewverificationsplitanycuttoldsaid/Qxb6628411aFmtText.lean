import Derived.Test.Qxb6628411aFmtDecAll
import Derived.Laws.IdiomStrings
import Derived.Laws.Cover4
import Derived.Lib.SmallJoins
import Derived.Lib.SliceRun
import Derived.Lib.AppendStr
namespace Go.Proofs.Qxb6628411aFmt
open Go.RowKit Go.Joins
open Go.Lib (decodeL decodeN decodeL_N decodeN_shape decodeL_width decodeL_le)

theorem ret_int {k : IntKind} {a b : Int} (h : a = b) : Ending.returned (.int k a) = .returned (.int k b) := by rw [h]
theorem ret_str {a b : ByteArray} (h : a = b) : Ending.returned (.string a) = .returned (.string b) := by rw [h]

/-! ### The plain laws, at a place of a string -/
theorem dw_pos (s : ByteArray) (i : Nat) : 1 ≤ dw s i := decodeL_width _
theorem drop_ne (s : ByteArray) (i : Nat) (h : i < s.size) : s.data.toList.drop i ≠ [] := by
  intro e
  have := congrArg List.length e
  rw [List.length_drop] at this
  simp at this
  omega
theorem dw_le (s : ByteArray) (i : Nat) (h : i < s.size) : i + dw s i ≤ s.size := by
  have := decodeL_le _ (drop_ne s i h)
  rw [List.length_drop] at this
  have e : s.data.toList.length = s.size := by simp
  unfold dw
  omega
/-- how many runes a text has -/
def cnt (s : ByteArray) : Nat := (runes s.data.toList).length
theorem cnt_le (s : ByteArray) : cnt s ≤ s.size := by
  have := runes_length s.data.toList
  simpa [cnt] using this
theorem runes_at (s : ByteArray) (i : Nat) (h : i < s.size) : runes (s.data.toList.drop i) = (decodeL (s.data.toList.drop i)).1 :: runes (s.data.toList.drop (i + dw s i)) := by
  rw [runes_step _ (drop_ne s i h), List.drop_drop]; rfl
theorem runes_past (s : ByteArray) (i : Nat) (h : s.size ≤ i) : runes (s.data.toList.drop i) = [] := by
  rw [List.drop_eq_nil_of_le (by simpa using h)]; rfl

/-! ### zzRuneCount -/
set_option maxHeartbeats 400000 in
theorem count_any (s : ByteArray) (w : World) (hs : s.size ≤ 9223372036854775807) :
    Calls Tryf.prog 12 #[.string s] w fun e w' => e = .returned (.int .i64 (cnt s : Int)) ∧ w' = w := by
  have hc := cnt_le s
  go_enter Tryf.func12, Tryf.ntmps12
  go_wp2
  go_loop [3, 4] (fun n i => ∃ k p : Nat, p ≤ s.size ∧ k + (runes (s.data.toList.drop p)).length = cnt s ∧ n = .int .i64 k ∧ i = .int .i64 p) (fun _ i => s.size - (intOf i).toNat)
  case atStart => exact ⟨0, 0, Nat.zero_le _, by simp [cnt], rfl, rfl⟩
  case round =>
    obtain ⟨k, p, hp, hk, rfl, rfl⟩ := hrel
    have HK := hide hk
    have hk2 : k ≤ cnt s := by omega
    clear hk
    by_cases hlt : p < s.size
    · have hd := dw_pos s p
      have hl := dw_le s p hlt
      have HR := hide (runes_at s p hlt)
      have hk3 : k < cnt s := by have := HK.out; rw [HR.out] at this; simp at this; omega
      go_wp2_with (go_at_call 16; refine (dec_any s p _ hs hlt).mono ?_; rintro e w' ⟨rfl, rfl⟩)
      go_round
      case rel =>
        refine ⟨k + 1, p + dw s p, hl, ?_, by go_num, by go_num⟩
        have := HK.out; rw [HR.out] at this; simp only [List.length_cons] at this; omega
      case measure => simp [intOf]; omega
    · have HR := hide (runes_past s p (by omega))
      go_wp2
      go_ret
      exact ⟨ret_int (by have := HK.out; rw [HR.out] at this; simp at this; omega), rfl⟩

/-! ### Shorten -/
/-- a text cut to at most m runes -/
def sh (m : Nat) (s : ByteArray) : ByteArray := ⟨(short m s.data.toList).toArray⟩
theorem sh_le (m : Nat) (s : ByteArray) (h : cnt s ≤ m) : sh m s = s := by
  unfold sh
  rw [short_of_le m _ h, bytes_eta]
theorem runesFrom_eq (s : ByteArray) : ∀ (bound i : Nat) (acc : Array Value), Conv.runesFrom s bound i acc = acc ++ ((rsF bound (s.data.toList.drop i)).map (fun r : Nat => Value.int .i32 (r : Int))).toArray
  | 0, i, acc => by simp [Conv.runesFrom, rsF]
  | bound + 1, i, acc => by
    unfold Conv.runesFrom
    by_cases h : i < s.size
    · rw [if_pos h]
      have hd := Lib.decodeL_drop s i
      show Conv.runesFrom s bound (i + (Utf8.decode s i).2) (acc.push (.int .i32 (((Utf8.decode s i).1 : Nat) : Int))) = _
      rw [runesFrom_eq s bound]
      simp only [rsF, if_neg (drop_ne s i h)]
      rw [← hd, List.drop_drop]
      simp
    · rw [if_neg h, List.drop_eq_nil_of_le (by simp; omega), rsF_nil]
      simp
theorem runesFrom_all (s : ByteArray) : Conv.runesFrom s s.size 0 #[] = ((runes s.data.toList).map (fun r : Nat => Value.int .i32 (r : Int))).toArray := by
  rw [runesFrom_eq, List.drop_zero]
  unfold runes
  simp
set_option maxRecDepth 100000 in
theorem foldl_enc (ns : List Nat) : ∀ b : ByteArray, ((ns.map (fun r : Nat => (r : Int))).foldl (fun r n => r ++ Utf8.encode n) b).data.toList = b.data.toList ++ encs ns := by
  induction ns with
  | nil => intro b; simp [encs]
  | cons n ns ih =>
    intro b
    rw [List.map_cons, List.foldl_cons, ih]
    simp [encs, enc]
theorem runesBytes_enc (ns : List Nat) : (runesBytes (ns.map (fun r : Nat => (r : Int)))).data.toList = encs ns := by
  unfold runesBytes
  rw [foldl_enc]; rfl
theorem sh_cut (m : Nat) (s : ByteArray) (h : ¬ cnt s ≤ m) : runesBytes (((runes s.data.toList).take (m - 3)).map (fun r : Nat => (r : Int))) ++ ⟨#[46, 46, 46]⟩ = sh m s := by
  apply Go.WideShapes.bytes_inj
  unfold cnt at h
  unfold sh short
  rw [if_neg h, ByteArray.data_append, Array.toList_append, runesBytes_enc]

set_option maxHeartbeats 400000 in
theorem shorten_any (s : ByteArray) (m : Nat) (w : World) (hs : s.size ≤ 1048576) (hm : 3 ≤ m) (hm2 : m ≤ 1000) :
    Calls Tryf.prog 13 #[.string s, .int .i64 m] w fun e w' => e = .returned (.string (sh m s)) ∧ Below w.heap.size w w' := by
  have hc := cnt_le s
  obtain ⟨C, cap, hcap, hC, hrun⟩ : ∃ (C : Array Value) (cap : Nat), cnt s ≤ cap ∧ (∀ j, j < cnt s → C[j]? = some (.int .i32 (((runes s.data.toList).map (fun r : Nat => (r : Int))).getD j 0))) ∧
      (convert 9 42 (.string s)).run Tryf.prog w = .ok (.slice (some ⟨w.heap.size, 0, none⟩) (cnt s) cap) (w.drew.alloc (.cells C 21)) := by
    have h46 : (Conv.runesFrom s s.size 0 #[]).size ≤ 70368744177664 := by
      rw [runesFrom_all]; simp; unfold cnt at hc; omega
    have hr := run_runes_of_string (P := Tryf.prog) w 9 42 21 s Tryf.underlying9 Tryf.underlying42 Tryf.underlying21 h46
    rw [runesFrom_all] at hr
    simp only [List.size_toArray, List.length_map] at hr
    refine ⟨_, _, grownCap_ge w _ 0 21, ?_, hr⟩
    intro j hj
    unfold cnt at hj
    rw [Array.getElem?_append_left (by simpa using hj)]
    simp [hj]
  have hcell : ∀ j, j < ((runes s.data.toList).map (fun r : Nat => (r : Int))).length → (w.alloc (.cells C 21)).drew.cell? ((⟨w.heap.size, 0, none⟩ : Addr).add j) = some (.int .i32 (((runes s.data.toList).map (fun r : Nat => (r : Int))).getD j 0)) := by
    intro j hj
    rw [Addr.add_lit, Nat.zero_add]
    show (w.alloc (.cells C 21)).cell? _ = _
    rw [World.cell?_alloc_at _ _ _ _ rfl]
    exact hC j (by simpa [cnt] using hj)
  by_cases hle : cnt s ≤ m
  · have HS := hide (sh_le m s hle)
    have hd : decide ((m : Int) < (cnt s : Int)) = false := decide_eq_false (by omega)
    clear hC hcell
    go_enter Tryf.func13, Tryf.ntmps13
    go_wp2
    go_ret
    exact ⟨ret_str HS.out.symm, ((Below.refl _ _).alloc (Nat.le_refl _) _).drew⟩
  · have HS := hide (sh_cut m s hle)
    have hd : (m : Int) < (cnt s : Int) := by omega
    have hback := run_convert_runes (P := Tryf.prog) (w.alloc (.cells C 21)).drew 42 9 21 ⟨w.heap.size, 0, none⟩ (m - 3) cap ((runes s.data.toList).map (fun r : Nat => (r : Int))) (by unfold cnt at hle; simp; omega) Tryf.underlying42 Tryf.underlying21 Tryf.underlying9 hcell
    rw [← List.map_take] at hback
    have hsz := runesBytes_size_le (((runes s.data.toList).take (m - 3)).map (fun r : Nat => (r : Int)))
    generalize runesBytes (((runes s.data.toList).take (m - 3)).map (fun r : Nat => (r : Int))) = T at *
    simp only [List.length_map, List.length_take] at hsz
    have hT : (T.size : Int) ≤ 4000 := by omega
    have hm3 : (m : Int) - 3 ≤ (cap : Int) := by omega
    have hm4 : (0 : Int) ≤ (m : Int) - 3 := by omega
    have hmt : ((m : Int) - 3).toNat = m - 3 := by omega
    clear hC hcell hsz
    go_enter Tryf.func13, Tryf.ntmps13
    go_wp2
    go_ret
    exact ⟨ret_str HS.out, ((Below.refl _ _).alloc (Nat.le_refl _) _).drew⟩
end Go.Proofs.Qxb6628411aFmt
