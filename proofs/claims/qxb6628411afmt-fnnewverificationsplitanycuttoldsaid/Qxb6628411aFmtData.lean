import Derived.Test.Qxb6628411aFmtText
import Derived.Stop.CallBack
import Derived.Stop.IfaceNil
import Derived.Deep.QuietTactic
import Derived.Deep.RegionWith
import Derived.BigQuiet
namespace Go.Proofs.Qxb6628411aFmt
open Go.RowKit Go.Joins Go.Extern.Stop Go.Stop Go.Extern

/-! ### A row of strings -/
/-- WHAT A WALK IS TOLD OF A SLICE OF STRINGS: they lie where it leads. -/
def StrRow (w : World) (a : Option Addr) (c : Nat) (xs : List ByteArray) : Prop :=
  xs.length ≤ c ∧ c ≤ maxLen ∧ (a = none → xs.length = 0 ∧ c = 0) ∧ ∀ x, a = some x → ∀ (i : Nat) (s : ByteArray), xs[i]? = some s → w.cell? (x.add i) = some (.string s)
theorem StrRow.mono {w w' : World} {a : Option Addr} {c : Nat} {xs : List ByteArray} (h : StrRow w a c xs) (hc : ∀ x v, w.cell? x = some v → w'.cell? x = some v) : StrRow w' a c xs :=
  ⟨h.1, h.2.1, h.2.2.1, fun x hx i s hs => hc _ _ (h.2.2.2 x hx i s hs)⟩
theorem StrRow.below {w w' : World} {a : Option Addr} {c : Nat} {xs : List ByteArray} (h : StrRow w a c xs) (hb : Below w.heap.size w w') : StrRow w' a c xs :=
  h.mono fun x _ hv => (hb.cell (World.block_lt_of_cell? w x hv)).trans hv
theorem StrRow.addr {w : World} {a : Option Addr} {c : Nat} {xs : List ByteArray} (h : StrRow w a c xs) (hn : 0 < xs.length) : ∃ b off, a = some ⟨b, off, none⟩ := by
  obtain ⟨h1, h2, h3, h4⟩ := h
  match a, h3, h4 with
  | none, h3, _ => have := h3 rfl; omega
  | some ⟨b, off, spot⟩, _, h4 =>
    have hc := h4 _ rfl 0 xs[0] (List.getElem?_eq_getElem hn)
    have hspot : spot = none := by simpa [Addr.add] using World.cell?_spot hc
    subst hspot
    exact ⟨b, off, rfl⟩
theorem StrRow.at {w : World} {b off c : Nat} {xs : List ByteArray} (h : StrRow w (some ⟨b, off, none⟩) c xs) (i : Nat) (s : ByteArray) (hs : xs[i]? = some s) : w.cell? ⟨b, off + i, none⟩ = some (.string s) := by
  have := h.2.2.2 _ rfl i s hs
  rwa [Addr.add_lit] at this
theorem own_strrow {w : World} {base : Nat} {a : Option Addr} {n c : Nat} {e : TypeId} {xs : List ByteArray} (h : w.ownsRow base e 1 (.slice a n c) n (xs.map .string)) : n = xs.length ∧ StrRow w a c xs := by
  have hl : xs.length = n := by have := h.1; simpa using this
  refine ⟨hl.symm, ?_⟩
  subst hl
  rcases h.2 with ⟨h', h0⟩ | ⟨g, cap, cur, h', _, _, hnc, hcm, _⟩
  · simp only [Value.slice.injEq] at h'
    obtain ⟨rfl, _, rfl⟩ := h'
    exact ⟨by omega, Nat.zero_le _, fun _ => ⟨h0, rfl⟩, by intro x hx; cases hx⟩
  · simp only [Value.slice.injEq, true_and] at h'
    obtain ⟨rfl, rfl⟩ := h'
    exact ⟨hnc, hcm, (fun h => by cases h), by intro x hx i s hs; cases hx; exact h.cells rfl i _ (by rw [List.getElem?_map, hs]; rfl)⟩

theorem gb {w w' : World} (hb : Below w.heap.size w w') : w.grownBy w' none := ⟨hb.os, hb.tape, hb.output, hb.size, fun k hk _ => hb.block k hk⟩
theorem own_below {w w' : World} {base : Nat} {e : TypeId} {size : Nat} {v : Value} {n : Nat} {xs : List Value} (h : w.ownsRow base e size v n xs) (hb : Below w.heap.size w w') : w'.ownsRow base e size v n xs :=
  h.kept (gb hb) (by cases hv : v.ownBlock <;> simp)

/-! ### fmt.Sprintf, the stop: closed facts of this dump -/
theorem Tryf.call17 (args : Array Value) (w : World) : (callFunc 17 args).run Tryf.prog w = ((FmtStop.sprintf #[9, 61] #[9] args).run Tryf.prog w).andThen fun v w' => .ok (.value v) w' :=
  run_callFunc_extern Tryf.func17 (by kernel_rfl) (by kernel_rfl) (by kernel_rfl) (by kernel_rfl) args w
theorem Tryf.guard (name : String) (w : World) : (FmtStop.guard name).run Tryf.prog w = .ok () w := by kernel_rfl
theorem Tryf.fmtr (w : World) : (FmtDoors.printed ⟨#[46, 46, 46, 32, 97, 110, 100, 32, 37, 100, 32, 109, 111, 114, 101]⟩ 1).run Tryf.prog w = .ok [(0, 100, false)] w := by kernel_rfl
theorem Tryf.fmtp : FmtStop.printed? ⟨#[46, 46, 46, 32, 97, 110, 100, 32, 37, 100, 32, 109, 111, 114, 101]⟩ 1 = some [(0, 100, false)] := by kernel_rfl
def Tryf.shape3 : List UInt8 := [5, 3, 0, 0, 0, 0, 0, 0, 0, 105, 110, 116]
theorem Tryf.op3_100 (name : String) (x : Int) (w : World) : (FmtStop.operand name false 100 false (.iface 3 (.int .i64 x))).run Tryf.prog w = .ok (Tryf.shape3, Go.Extern.Stop.digits 8 (x % 2 ^ 64).toNat) w := by kernel_rfl
/-- what fmt is asked -/
def reading (x : Nat) : List (List UInt8) := [[46, 46, 46, 32, 97, 110, 100, 32, 37, 100, 32, 109, 111, 114, 101], Tryf.shape3, digits 8 (x % 18446744073709551616)]
/-- 'so many more', as fmt writes it -/
def more (F : Interp) (x : Nat) : ByteArray := FmtStop.textOf (F "fmt.Sprintf" (reading x) 0)
/-- a list kept within its bounds -/
def bnd (F : Interp) (xs : List ByteArray) : List ByteArray := if xs.length ≤ 40 then xs.map (sh 200) else (xs.take 39).map (sh 200) ++ [more F (xs.length - 39)]
theorem bnd_le (F : Interp) (xs : List ByteArray) (h : xs.length ≤ 40) : bnd F xs = xs.map (sh 200) := if_pos h
theorem bnd_gt (F : Interp) (xs : List ByteArray) (h : ¬ xs.length ≤ 40) : bnd F xs = (xs.take 39).map (sh 200) ++ [more F (xs.length - 39)] := if_neg h
theorem Tryf.info9 : (Tryf.prog.info? 9).map (fun i => (i.zero, i.size, i.bytes)) = some (some (.string ByteArray.empty), 1, 16) := by kernel_rfl
theorem shk_succ (xs : List ByteArray) (k : Nat) (s : ByteArray) (h : xs[k]? = some s) : (xs.take (k + 1)).map (sh 200) = (xs.take k).map (sh 200) ++ [sh 200 s] := by
  obtain ⟨hk, rfl⟩ := List.getElem?_eq_some_iff.1 h
  rw [List.take_succ_eq_append_getElem hk, List.map_append]; rfl
/-- the first k, cut -/
def shk (xs : List ByteArray) (k : Nat) : List ByteArray := (xs.take k).map (sh 200)
theorem shk_length (xs : List ByteArray) (k : Nat) (h : k ≤ xs.length) : (shk xs k).length = k := by simp [shk]; omega

set_option maxHeartbeats 1000000 in
theorem bounded_any (F : Interp) (a : Option Addr) (c : Nat) (xs : List ByteArray) (w : World) (h : StrRow w a c xs) (hsm : ∀ s ∈ xs, s.size ≤ 1048576) (hlen : xs.length ≤ 1048576) (hF : F.answers w.tape) :
    Calls Tryf.prog 14 #[.slice a xs.length c, .int .i64 40, .int .i64 200] w fun e w' => ∃ b cap, e = .returned (.slice (some ⟨b, 0, none⟩) (bnd F xs).length cap) ∧
      w'.ownsRow w.heap.size 9 1 (.slice (some ⟨b, 0, none⟩) (bnd F xs).length cap) (bnd F xs).length ((bnd F xs).map .string) ∧ Below w.heap.size w w' := by
  obtain ⟨n, hn⟩ : ∃ n, n = xs.length := ⟨_, rfl⟩
  rw [← hn]
  have HN := hide hn
  have HR := hide h
  have HSM := hide hsm
  have HF := hide hF
  have hn2 : n ≤ 1048576 := by omega
  clear hn h hsm hF hlen
  obtain ⟨i0, hi, hz0, hz1, hz2⟩ := info_parts Tryf.info9
  have HI := hide hi
  have HZ0 := hide hz0
  have HZ1 := hide hz1
  have HZ2 := hide hz2
  clear hi hz0 hz1 hz2
  go_enter Tryf.func14, Tryf.ntmps14
  go_wp2
  go_loopw [7, 8, 9, 13] (fun v _ _ i wr => ∃ k b cap : Nat, k ≤ n ∧ (40 < n → k ≤ 39) ∧ i = .int .i64 k ∧ v = .slice (some ⟨b, 0, none⟩) k cap ∧
      wr.ownsRow w.heap.size 9 1 (.slice (some ⟨b, 0, none⟩) k cap) k ((shk xs k).map .string) ∧ Below w.heap.size w wr) (fun _ _ _ i _ => n - (intOf i).toNat)
  case atStart => exact ⟨0, _, 0, Nat.zero_le _, fun _ => Nat.zero_le _, rfl, rfl, World.ownsRow_lit w #[] 0 (Nat.le_refl _) (Nat.zero_le _) rfl, (Below.refl _ _).alloc (Nat.le_refl _) _⟩
  case round =>
    obtain ⟨k, b, cap, hk, hk39, rfl, rfl, hown, hb⟩ := hrel
    have HO := hide hown
    have HB := hide hb
    clear hown
    by_cases hlt : k < n
    · obtain ⟨ab, off, rfl⟩ := HR.out.addr (by have := HN.out; omega)
      obtain ⟨s, hs⟩ : ∃ s, xs[k]? = some s := ⟨xs[k]'(by have := HN.out; omega), List.getElem?_eq_getElem _⟩
      have c0 := (HR.out.below hb).at k s hs
      have hss : s.size ≤ 1048576 := HSM.out s (List.mem_of_getElem? hs)
      have HS := hide (shk_succ xs k s hs)
      clear hs hb
      have hlt' : (k : Int) < (n : Int) := by omega
      by_cases hend : 40 < n ∧ k = 39
      · obtain ⟨h40, rfl⟩ := hend
        have h40' : (40 : Int) < (n : Int) := by omega
        have HE := hide (show bnd F xs = shk xs 39 ++ [more F (n - 39)] by rw [bnd_gt F xs (by have := HN.out; omega), ← HN.out]; rfl)
        have hF' := answers_open (show F.answers wr.tape by rw [HB.out.tape]; exact HF.out)
        have hcall := Tryf.call17
        have hguard := Tryf.guard
        have hfr := Tryf.fmtr
        have hfp := Tryf.fmtp
        have hop := Tryf.op3_100
        have hsz : w.heap.size ≤ wr.heap.size := HB.out.size
        go_wp2_with (at_builtin; refine wpList_append_own _ rfl _ _ 31 rfl w.heap.size 9 i0 _ 1 16 Tryf.underlying31 HI.out HZ0.out HZ1.out HZ2.out rfl (by decide) _ 39 ((shk xs 39).map .string) rfl ?own ⟨wr.heap.size + 1, 0, none⟩ 1 1 [.string (more F (n - 39))] rfl rfl ?c1 ?c2 ?c3 ?c4 ?c5 ?_)
        case own => exact ((HO.out.alloc _).alloc _).drew
        case c1 =>
          intro j u hj
          rw [← hj, Addr.add_lit, Nat.zero_add]
          show ((wr.alloc _).alloc _).cell? _ = _
          rw [World.cell?_alloc_at _ _ _ _ (by simp)]
          show _ = [Value.string (more F (n - 39))][j]?
          simp [more, reading]
        case c2 => intro u hu; simp at hu; subst hu; rfl
        case c3 => unfold maxLen; omega
        case c4 => omega
        case c5 => show w.heap.size ≤ ((wr.alloc _).alloc _).heap.size; simp; omega
        intro v' w1 hown' hgrow _
        obtain ⟨b', cap', hv'⟩ := ownsRow_form hown' (by omega)
        subst hv'
        have HB3 := hide (Below.grown ((((HB.out.alloc hsz _).alloc (by simp; omega) _)).drew) hgrow (by show w.heap.size ≤ ((wr.alloc _).alloc _).heap.size; simp; omega) (by intro q hq; cases hq; exact (HO.out.lt b rfl).1))
        have HO3 := hide hown'
        clear hown' hgrow hcall hguard hfr hfp hop hF'
        go_wp2
        go_ret
        have h39 := shk_length xs 39 (by have := HN.out; omega)
        rw [HE.out, List.length_append, h39, List.map_append]
        exact ⟨b', cap', rfl, HO3.out, HB3.out⟩
      · have HK := hide (show shk xs (k + 1) = shk xs k ++ [sh 200 s] from HS.out)
        have hsz : w.heap.size ≤ wr.heap.size := HB.out.size
        by_cases h40 : (40 : Int) < (n : Int)
        · have hk' : ((k : Int) == 39) = false := by simp; omega
          go_wp2_with (first | (go_at_call 13; refine (shorten_any s 200 _ hss (by omega) (by omega)).mono ?_; rintro e w8 ⟨rfl, hb8⟩; have HB8 := hide hb8; have HO8 := hide (own_below HO.out hb8); clear hb8) | (at_builtin; refine wpList_append_own _ rfl _ _ 31 rfl w.heap.size 9 i0 _ 1 16 Tryf.underlying31 HI.out HZ0.out HZ1.out HZ2.out rfl (by decide) _ k ((shk xs k).map .string) rfl ?own ⟨w8.heap.size, 0, none⟩ 1 1 [.string (sh 200 s)] rfl rfl ?c1 ?c2 ?c3 ?c4 ?c5 ?_))
          case own => exact HO8.out.alloc _
          case c1 => exact cell_one_new _ _ _
          case c2 => intro u hu; simp at hu; subst hu; rfl
          case c3 => unfold maxLen; omega
          case c4 => omega
          case c5 => have := HB8.out.size; simp; omega
          intro v' w1 hown' hgrow _
          obtain ⟨b', cap', hv'⟩ := ownsRow_form hown' (by omega)
          subst hv'
          have HB3 := hide (Below.grown ((HB.out.trans (HB8.out.mono hsz)).alloc (by have := HB8.out.size; omega) _) hgrow (by have := HB8.out.size; simp; omega) (by intro q hq; cases hq; exact (HO.out.lt b rfl).1))
          have HO3 := hide hown'
          clear hown' hgrow
          go_wp2
          go_roundw
          case rel => exact ⟨k + 1, b', cap', by omega, by omega, by go_num, rfl, by rw [HK.out, List.map_append]; exact HO3.out, HB3.out⟩
          case measure => simp [intOf]; omega
        · have hd : decide ((40 : Int) < (n : Int)) = false := decide_eq_false h40
          have hn40 : ¬ 40 < n := by omega
          clear h40
          go_wp2_with (first | (go_at_call 13; refine (shorten_any s 200 _ hss (by omega) (by omega)).mono ?_; rintro e w8 ⟨rfl, hb8⟩; have HB8 := hide hb8; have HO8 := hide (own_below HO.out hb8); clear hb8) | (at_builtin; refine wpList_append_own _ rfl _ _ 31 rfl w.heap.size 9 i0 _ 1 16 Tryf.underlying31 HI.out HZ0.out HZ1.out HZ2.out rfl (by decide) _ k ((shk xs k).map .string) rfl ?own ⟨w8.heap.size, 0, none⟩ 1 1 [.string (sh 200 s)] rfl rfl ?c1 ?c2 ?c3 ?c4 ?c5 ?_))
          case own => exact HO8.out.alloc _
          case c1 => exact cell_one_new _ _ _
          case c2 => intro u hu; simp at hu; subst hu; rfl
          case c3 => unfold maxLen; omega
          case c4 => omega
          case c5 => have := HB8.out.size; simp; omega
          intro v' w1 hown' hgrow _
          obtain ⟨b', cap', hv'⟩ := ownsRow_form hown' (by omega)
          subst hv'
          have HB3 := hide (Below.grown ((HB.out.trans (HB8.out.mono hsz)).alloc (by have := HB8.out.size; omega) _) hgrow (by have := HB8.out.size; simp; omega) (by intro q hq; cases hq; exact (HO.out.lt b rfl).1))
          have HO3 := hide hown'
          clear hown' hgrow
          go_wp2
          go_roundw
          case rel => exact ⟨k + 1, b', cap', by omega, by omega, by go_num, rfl, by rw [HK.out, List.map_append]; exact HO3.out, HB3.out⟩
          case measure => simp [intOf]; omega
    · have HE := hide (show bnd F xs = shk xs k by rw [bnd_le F xs (by have := HN.out; omega)]; unfold shk; rw [List.take_of_length_le (by have := HN.out; omega)])
      have hkl := shk_length xs k (by have := HN.out; omega)
      clear hb
      go_wp2
      go_ret
      rw [HE.out, hkl]
      exact ⟨b, cap, rfl, HO.out, HB.out⟩
end Go.Proofs.Qxb6628411aFmt
