/-
  THE PLAIN LAWS OF SEAT Qxb6628411aFmt: runes of a list of bytes; a text cut to so many runes. No Go in sight but the model's own UTF-8.
-/
import Derived.Lib.MapLaws
import Derived.Stop.FmtQuoteTie
namespace Go.Proofs.Qxb6628411aFmt
open Go.Lib (decodeL decodeN decodeL_N decodeN_shape decodeL_width decodeL_le)

def rsF : Nat → List UInt8 → List Nat
  | 0, _ => []
  | f + 1, l => if l = [] then [] else (decodeL l).1 :: rsF f (l.drop (decodeL l).2)
/-- the runes of a text -/
def runes (l : List UInt8) : List Nat := rsF l.length l
/-- a rune's bytes -/
def enc (r : Nat) : List UInt8 := (Utf8.encode (r : Int)).data.toList
def encs (ns : List Nat) : List UInt8 := ns.flatMap enc
/-- a text cut to at most m runes -/
def short (m : Nat) (l : List UInt8) : List UInt8 := if (runes l).length ≤ m then l else encs ((runes l).take (m - 3)) ++ [46, 46, 46]
/-- well formed at its head -/
def okL (l : List UInt8) : Bool := decide (decodeL l ≠ (65533, 1))

theorem rsF_nil : ∀ f, rsF f [] = []
  | 0 => rfl
  | f + 1 => by simp [rsF]
theorem rsF_fuel : ∀ (n m : Nat) (l : List UInt8), l.length ≤ n → l.length ≤ m → rsF n l = rsF m l
  | 0, m, l, hn, _ => by
    have : l = [] := List.eq_nil_of_length_eq_zero (by omega)
    subst this; rw [rsF_nil, rsF_nil]
  | n + 1, 0, l, _, hm => by
    have : l = [] := List.eq_nil_of_length_eq_zero (by omega)
    subst this; rw [rsF_nil, rsF_nil]
  | n + 1, m + 1, l, hn, hm => by
    by_cases hne : l = []
    · subst hne; rw [rsF_nil, rsF_nil]
    · have hw := decodeL_width l
      have hl : 0 < l.length := List.length_pos_iff.2 hne
      simp only [rsF, if_neg hne]
      rw [rsF_fuel n m _ (by rw [List.length_drop]; omega) (by rw [List.length_drop]; omega)]
theorem runes_nil : runes [] = [] := rfl
theorem runes_step (l : List UInt8) (hne : l ≠ []) : runes l = (decodeL l).1 :: runes (l.drop (decodeL l).2) := by
  have hw := decodeL_width l
  have hl : 0 < l.length := List.length_pos_iff.2 hne
  unfold runes
  obtain ⟨n, hn⟩ : ∃ n, l.length = n + 1 := ⟨l.length - 1, by omega⟩
  rw [hn]
  simp only [rsF, if_neg hne]
  rw [rsF_fuel n _ _ (by rw [List.length_drop]; omega) (Nat.le_refl _)]
theorem runes_length (l : List UInt8) : (runes l).length ≤ l.length := by
  have key : ∀ f l, (rsF f l).length ≤ f := by
    intro f
    induction f with
    | zero => intro l; simp [rsF]
    | succ f ih =>
      intro l
      simp only [rsF]
      split
      · simp
      · have := ih (l.drop (decodeL l).2); simp; omega
  exact key _ _

/-- a rune that Go's string conversion gives -/
def Valid (r : Nat) : Prop := r < 55296 ∨ (57344 ≤ r ∧ r ≤ 1114111)
theorem valid_decode (l : List UInt8) : Valid (decodeL l).1 := by
  rw [decodeL_N]
  have k0 := (l.getD 0 0).toNat_lt
  have k1 := (l.getD 1 0).toNat_lt
  have k2 := (l.getD 2 0).toNat_lt
  have k3 := (l.getD 3 0).toNat_lt
  unfold Valid
  rcases decodeN_shape l.length (l.getD 0 0).toNat (l.getD 1 0).toNat (l.getD 2 0).toNat (l.getD 3 0).toNat with ⟨c, e⟩ | ⟨c1, c2, c3, cv, e⟩ | ⟨c1, c2, c3, c4, cv, cs, e⟩ | ⟨c1, c2, c3, c4, c5, cv, cw, e⟩ | e
  all_goals (rw [e]; dsimp only; omega)
theorem valid_runes (l : List UInt8) : ∀ r ∈ runes l, Valid r := by
  have key : ∀ f l, ∀ r ∈ rsF f l, Valid r := by
    intro f
    induction f with
    | zero => intro l r hr; simp [rsF] at hr
    | succ f ih =>
      intro l r hr
      simp only [rsF] at hr
      split at hr
      · simp at hr
      · rcases List.mem_cons.1 hr with h | h
        · subst h; exact valid_decode l
        · exact ih _ _ h
  exact key _ _

set_option maxRecDepth 100000 in
theorem enc_eq (r : Nat) : enc r = Lib.encodeRune (r : Int) := by
  have h := Extern.FmtText.encode_eq r
  unfold enc Lib.encodeRune
  rw [← h]
  unfold Extern.FmtText.nums
  rw [List.map_map]
  have e : ((fun x : Int => x.toNat.toUInt8) ∘ fun b : UInt8 => (b.toNat : Int)) = id := by
    funext b; simp
  rw [e, List.map_id]

theorem ofNat_toNat (n : Nat) (h : n < 256) : (UInt8.ofNat n).toNat = n := by
  rw [UInt8.toNat_ofNat']; exact Nat.mod_eq_of_lt h
set_option maxRecDepth 100000 in
theorem dec_enc (r : Nat) (hv : Valid r) (t : List UInt8) : decodeL (enc r ++ t) = (r, (enc r).length) := by
  unfold Valid at hv
  unfold enc
  by_cases c1 : r < 128
  · rw [Extern.FmtText.enc1 r c1, decodeL_N]
    simp only [List.cons_append, List.nil_append, List.getD_cons_zero, List.length_cons, List.length_nil, ofNat_toNat r (by omega)]
    unfold decodeN
    rw [if_pos c1]
  · by_cases c2 : r < 2048
    · rw [Extern.FmtText.enc2 r c1 c2, decodeL_N]
      simp only [List.cons_append, List.nil_append, List.getD_cons_zero, List.getD_cons_succ, List.length_cons, List.length_nil, ofNat_toNat (192 + r / 64) (by omega), ofNat_toNat (128 + r % 64) (by omega)]
      unfold decodeN
      rw [if_neg (by omega), if_pos (by omega), if_pos (by omega)]
      congr 1
      omega
    · by_cases c3 : r < 65536
      · rw [Extern.FmtText.enc3 r c2 c3 (by omega), decodeL_N]
        simp only [List.cons_append, List.nil_append, List.getD_cons_zero, List.getD_cons_succ, List.length_cons, List.length_nil, ofNat_toNat (224 + r / 4096) (by omega), ofNat_toNat (128 + r / 64 % 64) (by omega), ofNat_toNat (128 + r % 64) (by omega)]
        unfold decodeN
        rw [if_neg (by omega), if_neg (by omega), if_pos (by omega), if_pos (by omega)]
        congr 1
        omega
      · rw [Extern.FmtText.enc4 r c3 (by omega), decodeL_N]
        simp only [List.cons_append, List.nil_append, List.getD_cons_zero, List.getD_cons_succ, List.length_cons, List.length_nil, ofNat_toNat (240 + r / 262144) (by omega), ofNat_toNat (128 + r / 4096 % 64) (by omega), ofNat_toNat (128 + r / 64 % 64) (by omega), ofNat_toNat (128 + r % 64) (by omega)]
        unfold decodeN
        rw [if_neg (by omega), if_neg (by omega), if_neg (by omega), if_pos (by omega), if_pos (by omega)]
        congr 1
        omega
theorem enc_ne (r : Nat) : enc r ≠ [] := by
  rw [enc_eq]
  unfold Lib.encodeRune Lib.encodeRuneZ
  repeat' split
  all_goals simp
theorem runes_encs (ns : List Nat) (hv : ∀ r ∈ ns, Valid r) (t : List UInt8) : runes (encs ns ++ t) = ns ++ runes t := by
  induction ns with
  | nil => rfl
  | cons r ns ih =>
    have e : encs (r :: ns) ++ t = enc r ++ (encs ns ++ t) := by simp [encs]
    rw [e, runes_step _ (by simp [enc_ne]), dec_enc r (hv r (by simp))]
    simp only [List.drop_left, List.cons_append]
    rw [ih (fun x hx => hv x (by simp [hx]))]
theorem runes_dots : runes [46, 46, 46] = [46, 46, 46] := by decide +kernel
theorem short_count (m : Nat) (hm : 3 ≤ m) (l : List UInt8) : (runes (short m l)).length ≤ m := by
  unfold short
  split
  · assumption
  · rw [runes_encs _ (fun r hr => valid_runes l r (List.take_subset _ _ hr)), runes_dots, List.length_append, List.length_take]
    simp; omega
theorem short_of_le (m : Nat) (l : List UInt8) (h : (runes l).length ≤ m) : short m l = l := if_pos h
theorem short_short (m : Nat) (hm : 3 ≤ m) (l : List UInt8) : short m (short m l) = short m l := short_of_le m _ (short_count m hm l)
end Go.Proofs.Qxb6628411aFmt
