import Derived.Lib.TrimUEq
import Derived.Lib.QuoteLoop
import Derived.Laws.Cover4
import GoSem.Conv.StringToRunes
namespace Go.Proofs.Qxb6628489a
open Go.Lib (decodeL decodeN)

/-! ### The runes of a string, as a list of numbers -/
def runesL : Nat → List UInt8 → List Int
  | 0, _ => []
  | n + 1, l => if l = [] then [] else ((decodeL l).1 : Int) :: runesL n (l.drop (decodeL l).2)
def runes (s : ByteArray) : List Int := runesL s.size s.data.toList

theorem runesL_nil (n : Nat) : runesL n [] = [] := by cases n <;> simp [runesL]
theorem runesL_length : ∀ (n : Nat) (l : List UInt8), (runesL n l).length ≤ n
  | 0, _ => by simp [runesL]
  | n + 1, l => by
    simp only [runesL]
    split
    · simp
    · have := runesL_length n (l.drop (decodeL l).2)
      simp; omega
theorem runes_length (s : ByteArray) : (runes s).length ≤ s.size := runesL_length _ _

theorem size_list (s : ByteArray) : s.data.toList.length = s.size := Array.length_toList
theorem drop_nil (s : ByteArray) (i : Nat) : s.data.toList.drop i = [] ↔ ¬ i < s.size := by
  rw [List.drop_eq_nil_iff, size_list]; omega
/-- The model's own conversion gives just these. -/
theorem runesFrom_eq (s : ByteArray) : ∀ (b i : Nat) (acc : Array Value), Conv.runesFrom s b i acc = acc ++ ((runesL b (s.data.toList.drop i)).map (Value.int .i32)).toArray
  | 0, i, acc => by simp [Conv.runesFrom, runesL]
  | b + 1, i, acc => by
    simp only [Conv.runesFrom, runesL]
    by_cases h : i < s.size
    · rw [if_pos h, if_neg (by rw [drop_nil]; omega)]
      have ih := runesFrom_eq s b (i + (Utf8.decode s i).2) (acc.push (.int .i32 (Int.ofNat (Utf8.decode s i).1)))
      rw [Go.Lib.decodeL_drop, List.drop_drop]
      rw [ih]
      simp
    · rw [if_neg h, if_pos ((drop_nil s i).2 h)]
      simp
theorem runes_eq (s : ByteArray) : Conv.runesFrom s s.size 0 #[] = ((runes s).map (Value.int .i32)).toArray := by
  rw [runesFrom_eq]; simp [runes]

/-! ### They are valid code points -/
def okRune (r : Int) : Prop := 0 ≤ r ∧ (r < 55296 ∨ (57343 < r ∧ r ≤ 1114111))
theorem decodeL_ok (l : List UInt8) : okRune ((decodeL l).1 : Int) := by
  have h := Go.Lib.decodeN_valid l.length (l.getD 0 0).toNat (l.getD 1 0).toNat (l.getD 2 0).toNat (l.getD 3 0).toNat (UInt8.toNat_lt _)
  rw [← Go.Lib.decodeL_N] at h
  unfold okRune
  omega
theorem runesL_ok : ∀ (n : Nat) (l : List UInt8), ∀ r ∈ runesL n l, okRune r
  | 0, _, r, h => by simp [runesL] at h
  | n + 1, l, r, h => by
    simp only [runesL] at h
    split at h
    · simp at h
    · rcases List.mem_cons.1 h with h | h
      · rw [h]; exact decodeL_ok l
      · exact runesL_ok n _ r h
theorem runes_ok (s : ByteArray) : ∀ r ∈ runes s, okRune r := runesL_ok _ _

/-! ### Encoded and decoded again -/
def enc (r : Int) : List UInt8 := (Utf8.encode r).data.toList
theorem enc_def (r : Int) : enc r = (Utf8.encode r).data.toList := rfl
theorem valid_of (r : Nat) (h : r < 55296 ∨ (57343 < r ∧ r ≤ 1114111)) : Utf8.valid (r : Int) = true := by
  unfold Utf8.valid
  simp only [Bool.or_eq_true, Bool.and_eq_true, decide_eq_true_eq]
  omega
theorem enc1' (r : Nat) (c1 : r < 128) : (Utf8.encode (r : Int)).data.toList = [UInt8.ofNat r] := by
  have v := valid_of r (by omega)
  unfold Utf8.encode
  simp only [v, if_true, Int.toNat_natCast]
  rw [if_pos c1]
theorem enc1 (r : Nat) (c1 : r < 128) : enc (r : Int) = [UInt8.ofNat r] := by rw [enc_def, enc1' r c1]
theorem enc2' (r : Nat) (c1 : ¬ r < 128) (c2 : r < 2048) : (Utf8.encode (r : Int)).data.toList = [UInt8.ofNat (192 + r / 64), UInt8.ofNat (128 + r % 64)] := by
  have v := valid_of r (by omega)
  unfold Utf8.encode
  simp only [v, if_true, Int.toNat_natCast]
  rw [if_neg c1, if_pos c2]
theorem enc2 (r : Nat) (c1 : ¬ r < 128) (c2 : r < 2048) : enc (r : Int) = [UInt8.ofNat (192 + r / 64), UInt8.ofNat (128 + r % 64)] := by rw [enc_def, enc2' r c1 c2]
theorem enc3' (r : Nat) (c2 : ¬ r < 2048) (c3 : r < 65536) (hv : r < 55296 ∨ 57344 ≤ r) : (Utf8.encode (r : Int)).data.toList = [UInt8.ofNat (224 + r / 4096), UInt8.ofNat (128 + r / 64 % 64), UInt8.ofNat (128 + r % 64)] := by
  have v := valid_of r (by omega)
  unfold Utf8.encode
  simp only [v, if_true, Int.toNat_natCast]
  rw [if_neg (by omega), if_neg c2, if_pos c3]
theorem enc3 (r : Nat) (c2 : ¬ r < 2048) (c3 : r < 65536) (hv : r < 55296 ∨ 57344 ≤ r) : enc (r : Int) = [UInt8.ofNat (224 + r / 4096), UInt8.ofNat (128 + r / 64 % 64), UInt8.ofNat (128 + r % 64)] := by rw [enc_def, enc3' r c2 c3 hv]
theorem enc4' (r : Nat) (c3 : ¬ r < 65536) (c4 : r ≤ 1114111) : (Utf8.encode (r : Int)).data.toList = [UInt8.ofNat (240 + r / 262144), UInt8.ofNat (128 + r / 4096 % 64), UInt8.ofNat (128 + r / 64 % 64), UInt8.ofNat (128 + r % 64)] := by
  have v := valid_of r (by omega)
  unfold Utf8.encode
  simp only [v, if_true, Int.toNat_natCast]
  rw [if_neg (by omega), if_neg (by omega), if_neg c3]
theorem enc4 (r : Nat) (c3 : ¬ r < 65536) (c4 : r ≤ 1114111) : enc (r : Int) = [UInt8.ofNat (240 + r / 262144), UInt8.ofNat (128 + r / 4096 % 64), UInt8.ofNat (128 + r / 64 % 64), UInt8.ofNat (128 + r % 64)] := by rw [enc_def, enc4' r c3 c4]

theorem decodeN_1 (n b0 b1 b2 b3 : Nat) (h : b0 < 128) : decodeN n b0 b1 b2 b3 = (b0, 1) := by unfold decodeN; rw [if_pos h]
theorem decodeN_2 (n r b2 b3 : Nat) (hn : 2 ≤ n) (c1 : ¬ r < 128) (c2 : r < 2048) : decodeN n (192 + r / 64) (128 + r % 64) b2 b3 = (r, 2) := by
  unfold decodeN
  rw [if_neg (by omega), if_pos (by omega), if_pos (by omega)]
  rw [show (192 + r / 64) % 32 * 64 + (128 + r % 64) % 64 = r by omega]
theorem decodeN_3 (n r b3 : Nat) (hn : 3 ≤ n) (c2 : ¬ r < 2048) (c3 : r < 65536) (hv : r < 55296 ∨ 57344 ≤ r) : decodeN n (224 + r / 4096) (128 + r / 64 % 64) (128 + r % 64) b3 = (r, 3) := by
  unfold decodeN
  have e : (224 + r / 4096) % 16 * 4096 + (128 + r / 64 % 64) % 64 * 64 + (128 + r % 64) % 64 = r := by omega
  rw [if_neg (by omega), if_neg (by omega), if_pos (by omega), e, if_pos (by omega)]
theorem decodeN_4 (n r : Nat) (hn : 4 ≤ n) (c3 : ¬ r < 65536) (c4 : r ≤ 1114111) : decodeN n (240 + r / 262144) (128 + r / 4096 % 64) (128 + r / 64 % 64) (128 + r % 64) = (r, 4) := by
  unfold decodeN
  have e : (240 + r / 262144) % 8 * 262144 + (128 + r / 4096 % 64) % 64 * 4096 + (128 + r / 64 % 64) % 64 * 64 + (128 + r % 64) % 64 = r := by omega
  rw [if_neg (by omega), if_neg (by omega), if_neg (by omega), if_pos (by omega), e, if_pos (by omega)]

theorem ofNat_small (n : Nat) (h : n < 256) : (UInt8.ofNat n).toNat = n := by simp; omega

theorem decode_enc (r : Nat) (h : okRune (r : Int)) (rest : List UInt8) : decodeL (enc (r : Int) ++ rest) = (r, (enc (r : Int)).length) ∧ 1 ≤ (enc (r : Int)).length := by
  unfold okRune at h
  rw [Go.Lib.decodeL_N]
  by_cases c1 : r < 128
  · rw [enc1 r c1]
    refine ⟨?_, by simp⟩
    simp only [List.cons_append, List.nil_append, List.getD_cons_zero, List.length_cons, List.length_nil]
    rw [ofNat_small r (by omega), decodeN_1 _ _ _ _ _ c1]
  by_cases c2 : r < 2048
  · rw [enc2 r c1 c2]
    refine ⟨?_, by simp⟩
    simp only [List.cons_append, List.nil_append, List.getD_cons_zero, List.getD_cons_succ, List.length_cons, List.length_nil]
    rw [ofNat_small (192 + r / 64) (by omega), ofNat_small (128 + r % 64) (by omega), decodeN_2 _ _ _ _ (by omega) c1 c2]
  by_cases c3 : r < 65536
  · rw [enc3 r c2 c3 (by omega)]
    refine ⟨?_, by simp⟩
    simp only [List.cons_append, List.nil_append, List.getD_cons_zero, List.getD_cons_succ, List.length_cons, List.length_nil]
    rw [ofNat_small (224 + r / 4096) (by omega), ofNat_small (128 + r / 64 % 64) (by omega), ofNat_small (128 + r % 64) (by omega), decodeN_3 _ _ _ (by omega) c2 c3 (by omega)]
  · rw [enc4 r c3 (by omega)]
    refine ⟨?_, by simp⟩
    simp only [List.cons_append, List.nil_append, List.getD_cons_zero, List.getD_cons_succ, List.length_cons, List.length_nil]
    rw [ofNat_small (240 + r / 262144) (by omega), ofNat_small (128 + r / 4096 % 64) (by omega), ofNat_small (128 + r / 64 % 64) (by omega), ofNat_small (128 + r % 64) (by omega), decodeN_4 _ _ (by omega) c3 (by omega)]

theorem runesL_enc : ∀ (R : List Int) (n : Nat), R.length ≤ n → (∀ r ∈ R, okRune r) → runesL n (R.flatMap enc) = R
  | [], n, _, _ => by simp [runesL_nil]
  | r :: R, 0, hn, _ => by simp at hn
  | r :: R, n + 1, hn, hR => by
    have hr := hR r (by simp)
    obtain ⟨k, rfl⟩ : ∃ k : Nat, r = k := ⟨r.toNat, by unfold okRune at hr; omega⟩
    obtain ⟨h1, h2⟩ := decode_enc k hr (R.flatMap enc)
    have ih := runesL_enc R n (by rw [List.length_cons] at hn; omega) (fun r h => hR r (by simp [h]))
    simp only [runesL, List.flatMap_cons]
    rw [if_neg (by intro e; have := congrArg List.length e; rw [List.length_append] at this; simp only [List.length_nil] at this; omega), h1]
    simp only
    rw [List.drop_left, ih]

theorem flat_length : ∀ (R : List Int), (∀ r ∈ R, okRune r) → R.length ≤ (R.flatMap enc).length
  | [], _ => by simp
  | r :: R, hR => by
    have hr := hR r (by simp)
    obtain ⟨k, rfl⟩ : ∃ k : Nat, r = k := ⟨r.toNat, by unfold okRune at hr; omega⟩
    have h2 := (decode_enc k hr []).2
    have ih := flat_length R (fun r h => hR r (by simp [h]))
    simp only [List.flatMap_cons, List.length_append, List.length_cons]
    omega

theorem foldl_bytes (ns : List Int) : ∀ s : ByteArray, (ns.foldl (fun r n => r ++ Utf8.encode n) s).data.toList = s.data.toList ++ ns.flatMap enc := by
  induction ns with
  | nil => intro s; simp
  | cons n ns ih =>
    intro s
    simp only [List.foldl_cons, List.flatMap_cons]
    rw [ih]
    simp [enc_def, List.append_assoc]
theorem runesBytes_list (ns : List Int) : (runesBytes ns).data.toList = ns.flatMap enc := by
  unfold runesBytes
  rw [foldl_bytes]
  simp

/-- The runes of two lists of valid runes, written one behind the other. -/
theorem runes_join (A B : List Int) (hA : ∀ r ∈ A, okRune r) (hB : ∀ r ∈ B, okRune r) : runes (runesBytes A ++ runesBytes B) = A ++ B := by
  have hAB : ∀ r ∈ A ++ B, okRune r := by
    intro r h
    rcases List.mem_append.1 h with h | h
    · exact hA r h
    · exact hB r h
  have e : (runesBytes A ++ runesBytes B).data.toList = (A ++ B).flatMap enc := by
    rw [ByteArray.data_append, Array.toList_append, runesBytes_list, runesBytes_list, List.flatMap_append]
  unfold runes
  have hs : (runesBytes A ++ runesBytes B).size = ((A ++ B).flatMap enc).length := by rw [← size_list, e]
  rw [e, hs]
  exact runesL_enc _ _ (flat_length _ hAB) hAB
end Go.Proofs.Qxb6628489a
