import Derived.Test.Qxb6628489aWalkD
namespace Go.Proofs.Qxb6628489a
open Go.RowKit

theorem diag_k (S T : List Int) (b off cs b' off' ct : Nat) (n m : Nat) (c0 e0 : Nat) (k : Int) (w : World) (hn : S.length = n) (hm : T.length = m) (hn1 : n ≤ 20000) (hm1 : m ≤ 20000) (hcs : n ≤ cs) (hct : m ≤ ct)
    (h1 : -(n : Int) < k) (h2 : k < m) (hc0 : c0 ≤ 1048576) (he0 : e0 ≤ 1048576) (h0 : 1 ≤ n) (h0' : 1 ≤ m)
    (hS : HasR w b off S) (hT : HasR w b' off' T) :
    Calls Try.prog 11 #[.slice (some ⟨b, off, none⟩) n cs, .slice (some ⟨b', off', none⟩) m ct, .int .i64 k, .int .i64 c0, .int .i64 e0] w (DiagPost S T k c0 w) :=
  diag_any S T b off cs b' off' ct n m (max 0 (-k)).toNat (max 0 (-k) + k).toNat (min (n - (max 0 (-k)).toNat) (m - (max 0 (-k) + k).toNat)) c0 e0 k w hn hm hn1 hm1 hcs hct (by omega) (by omega) rfl (by omega) hc0 he0 hS hT

theorem seen_both {S T : List Int} {lo hi : Int} {d c c' c2 : Nat} (h : Seen S T (lo - d + 1) (hi + d) c) (h1 : Diag S T (lo - d) c c') (h2 : Diag S T (hi + d) c' c2) : Seen S T (lo - ((d + 1 : Nat) : Int) + 1) (hi + ((d + 1 : Nat) : Int)) c2 := by
  have e1 : lo - (d : Int) = lo - d + 1 - 1 := by omega
  rw [e1] at h1
  have := seen_hi (seen_lo h h1) h2
  have e2 : lo - ((d + 1 : Nat) : Int) + 1 = lo - d + 1 - 1 := by omega
  have e3 : hi + ((d + 1 : Nat) : Int) = hi + d + 1 := by omega
  rw [e2, e3]
  exact this

/-- What 'lcsubstring' leaves. -/
def LcsPost (S T : List Int) (w : World) (e : Ending) (w' : World) : Prop :=
  ∃ c' e' q : Nat, e = .returned (.tuple #[.int .i64 c', .int .i64 e']) ∧ w' = w.drewN q ∧ Longest S T c'

set_option maxRecDepth 100000 in
set_option maxHeartbeats 1000000 in
theorem lcs_any (S T : List Int) (b off cs b' off' ct : Nat) (n m : Nat) (w : World) (hn : S.length = n) (hm : T.length = m) (hn1 : n ≤ 20000) (hm1 : m ≤ 20000) (hcs : n ≤ cs) (hct : m ≤ ct)
    (hS : HasR w b off S) (hT : HasR w b' off' T) :
    Calls Try.prog 9 #[.slice (some ⟨b, off, none⟩) n cs, .slice (some ⟨b', off', none⟩) m ct, .int .i64 1] w (LcsPost S T w) := by
  have q0 : max (1 : Int) 1 = 1 := by omega
  obtain ⟨F, hF⟩ : ∃ F : Nat, F = min n m := ⟨_, rfl⟩
  have q1 : min (n : Int) (m : Int) = (F : Int) := by omega
  obtain ⟨lo, hlo⟩ : ∃ lo : Int, lo = min 0 ((m : Int) - n) := ⟨_, rfl⟩
  obtain ⟨hi, hhi⟩ : ∃ hi : Int, hi = max 0 ((m : Int) - n) := ⟨_, rfl⟩
  have q2 : min 0 ((m : Int) - n) = lo := hlo.symm
  have q3 : max 0 ((m : Int) - n) = hi := hhi.symm
  have b1 : -20000 ≤ lo := by omega
  have b2 : lo ≤ 0 := by omega
  have b3 : 0 ≤ hi := by omega
  have b4 : hi ≤ 20000 := by omega
  have b5 : F ≤ 20000 := by omega
  have b6 : F ≤ n := by omega
  have b7 : F ≤ m := by omega
  have HF := Hid.mk hF
  have HLo := Hid.mk hlo
  have HHi := Hid.mk hhi
  have HN := Hid.mk hn
  have HM := Hid.mk hm
  clear hF hlo hhi hn hm
  by_cases h0 : F < 1
  · have HZ : Hid (Longest S T 0) := longest_zero (by rw [HN.out, HM.out, ← HF.out]; exact h0)
    clear hS hT
    go_enter Try.func9, Try.ntmps9
    go_wp2
    go_ret2
    exact ⟨0, 0, 0, rfl, rfl, HZ.out⟩
  · have h0' : 1 ≤ F := by omega
    have d1 : 1 ≤ n := by omega
    have d2 : 1 ≤ m := by omega
    go_enter Try.func9, Try.ntmps9
    go_wp2
    go_loopw [6, 7, 11] (fun v6 v7 v11 wr => ∃ (c e q : Nat) (k : Int), v6 = .int .i64 c ∧ v7 = .int .i64 e ∧ v11 = .int .i64 k ∧ wr = w.drewN q ∧ lo ≤ k ∧ k ≤ hi + 1 ∧ c ≤ 1048576 ∧ e ≤ 1048576 ∧ Hid (Seen S T lo k c)) (fun _ _ v _ => (hi + 1 - intOf v).toNat)
    case atStart => exact ⟨0, 0, 0, lo, rfl, rfl, rfl, rfl, by omega, by omega, by omega, by omega, seen_start S T lo⟩
    case round =>
      obtain ⟨c, e, q, k, rfl, rfl, rfl, rfl, hk1, hk2, hc, he, HS⟩ := hrel
      by_cases hlt : k ≤ hi
      · have hcall := diag_k S T b off cs b' off' ct n m c e k (w.drewN q) HN.out HM.out hn1 hm1 hcs hct (by have := HLo.out; omega) (by have := HHi.out; omega) hc he d1 d2 hS hT
        clear hS hT
        go_wp2_with (go_at_call 11; refine hcall.mono ?_; rintro e1 w1 ⟨c', e', q', rfl, rfl, hD, hc', he'⟩)
        go_roundw
        case rel => exact ⟨c', e', _, k + 1, rfl, rfl, by go_num, rfl, by omega, by omega, hc', he', seen_hi HS.out hD⟩
        case measure => simp [intOf]; omega
      · have ek : k = hi + 1 := by omega
        have HS1 : Hid (Seen S T lo (hi + 1) c) := by rw [← ek]; exact HS
        clear HS
        go_wp2
        go_loopw [6, 7, 12] (fun v6 v7 v12 wr => ∃ (c e q d : Nat), v6 = .int .i64 c ∧ v7 = .int .i64 e ∧ v12 = .int .i64 d ∧ wr = w.drewN q ∧ 1 ≤ d ∧ d ≤ F ∧ c ≤ 1048576 ∧ e ≤ 1048576 ∧ Hid (Seen S T (lo - d + 1) (hi + d) c)) (fun _ _ v _ => F + 1 - (intOf v).toNat)
        case atStart => exact ⟨c, e, q, 1, rfl, rfl, rfl, rfl, by omega, by omega, hc, he, by rw [show lo - ((1 : Nat) : Int) + 1 = lo by omega]; exact HS1⟩
        case round =>
          clear HS1 ek hc he hk1 hk2 hlt
          obtain ⟨c, e, q, d, rfl, rfl, rfl, rfl, hd1, hd2, hc, he, HS⟩ := hrel
          by_cases hlt : max (c : Int) 1 ≤ (F : Int) - d
          · have hcall := diag_k S T b off cs b' off' ct n m c e (lo - d) (w.drewN q) HN.out HM.out hn1 hm1 hcs hct (by have := HLo.out; have := HF.out; omega) (by have := HLo.out; omega) hc he d1 d2 hS hT
            go_wp2_with (first | (go_at_call 11; refine hcall.mono ?_; rintro e1 w1 ⟨c', e', q', rfl, rfl, hD, hc', he'⟩; have hcall2 := diag_k S T b off cs b' off' ct n m c' e' (hi + d) (w.drewN (q + q')) HN.out HM.out hn1 hm1 hcs hct (by have := HHi.out; omega) (by have := HHi.out; have := HF.out; omega) hc' he' d1 d2 hS hT; have HD := Hid.mk hD; clear hcall hD) | (go_at_call 11; refine hcall2.mono ?_; rintro e1 w1 ⟨c2, e2, q2, rfl, rfl, hD2, hc2, he2⟩))
            go_roundw
            case rel => exact ⟨c2, e2, _, d + 1, rfl, rfl, by go_num, rfl, by omega, by omega, hc2, he2, seen_both HS.out HD.out hD2⟩
            case measure => simp [intOf]; omega
          · clear hS hT
            have HE : Hid (Longest S T c) := seen_end HS.out (by rw [HN.out, HM.out]; exact HLo.out) (by rw [HN.out, HM.out]; exact HHi.out) (by rw [HN.out, HM.out, ← HF.out]; omega)
            have hlt' : ¬ max (c : Int) 1 ≤ (F : Int) - d := hlt
            go_wp2
            go_ret2
            exact ⟨c, e, _, rfl, rfl, HE.out⟩
end Go.Proofs.Qxb6628489a
