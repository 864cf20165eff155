import Derived.Test.Qxb6628447aPlain
import Derived.Deep.DeepCutAuto
namespace Go.Proofs.Qxb6628447a
open Go.RowKit

theorem app_lo (ss tt : List ByteArray) (k : Nat) (h : k < ss.length) : (ss ++ tt)[k]'(by simp; omega) = ss[k] := List.getElem_append_left h
theorem app_hi (ss tt : List ByteArray) (n k : Nat) (hn : ss.length = n) (h : k < tt.length) : (ss ++ tt)[n + k]'(by simp; omega) = tt[k] := by
  subst hn
  rw [List.getElem_append_right (by omega)]
  simp

/-- The first and the last element of a slice that is not empty, as the walk reads them. -/
theorem HasS.ends {w : World} {a : Option Addr} {ss : List ByteArray} {n : Nat} (hS : HasS w a ss) (hn : ss.length = n) (h : 1 ≤ n) : ∃ b off s t, a = some ⟨b, off, none⟩ ∧ w.cell? ⟨b, off, none⟩ = some (.string s) ∧ w.cell? ⟨b, off + (n - 1), none⟩ = some (.string t) ∧ reach ss s = true ∧ reach ss t = true := by
  subst hn
  rcases hS with rfl | ⟨b, off, rfl, hc⟩
  · simp at h
  · refine ⟨b, off, ss[0], ss[ss.length - 1], rfl, ?_, ?_, reach_own ss 0 _, reach_own ss _ _⟩
    · have := hc 0 (by omega)
      rw [Nat.add_zero] at this
      rw [this]
      simp [List.getD, show 0 < ss.length by omega]
    · rw [hc _ (by omega)]
      simp [List.getD, show ss.length - 1 < ss.length by omega]
theorem own_any (a : Option Addr) (n c : Nat) (ss : List ByteArray) (y : ByteArray) (w : World) (hn : ss.length = n) (hm : n ≤ maxLen) (h : HasS w a ss) (hr : reach ss y = true) :
    Calls Try.prog 6 #[.slice a n c, .string y] w fun e w' => e = .returned (.bool true) ∧ w = w' := by
  have := reaches_any a n c ss y w hn hm h
  rwa [hr] at this
theorem nil_of (ss : List ByteArray) (n : Nat) (hn : ss.length = n) (h : n = 0) : ss = [] := List.eq_nil_of_length_eq_zero (by omega)
theorem join_reach (ss tt : List ByteArray) (n m : Nat) (y : ByteArray) (hn : ss.length = n) (hm : tt.length = m) (h : 1 ≤ n) (h' : 1 ≤ m) : reach (ss ++ tt) y = (reach ss y || reach tt y) := by
  have h1 : ss ≠ [] := by intro e; rw [e] at hn; simp at hn; omega
  have h2 : tt ≠ [] := by intro e; rw [e] at hm; simp at hm; omega
  rw [reach_ne _ _ h1, reach_ne _ _ h2, reach_ne _ _ (by simp [h1]), hit_append]

set_option maxRecDepth 100000 in
set_option maxHeartbeats 4000000 in
theorem walk4 (a : Option Addr) (n c : Nat) (ss : List ByteArray) (b : Option Addr) (m d : Nat) (tt : List ByteArray) (y : ByteArray) (w : World) (hn : ss.length = n) (hm : n ≤ maxLen) (hn' : tt.length = m) (hm' : m ≤ maxLen) (hy : y.size ≤ maxLen)
    (hss : ∀ s ∈ ss, s.size ≤ maxLen) (htt : ∀ s ∈ tt, s.size ≤ maxLen) (h : HasS w a ss) (hnil : a = none → n = 0 ∧ c = 0) (h' : HasS w b tt) (hnil' : b = none → m = 0 ∧ d = 0) :
    Calls Try.prog 4 #[.slice a n c, .slice b m d, .string y] w fun e w' => e = .returned (.bool true) ∧ Below w.heap.size w w' := by
  have hb7 := bytes7_any a n c ss b m d tt y w hn hm hn' hm' hy hss htt h h'
  unfold maxLen at hm hm' hy
  clear hss htt
  go_enter Try.func4, Try.ntmps4
  go_upto_if 37 with (first | (go_at_call 7; refine hb7.mono ?_; rintro e w' ⟨r, rfl, rfl, hr⟩; cases r))
  all_goals first | (go_ret; exact ⟨rfl, Below.refl _ _⟩) | skip
  clear hb7
  go_cut [0, 7] (fun t _ wc => ∃ a' c', t = .slice a' n c' ∧ HasS wc a' ss ∧ Below w.heap.size w wc)
  case first =>
    cases a with
    | none =>
      obtain ⟨rfl, rfl⟩ := hnil rfl
      go_wp2
      go_meet
      case rel => exact ⟨none, 0, rfl, h, Below.refl _ _⟩
    | some ad =>
      go_wp2_with (first | (at_make; refine wpList_makeS _ n rfl _ _ rfl _ _ rfl rfl rfl rfl (by omega) ?_; intro w1 hrow hbel) | (refine wpList_copyS _ ss w.heap.size w.heap.size w (by rw [hn]; exact hrow.out) hbel (Nat.le_refl _) rfl (.tmp 41) (.tmp 42) rfl _ _ _ _ _ rfl rfl hn.symm hn.symm (h.below hbel) ?_; intro w2 hrow2 hbel2; have hS2 := Hid.mk hrow2.out.has))
      go_meet
      case rel => exact ⟨some ⟨w.heap.size, 0, none⟩, n, rfl, hS2.out, hbel2⟩
  case rest =>
    obtain ⟨a', c', rfl, hS, hB⟩ := hcut
    have hsm : Hid (small ss ∧ small tt) := hr trivial
    clear h hnil hr
    go_upto_if 46 with (fail)
    go_cut [1, 8] (fun t _ wd => ∃ b' d', t = .slice b' m d' ∧ HasS wd b' tt ∧ Below wc.heap.size wc wd)
    case first =>
      have h2 := h'.below hB
      cases b with
      | none =>
        obtain ⟨rfl, rfl⟩ := hnil' rfl
        go_wp2
        go_meet
        case rel => exact ⟨none, 0, rfl, h2, Below.refl _ _⟩
      | some ad =>
        go_wp2_with (first | (at_make; refine wpList_makeS _ m rfl _ _ rfl _ _ rfl rfl rfl rfl (by omega) ?_; intro w1 hrow hbel) | (refine wpList_copyS _ tt wc.heap.size wc.heap.size wc (by rw [hn']; exact hrow.out) hbel (Nat.le_refl _) rfl (.tmp 50) (.tmp 51) rfl _ _ _ _ _ rfl rfl hn'.symm hn'.symm (h2.below hbel) ?_; intro w2 hrow2 hbel2; have hS2 := Hid.mk hrow2.out.has))
        go_meet
        case rel => exact ⟨some ⟨wc.heap.size, 0, none⟩, m, rfl, hS2.out, hbel2⟩
    case rest =>
      obtain ⟨b', d', rfl, hT, hB2⟩ := hcut
      have hS2 := hS.below hB2
      have hB3 := hB.trans (hB2.mono hB.size)
      clear hS hB hB2 h' hnil'
      go_wp2
      go_loop [9, 10] (fun q k => ∃ k' q' : Nat, k' ≤ n ∧ k = .int .i64 k' ∧ q = .int .i64 q' ∧ q' ≤ 1048576) (fun _ k => n - (intOf k).toNat)
      case atStart => exact ⟨0, y.size, Nat.zero_le _, rfl, rfl, by omega⟩
      case round =>
        obtain ⟨k, q, hk, rfl, rfl, hq⟩ := hrel
        by_cases hlt : k < n
        · obtain ⟨b0, off, s0, rfl, hck, _⟩ := hS2.at k (by omega)
          have hsk := hsm.out.1.at (by omega) hS2 hck
          clear hT hS2
          go_wp2
          · go_ret
            exact ⟨rfl, hB3⟩
          · go_round
            case rel => exact ⟨k + 1, q + (16 + s0.size), by omega, by go_num, by go_num, by omega⟩
            case measure => simp [intOf]; omega
        · go_wp2
          go_loop [9, 11] (fun q k => ∃ k' q' : Nat, k' ≤ m ∧ k = .int .i64 k' ∧ q = .int .i64 q' ∧ q' ≤ 1048576) (fun _ k => m - (intOf k).toNat)
          case atStart => exact ⟨0, q, Nat.zero_le _, rfl, rfl, hq⟩
          case round =>
            obtain ⟨k2, q2, hk2, rfl, rfl, hq2⟩ := hrel
            by_cases hlt2 : k2 < m
            · obtain ⟨b0, off, s0, rfl, hck, _⟩ := hT.at k2 (by omega)
              have hsk := hsm.out.2.at (by omega) hT hck
              clear hT hS2
              go_wp2
              · go_ret
                exact ⟨rfl, hB3⟩
              · go_round
                case rel => exact ⟨k2 + 1, q2 + (16 + s0.size), by omega, by go_num, by go_num, by omega⟩
                case measure => simp [intOf]; omega
            · clear hsm
              have hU : (ss ++ tt).length = n + m := by simp [hn, hn']
              go_wp2_with (first | (at_make; refine wpList_makeS _ (n + m) rfl _ _ rfl _ _ rfl rfl (by omega) (by omega) (by omega) ?_; intro w1 hrow hbel))
              go_loopw [13] (fun k wr => ∃ k' : Nat, k' ≤ n ∧ k = .int .i64 k' ∧ Hid (Row wr wc.heap.size (part (ss ++ tt) k')) ∧ Below wc.heap.size wc wr) (fun k _ => n - (intOf k).toNat)
              case atStart => exact ⟨0, Nat.zero_le _, rfl, hrow.out.start hU, hbel⟩
              case round =>
                obtain ⟨k3, hk3, rfl, HR, hbel3⟩ := hrel
                by_cases hlt3 : k3 < n
                · have hS3 := hS2.below hbel3
                  obtain ⟨b0, off, s0, v0, rfl, hck, hv0, hfz, HR2⟩ := hS3.step HR.out (k := k3) (by omega) (by omega) (app_lo ss tt k3 (by omega))
                  have HB2 := Hid.mk (hbel3.setCell (p := ⟨wc.heap.size, k3, none⟩) (Nat.le_refl _) (.string s0))
                  clear hS2 hT hbel hrow hS3
                  go_wp2
                  go_roundw
                  case rel => exact ⟨k3 + 1, by omega, by go_num, HR2, HB2.out⟩
                  case measure => simp [intOf]; omega
                · have e : n = k3 := by omega
                  subst e
                  clear hbel hrow
                  go_wp2
                  go_loopw [14] (fun k wr => ∃ k' : Nat, k' ≤ m ∧ k = .int .i64 k' ∧ Hid (Row wr wc.heap.size (part (ss ++ tt) (n + k'))) ∧ Below wc.heap.size wc wr) (fun k _ => m - (intOf k).toNat)
                  case atStart => exact ⟨0, Nat.zero_le _, rfl, HR, hbel3⟩
                  case round =>
                    clear HR hbel3
                    obtain ⟨k4, hk4, rfl, HR, hbel3⟩ := hrel
                    by_cases hlt4 : k4 < m
                    · have hT3 := hT.below hbel3
                      obtain ⟨b0, off, s0, v0, rfl, hck, hv0, hfz, HR2⟩ := hT3.step HR.out (k := k4) (by omega) (by omega) (app_hi ss tt n k4 hn (by omega))
                      have HB2 := Hid.mk (hbel3.setCell (p := ⟨wc.heap.size, n + k4, none⟩) (Nat.le_refl _) (.string s0))
                      clear hS2 hT hT3
                      go_wp2
                      go_roundw
                      case rel => exact ⟨k4 + 1, by omega, by go_num, HR2, HB2.out⟩
                      case measure => simp [intOf]; omega
                    · have e : m = k4 := by omega
                      subst e
                      have HA := Hid.mk (hS2.below hbel3)
                      have HT := Hid.mk (hT.below hbel3)
                      have HC := Hid.mk (HR.out.full hU)
                      have HBf := Hid.mk (hB3.trans (hbel3.mono hB3.size))
                      have HN := Hid.mk hn
                      have HN' := Hid.mk hn'
                      have HU := Hid.mk hU
                      have hm1 : n ≤ maxLen := by unfold maxLen; omega
                      have hm2 : m ≤ maxLen := by unfold maxLen; omega
                      have hm3 : n + m ≤ maxLen := by unfold maxLen; omega
                      clear hS2 hT hbel3 HR hB3 hn hn' hU
                      go_wp2_with fail
                      refine (reaches_any a' n c' ss y wr HN.out hm1 HA.out).mono ?_
                      rintro e w' ⟨rfl, hw⟩
                      subst hw
                      go_wp2_with fail
                      refine (reaches_any b' m d' tt y wr HN'.out hm2 HT.out).mono ?_
                      rintro e w' ⟨rfl, hw⟩
                      subst hw
                      go_wp2_with fail
                      refine (reaches_any (some ⟨wc.heap.size, 0, none⟩) (n + m) (n + m) (ss ++ tt) y wr HU.out hm3 HC.out).mono ?_
                      rintro e w' ⟨rfl, hw⟩
                      subst hw
                      by_cases hn0 : n = 0
                      · have e0 := nil_of ss n HN.out hn0
                        have e1 : reach ss y = true := by rw [e0]; rfl
                        have e2 : reach (ss ++ tt) y = reach tt y := by rw [e0]; rfl
                        rw [e1, e2]
                        clear e0 e1 e2
                        subst hn0
                        by_cases hm0 : m = 0
                        · have e0 := nil_of tt m HN'.out hm0
                          have e1 : reach tt y = true := by rw [e0]; rfl
                          rw [e1]
                          clear e0 e1
                          subst hm0
                          go_wp2_with fail
                          go_ret
                          exact ⟨rfl, HBf.out⟩
                        · have hm1' : 1 ≤ m := by omega
                          have HU2 : Hid ((ss ++ tt).length = m) := by have := HU.out; rw [Nat.zero_add] at this; exact this
                          obtain ⟨b0, off, s0, s1, rfl, hc0, hc1, hr0, hr1⟩ := HT.out.ends HN'.out hm1'
                          obtain ⟨b2, off2, s2, s3, hq, hc2, hc3, hr2, hr3⟩ := HC.out.ends HU2.out hm1'
                          simp only [Option.some.injEq, Addr.mk.injEq, and_true] at hq
                          obtain ⟨rfl, rfl⟩ := hq
                          rw [Nat.zero_add] at hc3
                          have HR0 := Hid.mk hr0
                          have HR1 := Hid.mk hr1
                          have HR2 := Hid.mk hr2
                          have HR3 := Hid.mk hr3
                          clear hm0 hr0 hr1 hr2 hr3 hm3
                          go_wp2_with fail
                          refine (own_any (some ⟨b0, off, none⟩) m d' tt s0 wr HN'.out hm2 HT.out HR0.out).mono ?_
                          rintro e w' ⟨rfl, hw⟩
                          subst hw
                          go_wp2_with fail
                          refine (own_any (some ⟨b0, off, none⟩) m d' tt s1 wr HN'.out hm2 HT.out HR1.out).mono ?_
                          rintro e w' ⟨rfl, hw⟩
                          subst hw
                          go_wp2_with fail
                          refine (own_any (some ⟨wc.heap.size, 0, none⟩) m m (ss ++ tt) s2 wr HU2.out hm2 HC.out HR2.out).mono ?_
                          rintro e w' ⟨rfl, hw⟩
                          subst hw
                          go_wp2_with fail
                          refine (own_any (some ⟨wc.heap.size, 0, none⟩) m m (ss ++ tt) s3 wr HU2.out hm2 HC.out HR3.out).mono ?_
                          rintro e w' ⟨rfl, hw⟩
                          subst hw
                          go_wp2_with fail
                          go_ret
                          exact ⟨ret_bool (by simp), HBf.out⟩
                      · have hn1' : 1 ≤ n := by omega
                        obtain ⟨a0, off0, s0, s1, rfl, hc0, hc1, hr0, hr1⟩ := HA.out.ends HN.out hn1'
                        have HR0 := Hid.mk hr0
                        have HR1 := Hid.mk hr1
                        clear hr0 hr1 hn0
                        by_cases hm0 : m = 0
                        · have e0 := nil_of tt m HN'.out hm0
                          have e1 : reach tt y = true := by rw [e0]; rfl
                          have e2 : reach (ss ++ tt) y = reach ss y := by rw [e0, List.append_nil]
                          rw [e1, e2]
                          clear e0 e1 e2
                          subst hm0
                          have HU2 : Hid ((ss ++ tt).length = n) := HU.out
                          obtain ⟨b2, off2, s2, s3, hq, hc2, hc3, hr2, hr3⟩ := HC.out.ends HU2.out hn1'
                          simp only [Option.some.injEq, Addr.mk.injEq, and_true] at hq
                          obtain ⟨rfl, rfl⟩ := hq
                          rw [Nat.zero_add] at hc3
                          have HR2 := Hid.mk hr2
                          have HR3 := Hid.mk hr3
                          clear hr2 hr3 hm3
                          go_wp2_with fail
                          refine (own_any (some ⟨a0, off0, none⟩) n c' ss s0 wr HN.out hm1 HA.out HR0.out).mono ?_
                          rintro e w' ⟨rfl, hw⟩
                          subst hw
                          go_wp2_with fail
                          refine (own_any (some ⟨a0, off0, none⟩) n c' ss s1 wr HN.out hm1 HA.out HR1.out).mono ?_
                          rintro e w' ⟨rfl, hw⟩
                          subst hw
                          go_wp2_with fail
                          refine (own_any (some ⟨wc.heap.size, 0, none⟩) n n (ss ++ tt) s2 wr HU2.out hm1 HC.out HR2.out).mono ?_
                          rintro e w' ⟨rfl, hw⟩
                          subst hw
                          go_wp2_with fail
                          refine (own_any (some ⟨wc.heap.size, 0, none⟩) n n (ss ++ tt) s3 wr HU2.out hm1 HC.out HR3.out).mono ?_
                          rintro e w' ⟨rfl, hw⟩
                          subst hw
                          go_wp2_with fail
                          go_ret
                          exact ⟨ret_bool (by simp), HBf.out⟩
                        · have hm1' : 1 ≤ m := by omega
                          have e2 := join_reach ss tt n m y HN.out HN'.out hn1' hm1'
                          rw [e2]
                          clear e2
                          obtain ⟨b0, off, t0, t1, rfl, hd0, hd1, hr0, hr1⟩ := HT.out.ends HN'.out hm1'
                          obtain ⟨b2, off2, s2, s3, hq, hc2, hc3, hr2, hr3⟩ := HC.out.ends HU.out (by omega)
                          simp only [Option.some.injEq, Addr.mk.injEq, and_true] at hq
                          obtain ⟨rfl, rfl⟩ := hq
                          rw [Nat.zero_add] at hc3
                          have HR2 := Hid.mk hr2
                          have HR3 := Hid.mk hr3
                          have HQ0 := Hid.mk hr0
                          have HQ1 := Hid.mk hr1
                          clear hr0 hr1 hr2 hr3 hm0
                          go_wp2_with fail
                          refine (own_any (some ⟨a0, off0, none⟩) n c' ss s0 wr HN.out hm1 HA.out HR0.out).mono ?_
                          rintro e w' ⟨rfl, hw⟩
                          subst hw
                          go_wp2_with fail
                          refine (own_any (some ⟨a0, off0, none⟩) n c' ss s1 wr HN.out hm1 HA.out HR1.out).mono ?_
                          rintro e w' ⟨rfl, hw⟩
                          subst hw
                          go_wp2_with fail
                          refine (own_any (some ⟨b0, off, none⟩) m d' tt t0 wr HN'.out hm2 HT.out HQ0.out).mono ?_
                          rintro e w' ⟨rfl, hw⟩
                          subst hw
                          go_wp2_with fail
                          refine (own_any (some ⟨b0, off, none⟩) m d' tt t1 wr HN'.out hm2 HT.out HQ1.out).mono ?_
                          rintro e w' ⟨rfl, hw⟩
                          subst hw
                          go_wp2_with fail
                          refine (own_any (some ⟨wc.heap.size, 0, none⟩) (n + m) (n + m) (ss ++ tt) s2 wr HU.out hm3 HC.out HR2.out).mono ?_
                          rintro e w' ⟨rfl, hw⟩
                          subst hw
                          go_wp2_with fail
                          refine (own_any (some ⟨wc.heap.size, 0, none⟩) (n + m) (n + m) (ss ++ tt) s3 wr HU.out hm3 HC.out HR3.out).mono ?_
                          rintro e w' ⟨rfl, hw⟩
                          subst hw
                          go_wp2_with fail
                          all_goals
                            go_ret
                            exact ⟨ret_bool (by simp), HBf.out⟩
end Go.Proofs.Qxb6628447a
