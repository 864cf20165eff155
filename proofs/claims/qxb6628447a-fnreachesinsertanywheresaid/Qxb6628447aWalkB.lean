import Derived.Test.Qxb6628447aPlain
import Derived.Deep.DeepCutAuto
namespace Go.Proofs.Qxb6628447a
open Go.RowKit

set_option maxRecDepth 100000 in
set_option maxHeartbeats 1000000 in
theorem walk3 (a : Option Addr) (n c : Nat) (ss : List ByteArray) (i : Int) (x y : ByteArray) (w : World) (hn : ss.length = n) (hm : n ≤ maxLen) (hx : x.size ≤ maxLen) (hy : y.size ≤ maxLen) (hss : ∀ s ∈ ss, s.size ≤ maxLen)
    (h : HasS w a ss) (hnil : a = none → n = 0 ∧ c = 0) :
    Calls Try.prog 3 #[.slice a n c, .int .i64 i, .string x, .string y] w fun e w' => e = .returned (.bool true) ∧ Below w.heap.size w w' := by
  have hb5 := bytes5_any a n c ss i x y w hn hm hx hy hss h
  unfold maxLen at hm hx hy hss
  go_enter Try.func3, Try.ntmps3
  go_upto_if 39 with (first | (go_at_call 5; refine hb5.mono ?_; rintro e w' ⟨r, rfl, rfl, hr⟩; cases r))
  all_goals first | (go_ret; exact ⟨rfl, Below.refl _ _⟩) | skip
  go_cut [0, 9] (fun t _ wc => ∃ a' c', t = .slice a' n c' ∧ HasS wc a' ss ∧ Below w.heap.size w wc)
  case first =>
    cases a with
    | none =>
      obtain ⟨rfl, rfl⟩ := hnil rfl
      go_wp2
      go_meet
      case rel => exact ⟨none, 0, rfl, h, Below.refl _ _⟩
    | some ad =>
      go_wp2_with (first | (at_make; refine wpList_makeS _ n rfl _ _ rfl _ _ rfl rfl rfl rfl (by omega) ?_; intro w1 hrow hbel) | (refine wpList_copyS _ ss w.heap.size w.heap.size w (by rw [hn]; exact hrow.out) hbel (Nat.le_refl _) rfl (.tmp 43) (.tmp 44) rfl _ _ _ _ _ rfl rfl hn.symm hn.symm (h.below hbel) ?_; intro w2 hrow2 hbel2; have hS2 := Hid.mk hrow2.out.has))
      go_meet
      case rel => exact ⟨some ⟨w.heap.size, 0, none⟩, n, rfl, hS2.out, hbel2⟩
  case rest =>
    obtain ⟨a', c', rfl, hS, hB⟩ := hcut
    have hsm : Hid (small ss) := hr trivial
    clear h hnil hr hss
    go_wp2
    · go_ret
      exact ⟨rfl, hB⟩
    · go_loop [10, 11] (fun q k => ∃ k' q' : Nat, k' ≤ n ∧ k = .int .i64 k' ∧ q = .int .i64 q' ∧ q' ≤ 1048576) (fun _ k => n - (intOf k).toNat)
      case atStart => exact ⟨0, x.size + y.size, Nat.zero_le _, rfl, by go_num, by omega⟩
      case round =>
        obtain ⟨k, q, hk, rfl, rfl, hq⟩ := hrel
        by_cases hlt : k < n
        · rcases hS with rfl | ⟨b, off, rfl, hc⟩
          · simp at hn; omega
          · have hck := hc k (by omega)
            have hlt' : k < ss.length := by omega
            have hsk := hsm.out ss[k] (List.getElem_mem _)
            clear hc
            go_wp2
            · go_ret
              exact ⟨rfl, hB⟩
            · go_round
              case rel => exact ⟨k + 1, q + (16 + ss[k].size), by omega, by go_num, by go_num, by omega⟩
              case measure => simp [intOf]; omega
        · clear hsm
          by_cases hi : 0 ≤ i ∧ i ≤ n
          · obtain ⟨hi1, hi2⟩ := hi
            obtain ⟨p, rfl⟩ : ∃ p : Nat, i = p := ⟨i.toNat, by omega⟩
            have hpn : p ≤ n := by omega
            have hU := ins_length ss p x (by omega)
            rw [hn] at hU
            go_wp2_with (first | (at_make; refine wpList_makeS _ (n + 1) rfl _ _ rfl _ _ rfl rfl (by omega) (by omega) (by omega) ?_; intro w1 hrow hbel))
            go_loopw [13] (fun k wr => ∃ k' : Nat, k' ≤ p ∧ k = .int .i64 k' ∧ Hid (Row wr wc.heap.size (part (ins ss p x) k')) ∧ Below wc.heap.size wc wr) (fun k _ => p - (intOf k).toNat)
            case atStart => exact ⟨0, Nat.zero_le _, rfl, hrow.out.start hU, hbel⟩
            case round =>
              obtain ⟨k2, hk2, rfl, HR, hbel2⟩ := hrel
              have hS2 := hS.below hbel2
              by_cases hlt2 : k2 < p
              · obtain ⟨b, off, s0, v0, rfl, hck, hv0, hfz, HR2⟩ := hS2.step HR.out (k := k2) (by omega) (by omega) (ins_lt ss p k2 x (by omega) hlt2)
                have HB2 := Hid.mk (hbel2.setCell (p := ⟨wc.heap.size, k2, none⟩) (Nat.le_refl _) (.string s0))
                clear hS hbel hrow
                go_wp2
                go_roundw
                case rel => exact ⟨k2 + 1, by omega, by go_num, HR2, HB2.out⟩
                case measure => simp [intOf]; omega
              · have e : k2 = p := by omega
                subst e
                have hfz := HR.out.free k2
                obtain ⟨v0, hv0⟩ := HR.out.there (k := k2) (by omega)
                have HR2 := Hid.mk (HR.out.ins_mid (by omega))
                have HB2 := Hid.mk (hbel2.setCell (p := ⟨wc.heap.size, k2, none⟩) (Nat.le_refl _) (.string x))
                have H0 := Hid.mk hS
                clear hbel hrow hS2 hS
                go_wp2
                go_loopw [14] (fun k wr => ∃ k' : Nat, k2 ≤ k' ∧ k' ≤ n ∧ k = .int .i64 k' ∧ Hid (Row wr wc.heap.size (part (ins ss k2 x) (k' + 1))) ∧ Below wc.heap.size wc wr) (fun k _ => n - (intOf k).toNat)
                case atStart => exact ⟨k2, Nat.le_refl _, hpn, rfl, HR2, HB2.out⟩
                case round =>
                  clear HR2 HB2 HR hbel2 hfz hv0
                  obtain ⟨k3, hk31, hk3, rfl, HR, hbel3⟩ := hrel
                  have hS3 := H0.out.below hbel3
                  by_cases hlt3 : k3 < n
                  · obtain ⟨b, off, s0, v0, rfl, hck, hv0, hfz, HR2⟩ := hS3.step HR.out (k := k3) (by omega) (by omega) (ins_gt ss k2 k3 x (by omega) (by omega) (by omega))
                    have HB2 := Hid.mk (hbel3.setCell (p := ⟨wc.heap.size, k3 + 1, none⟩) (Nat.le_refl _) (.string s0))
                    clear hbel3 H0
                    go_wp2
                    go_roundw
                    case rel => exact ⟨k3 + 1, by omega, by omega, by go_num, HR2, HB2.out⟩
                    case measure => simp [intOf]; omega
                  · have e : n = k3 := by omega
                    subst e
                    have hSU := HR.out.full hU
                    have HBf := Hid.mk (hB.trans (hbel3.mono hB.size))
                    have hUx : reach (ins ss k2 x) x = true := by rw [ins_reach]; simp
                    have HT := Hid.mk hS3
                    have HU := Hid.mk hSU
                    have HL := Hid.mk hU
                    have HN := Hid.mk hn
                    have hm1 : n ≤ maxLen := by unfold maxLen; omega
                    have hm2 : n + 1 ≤ maxLen := by unfold maxLen; omega
                    clear hS3 hSU HR hbel3 hB H0 hU hn
                    go_wp2_with fail
                    refine (reaches_any a' n c' ss y wr HN.out hm1 HT.out).mono ?_
                    rintro e w' ⟨rfl, hw⟩
                    subst hw
                    go_wp2_with fail
                    refine (reaches_any (some ⟨wc.heap.size, 0, none⟩) (n + 1) (n + 1) (ins ss k2 x) y wr HL.out hm2 HU.out).mono ?_
                    rintro e w' ⟨rfl, hw⟩
                    subst hw
                    go_wp2_with fail
                    refine (reaches_any (some ⟨wc.heap.size, 0, none⟩) (n + 1) (n + 1) (ins ss k2 x) x wr HL.out hm2 HU.out).mono ?_
                    rintro e w' ⟨rfl, hw⟩
                    subst hw
                    rw [hUx]
                    by_cases hn0 : n = 0
                    · obtain ⟨hrt, hru⟩ := end_none ss k2 x y (by rw [HN.out]; exact hn0)
                      have ht0 : ((n : Int) == 0) = true := by simp [hn0]
                      rw [hrt, hru]
                      clear hn0 hru hrt hUx
                      go_wp2
                      go_ret
                      exact ⟨rfl, HBf.out⟩
                    · have hru := end_some ss k2 x y (by rw [HN.out]; exact hn0)
                      have ht0 : ((n : Int) == 0) = false := by simp [hn0]
                      rw [hru]
                      clear hru hUx
                      by_cases hkn : k2 = n
                      · subst hkn
                        obtain ⟨b, off, s0, rfl, hc0, hr0⟩ := HT.out.at (k2 - 1) (by rw [HN.out]; omega)
                        have hk1 : 1 ≤ k2 := by omega
                        have hk1' : (1 : Int) ≤ (k2 : Int) := by omega
                        clear hn0
                        go_wp2_with fail
                        refine (reaches_any (some ⟨b, off, none⟩) k2 c' ss s0 wr HN.out hm1 HT.out).mono ?_
                        rintro e w' ⟨rfl, hw⟩
                        subst hw
                        rw [hr0]
                        clear hr0
                        go_wp2
                        all_goals (go_ret; exact ⟨rfl, HBf.out⟩)
                      · obtain ⟨b, off, s0, rfl, hc0, hr0⟩ := HT.out.at k2 (by rw [HN.out]; omega)
                        have hk0 : ((k2 : Int) == (n : Int)) = false := by simp; omega
                        clear hn0
                        go_wp2_with fail
                        refine (reaches_any (some ⟨b, off, none⟩) n c' ss s0 wr HN.out hm1 HT.out).mono ?_
                        rintro e w' ⟨rfl, hw⟩
                        subst hw
                        rw [hr0]
                        clear hr0
                        go_wp2
                        all_goals (go_ret; exact ⟨rfl, HBf.out⟩)
          · go_wp2
            all_goals (go_ret; exact ⟨rfl, hB⟩)
end Go.Proofs.Qxb6628447a
