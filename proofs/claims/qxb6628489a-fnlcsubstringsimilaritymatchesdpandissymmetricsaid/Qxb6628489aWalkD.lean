import Derived.Test.Qxb6628489aRows
import Derived.Test.Qxb6628489aPlain
import Derived.WalkKit
import Derived.WalkLawsBesides
import Derived.WalkSpells
import Derived.Lib.MinMax
import Derived.Deep.QuietTactic
import Derived.BigQuiet
import Derived.Deep.LoopGhost
import Derived.Deep.CutBlock
import Derived.Deep.DeepCutAuto
namespace Go.Proofs.Qxb6628489a
open Go.RowKit

/-- A slice of runes: its cells hold them. -/
def HasR (w : World) (b off : Nat) (S : List Int) : Prop := ∀ i, i < S.length → w.cell? ⟨b, off + i, none⟩ = some (.int .i32 (S.getD i 0))
theorem HasR.drewN {w : World} {b off : Nat} {S : List Int} (h : HasR w b off S) (n : Nat) : HasR (w.drewN n) b off S := h

theorem Hid.mk {p : Prop} (h : p) : Hid p := h

theorem drew2 (w : World) (a b : Nat) : (w.drewN a).drewN b = w.drewN (a + b) := by simp only [World.drewN_drewN]
/-- What 'diagonalRun' leaves. -/
def DiagPost (S T : List Int) (k : Int) (c : Nat) (w : World) (e : Ending) (w' : World) : Prop :=
  ∃ c' e' q : Nat, e = .returned (.tuple #[.int .i64 c', .int .i64 e']) ∧ w' = w.drewN q ∧ Diag S T k c c' ∧ c' ≤ 1048576 ∧ e' ≤ 1048576

set_option maxRecDepth 100000 in
set_option maxHeartbeats 1000000 in
theorem diag_any (S T : List Int) (b off cs b' off' ct : Nat) (n m : Nat) (f g l c0 e0 : Nat) (k : Int) (w : World) (hn : S.length = n) (hm : T.length = m) (hn1 : n ≤ 20000) (hm1 : m ≤ 20000) (hcs : n ≤ cs) (hct : m ≤ ct)
    (hk : (g : Int) = f + k) (hf : f = 0 ∨ g = 0) (hl : l = min (n - f) (m - g)) (hl0 : 1 ≤ l) (hc0 : c0 ≤ 1048576) (he0 : e0 ≤ 1048576)
    (hS : HasR w b off S) (hT : HasR w b' off' T) :
    Calls Try.prog 11 #[.slice (some ⟨b, off, none⟩) n cs, .slice (some ⟨b', off', none⟩) m ct, .int .i64 k, .int .i64 c0, .int .i64 e0] w (DiagPost S T k c0 w) := by
  have q1 : max 0 (-k) = (f : Int) := by omega
  have q2 : min (n : Int) ((m : Int) - k) = ((f + l : Nat) : Int) := by omega
  have q3 : (f : Int) + k = (g : Int) := by omega
  have q8 : f + l - f = l := by omega
  have q4 : f + l ≤ cs := by omega
  have q5 : g + l ≤ ct := by omega
  have q6 : g < ct := by omega
  have q7 : f < cs := by omega
  have b1 : -20000 ≤ k := by omega
  have b2 : k ≤ 20000 := by omega
  have HK : Hid ((g : Int) = f + k) := hk
  have HL : Hid (l = min (n - f) (m - g)) := hl
  have HF : Hid (f = 0 ∨ g = 0) := hf
  have HN : Hid (S.length = n) := hn
  have HM : Hid (T.length = m) := hm
  clear hk hl hf hn hm
  go_enter Try.func11, Try.ntmps11
  go_wp2
  rw [q8]
  clear q8
  go_loopg [3, 4, 15, 16] (l + 1) (fun gn v3 v4 v15 v16 wr => ∃ c e lo t q : Nat, v3 = .int .i64 c ∧ v4 = .int .i64 e ∧ v15 = .int .i64 lo ∧ v16 = .int .i64 t ∧ wr = w.drewN q ∧ c ≤ 1048576 ∧ e ≤ 1048576 ∧ lo ≤ l + 1 ∧ Hid (gn = l + 1 - lo) ∧ Hid (t + 1 = lo + max c 1) ∧ Hid (Got S T f g l c0 c) ∧ Hid (Upto (Mat S T f g) l lo c))
  case atStart => exact ⟨c0, e0, 0, max c0 1 - 1, 0, rfl, rfl, rfl, congrArg (Value.int .i64) (by omega), rfl, hc0, he0, by omega, rfl, (show _ = _ by omega), got_start S T f g l c0, upto_zero _ _ _⟩
  case round =>
    obtain ⟨c, e, lo, t, q, rfl, rfl, rfl, rfl, rfl, hc, he, hlo, HG, Ht, HGot, HU⟩ := hrel
    have hlt1 : lo ≤ t := by have := Ht.out; omega
    have ht1 : t ≤ 2000000 := by have := Ht.out; omega
    by_cases hlt : t < l
    · obtain ⟨X, hX⟩ : ∃ X, X = S.getD (f + t) 0 := ⟨_, rfl⟩
      obtain ⟨Y, hY⟩ : ∃ Y, Y = T.getD (g + t) 0 := ⟨_, rfl⟩
      have cX : w.cell? ⟨b, off + f + t, none⟩ = some (.int .i32 X) := by rw [hX, Nat.add_assoc]; exact hS _ (by rw [HN.out]; have := HL.out; omega)
      have cY : w.cell? ⟨b', off' + g + t, none⟩ = some (.int .i32 Y) := by rw [hY, Nat.add_assoc]; exact hT _ (by rw [HM.out]; have := HL.out; omega)
      by_cases hXY : X = Y
      · have HM0 : Hid (Mat S T f g t) := by show S.getD (f + t) 0 = T.getD (g + t) 0; rw [← hX, ← hY, hXY]
        have hne : (X != Y) = false := by simp [hXY]
        have HS := Hid.mk hS
        have HT := Hid.mk hT
        clear hX hY hXY hS hT
        go_wp2
        go_quiet (fail)
        go_upto_block 2 with (fail)
        go_cut [17] (fun v wc => ∃ fr q : Nat, v = .int .i64 fr ∧ wc = w.drewN q ∧ lo ≤ fr ∧ fr ≤ t ∧ Hid (Seg (Mat S T f g) fr (t + 1 - fr)) ∧ Hid (fr = lo ∨ ¬ Mat S T f g (fr - 1)))
        case first =>
          go_wp2
          go_loopw [17] (fun v wr => ∃ fr q : Nat, v = .int .i64 fr ∧ wr = w.drewN q ∧ lo ≤ fr ∧ fr ≤ t ∧ Hid (Seg (Mat S T f g) fr (t + 1 - fr))) (fun v _ => (intOf v).toNat)
          case atStart => exact ⟨t, _, rfl, rfl, hlt1, Nat.le_refl _, by rw [show t + 1 - t = 1 by omega]; exact seg_one HM0.out⟩
          case round =>
            obtain ⟨fr, q2, rfl, rfl, hf1, hf2, HSeg⟩ := hrel
            by_cases hgd : lo < fr
            · have hgd' : (lo : Int) < (fr : Int) := by omega
              have hgd1 : 1 ≤ fr := by omega
              have hgd2 : (1 : Int) ≤ (fr : Int) := by omega
              obtain ⟨X', hX⟩ : ∃ X, X = S.getD (f + (fr - 1)) 0 := ⟨_, rfl⟩
              obtain ⟨Y', hY⟩ : ∃ Y, Y = T.getD (g + (fr - 1)) 0 := ⟨_, rfl⟩
              have cX' : w.cell? ⟨b, off + f + (fr - 1), none⟩ = some (.int .i32 X') := by rw [hX, Nat.add_assoc]; exact HS.out _ (by rw [HN.out]; have := HL.out; omega)
              have cY' : w.cell? ⟨b', off' + g + (fr - 1), none⟩ = some (.int .i32 Y') := by rw [hY, Nat.add_assoc]; exact HT.out _ (by rw [HM.out]; have := HL.out; omega)
              by_cases hXY : X' = Y'
              · have HM1 : Hid (Mat S T f g (fr - 1)) := by show S.getD (f + (fr - 1)) 0 = T.getD (g + (fr - 1)) 0; rw [← hX, ← hY, hXY]
                have heq : (X' == Y') = true := by simp [hXY]
                clear hX hY hXY
                go_wp2
                go_quiet (fail)
                go_wp2
                go_roundw
                case rel => exact ⟨fr - 1, _, congrArg (Value.int .i64) (by omega), rfl, by omega, by omega, seg_down HSeg.out hgd1 HM1.out⟩
                case measure => simp [intOf]; omega
              · have HM1 : Hid (¬ Mat S T f g (fr - 1)) := by show ¬ (S.getD (f + (fr - 1)) 0 = T.getD (g + (fr - 1)) 0); rw [← hX, ← hY]; exact hXY
                have heq : (X' == Y') = false := by simp [hXY]
                clear hX hY hXY
                go_wp2
                go_quiet (fail)
                go_wp2
                go_meet
                case rel => exact ⟨fr, _, rfl, drew2 _ _ _, hf1, hf2, HSeg, Or.inr HM1.out⟩
            · have hgd' : decide ((lo : Int) < (fr : Int)) = false := decide_eq_false (by omega)
              go_wp2
              go_quiet (fail)
              go_wp2
              go_meet
              case rel => exact ⟨fr, _, rfl, drew2 _ _ _, hf1, hf2, HSeg, Or.inl (by omega)⟩
        case rest =>
          obtain ⟨fr, q2, rfl, rfl, hf1, hf2, HSeg, HEnd⟩ := hcut
          go_upto_block 4 with (fail)
          go_cut [18] (fun v wc => ∃ tp q : Nat, v = .int .i64 tp ∧ wc = w.drewN q ∧ t < tp ∧ tp ≤ l ∧ Hid (Seg (Mat S T f g) fr (tp - fr)) ∧ Hid (tp = l ∨ ¬ Mat S T f g tp))
          case first =>
            go_wp2
            go_loopw [18] (fun v wr => ∃ tp q : Nat, v = .int .i64 tp ∧ wr = w.drewN q ∧ t < tp ∧ tp ≤ l ∧ Hid (Seg (Mat S T f g) fr (tp - fr))) (fun v _ => l - (intOf v).toNat)
            case atStart => exact ⟨t + 1, _, by go_num, rfl, by omega, by omega, HSeg⟩
            case round =>
              obtain ⟨tp, q3, rfl, rfl, ht2, ht3, HSeg2⟩ := hrel
              by_cases hgd : tp < l
              · have hgd' : (tp : Int) < (l : Int) := by omega
                obtain ⟨X', hX⟩ : ∃ X, X = S.getD (f + tp) 0 := ⟨_, rfl⟩
                obtain ⟨Y', hY⟩ : ∃ Y, Y = T.getD (g + tp) 0 := ⟨_, rfl⟩
                have cX' : w.cell? ⟨b, off + f + tp, none⟩ = some (.int .i32 X') := by rw [hX, Nat.add_assoc]; exact HS.out _ (by rw [HN.out]; have := HL.out; omega)
                have cY' : w.cell? ⟨b', off' + g + tp, none⟩ = some (.int .i32 Y') := by rw [hY, Nat.add_assoc]; exact HT.out _ (by rw [HM.out]; have := HL.out; omega)
                by_cases hXY : X' = Y'
                · have HM1 : Hid (Mat S T f g tp) := by show S.getD (f + tp) 0 = T.getD (g + tp) 0; rw [← hX, ← hY, hXY]
                  have heq : (X' == Y') = true := by simp [hXY]
                  clear hX hY hXY
                  go_wp2
                  go_quiet (fail)
                  go_wp2
                  go_roundw
                  case rel => exact ⟨tp + 1, _, by go_num, rfl, by omega, by omega, seg_up HSeg2.out (by omega) HM1.out⟩
                  case measure => simp [intOf]; omega
                · have HM1 : Hid (¬ Mat S T f g tp) := by show ¬ (S.getD (f + tp) 0 = T.getD (g + tp) 0); rw [← hX, ← hY]; exact hXY
                  have heq : (X' == Y') = false := by simp [hXY]
                  clear hX hY hXY
                  go_wp2
                  go_quiet (fail)
                  go_wp2
                  go_meet
                  case rel => exact ⟨tp, _, rfl, drew2 _ _ _, ht2, ht3, HSeg2, Or.inr HM1.out⟩
              · have hgd' : decide ((tp : Int) < (l : Int)) = false := decide_eq_false (by omega)
                go_wp2
                go_quiet (fail)
                go_wp2
                go_meet
                case rel => exact ⟨tp, _, rfl, drew2 _ _ _, ht2, ht3, HSeg2, Or.inl (by omega)⟩
          case rest =>
            obtain ⟨tp, q3, rfl, rfl, ht2, ht3, HSeg2, HEnd2⟩ := hcut
            clear HS HT
            have HU2 : Hid (Upto (Mat S T f g) l (tp + 1) (max c (tp - fr))) := upto_hit HU.out (by have := Ht.out; omega) hf1 hf2 ht2 ht3 HEnd.out HEnd2.out
            have HGot2 : Hid (Got S T f g l c0 (max c (tp - fr))) := got_max HGot.out (by omega) (by omega) HSeg2.out
            clear HU HGot
            by_cases hr1 : c < tp - fr
            · have hr1' : (c : Int) < (tp : Int) - (fr : Int) := by omega
              go_wp2
              go_roundg (l + 1 - (tp + 1))
              case measure => have := HG.out; omega
              case rel => exact ⟨tp - fr, f + tp, tp + 1, tp + 1 + max (tp - fr) 1 - 1, _, congrArg (Value.int .i64) (by omega), by go_num, by go_num, congrArg (Value.int .i64) (by omega), rfl, by omega, by omega, by omega, rfl, (show _ = _ by omega), by rw [Nat.max_eq_right (by omega)] at HGot2; exact HGot2, by rw [Nat.max_eq_right (by omega)] at HU2; exact HU2⟩
            · have hr1' : ¬ (c : Int) < (tp : Int) - (fr : Int) := by omega
              rw [Nat.max_eq_left (by omega)] at HGot2 HU2
              go_wp2
              · go_roundg (l + 1 - (tp + 1))
                case measure => have := HG.out; omega
                case rel => exact ⟨c, f + tp, tp + 1, tp + 1 + max c 1 - 1, _, rfl, by go_num, by go_num, congrArg (Value.int .i64) (by omega), rfl, hc, by omega, by omega, rfl, (show _ = _ by omega), HGot2, HU2⟩
              all_goals
                go_roundg (l + 1 - (tp + 1))
                case measure => have := HG.out; omega
                case rel => exact ⟨c, e, tp + 1, tp + 1 + max c 1 - 1, _, rfl, rfl, by go_num, congrArg (Value.int .i64) (by omega), rfl, hc, he, by omega, rfl, (show _ = _ by omega), HGot2, HU2⟩
      · have HM0 : Hid (¬ Mat S T f g t) := by show ¬ (S.getD (f + t) 0 = T.getD (g + t) 0); rw [← hX, ← hY]; exact hXY
        have hne : (X != Y) = true := by simp [hXY]
        clear hX hY hXY hS hT
        go_wp2
        go_quiet (fail)
        go_wp2
        go_roundg (l + 1 - (t + 1))
        case measure => have := HG.out; omega
        case rel => exact ⟨c, e, t + 1, t + 1 + max c 1 - 1, _, rfl, rfl, by go_num, congrArg (Value.int .i64) (by omega), rfl, hc, he, by omega, rfl, (show _ = _ by omega), HGot, upto_miss HU.out (by have := Ht.out; omega) HM0.out⟩
    · clear hS hT
      go_wp2
      go_ret2
      exact ⟨c, e, q, rfl, rfl, diag_end HK.out HF.out (by rw [HN.out, HM.out]; exact HL.out) (by have := HL.out; rw [HN.out]; omega) (by have := HL.out; rw [HM.out]; omega) HGot.out HU.out (by have := Ht.out; omega), hc, he⟩
end Go.Proofs.Qxb6628489a
