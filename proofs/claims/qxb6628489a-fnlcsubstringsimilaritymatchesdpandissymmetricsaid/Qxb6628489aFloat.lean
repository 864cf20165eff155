import Derived.Laws.FloatArith
import Derived.KernelRfl
namespace Go.Proofs.Qxb6628489a
open Ieee

/-! ### Words that are no NaN -/
def Fine (f : Format) (x : Nat) : Prop := (f.read x).isNaN = false

theorem fine_word (f : Format) (neg : Bool) (rung : Nat) (h : rung ≤ f.infRung) : Fine f (f.word neg rung) := by
  have h1 : rung < f.signWeight := Nat.lt_of_le_of_lt h f.infRung_lt
  have h2 : f.word neg rung % f.signWeight = rung := by
    unfold Format.word
    split
    · rw [Nat.add_mod_left, Nat.mod_eq_of_lt h1]
    · exact Nat.mod_eq_of_lt h1
  unfold Fine Format.read
  simp only [h2]
  split
  · rfl
  · split
    · rfl
    · split
      · rfl
      · omega
theorem fine_nearest (f : Format) (neg : Bool) (mag : Nat) (place : Int) : Fine f (f.nearest neg mag place) := by
  unfold Format.nearest
  split
  · exact fine_word f neg 0 (Nat.zero_le _)
  · exact fine_word f neg _ (Nat.min_le_right _ _)
theorem fine_write (f : Format) (d : Datum) (h : d.isNaN = false) : Fine f (f.write d) := by
  cases d with
  | number s m p => exact fine_nearest f s m p
  | infinity s => exact fine_word f s _ (Nat.le_refl _)
  | nan s t => simp [Datum.isNaN] at h
theorem fine_order (f : Format) (x : Nat) (h : Fine f x) : f.order x x = some .eq := by
  unfold Fine at h
  unfold Format.order
  cases hd : f.read x with
  | number s m p => simp [Datum.order]
  | infinity s => simp [Datum.order]
  | nan s t => rw [hd] at h; simp [Datum.isNaN] at h
theorem quo_some (f : Format) (x y : Nat) (s : Bool) (m : Nat) (i : Int) (t : Bool) (n : Nat) (j : Int) (hx : f.read x = .number s m i) (hy : f.read y = .number t n j) (hn : n ≠ 0) : ∃ r, f.div x y = some r ∧ Fine f r := by
  unfold Format.div
  rw [hx, hy]
  simp only [Datum.quotient, if_neg hn, Option.map_some]
  exact ⟨_, rfl, fine_nearest _ _ _ _⟩
theorem sub_some (f : Format) (x y : Nat) (s : Bool) (m : Nat) (i : Int) (hx : f.read x = .number s m i) (hy : Fine f y) : ∃ r, f.sub x y = some r ∧ Fine f r := by
  unfold Fine at hy
  unfold Format.sub
  rw [hx]
  cases hd : f.read y with
  | number t n j =>
    simp only [Datum.opposite, Datum.sum, Option.map_some]
    exact ⟨_, rfl, fine_nearest _ _ _ _⟩
  | infinity t =>
    simp only [Datum.opposite, Datum.sum, Option.map_some]
    exact ⟨_, rfl, fine_write _ _ rfl⟩
  | nan t u => rw [hd] at hy; simp [Datum.isNaN] at hy

/-- float64(n) is a number, and no zero where n is none. -/
def goodAt (n : Nat) : Bool := match double.read (double.write (.number false n 0)) with
  | .number _ m _ => m != 0 || n == 0
  | _ => false
theorem good_all : (List.range 8193).all goodAt = true := by kernel_rfl
theorem good_read (n : Nat) (h : n ≤ 8192) : ∃ s m i, double.read (floatOfInt .f64 (n : Int)) = .number s m i ∧ (n ≠ 0 → m ≠ 0) := by
  have h1 := List.all_eq_true.1 good_all n (List.mem_range.2 (by omega))
  have e : floatOfInt .f64 (n : Int) = double.write (.number false n 0) := by
    show double.write (.number (decide ((n : Int) < 0)) (n : Int).natAbs 0) = _
    rw [decide_eq_false (by omega), Int.natAbs_natCast]
  rw [e]
  unfold goodAt at h1
  split at h1
  · rename_i s m i hd
    exact ⟨s, m, i, hd, fun hn hm => by simp [hm, hn] at h1⟩
  · cases h1

/-- The bits of 1.0. -/
def oneBits : Nat := 4607182418800017408
theorem one_read : double.read oneBits = .number false 4503599627370496 (-52) := by kernel_rfl
theorem one_fine : Fine double oneBits := by unfold Fine; rw [one_read]; rfl

/-- The bits of '1 - float64(d)/float64(n)'. -/
def Score (d n s : Nat) : Prop := ∃ r, floatBits .quo .f64 (floatOfInt .f64 (d : Int)) (floatOfInt .f64 (n : Int)) = some r ∧ floatBits .sub .f64 oneBits r = some s
theorem score_some (d n : Nat) (hd : d ≤ 8192) (hn : n ≤ 8192) (h0 : n ≠ 0) : ∃ s, Score d n s ∧ Fine double s := by
  obtain ⟨s1, m1, i1, e1, _⟩ := good_read d hd
  obtain ⟨s2, m2, i2, e2, z2⟩ := good_read n hn
  obtain ⟨r, hr, fr⟩ := quo_some double _ _ _ _ _ _ _ _ e1 e2 (z2 h0)
  obtain ⟨s, hs, fs⟩ := sub_some double _ _ _ _ _ one_read fr
  exact ⟨s, ⟨r, hr, hs⟩, fs⟩
theorem fine_eq (x : Nat) (h : Fine double x) : (FloatKind.format .f64).order x x = some .eq := fine_order double x h
end Go.Proofs.Qxb6628489a
