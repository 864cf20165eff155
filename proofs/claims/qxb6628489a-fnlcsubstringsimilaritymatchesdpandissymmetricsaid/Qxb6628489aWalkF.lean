import Derived.Test.Qxb6628489aWalkE
import Derived.Test.Qxb6628489aFloat
namespace Go.Proofs.Qxb6628489a
open Go.RowKit

theorem bytes5_any (x y : ByteArray) (w : World) (hx : x.size ≤ maxLen) (hy : y.size ≤ maxLen) : Calls Try.prog 5 #[.string x, .string y] w fun e w' => (∃ r : Bool, e = .returned (.bool r)) ∧ w = w' := by
  unfold maxLen at hx hy
  go_enter Try.func5, Try.ntmps5
  go_wp2
  all_goals
    go_ret
    exact ⟨⟨_, rfl⟩, rfl⟩
theorem bytes8_any (x y : ByteArray) (w : World) (hx : x.size ≤ maxLen) (hy : y.size ≤ maxLen) : Calls Try.prog 8 #[.string x, .string y] w fun e w' => (∃ r : Bool, e = .returned (.bool r)) ∧ w = w' := by
  unfold maxLen at hx hy
  go_enter Try.func8, Try.ntmps8
  go_wp2
  all_goals
    go_ret
    exact ⟨⟨_, rfl⟩, rfl⟩

/-- The score that 'similarity' gives: 1.0 where n is 0. -/
def Sim (d n s : Nat) : Prop := (n = 0 ∧ s = oneBits) ∨ (n ≠ 0 ∧ Score d n s)

theorem sim_any (d n s : Nat) (w : World) (h : Sim d n s) : Calls Try.prog 10 #[.int .i64 d, .int .i64 n] w fun e w' => e = .returned (.float .f64 s) ∧ w = w' := by
  rcases h with ⟨h1, h2⟩ | ⟨h1, r, h2, h3⟩
  · subst h1
    have h3 : Hid (oneBits = s) := h2.symm
    clear h2
    go_enter Try.func10, Try.ntmps10
    go_wp2
    go_ret
    exact ⟨by rw [← h3.out]; rfl, rfl⟩
  · have h0 : ((n : Int) == 0) = false := by simp; omega
    have q1 := fun w => run_float_arith (P := Try.prog) w .quo 25 .f64 _ _ r h2
    have q2 : ∀ w, (binOp .sub 25 (.float .f64 4607182418800017408) (.float .f64 r)).run Try.prog w = .ok (.float .f64 s) w := fun w => run_float_arith (P := Try.prog) w .sub 25 .f64 oneBits r s h3
    clear h2 h3
    go_enter Try.func10, Try.ntmps10
    go_wp2
    go_ret
    exact ⟨rfl, rfl⟩
end Go.Proofs.Qxb6628489a
