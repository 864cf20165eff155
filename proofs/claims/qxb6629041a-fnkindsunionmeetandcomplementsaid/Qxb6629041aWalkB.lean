import Derived.Test.Qxb6629041aWalkA
namespace Go.Proofs.Qxb6629041a
open Go.RowKit

/-- How many of five are set. -/
def one (b : Bool) : Nat := if b then 1 else 0
def kinds (a b c d e : Bool) : Nat := one a + one b + one c + one d + one e
def upto (a b c d e : Bool) : Nat → Nat
  | 0 => 0
  | 1 => one a
  | 2 => one a + one b
  | 3 => one a + one b + one c
  | 4 => one a + one b + one c + one d
  | _ => kinds a b c d e
theorem one_le (b : Bool) : one b ≤ 1 := by cases b <;> simp [one]
theorem upto_le (a b c d e : Bool) (k : Nat) : upto a b c d e k ≤ 5 := by
  have := one_le a; have := one_le b; have := one_le c; have := one_le d; have := one_le e
  unfold upto kinds
  split <;> omega
theorem ret_int {k : IntKind} {a b : Int} (h : a = b) : Ending.returned (.int k a) = .returned (.int k b) := by rw [h]
theorem Hid.mk {p : Prop} (h : p) : Hid p := h

set_option maxRecDepth 100000 in
set_option maxHeartbeats 2000000 in
theorem kinds_any (pp pr co vc nv : Bool) (v : Value) (w : World) (h : IsMsg pp pr co vc nv v) : Calls Try.prog 6 #[v] w fun e w' => e = .returned (.int .i64 (kinds pp pr co vc nv)) ∧ Below w.heap.size w w' := by
  obtain ⟨o0, o1, o2, o3, o4, rfl, h0, h1, h2, h3, h4⟩ := h
  go_enter Try.func6, Try.ntmps6
  go_wp2
  clear h0 h1 h2 h3 h4
  go_loop [3, 23] (fun c i => ∃ k : Nat, k ≤ 5 ∧ i = .int .i64 k ∧ c = .int .i64 (upto pp pr co vc nv k)) (fun _ i => 5 - (intOf i).toNat)
  case atStart => exact ⟨0, Nat.zero_le _, rfl, rfl⟩
  case round =>
    obtain ⟨k, hk, rfl, rfl⟩ := hrel
    obtain ⟨u, hu⟩ : ∃ u, u = upto pp pr co vc nv k := ⟨_, rfl⟩
    have hu5 := upto_le pp pr co vc nv k
    rw [← hu] at hu5 ⊢
    rcases (by omega : k = 0 ∨ k = 1 ∨ k = 2 ∨ k = 3 ∨ k = 4 ∨ k = 5) with rfl | rfl | rfl | rfl | rfl | rfl
    · have HU := Hid.mk hu
      clear hu
      cases pp
      all_goals
        go_wp2
        go_round
        case rel => exact ⟨1, by omega, rfl, congrArg (Value.int .i64) (by rw [HU.out]; simp [upto, one])⟩
        case measure => simp [intOf]
    · have HU := Hid.mk hu
      clear hu
      cases pr
      all_goals
        go_wp2
        go_round
        case rel => exact ⟨2, by omega, rfl, congrArg (Value.int .i64) (by rw [HU.out]; simp [upto, one])⟩
        case measure => simp [intOf]
    · have HU := Hid.mk hu
      clear hu
      cases co
      all_goals
        go_wp2
        go_round
        case rel => exact ⟨3, by omega, rfl, congrArg (Value.int .i64) (by rw [HU.out]; simp [upto, one])⟩
        case measure => simp [intOf]
    · have HU := Hid.mk hu
      clear hu
      cases vc
      all_goals
        go_wp2
        go_round
        case rel => exact ⟨4, by omega, rfl, congrArg (Value.int .i64) (by rw [HU.out]; simp [upto, one])⟩
        case measure => simp [intOf]
    · have HU := Hid.mk hu
      clear hu
      cases nv
      all_goals
        go_wp2
        go_round
        case rel => exact ⟨5, by omega, rfl, congrArg (Value.int .i64) (by rw [HU.out]; simp [upto, kinds, one])⟩
        case measure => simp [intOf]
    · have HU := Hid.mk hu
      clear hu
      go_wp2
      go_ret
      exact ⟨ret_int (by rw [HU.out]; rfl), ((Below.refl _ _).alloc (Nat.le_refl _) _).alloc (by simp) _⟩
end Go.Proofs.Qxb6629041a
