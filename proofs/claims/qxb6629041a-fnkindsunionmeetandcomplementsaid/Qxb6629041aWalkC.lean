import Derived.Test.Qxb6629041aWalkB
namespace Go.Proofs.Qxb6629041a
open Go.RowKit

theorem one_or_and (a b : Bool) : one (a || b) + one (a && b) = one a + one b := by cases a <;> cases b <;> rfl
theorem one_not (a : Bool) : one a + one (!a) = 1 := by cases a <;> rfl
theorem kinds_union (a b c d e a' b' c' d' e' : Bool) : kinds (a || a') (b || b') (c || c') (d || d') (e || e') + kinds (a && a') (b && b') (c && c') (d && d') (e && e') = kinds a b c d e + kinds a' b' c' d' e' := by
  have := one_or_and a a'; have := one_or_and b b'; have := one_or_and c c'; have := one_or_and d d'; have := one_or_and e e'
  unfold kinds
  omega
theorem kinds_not (a b c d e : Bool) : kinds a b c d e + kinds (!a) (!b) (!c) (!d) (!e) = 5 := by
  have := one_not a; have := one_not b; have := one_not c; have := one_not d; have := one_not e
  unfold kinds
  omega
theorem kinds_le (a b c d e : Bool) : kinds a b c d e ≤ 5 := by
  have := one_le a; have := one_le b; have := one_le c; have := one_le d; have := one_le e
  unfold kinds
  omega

set_option maxRecDepth 100000 in
set_option maxHeartbeats 8000000 in
theorem union_walk (a1 a2 a3 a4 a5 b1 b2 b3 b4 b5 : Bool) (w : World) :
    Calls Try.prog 3 #[.bool a1, .bool a2, .bool a3, .bool a4, .bool a5, .bool b1, .bool b2, .bool b3, .bool b4, .bool b5] w fun e w' => e = .returned (.bool true) ∧ Below w.heap.size w w' := by
  have hB := Below.refl w.heap.size w
  go_enter Try.func3, Try.ntmps3
  go_upto_region 3 with (first
    | (go_at_call 5; refine (msg_any _ _ _ _ _ _).mono ?_; rintro e w' ⟨⟨v, rfl, hv⟩, hB1⟩; have hB := hB.trans (hB1.mono hB.size))
    | (go_at_call 6; refine (kinds_any _ _ _ _ _ _ _ hv).mono ?_; rintro e w' ⟨rfl, hB1⟩; have hB := hB.trans (hB1.mono hB.size)))
  go_cut [23] (fun v wc => v = .int .i64 (kinds (a1 || b1) (a2 || b2) (a3 || b3) (a4 || b4) (a5 || b5)) ∧ Below w.heap.size w wc)
  case first =>
    cases a1 <;> cases a2 <;> cases a3 <;> cases a4 <;> cases a5
    all_goals
      go_wp2_with (first
        | (go_at_call 5; refine (msg_any _ _ _ _ _ _).mono ?_; rintro e w' ⟨⟨v, rfl, hv⟩, hB1⟩; have hB := hB.trans (hB1.mono hB.size))
        | (go_at_call 6; refine (kinds_any _ _ _ _ _ _ _ hv).mono ?_; rintro e w' ⟨rfl, hB1⟩; have hB := hB.trans (hB1.mono hB.size)))
      go_meet
      case rel => exact ⟨rfl, hB⟩
  case rest =>
    clear hB
    obtain ⟨rfl, hB⟩ := hcut
    go_upto_region 4 with (fail)
    go_cut [24] (fun v wc => v = .int .i64 (kinds (a1 && b1) (a2 && b2) (a3 && b3) (a4 && b4) (a5 && b5)) ∧ Below w.heap.size w wc)
    case first =>
      cases a1 <;> cases a2 <;> cases a3 <;> cases a4 <;> cases a5
      all_goals
        go_wp2_with (first
          | (go_at_call 5; refine (msg_any _ _ _ _ _ _).mono ?_; rintro e w' ⟨⟨v, rfl, hv⟩, hB1⟩; have hB := hB.trans (hB1.mono hB.size))
          | (go_at_call 6; refine (kinds_any _ _ _ _ _ _ _ hv).mono ?_; rintro e w' ⟨rfl, hB1⟩; have hB := hB.trans (hB1.mono hB.size)))
        go_meet
        case rel => exact ⟨rfl, hB⟩
    case rest =>
      clear hB
      obtain ⟨rfl, hB⟩ := hcut
      have e1 := kinds_union a1 a2 a3 a4 a5 b1 b2 b3 b4 b5
      have e2 := kinds_not a1 a2 a3 a4 a5
      obtain ⟨U, hU⟩ : ∃ U, U = kinds (a1 || b1) (a2 || b2) (a3 || b3) (a4 || b4) (a5 || b5) := ⟨_, rfl⟩
      obtain ⟨I, hI⟩ : ∃ I, I = kinds (a1 && b1) (a2 && b2) (a3 && b3) (a4 && b4) (a5 && b5) := ⟨_, rfl⟩
      obtain ⟨A, hA⟩ : ∃ A, A = kinds a1 a2 a3 a4 a5 := ⟨_, rfl⟩
      obtain ⟨B, hb⟩ : ∃ B, B = kinds b1 b2 b3 b4 b5 := ⟨_, rfl⟩
      obtain ⟨C, hC⟩ : ∃ C, C = kinds (!a1) (!a2) (!a3) (!a4) (!a5) := ⟨_, rfl⟩
      have lA := kinds_le a1 a2 a3 a4 a5
      have lB := kinds_le b1 b2 b3 b4 b5
      rw [← hU, ← hI, ← hA, ← hb] at e1
      rw [← hA, ← hC] at e2
      rw [← hA] at lA
      rw [← hb] at lB
      rw [← hU, ← hI, ← hA, ← hb]
      have g1 : ((U : Int) + (I : Int) == (A : Int) + (B : Int)) = true := by simp; omega
      have g2 : ((A : Int) + (C : Int) == 5) = true := by simp; omega
      have g3 : U ≤ 10 := by omega
      have g4 : I ≤ 10 := by omega
      have g5 : C ≤ 10 := by omega
      have HC : Hid (C = kinds (!a1) (!a2) (!a3) (!a4) (!a5)) := hC
      have kC := fun v w h => kinds_any (!a1) (!a2) (!a3) (!a4) (!a5) v w h
      rw [← hC] at kC
      clear e1 e2 hU hI hA hb hC
      go_wp2_with (first
        | (go_at_call 5; refine (msg_any (!a1) (!a2) (!a3) (!a4) (!a5) _).mono ?_; rintro e w' ⟨⟨v, rfl, hv⟩, hB1⟩; have hB := hB.trans (hB1.mono hB.size))
        | (go_at_call 6; refine (kC _ _ hv).mono ?_; rintro e w' ⟨rfl, hB1⟩; have hB := hB.trans (hB1.mono hB.size)))
      go_ret
      exact ⟨rfl, hB⟩
end Go.Proofs.Qxb6629041a
