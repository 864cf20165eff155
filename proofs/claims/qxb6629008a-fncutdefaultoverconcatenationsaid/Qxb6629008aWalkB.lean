import Derived.Test.Qxb6629008aWalkA
namespace Go.Proofs.Qxb6629008a
open Go.RowKit

theorem draws_below (w : World) (n : Nat) : Below w.heap.size w (w.drewN n) := below_drewN (Below.refl _ _) n

set_option maxRecDepth 100000 in
set_option maxHeartbeats 1000000 in
theorem split_walk (s : ByteArray) (w : World) (hs : s.size ≤ maxLen) :
    Calls Try.prog 3 #[.string s] w fun e w' => e = .returned (.bool true) ∧ Below w.heap.size w w' := by
  have hb5 := bytes5_any s w hs
  by_cases h1 : s.size ≤ 1048576
  · go_enter Try.func3, Try.ntmps3
    go_wp2_with (first | (go_at_call 5; refine hb5.mono ?_; rintro e w' ⟨⟨r, rfl⟩, rfl⟩; cases r))
    · go_ret
      exact ⟨rfl, Below.refl _ _⟩
    · refine (zz_any s w hs).mono ?_
      rintro e w' ⟨nm, df, f, q, rfl, rfl, hC, z1, z2⟩
      cases f with
      | true =>
        obtain ⟨j1, j2, j3⟩ := hC.join
        have m1 : nm.size ≤ maxLen := by unfold maxLen; omega
        have m2 : df.size ≤ 1048576 := by omega
        have m3 : nm.size ≤ 1048576 := by omega
        have m4 : (⟨#[58]⟩ : ByteArray).size = 1 := rfl
        have B1 := balance_any nm (w.drewN q) m1
        have B2 := colons_any nm (w.drewN q) m1
        rw [j2] at B1
        rw [j3] at B2
        clear hC j2 j3
        go_wp2_with (first
          | (go_at_call 7; refine B1.mono ?_; rintro e w' ⟨rfl, rfl⟩)
          | (go_at_call 8; refine B2.mono ?_; rintro e w' ⟨rfl, rfl⟩))
        go_ret
        exact ⟨rfl, draws_below w q⟩
      | false =>
        obtain ⟨rfl, rfl, j3⟩ := hC.whole
        have B2 := colons_any nm (w.drewN q) hs
        rw [j3] at B2
        clear hC j3
        go_wp2_with (first
          | (go_at_call 8; refine B2.mono ?_; rintro e w' ⟨rfl, rfl⟩))
        go_ret
        exact ⟨rfl, draws_below w q⟩
  · unfold maxLen at hs
    go_enter Try.func3, Try.ntmps3
    go_wp2_with (first | (go_at_call 5; refine hb5.mono ?_; rintro e w' ⟨⟨r, rfl⟩, rfl⟩; cases r))
    all_goals
      go_ret
      exact ⟨rfl, Below.refl _ _⟩

set_option maxRecDepth 100000 in
set_option maxHeartbeats 1000000 in
theorem over_far (a b : ByteArray) (w : World) (ha : a.size ≤ maxLen) (hb : b.size ≤ maxLen) (h : ¬ (a.size ≤ 1048576 ∧ a.size + b.size ≤ 1048576)) :
    Calls Try.prog 4 #[.string a, .string b] w fun e w' => e = .returned (.bool true) ∧ Below w.heap.size w w' := by
  have hb9 := bytes9_any a b w ha hb
  unfold maxLen at ha hb
  by_cases h1 : a.size ≤ 1048576
  · have h2 : 1048576 < a.size + b.size := by omega
    clear h
    go_enter Try.func4, Try.ntmps4
    go_wp2_with (first | (go_at_call 9; refine hb9.mono ?_; rintro e w' ⟨⟨r, rfl⟩, rfl⟩; cases r))
    all_goals
      go_ret
      exact ⟨rfl, Below.refl _ _⟩
  · clear h
    go_enter Try.func4, Try.ntmps4
    go_wp2_with (first | (go_at_call 9; refine hb9.mono ?_; rintro e w' ⟨⟨r, rfl⟩, rfl⟩; cases r))
    all_goals
      go_ret
      exact ⟨rfl, Below.refl _ _⟩

set_option maxRecDepth 100000 in
set_option maxHeartbeats 2000000 in
theorem over_near (a b : ByteArray) (w : World) (h1 : a.size + b.size ≤ 1048576) :
    Calls Try.prog 4 #[.string a, .string b] w fun e w' => e = .returned (.bool true) ∧ Below w.heap.size w w' := by
  have ma : a.size ≤ maxLen := by unfold maxLen; omega
  have mb : b.size ≤ maxLen := by unfold maxLen; omega
  have sab : (a ++ b).size ≤ 1048576 := by rw [ByteArray.size_append]; exact h1
  have mab : (a ++ b).size ≤ maxLen := by unfold maxLen; omega
  have hb9 := bytes9_any a b w ma mb
  have sa : a.size ≤ 1048576 := by omega
  have sb : b.size ≤ 1048576 := by omega
  go_enter Try.func4, Try.ntmps4
  go_wp2_with (first | (go_at_call 9; refine hb9.mono ?_; rintro e w' ⟨⟨r, rfl⟩, rfl⟩; cases r))
  · go_ret
    exact ⟨rfl, Below.refl _ _⟩
  · refine (zz_any (a ++ b) w mab).mono ?_
    rintro e w' ⟨nm, df, f, q, rfl, rfl, hC, z1, z2⟩
    have HC := Hid.mk hC
    have z1' : nm.size ≤ 1048576 := by omega
    have z2' : df.size ≤ 1048576 := by omega
    have m4 : (⟨#[58]⟩ : ByteArray).size = 1 := rfl
    cases f with
    | true =>
      obtain ⟨j1, _, _⟩ := hC.join
      clear hC z1 z2
      go_wp2_with fail
      refine (zz_any a _ ma).mono ?_
      rintro e w' ⟨n1, d1, f1, q1, rfl, rfl, hC1, y1, y2⟩
      cases f1 with
      | true =>
        obtain ⟨_, k1, k2⟩ := over_found HC.out hC1
        subst k1
        have y3 : d1.size ≤ 1048576 := by omega
        clear hC1 y1 y2
        go_wp2
        go_ret
        exact ⟨rfl, draws_below w _⟩
      | false =>
        obtain ⟨k1, k2⟩ := over_none HC.out hC1
        have HC1 := Hid.mk hC1
        clear hC1 y1 y2
        by_cases hz : bal (bl a) = 0
        · have B1 := fun w => balance_any a w ma
          rw [hz] at B1
          have HZ := Hid.mk hz
          clear hz
          go_wp2_with (first | (go_at_call 7; refine (B1 _).mono ?_; rintro e w' ⟨rfl, rfl⟩))
          refine (zz_any b _ mb).mono ?_
          rintro e w' ⟨n2, d2, f2, q2, rfl, rfl, hC2, x1, x2⟩
          obtain ⟨k3, k4, k5⟩ := over_bal HC.out HC1.out HZ.out hC2
          subst k4
          subst k5
          clear hC2 k1 k2
          go_wp2
          go_ret
          exact ⟨rfl, draws_below w _⟩
        · have B1 := fun w => balance_any a w ma
          have hz' : (bal (bl a) == 0) = false := by simp [hz]
          clear hz
          go_wp2_with (first | (go_at_call 7; refine (B1 _).mono ?_; rintro e w' ⟨rfl, rfl⟩))
          go_ret
          exact ⟨rfl, draws_below w _⟩
    | false =>
      obtain ⟨rfl, rfl, _⟩ := hC.whole
      clear hC z1 z2
      go_wp2_with fail
      refine (zz_any a _ ma).mono ?_
      rintro e w' ⟨n1, d1, f1, q1, rfl, rfl, hC1, y1, y2⟩
      cases f1 with
      | true =>
        obtain ⟨k0, _, _⟩ := over_found HC.out hC1
        cases k0
      | false =>
        obtain ⟨k1, k2⟩ := over_none HC.out hC1
        have HC1 := Hid.mk hC1
        clear hC1 y1 y2
        by_cases hz : bal (bl a) = 0
        · have B1 := fun w => balance_any a w ma
          rw [hz] at B1
          have HZ := Hid.mk hz
          clear hz
          go_wp2_with (first | (go_at_call 7; refine (B1 _).mono ?_; rintro e w' ⟨rfl, rfl⟩))
          refine (zz_any b _ mb).mono ?_
          rintro e w' ⟨n2, d2, f2, q2, rfl, rfl, hC2, x1, x2⟩
          obtain ⟨k3, k4, k5⟩ := over_bal HC.out HC1.out HZ.out hC2
          subst k4
          subst k5
          clear hC2 k1 k2
          go_wp2
          go_ret
          exact ⟨rfl, draws_below w _⟩
        · have B1 := fun w => balance_any a w ma
          have hz' : (bal (bl a) == 0) = false := by simp [hz]
          clear hz
          go_wp2_with (first | (go_at_call 7; refine (B1 _).mono ?_; rintro e w' ⟨rfl, rfl⟩))
          go_ret
          exact ⟨rfl, draws_below w _⟩
end Go.Proofs.Qxb6629008a
