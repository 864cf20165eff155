import Derived.Test.Qxb6628489aWalkG
namespace Go.Proofs.Qxb6628489a
open Go.RowKit

theorem one_eq : (FloatKind.format .f64).order 4607182418800017408 4607182418800017408 = some .eq := fine_eq oneBits one_fine

theorem below4 {a b c d e : World} (h1 : Below a.heap.size a b) (h2 : Below b.heap.size b c) (h3 : Below c.heap.size c d) (h4 : Below d.heap.size d e) : Below a.heap.size a e := by
  have s1 := h1.size
  have s2 := h2.size
  have s3 := h3.size
  exact ((h1.trans (h2.mono s1)).trans (h3.mono (by omega))).trans (h4.mono (by omega))

/-- The two scores, and that each is a float that equals itself. -/
theorem scores (n d : Nat) (hn : n ≤ 8192) (hd : d ≤ 8192) (h0 : n ≠ 0) : ∃ r s, floatBits .quo .f64 (floatOfInt .f64 (d : Int)) (floatOfInt .f64 (n : Int)) = some r ∧ floatBits .sub .f64 oneBits r = some s ∧ Sim d n s ∧ (FloatKind.format .f64).order s s = some .eq := by
  obtain ⟨s, ⟨r, h1, h2⟩, hf⟩ := score_some d n hd hn h0
  exact ⟨r, s, h1, h2, Or.inr ⟨h0, r, h1, h2⟩, fine_eq s hf⟩

set_option maxRecDepth 100000 in
set_option maxHeartbeats 1000000 in
theorem part_far (a b : ByteArray) (w : World) (ha : a.size ≤ maxLen) (hb : b.size ≤ maxLen) (h : ¬ (a.size ≤ 4096 ∧ b.size ≤ 4096)) :
    Calls Try.prog 4 #[.string a, .string b] w fun e w' => e = .returned (.bool true) ∧ Below w.heap.size w w' := by
  have hb8 := bytes8_any a b w ha hb
  by_cases h1 : a.size ≤ 4096
  · have h2 : ¬ b.size ≤ 4096 := fun h3 => h ⟨h1, h3⟩
    clear h
    go_enter Try.func4, Try.ntmps4
    go_wp2_with (go_at_call 8; refine hb8.mono ?_; rintro e w' ⟨⟨r, rfl⟩, rfl⟩; cases r)
    all_goals (go_ret; exact ⟨rfl, Below.refl _ _⟩)
  · clear h
    go_enter Try.func4, Try.ntmps4
    go_wp2_with (go_at_call 8; refine hb8.mono ?_; rintro e w' ⟨⟨r, rfl⟩, rfl⟩; cases r)
    all_goals (go_ret; exact ⟨rfl, Below.refl _ _⟩)

set_option maxRecDepth 100000 in
set_option maxHeartbeats 2000000 in
theorem part_near (a b : ByteArray) (w : World) (ha : a.size ≤ 4096) (hb : b.size ≤ 4096) :
    Calls Try.prog 4 #[.string a, .string b] w fun e w' => e = .returned (.bool true) ∧ Below w.heap.size w w' := by
  have hb8 := bytes8_any a b w (by unfold maxLen; omega) (by unfold maxLen; omega)
  have la := runes_length a
  have lb := runes_length b
  obtain ⟨W, hW⟩ : ∃ W, W = runesBytes (runes a) ++ runesBytes (runes b) := ⟨_, rfl⟩
  have sa := runesBytes_size_le (runes a)
  have sb := runesBytes_size_le (runes b)
  have tA : (runesBytes (runes a)).size ≤ 20000 := by omega
  have tB : (runesBytes (runes b)).size ≤ 20000 := by omega
  have tC : (runesBytes (runes a)).size + (runesBytes (runes b)).size ≤ 40000 := by omega
  have sW : W.size ≤ 40000 := by rw [hW, ByteArray.size_append]; omega
  have rW : runes W = runes a ++ runes b := by rw [hW]; exact runes_join _ _ (runes_ok a) (runes_ok b)
  obtain ⟨n, hn⟩ : ∃ n, n = (runes a).length + (runes b).length := ⟨_, rfl⟩
  have lW : (runes W).length = n := by rw [rW, List.length_append, hn]
  have q1 : ((runes a).length : Int) + ((runes b).length : Int) = (n : Int) := by omega
  have cA : Longest (runes W) (runes a) (runes a).length := by rw [rW]; exact longest_pre _ _
  have cB : Longest (runes b) (runes W) (runes b).length := by rw [rW]; exact longest_suf _ _
  by_cases h0 : n = 0
  · have callA := fun w => similarity_any W a _ n 4607182418800017408 w sW (by omega) (by omega) (by omega) cA (by omega) (Or.inl ⟨h0, rfl⟩)
    have callB := fun w => similarity_any b W _ n 4607182418800017408 w (by omega) sW (by omega) (by omega) cB (by omega) (Or.inl ⟨h0, rfl⟩)
    have h1 : ¬ (0 : Int) < (n : Int) := by omega
    have ho := one_eq
    subst hW
    have CA := Hid.mk callA
    have CB := Hid.mk callB
    clear cA cB rW lW hn sa sb h0 sW callA callB
    go_enter Try.func4, Try.ntmps4
    go_wp2_with (first
      | (go_at_call 8; refine hb8.mono ?_; rintro e w' ⟨⟨r, rfl⟩, rfl⟩; cases r)
      | (refine wpList_runes _ a (by omega) rfl (.tmp 23) rfl rfl ?_; intro cx w1 hcx HX hB1)
      | (refine wpList_runes _ b (by omega) rfl (.tmp 25) rfl rfl ?_; intro cy w2 hcy HY hB2; have HX2 := Hid.mk (HX.out.below hB2))
      | (refine wpList_str _ (runes a) w.heap.size 0 (runes a).length _ HX2.out rfl rfl (.tmp 27) rfl rfl ?_)
      | (refine wpList_str _ (runes b) w1.heap.size 0 (runes b).length _ HY.out rfl rfl (.tmp 29) rfl rfl ?_))
    · go_ret
      exact ⟨rfl, Below.refl _ _⟩
    · refine (CA.out w2).mono ?_
      rintro e w3 ⟨rfl, hB3⟩
      go_wp2_with fail
      refine (CB.out w3).mono ?_
      rintro e w4 ⟨rfl, hB4⟩
      have HB : Hid (Below w.heap.size w w4) := below4 hB1 hB2 hB3 hB4
      clear hB1 hB2 hB3 hB4 HX HY HX2
      go_wp2
      go_ret
      exact ⟨rfl, HB.out⟩
  · obtain ⟨r1, s1, k1, k2, k3, k4⟩ := scores n (runes b).length (by omega) (by omega) h0
    obtain ⟨r2, s2, m1, m2, m3, m4⟩ := scores n (runes a).length (by omega) (by omega) h0
    have eA : n - (runes a).length = (runes b).length := by omega
    have eB : n - (runes b).length = (runes a).length := by omega
    have callA := fun w => similarity_any W a _ n s1 w sW (by omega) (by omega) (by omega) cA (by omega) (by rw [eA]; exact k3)
    have callB := fun w => similarity_any b W _ n s2 w (by omega) sW (by omega) (by omega) cB (by omega) (by rw [eB]; exact m3)
    have h1 : (0 : Int) < (n : Int) := by omega
    have f1 := fun w => run_float_arith (P := Try.prog) w .quo 25 .f64 _ _ r1 k1
    have f2 : ∀ w, (binOp .sub 25 (.float .f64 4607182418800017408) (.float .f64 r1)).run Try.prog w = .ok (.float .f64 s1) w := fun w => run_float_arith (P := Try.prog) w .sub 25 .f64 oneBits r1 s1 k2
    have f3 := fun w => run_float_arith (P := Try.prog) w .quo 25 .f64 _ _ r2 m1
    have f4 : ∀ w, (binOp .sub 25 (.float .f64 4607182418800017408) (.float .f64 r2)).run Try.prog w = .ok (.float .f64 s2) w := fun w => run_float_arith (P := Try.prog) w .sub 25 .f64 oneBits r2 s2 m2
    subst hW
    have CA := Hid.mk callA
    have CB := Hid.mk callB
    clear cA cB rW lW hn sa sb h0 sW callA callB eA eB k1 k2 k3 m1 m2 m3
    go_enter Try.func4, Try.ntmps4
    go_wp2_with (first
      | (go_at_call 8; refine hb8.mono ?_; rintro e w' ⟨⟨r, rfl⟩, rfl⟩; cases r)
      | (refine wpList_runes _ a (by omega) rfl (.tmp 23) rfl rfl ?_; intro cx w1 hcx HX hB1)
      | (refine wpList_runes _ b (by omega) rfl (.tmp 25) rfl rfl ?_; intro cy w2 hcy HY hB2; have HX2 := Hid.mk (HX.out.below hB2))
      | (refine wpList_str _ (runes a) w.heap.size 0 (runes a).length _ HX2.out rfl rfl (.tmp 27) rfl rfl ?_)
      | (refine wpList_str _ (runes b) w1.heap.size 0 (runes b).length _ HY.out rfl rfl (.tmp 29) rfl rfl ?_))
    · go_ret
      exact ⟨rfl, Below.refl _ _⟩
    · refine (CA.out w2).mono ?_
      rintro e w3 ⟨rfl, hB3⟩
      go_wp2_with fail
      refine (CB.out w3).mono ?_
      rintro e w4 ⟨rfl, hB4⟩
      have HB : Hid (Below w.heap.size w w4) := below4 hB1 hB2 hB3 hB4
      clear hB1 hB2 hB3 hB4 HX HY HX2
      go_wp2
      go_ret
      exact ⟨rfl, HB.out⟩

end Go.Proofs.Qxb6628489a
