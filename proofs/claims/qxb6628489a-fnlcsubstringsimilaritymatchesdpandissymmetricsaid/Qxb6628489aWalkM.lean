import Derived.Test.Qxb6628489aWalkT
import Derived.Test.Qxb6628489aWalkH
namespace Go.Proofs.Qxb6628489a
open Go.RowKit

theorem below3 {a b c d : World} (h1 : Below a.heap.size a b) (h2 : Below b.heap.size b c) (h3 : Below c.heap.size c d) : Below a.heap.size a d := by
  have s1 := h1.size
  have s2 := h2.size
  exact (h1.trans (h2.mono s1)).trans (h3.mono (by omega))

set_option maxRecDepth 100000 in
set_option maxHeartbeats 1000000 in
theorem match_far (a b : ByteArray) (w : World) (ha : a.size ≤ maxLen) (hb : b.size ≤ maxLen) (h : ¬ (a.size ≤ 4096 ∧ b.size ≤ 4096)) :
    Calls Try.prog 3 #[.string a, .string b] w fun e w' => e = .returned (.bool true) ∧ Below w.heap.size w w' := by
  have hb5 := bytes5_any a b w ha hb
  by_cases h1 : a.size ≤ 4096
  · have h2 : ¬ b.size ≤ 4096 := fun h3 => h ⟨h1, h3⟩
    clear h
    go_enter Try.func3, Try.ntmps3
    go_wp2_with (go_at_call 5; refine hb5.mono ?_; rintro e w' ⟨⟨r, rfl⟩, rfl⟩; cases r)
    all_goals (go_ret; exact ⟨rfl, Below.refl _ _⟩)
  · clear h
    go_enter Try.func3, Try.ntmps3
    go_wp2_with (go_at_call 5; refine hb5.mono ?_; rintro e w' ⟨⟨r, rfl⟩, rfl⟩; cases r)
    all_goals (go_ret; exact ⟨rfl, Below.refl _ _⟩)

set_option maxRecDepth 100000 in
set_option maxHeartbeats 2000000 in
theorem match_near (a b : ByteArray) (w : World) (ha : a.size ≤ 4096) (hb : b.size ≤ 4096) :
    Calls Try.prog 3 #[.string a, .string b] w fun e w' => e = .returned (.bool true) ∧ Below w.heap.size w w' := by
  have hb5 := bytes5_any a b w (by unfold maxLen; omega) (by unfold maxLen; omega)
  have la := runes_length a
  have lb := runes_length b
  go_enter Try.func3, Try.ntmps3
  go_wp2_with (first
    | (go_at_call 5; refine hb5.mono ?_; rintro e w' ⟨⟨r, rfl⟩, rfl⟩; cases r)
    | (refine wpList_runes _ a (by omega) rfl (.tmp 22) rfl rfl ?_; intro cx w1 hcx HX hB1)
    | (refine wpList_runes _ b (by omega) rfl (.tmp 24) rfl rfl ?_; intro cy w2 hcy HY hB2; have HX2 := Hid.mk (HX.out.below hB2)))
  · go_ret
    exact ⟨rfl, Below.refl _ _⟩
  · refine (table_any (runes a) (runes b) w.heap.size 0 cx w1.heap.size 0 cy (runes a).length (runes b).length w2 rfl rfl (by omega) (by omega) HX2.out HY.out).mono ?_
    rintro e w3 ⟨L, rfl, hL, hB3⟩
    have HL := Hid.mk hL
    have HB3 := Hid.mk (below3 hB1 hB2 hB3)
    have hLe := hL.1.le
    clear hL HX HY HX2 hB1 hB2 hB3 hb5
    by_cases hab : (runes a).length < (runes b).length
    · obtain ⟨n, hn⟩ : ∃ n, n = (runes b).length := ⟨_, rfl⟩
      obtain ⟨d, hd⟩ : ∃ d, d = n - L := ⟨_, rfl⟩
      have h0 : n ≠ 0 := by omega
      obtain ⟨r1, s1, k1, k2, k3, k4⟩ := scores n d (by omega) (by omega) h0
      have callA := fun w => similarity_any a b L n s1 w (by omega) (by omega) (by omega) (by omega) HL.out (by omega) (by rw [← hd]; exact k3)
      have callB := fun w => similarity_any b a L n s1 w (by omega) (by omega) (by omega) (by omega) HL.out.symm (by omega) (by rw [← hd]; exact k3)
      have h1 : (0 : Int) < (n : Int) := by omega
      have q2 : (n : Int) - (L : Int) = (d : Int) := by omega
      have f1 := fun w => run_float_arith (P := Try.prog) w .quo 25 .f64 _ _ r1 k1
      have f2 : ∀ w, (binOp .sub 25 (.float .f64 4607182418800017408) (.float .f64 r1)).run Try.prog w = .ok (.float .f64 s1) w := fun w => run_float_arith (P := Try.prog) w .sub 25 .f64 oneBits r1 s1 k2
      have CA := Hid.mk callA
      have CB := Hid.mk callB
      have hnn : (runes b).length = n := hn.symm
      have hab' : (runes a).length < n := by omega
      clear callA callB k1 k2 k3 hd hn HL hab
      rw [hnn]
      go_wp2_with fail
      refine (CA.out w3).mono ?_
      rintro e w4 ⟨rfl, hB4⟩
      go_wp2_with fail
      refine (CB.out w4).mono ?_
      rintro e w5 ⟨rfl, hB5⟩
      have HB : Hid (Below w.heap.size w w5) := below3 HB3.out hB4 hB5
      clear hB4 hB5 HB3 CA CB
      go_wp2
      go_ret
      exact ⟨rfl, HB.out⟩
    · by_cases hz : (runes a).length = 0
      · have callA := fun w => similarity_any a b L 0 4607182418800017408 w (by omega) (by omega) (by omega) (by omega) HL.out (by omega) (Or.inl ⟨rfl, rfl⟩)
        have callB := fun w => similarity_any b a L 0 4607182418800017408 w (by omega) (by omega) (by omega) (by omega) HL.out.symm (by omega) (Or.inl ⟨rfl, rfl⟩)
        have CA := Hid.mk callA
        have CB := Hid.mk callB
        have ho := one_eq
        have h1 : (runes b).length ≤ (runes a).length := by omega
        have h2 : (runes a).length ≤ 0 := by omega
        clear callA callB HL hab
        go_wp2_with fail
        refine (CA.out w3).mono ?_
        rintro e w4 ⟨rfl, hB4⟩
        go_wp2_with fail
        refine (CB.out w4).mono ?_
        rintro e w5 ⟨rfl, hB5⟩
        have HB : Hid (Below w.heap.size w w5) := below3 HB3.out hB4 hB5
        clear hB4 hB5 HB3 CA CB
        go_wp2
        go_ret
        exact ⟨rfl, HB.out⟩
      · obtain ⟨n, hn⟩ : ∃ n, n = (runes a).length := ⟨_, rfl⟩
        obtain ⟨d, hd⟩ : ∃ d, d = n - L := ⟨_, rfl⟩
        have h0 : n ≠ 0 := by omega
        obtain ⟨r1, s1, k1, k2, k3, k4⟩ := scores n d (by omega) (by omega) h0
        have callA := fun w => similarity_any a b L n s1 w (by omega) (by omega) (by omega) (by omega) HL.out (by omega) (by rw [← hd]; exact k3)
        have callB := fun w => similarity_any b a L n s1 w (by omega) (by omega) (by omega) (by omega) HL.out.symm (by omega) (by rw [← hd]; exact k3)
        have h1 : (0 : Int) < (n : Int) := by omega
        have q2 : (n : Int) - (L : Int) = (d : Int) := by omega
        have f1 := fun w => run_float_arith (P := Try.prog) w .quo 25 .f64 _ _ r1 k1
        have f2 : ∀ w, (binOp .sub 25 (.float .f64 4607182418800017408) (.float .f64 r1)).run Try.prog w = .ok (.float .f64 s1) w := fun w => run_float_arith (P := Try.prog) w .sub 25 .f64 oneBits r1 s1 k2
        have CA := Hid.mk callA
        have CB := Hid.mk callB
        have hnn : (runes a).length = n := hn.symm
        have hab' : (runes b).length ≤ n := by omega
        clear callA callB k1 k2 k3 hd hn HL hab hz
        rw [hnn]
        go_wp2_with fail
        refine (CA.out w3).mono ?_
        rintro e w4 ⟨rfl, hB4⟩
        go_wp2_with fail
        refine (CB.out w4).mono ?_
        rintro e w5 ⟨rfl, hB5⟩
        have HB : Hid (Below w.heap.size w w5) := below3 HB3.out hB4 hB5
        clear hB4 hB5 HB3 CA CB
        go_wp2
        go_ret
        exact ⟨rfl, HB.out⟩
end Go.Proofs.Qxb6628489a
