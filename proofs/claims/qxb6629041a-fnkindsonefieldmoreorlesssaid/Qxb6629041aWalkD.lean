import Derived.Test.Qxb6629041aWalkB
namespace Go.Proofs.Qxb6629041a
open Go.RowKit

/-- What lay there before reads as before. -/
theorem old_cells {W w1 : World} (hb : Below W.heap.size W w1) : ∀ b o, b < W.heap.size → w1.cell? ⟨b, o, none⟩ = W.cell? ⟨b, o, none⟩ := fun b o h => hb.cell (p := ⟨b, o, none⟩) h
theorem kinds_le (a b c d e : Bool) : kinds a b c d e ≤ 5 := by
  have := one_le a; have := one_le b; have := one_le c; have := one_le d; have := one_le e
  unfold kinds
  omega

set_option maxRecDepth 100000 in
set_option maxHeartbeats 2000000 in
theorem field_out (pp pr co vc nv : Bool) (k : Int) (w : World) (hk : ¬ (0 ≤ k ∧ k ≤ 4)) :
    Calls Try.prog 4 #[.bool pp, .bool pr, .bool co, .bool vc, .bool nv, .int .i64 k] w fun e w' => e = .returned (.bool true) ∧ Below w.heap.size w w' := by
  by_cases h1 : 0 ≤ k
  · have h2 : 4 < k := by omega
    clear hk
    go_enter Try.func4, Try.ntmps4
    go_wp2
    go_ret
    exact ⟨rfl, Below.refl _ _⟩
  · have h2 : k < 0 := by omega
    clear hk h1
    go_enter Try.func4, Try.ntmps4
    go_wp2
    go_ret
    exact ⟨rfl, Below.refl _ _⟩

/-- Five bools in a block. -/
def Arr (w : World) (b : Nat) (x0 x1 x2 x3 x4 : Bool) : Prop :=
  w.cell? ⟨b, 0, none⟩ = some (.bool x0) ∧ w.cell? ⟨b, 1, none⟩ = some (.bool x1) ∧ w.cell? ⟨b, 2, none⟩ = some (.bool x2) ∧ w.cell? ⟨b, 3, none⟩ = some (.bool x3) ∧ w.cell? ⟨b, 4, none⟩ = some (.bool x4)
theorem Arr.below {w w' : World} {b : Nat} {x0 x1 x2 x3 x4 : Bool} (h : Arr w b x0 x1 x2 x3 x4) (hb : Below w.heap.size w w') : Arr w' b x0 x1 x2 x3 x4 := by
  have hlt : b < w.heap.size := by simpa using Go.block_lt_of_cell h.1
  have e : ∀ o, w'.cell? ⟨b, o, none⟩ = w.cell? ⟨b, o, none⟩ := fun o => hb.cell (p := ⟨b, o, none⟩) hlt
  unfold Arr
  rw [e, e, e, e, e]
  exact h
theorem arr_new (w : World) (y0 y1 y2 y3 y4 : Bool) : Arr (w.alloc (.cells #[.bool y0, .bool y1, .bool y2, .bool y3, .bool y4] 32)) w.heap.size y0 y1 y2 y3 y4 := by simp [Arr]
theorem alloc_below (w : World) (o : Obj) : Below w.heap.size w (w.alloc o) := (Below.refl _ _).alloc (Nat.le_refl _) o
/-- Three arrays laid one behind the other. -/
theorem arr3 (w : World) (s0 s1 s2 s3 s4 x0 x1 x2 x3 x4 y0 y1 y2 y3 y4 : Bool) :
    Arr (((w.alloc (.cells #[.bool s0, .bool s1, .bool s2, .bool s3, .bool s4] 32)).alloc (.cells #[.bool x0, .bool x1, .bool x2, .bool x3, .bool x4] 32)).alloc (.cells #[.bool y0, .bool y1, .bool y2, .bool y3, .bool y4] 32)) (w.heap.size + 1 + 1) y0 y1 y2 y3 y4 ∧
    Arr (((w.alloc (.cells #[.bool s0, .bool s1, .bool s2, .bool s3, .bool s4] 32)).alloc (.cells #[.bool x0, .bool x1, .bool x2, .bool x3, .bool x4] 32)).alloc (.cells #[.bool y0, .bool y1, .bool y2, .bool y3, .bool y4] 32)) (w.heap.size + 1) x0 x1 x2 x3 x4 ∧
    Arr (((w.alloc (.cells #[.bool s0, .bool s1, .bool s2, .bool s3, .bool s4] 32)).alloc (.cells #[.bool x0, .bool x1, .bool x2, .bool x3, .bool x4] 32)).alloc (.cells #[.bool y0, .bool y1, .bool y2, .bool y3, .bool y4] 32)) w.heap.size s0 s1 s2 s3 s4 ∧
    Below w.heap.size w (((w.alloc (.cells #[.bool s0, .bool s1, .bool s2, .bool s3, .bool s4] 32)).alloc (.cells #[.bool x0, .bool x1, .bool x2, .bool x3, .bool x4] 32)).alloc (.cells #[.bool y0, .bool y1, .bool y2, .bool y3, .bool y4] 32)) := by
  have e1 := arr_new w s0 s1 s2 s3 s4
  have e2 := arr_new (w.alloc (.cells #[.bool s0, .bool s1, .bool s2, .bool s3, .bool s4] 32)) x0 x1 x2 x3 x4
  have e3 := arr_new ((w.alloc (.cells #[.bool s0, .bool s1, .bool s2, .bool s3, .bool s4] 32)).alloc (.cells #[.bool x0, .bool x1, .bool x2, .bool x3, .bool x4] 32)) y0 y1 y2 y3 y4
  simp only [World.size_alloc] at e2 e3
  refine ⟨e3, e2.below (alloc_below _ _), (e1.below (alloc_below _ _)).below (alloc_below _ _), ?_⟩
  exact (((Below.refl _ _).alloc (Nat.le_refl _) _).alloc (by simp) _).alloc (by simp; omega) _
/-- What the three counts must be. -/
def Law (was : Bool) (s on off : Nat) : Prop := if was then on = s ∧ s = off + 1 else on = s + 1 ∧ off = s
theorem law_0 (a b c d e : Bool) : Law a (kinds a b c d e) (kinds true b c d e) (kinds false b c d e) := by cases a <;> simp [Law, kinds, one] <;> omega
theorem law_1 (a b c d e : Bool) : Law b (kinds a b c d e) (kinds a true c d e) (kinds a false c d e) := by cases b <;> simp [Law, kinds, one] <;> omega
theorem law_2 (a b c d e : Bool) : Law c (kinds a b c d e) (kinds a b true d e) (kinds a b false d e) := by cases c <;> simp [Law, kinds, one] <;> omega
theorem law_3 (a b c d e : Bool) : Law d (kinds a b c d e) (kinds a b c true e) (kinds a b c false e) := by cases d <;> simp [Law, kinds, one] <;> omega
theorem law_4 (a b c d e : Bool) : Law e (kinds a b c d e) (kinds a b c d true) (kinds a b c d false) := by cases e <;> simp [Law, kinds, one]

/-- 'was := s[k]'. -/
def Was (k : Int) (s0 s1 s2 s3 s4 was : Bool) : Prop := (k = 0 ∧ was = s0) ∨ (k = 1 ∧ was = s1) ∨ (k = 2 ∧ was = s2) ∨ (k = 3 ∧ was = s3) ∨ (k = 4 ∧ was = s4)
/-- 'x := s; x[k] = b'. -/
def Put (k : Int) (b s0 s1 s2 s3 s4 x0 x1 x2 x3 x4 : Bool) : Prop :=
  (k = 0 ∧ x0 = b ∧ x1 = s1 ∧ x2 = s2 ∧ x3 = s3 ∧ x4 = s4) ∨ (k = 1 ∧ x0 = s0 ∧ x1 = b ∧ x2 = s2 ∧ x3 = s3 ∧ x4 = s4) ∨ (k = 2 ∧ x0 = s0 ∧ x1 = s1 ∧ x2 = b ∧ x3 = s3 ∧ x4 = s4) ∨
  (k = 3 ∧ x0 = s0 ∧ x1 = s1 ∧ x2 = s2 ∧ x3 = b ∧ x4 = s4) ∨ (k = 4 ∧ x0 = s0 ∧ x1 = s1 ∧ x2 = s2 ∧ x3 = s3 ∧ x4 = b)
theorem law_of {k : Int} {s0 s1 s2 s3 s4 x0 x1 x2 x3 x4 y0 y1 y2 y3 y4 was : Bool} (h : Was k s0 s1 s2 s3 s4 was) (hx : Put k true s0 s1 s2 s3 s4 x0 x1 x2 x3 x4) (hy : Put k false s0 s1 s2 s3 s4 y0 y1 y2 y3 y4) :
    Law was (kinds s0 s1 s2 s3 s4) (kinds x0 x1 x2 x3 x4) (kinds y0 y1 y2 y3 y4) := by
  rcases h with ⟨rfl, rfl⟩ | ⟨rfl, rfl⟩ | ⟨rfl, rfl⟩ | ⟨rfl, rfl⟩ | ⟨rfl, rfl⟩
  · obtain ⟨rfl, rfl, rfl, rfl, rfl⟩ : x0 = true ∧ x1 = s1 ∧ x2 = s2 ∧ x3 = s3 ∧ x4 = s4 := by simpa [Put] using hx
    obtain ⟨rfl, rfl, rfl, rfl, rfl⟩ : y0 = false ∧ y1 = x1 ∧ y2 = x2 ∧ y3 = x3 ∧ y4 = x4 := by simpa [Put] using hy
    exact law_0 _ _ _ _ _
  · obtain ⟨rfl, rfl, rfl, rfl, rfl⟩ : x0 = s0 ∧ x1 = true ∧ x2 = s2 ∧ x3 = s3 ∧ x4 = s4 := by simpa [Put] using hx
    obtain ⟨rfl, rfl, rfl, rfl, rfl⟩ : y0 = x0 ∧ y1 = false ∧ y2 = x2 ∧ y3 = x3 ∧ y4 = x4 := by simpa [Put] using hy
    exact law_1 _ _ _ _ _
  · obtain ⟨rfl, rfl, rfl, rfl, rfl⟩ : x0 = s0 ∧ x1 = s1 ∧ x2 = true ∧ x3 = s3 ∧ x4 = s4 := by simpa [Put] using hx
    obtain ⟨rfl, rfl, rfl, rfl, rfl⟩ : y0 = x0 ∧ y1 = x1 ∧ y2 = false ∧ y3 = x3 ∧ y4 = x4 := by simpa [Put] using hy
    exact law_2 _ _ _ _ _
  · obtain ⟨rfl, rfl, rfl, rfl, rfl⟩ : x0 = s0 ∧ x1 = s1 ∧ x2 = s2 ∧ x3 = true ∧ x4 = s4 := by simpa [Put] using hx
    obtain ⟨rfl, rfl, rfl, rfl, rfl⟩ : y0 = x0 ∧ y1 = x1 ∧ y2 = x2 ∧ y3 = false ∧ y4 = x4 := by simpa [Put] using hy
    exact law_3 _ _ _ _ _
  · obtain ⟨rfl, rfl, rfl, rfl, rfl⟩ : x0 = s0 ∧ x1 = s1 ∧ x2 = s2 ∧ x3 = s3 ∧ x4 = true := by simpa [Put] using hx
    obtain ⟨rfl, rfl, rfl, rfl, rfl⟩ : y0 = x0 ∧ y1 = x1 ∧ y2 = x2 ∧ y3 = x3 ∧ y4 = false := by simpa [Put] using hy
    exact law_4 _ _ _ _ _

set_option maxRecDepth 100000 in
set_option maxHeartbeats 4000000 in
theorem field_in (pp pr co vc nv : Bool) (k : Int) (w : World) (h0 : 0 ≤ k) (h4 : k ≤ 4) :
    Calls Try.prog 4 #[.bool pp, .bool pr, .bool co, .bool vc, .bool nv, .int .i64 k] w fun e w' => e = .returned (.bool true) ∧ Below w.heap.size w w' := by
  go_enter Try.func4, Try.ntmps4
  go_upto_region 4 with (fail)
  go_cut [14] (fun v wc => (∃ was : Bool, v = .bool was ∧ Hid (Was k pp pr co vc nv was)) ∧ wc = w.alloc (.cells #[.bool pp, .bool pr, .bool co, .bool vc, .bool nv] 32))
  case first =>
    rcases (by omega : k = 0 ∨ k = 1 ∨ k = 2 ∨ k = 3 ∨ k = 4) with rfl | rfl | rfl | rfl | rfl
    all_goals
      go_wp2
      go_meet
      case rel => exact ⟨⟨_, rfl, (by simp [Was] : Was _ _ _ _ _ _ _)⟩, rfl⟩
  case rest =>
    obtain ⟨⟨was, rfl, HW⟩, rfl⟩ := hcut
    go_upto_region 6 with (fail)
    go_cut [14] (fun v wc => v = .bool was ∧ ∃ x0 x1 x2 x3 x4 : Bool, Hid (Put k true pp pr co vc nv x0 x1 x2 x3 x4) ∧ wc = (w.alloc (.cells #[.bool pp, .bool pr, .bool co, .bool vc, .bool nv] 32)).alloc (.cells #[.bool x0, .bool x1, .bool x2, .bool x3, .bool x4] 32))
    case first =>
      rcases (by omega : k = 0 ∨ k = 1 ∨ k = 2 ∨ k = 3 ∨ k = 4) with rfl | rfl | rfl | rfl | rfl
      all_goals
        go_wp2
        go_meet
        case rel => exact ⟨rfl, _, _, _, _, _, (by simp [Put] : Put _ _ _ _ _ _ _ _ _ _ _ _), rfl⟩
    case rest =>
      obtain ⟨rfl, x0, x1, x2, x3, x4, HX, rfl⟩ := hcut
      go_upto_region 8 with (fail)
      go_cut [14] (fun v wc => v = .bool was ∧ (∃ y0 y1 y2 y3 y4 : Bool, Hid (Put k false pp pr co vc nv y0 y1 y2 y3 y4) ∧ Hid (Arr wc (w.heap.size + 1 + 1) y0 y1 y2 y3 y4)) ∧ Hid (Arr wc (w.heap.size + 1) x0 x1 x2 x3 x4) ∧ Hid (Arr wc w.heap.size pp pr co vc nv) ∧ Below w.heap.size w wc)
      case first =>
        rcases (by omega : k = 0 ∨ k = 1 ∨ k = 2 ∨ k = 3 ∨ k = 4) with rfl | rfl | rfl | rfl | rfl
        all_goals
          go_wp2
          go_meet
          case rel =>
            obtain ⟨f1, f2, f3, f4⟩ := arr3 w pp pr co vc nv x0 x1 x2 x3 x4 _ _ _ _ _
            exact ⟨rfl, ⟨_, _, _, _, _, (by simp [Put] : Put _ _ _ _ _ _ _ _ _ _ _ _), f1⟩, f2, f3, f4⟩
      case rest =>
        obtain ⟨rfl, ⟨y0, y1, y2, y3, y4, HY, HA3⟩, HA2, HA1, hB⟩ := hcut
        have HL : Hid (Law was (kinds pp pr co vc nv) (kinds x0 x1 x2 x3 x4) (kinds y0 y1 y2 y3 y4)) := law_of HW.out HX.out HY.out
        clear HW HX HY
        obtain ⟨c0, c1, c2, c3, c4⟩ := HA1.out
        go_wp2_with fail
        refine (msg_any pp pr co vc nv _).mono ?_
        rintro e w1 ⟨⟨v, rfl, hv⟩, hB1⟩
        have hB := hB.trans (hB1.mono hB.size)
        have HA2 := Hid.mk (HA2.out.below hB1)
        have HA3 := Hid.mk (HA3.out.below hB1)
        clear c0 c1 c2 c3 c4 hB1 HA1
        go_wp2_with fail
        refine (kinds_any pp pr co vc nv v _ hv).mono ?_
        rintro e w2 ⟨rfl, hB1⟩
        have hB := hB.trans (hB1.mono hB.size)
        have HA2 := Hid.mk (HA2.out.below hB1)
        have HA3 := Hid.mk (HA3.out.below hB1)
        clear hB1 hv
        obtain ⟨c0, c1, c2, c3, c4⟩ := HA2.out
        go_wp2_with fail
        refine (msg_any x0 x1 x2 x3 x4 _).mono ?_
        rintro e w3 ⟨⟨v', rfl, hv⟩, hB1⟩
        have hB := hB.trans (hB1.mono hB.size)
        have HA3 := Hid.mk (HA3.out.below hB1)
        clear c0 c1 c2 c3 c4 hB1 HA2
        go_wp2_with fail
        refine (kinds_any x0 x1 x2 x3 x4 v' _ hv).mono ?_
        rintro e w4 ⟨rfl, hB1⟩
        have hB := hB.trans (hB1.mono hB.size)
        have HA3 := Hid.mk (HA3.out.below hB1)
        clear hB1 hv
        obtain ⟨c0, c1, c2, c3, c4⟩ := HA3.out
        go_wp2_with fail
        refine (msg_any y0 y1 y2 y3 y4 _).mono ?_
        rintro e w5 ⟨⟨v'', rfl, hv⟩, hB1⟩
        have hB := hB.trans (hB1.mono hB.size)
        clear c0 c1 c2 c3 c4 hB1 HA3
        go_wp2_with fail
        refine (kinds_any y0 y1 y2 y3 y4 v'' _ hv).mono ?_
        rintro e w6 ⟨rfl, hB1⟩
        have hB := hB.trans (hB1.mono hB.size)
        clear hB1 hv
        have l1 := kinds_le pp pr co vc nv
        have l2 := kinds_le x0 x1 x2 x3 x4
        have l3 := kinds_le y0 y1 y2 y3 y4
        obtain ⟨A, hA⟩ : ∃ A, A = kinds pp pr co vc nv := ⟨_, rfl⟩
        obtain ⟨X, hX⟩ : ∃ X, X = kinds x0 x1 x2 x3 x4 := ⟨_, rfl⟩
        obtain ⟨Y, hY⟩ : ∃ Y, Y = kinds y0 y1 y2 y3 y4 := ⟨_, rfl⟩
        rw [← hA, ← hX, ← hY] at HL
        rw [← hA] at l1
        rw [← hX] at l2
        rw [← hY] at l3
        rw [← hA, ← hX, ← hY]
        clear hA hX hY
        cases was with
        | true =>
          obtain ⟨g1, g2⟩ : X = A ∧ A = Y + 1 := HL.out
          have t1 : ((X : Int) == (A : Int)) = true := by simp [g1]
          have t2 : ((A : Int) == (Y : Int) + 1) = true := by simp [g2]
          clear g1 g2 HL
          go_wp2
          go_ret
          exact ⟨rfl, hB⟩
        | false =>
          obtain ⟨g1, g2⟩ : X = A + 1 ∧ Y = A := HL.out
          have t1 : ((X : Int) == (A : Int) + 1) = true := by simp [g1]
          have t2 : ((Y : Int) == (A : Int)) = true := by simp [g2]
          clear g1 g2 HL
          go_wp2
          go_ret
          exact ⟨rfl, hB⟩
end Go.Proofs.Qxb6629041a
