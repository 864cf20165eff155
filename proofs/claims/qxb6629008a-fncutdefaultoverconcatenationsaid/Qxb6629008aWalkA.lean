import Derived.Test.Qxb6629008aRows
import Derived.Test.Qxb6629008aPlain
import Derived.WalkKit
import Derived.WalkLawsBesides
import Derived.WalkSpells
import Derived.Deep.QuietTactic
import Derived.BigQuiet
namespace Go.Proofs.Qxb6629008a
open Go.RowKit

theorem Hid.mk {p : Prop} (h : p) : Hid p := h
theorem ret_int {k : IntKind} {a b : Int} (h : a = b) : Ending.returned (.int k a) = .returned (.int k b) := by rw [h]

/-- The four kinds of a byte, as the walk tests them. -/
theorem byte_cases (c : UInt8) :
    (((c.toNat : Int) == 123) = true ∧ delta c = 1 ∧ c ≠ 58) ∨
    (((c.toNat : Int) == 123) = false ∧ ((c.toNat : Int) == 125) = true ∧ delta c = -1 ∧ c ≠ 58) ∨
    (((c.toNat : Int) == 123) = false ∧ ((c.toNat : Int) == 125) = false ∧ ((c.toNat : Int) == 58) = true ∧ delta c = 0 ∧ c = 58) ∨
    (((c.toNat : Int) == 123) = false ∧ ((c.toNat : Int) == 125) = false ∧ ((c.toNat : Int) == 58) = false ∧ delta c = 0 ∧ c ≠ 58) := by
  have key : ∀ n : Nat, n < 256 → ((c.toNat : Int) == (n : Int)) = decide (c = UInt8.ofNat n) := by
    intro n hn
    rw [Bool.eq_iff_iff]
    simp only [beq_iff_eq, decide_eq_true_eq]
    constructor
    · intro h
      have h' : c.toNat = n := by omega
      rw [← h']; simp
    · intro h
      rw [h]
      simp
      omega
  have k1 : ((c.toNat : Int) == 123) = decide (c = 123) := key 123 (by omega)
  have k2 : ((c.toNat : Int) == 125) = decide (c = 125) := key 125 (by omega)
  have k3 : ((c.toNat : Int) == 58) = decide (c = 58) := key 58 (by omega)
  rw [k1, k2, k3]
  unfold delta
  by_cases h1 : c = 123
  · left; subst h1; exact ⟨rfl, rfl, by decide⟩
  · right
    by_cases h2 : c = 125
    · left; subst h2; exact ⟨rfl, rfl, rfl, by decide⟩
    · right
      by_cases h3 : c = 58
      · left; subst h3; exact ⟨rfl, rfl, rfl, rfl, rfl⟩
      · right; simp [h1, h2, h3]

set_option maxHeartbeats 400000 in
theorem balance_any (s : ByteArray) (w : World) (hs : s.size ≤ maxLen) :
    Calls Try.prog 7 #[.string s] w fun e w' => e = .returned (.int .i64 (bal (bl s))) ∧ w = w' := by
  unfold maxLen at hs
  go_enter Try.func7, Try.ntmps7
  go_wp2
  go_loop [3, 4] (fun d i => ∃ k : Nat, k ≤ s.size ∧ i = .int .i64 k ∧ d = .int .i64 (bal ((bl s).take k))) (fun _ i => s.size - (intOf i).toNat)
  case atStart => exact ⟨0, Nat.zero_le _, rfl, rfl⟩
  case round =>
    obtain ⟨k, hk, rfl, rfl⟩ := hrel
    have hd := bal_bound ((bl s).take k)
    have hl : ((bl s).take k).length ≤ k := List.length_take_le _ _
    by_cases hlt : k < s.size
    · have HS := Hid.mk (bal_snoc s k hlt)
      rcases byte_cases s[k] with ⟨b1, b2, _⟩ | ⟨b1, b2, b3, _⟩ | ⟨b1, b2, _, b3, _⟩ | ⟨b1, b2, _, b3, _⟩
      all_goals
        go_wp2
        go_round
        case rel => exact ⟨k + 1, by omega, by go_num, congrArg (Value.int .i64) (by rw [HS.out]; omega)⟩
        case measure => simp [intOf]; omega
    · go_wp2
      go_ret
      exact ⟨ret_int (by rw [take_all s k (by omega)]), rfl⟩

set_option maxHeartbeats 400000 in
theorem colons_any (s : ByteArray) (w : World) (hs : s.size ≤ maxLen) :
    Calls Try.prog 8 #[.string s] w fun e w' => e = .returned (.int .i64 (fc 0 (bl s))) ∧ w = w' := by
  unfold maxLen at hs
  go_enter Try.func8, Try.ntmps8
  go_wp2
  go_loop [3, 4, 5] (fun d n i => ∃ k : Nat, k ≤ s.size ∧ i = .int .i64 k ∧ d = .int .i64 (bal ((bl s).take k)) ∧ n = .int .i64 (fc 0 ((bl s).take k))) (fun _ _ i => s.size - (intOf i).toNat)
  case atStart => exact ⟨0, Nat.zero_le _, rfl, rfl, rfl⟩
  case round =>
    obtain ⟨k, hk, rfl, rfl, rfl⟩ := hrel
    have hd := bal_bound ((bl s).take k)
    have hf := fc_bound ((bl s).take k) 0
    have hl : ((bl s).take k).length ≤ k := List.length_take_le _ _
    by_cases hlt : k < s.size
    · have HS := Hid.mk (bal_snoc s k hlt)
      have HF := Hid.mk (fc_snoc s k hlt)
      rcases byte_cases s[k] with ⟨b1, b2, b4⟩ | ⟨b1, b2, b3, b4⟩ | ⟨b1, b2, b5, b3, b4⟩ | ⟨b1, b2, b5, b3, b4⟩
      · have HC := Hid.mk b4
        clear b4
        go_wp2
        go_round
        case rel => exact ⟨k + 1, by omega, by go_num, congrArg (Value.int .i64) (by rw [HS.out]; omega), congrArg (Value.int .i64) (by rw [HF.out, if_neg (fun h => HC.out h.1)]; rfl)⟩
        case measure => simp [intOf]; omega
      · have HC := Hid.mk b4
        clear b4
        go_wp2
        go_round
        case rel => exact ⟨k + 1, by omega, by go_num, congrArg (Value.int .i64) (by rw [HS.out]; omega), congrArg (Value.int .i64) (by rw [HF.out, if_neg (fun h => HC.out h.1)]; rfl)⟩
        case measure => simp [intOf]; omega
      · have HC := Hid.mk b4
        clear b4
        by_cases hz : bal ((bl s).take k) = 0
        · have hz' : (bal ((bl s).take k) == 0) = true := by simp [hz]
          have HZ := Hid.mk hz
          clear hz
          go_wp2
          go_round
          case rel => exact ⟨k + 1, by omega, by go_num, congrArg (Value.int .i64) (by rw [HS.out]; omega), congrArg (Value.int .i64) (by rw [HF.out, if_pos ⟨HC.out, HZ.out⟩]; rfl)⟩
          case measure => simp [intOf]; omega
        · have hz' : (bal ((bl s).take k) == 0) = false := by simp [hz]
          have HZ := Hid.mk hz
          clear hz
          go_wp2
          go_round
          case rel => exact ⟨k + 1, by omega, by go_num, congrArg (Value.int .i64) (by rw [HS.out]; omega), congrArg (Value.int .i64) (by rw [HF.out, if_neg (fun h => HZ.out h.2)]; rfl)⟩
          case measure => simp [intOf]; omega
      · have HC := Hid.mk b4
        clear b4
        go_wp2
        go_round
        case rel => exact ⟨k + 1, by omega, by go_num, congrArg (Value.int .i64) (by rw [HS.out]; omega), congrArg (Value.int .i64) (by rw [HF.out, if_neg (fun h => HC.out h.1)]; rfl)⟩
        case measure => simp [intOf]; omega
    · go_wp2
      go_ret
      exact ⟨ret_int (by rw [take_all s k (by omega)]), rfl⟩

/-- What 'cutDefault' leaves. -/
def CutPost (s : ByteArray) (w : World) (e : Ending) (w' : World) : Prop :=
  ∃ (nm df : ByteArray) (f : Bool) (q : Nat), e = .returned (.tuple #[.string nm, .string df, .bool f]) ∧ w' = w.drewN q ∧ CutIs s nm df f ∧ nm.size ≤ s.size ∧ df.size ≤ s.size

set_option maxHeartbeats 400000 in
theorem cut_any (s : ByteArray) (w : World) (hs : s.size ≤ maxLen) : Calls Try.prog 10 #[.string s] w (CutPost s w) := by
  unfold maxLen at hs
  go_enter Try.func10, Try.ntmps10
  go_wp2
  go_loop [5, 6] (fun d i => ∃ k : Nat, k ≤ s.size ∧ i = .int .i64 k ∧ d = .int .i64 (bal ((bl s).take k)) ∧ Hid (fc 0 ((bl s).take k) = 0)) (fun _ i => s.size - (intOf i).toNat)
  case atStart => exact ⟨0, Nat.zero_le _, rfl, rfl, rfl⟩
  case round =>
    obtain ⟨k, hk, rfl, rfl, HK⟩ := hrel
    have hd := bal_bound ((bl s).take k)
    have hl : ((bl s).take k).length ≤ k := List.length_take_le _ _
    by_cases hlt : k < s.size
    · have HS := Hid.mk (bal_snoc s k hlt)
      have HF := Hid.mk (fc_snoc s k hlt)
      rcases byte_cases s[k] with ⟨b1, b2, b4⟩ | ⟨b1, b2, b3, b4⟩ | ⟨b1, b2, b5, b3, b4⟩ | ⟨b1, b2, b5, b3, b4⟩
      · have HC := Hid.mk b4
        clear b4
        go_wp2
        go_round
        case rel => exact ⟨k + 1, by omega, by go_num, congrArg (Value.int .i64) (by rw [HS.out]; omega), (by rw [HF.out, HK.out, if_neg (fun h => HC.out h.1)] : _ = _)⟩
        case measure => simp [intOf]; omega
      · have HC := Hid.mk b4
        clear b4
        go_wp2
        go_round
        case rel => exact ⟨k + 1, by omega, by go_num, congrArg (Value.int .i64) (by rw [HS.out]; omega), (by rw [HF.out, HK.out, if_neg (fun h => HC.out h.1)] : _ = _)⟩
        case measure => simp [intOf]; omega
      · have HC := Hid.mk b4
        clear b4
        by_cases hz : bal ((bl s).take k) = 0
        · have hz' : (bal ((bl s).take k) == 0) = true := by simp [hz]
          have HZ := Hid.mk hz
          clear hz
          go_wp2
          go_quiet (fail)
          go_wp2
          go_ret3
          exact ⟨_, _, true, _, rfl, rfl, cut_found s k hlt HC.out HZ.out HK.out, by rw [ByteArray.size_extract]; omega, by rw [ByteArray.size_extract]; omega⟩
        · have hz' : (bal ((bl s).take k) == 0) = false := by simp [hz]
          have HZ := Hid.mk hz
          clear hz
          go_wp2
          go_round
          case rel => exact ⟨k + 1, by omega, by go_num, congrArg (Value.int .i64) (by rw [HS.out]; omega), (by rw [HF.out, HK.out, if_neg (fun h => HZ.out h.2)] : _ = _)⟩
          case measure => simp [intOf]; omega
      · have HC := Hid.mk b4
        clear b4
        go_wp2
        go_round
        case rel => exact ⟨k + 1, by omega, by go_num, congrArg (Value.int .i64) (by rw [HS.out]; omega), (by rw [HF.out, HK.out, if_neg (fun h => HC.out h.1)] : _ = _)⟩
        case measure => simp [intOf]; omega
    · have HA : Hid (fc 0 (bl s) = 0) := by rw [← take_all s k (by omega)]; exact HK
      go_wp2
      go_ret3
      exact ⟨s, ⟨#[]⟩, false, 0, rfl, rfl, cut_none s HA.out, Nat.le_refl _, Nat.zero_le _⟩

theorem zz_any (s : ByteArray) (w : World) (hs : s.size ≤ maxLen) : Calls Try.prog 6 #[.string s] w (CutPost s w) := by
  go_enter Try.func6, Try.ntmps6
  go_wp2_with (go_at_call 10; refine (cut_any s _ hs).mono ?_; rintro e w' ⟨nm, df, f, q, rfl, rfl, h1, h2, h3⟩)
  go_ret3
  exact ⟨nm, df, f, q, rfl, rfl, h1, h2, h3⟩
theorem bytes5_any (x : ByteArray) (w : World) (hx : x.size ≤ maxLen) : Calls Try.prog 5 #[.string x] w fun e w' => (∃ r : Bool, e = .returned (.bool r)) ∧ w = w' := by
  unfold maxLen at hx
  go_enter Try.func5, Try.ntmps5
  go_wp2
  all_goals
    go_ret
    exact ⟨⟨_, rfl⟩, rfl⟩
theorem bytes9_any (x y : ByteArray) (w : World) (hx : x.size ≤ maxLen) (hy : y.size ≤ maxLen) : Calls Try.prog 9 #[.string x, .string y] w fun e w' => (∃ r : Bool, e = .returned (.bool r)) ∧ w = w' := by
  unfold maxLen at hx hy
  go_enter Try.func9, Try.ntmps9
  go_wp2
  all_goals
    go_ret
    exact ⟨⟨_, rfl⟩, rfl⟩
end Go.Proofs.Qxb6629008a
