import Derived.Test.Qxb6628447aRows
import Derived.WalkKit
import Derived.WalkLawsBesides
import Derived.WalkSpells
namespace Go.Proofs.Qxb6628447a
open Go.RowKit

/-- A slice value of strings: where it has an element, its cells hold them. -/
def HasS (w : World) (a : Option Addr) (ss : List ByteArray) : Prop :=
  ss = [] ∨ ∃ b off, a = some ⟨b, off, none⟩ ∧ ∀ i, i < ss.length → w.cell? ⟨b, off + i, none⟩ = some (.string (ss.getD i ByteArray.empty))

def hit (ss : List ByteArray) (y : ByteArray) : Bool := ss.any (fun s => s.toList == y.toList)
def reach (ss : List ByteArray) (y : ByteArray) : Bool := ss.isEmpty || hit ss y

theorem ret_bool {a b : Bool} (h : a = b) : Ending.returned (.bool a) = .returned (.bool b) := by rw [h]

theorem hit_snoc (ss : List ByteArray) (y : ByteArray) (k : Nat) (hk : k < ss.length) (h : hit (ss.take k) y = false) (he : (ss[k].toList == y.toList) = false) : hit (ss.take (k + 1)) y = false := by
  unfold hit at *
  rw [List.take_succ_eq_append_getElem hk, List.any_append, h]
  simp [he]

theorem reach_hit (ss : List ByteArray) (y : ByteArray) (k : Nat) (hk : k < ss.length) (he : (ss[k].toList == y.toList) = true) : reach ss y = true := by
  unfold reach hit
  rw [Bool.or_eq_true]
  right
  rw [List.any_eq_true]
  exact ⟨ss[k], List.getElem_mem _, he⟩

theorem reach_miss (ss : List ByteArray) (y : ByteArray) (k : Nat) (hk : ss.length ≤ k) (h0 : ss ≠ []) (h : hit (ss.take k) y = false) : reach ss y = false := by
  unfold reach
  rw [List.take_of_length_le hk] at h
  rw [h]
  simp [h0]

set_option maxHeartbeats 400000 in
theorem reaches_any (a : Option Addr) (n c : Nat) (ss : List ByteArray) (y : ByteArray) (w : World) (hn : ss.length = n) (hm : n ≤ maxLen) (h : HasS w a ss) :
    Calls Try.prog 6 #[.slice a n c, .string y] w fun e w' => e = .returned (.bool (reach ss y)) ∧ w = w' := by
  unfold maxLen at hm
  rcases h with rfl | ⟨b, off, rfl, hc⟩
  · simp at hn
    subst hn
    go_enter Try.func6, Try.ntmps6
    go_wp2
    go_ret
    exact ⟨rfl, rfl⟩
  · by_cases h0 : n = 0
    · subst h0
      have : ss = [] := List.eq_nil_of_length_eq_zero hn
      subst this
      go_enter Try.func6, Try.ntmps6
      go_wp2
      go_ret
      exact ⟨rfl, rfl⟩
    · have h1 : ((n : Int) == 0) = false := by simp; omega
      have h0' : ss ≠ [] := by intro e; rw [e] at hn; simp at hn; omega
      go_enter Try.func6, Try.ntmps6
      go_wp2
      go_loop [6, 12] (fun _ i => ∃ k : Nat, k ≤ n ∧ i = .int .i64 k ∧ Hid (hit (ss.take k) y = false)) (fun _ i => n - (intOf i).toNat)
      case atStart => exact ⟨0, Nat.zero_le _, rfl, rfl⟩
      case round =>
        obtain ⟨k, hk, rfl, HK⟩ := hrel
        by_cases hlt : k < n
        · have hck := hc k (by omega)
          have hlt' : k < ss.length := by omega
          clear hc
          go_wp2
          · have he : (ss[k].toList == y.toList) = true := by assumption
            go_ret
            exact ⟨ret_bool (reach_hit ss y k hlt' he).symm, rfl⟩
          · have he : (ss[k].toList == y.toList) = false := by assumption
            go_round
            case rel => exact ⟨k + 1, by omega, by go_num, hit_snoc ss y k hlt' HK.out he⟩
            case measure => simp [intOf]; omega
        · go_wp2
          go_ret
          exact ⟨ret_bool (reach_miss ss y k (by omega) h0' HK.out).symm, rfl⟩

/-- The lengths that the guard sums up: 'yes' says that each string is at most 2^20 long. -/
def small (ss : List ByteArray) : Prop := ∀ s ∈ ss, s.size ≤ 1048576

theorem small_nil (ss : List ByteArray) : small (ss.take 0) := by intro s hs; simp at hs
theorem small_snoc (ss : List ByteArray) (k : Nat) (hk : k < ss.length) (h : small (ss.take k)) (he : (ss[k].size : Int) ≤ 1048576) : small (ss.take (k + 1)) := by
  unfold small at *
  rw [List.take_succ_eq_append_getElem hk]
  intro s hs
  rcases List.mem_append.1 hs with hs | hs
  · exact h s hs
  · simp at hs; subst hs; omega
theorem small_all (ss : List ByteArray) (k : Nat) (hk : ss.length ≤ k) (h : small (ss.take k)) : small ss := by
  rwa [List.take_of_length_le hk] at h

/-- What a guard says. -/
def Told (p : Prop) (w : World) (e : Ending) (w' : World) : Prop := ∃ r : Bool, e = .returned (.bool r) ∧ w = w' ∧ (r = true → p)
theorem Told.no {p : Prop} {w : World} : Told p w (.returned (.bool false)) w := ⟨false, rfl, rfl, by simp⟩
theorem Told.yes {p : Prop} {w : World} (h : p) : Told p w (.returned (.bool true)) w := ⟨true, rfl, rfl, fun _ => h⟩

set_option maxHeartbeats 400000 in
theorem bytes5_any (a : Option Addr) (n c : Nat) (ss : List ByteArray) (i : Int) (x y : ByteArray) (w : World) (hn : ss.length = n) (hm : n ≤ maxLen) (hx : x.size ≤ maxLen) (hy : y.size ≤ maxLen) (hss : ∀ s ∈ ss, s.size ≤ maxLen) (h : HasS w a ss) :
    Calls Try.prog 5 #[.slice a n c, .int .i64 i, .string x, .string y] w (Told (small ss) w) := by
  unfold maxLen at hm hx hy hss
  go_enter Try.func5, Try.ntmps5
  go_wp2
  · go_ret
    exact Told.no
  · go_loop [9, 10] (fun z i => ∃ k q : Nat, k ≤ n ∧ i = .int .i64 k ∧ z = .int .i64 q ∧ q ≤ 1048576 ∧ Hid (small (ss.take k))) (fun _ i => n - (intOf i).toNat)
    case atStart => exact ⟨0, n, Nat.zero_le _, rfl, rfl, by omega, small_nil ss⟩
    case round =>
      obtain ⟨k, q, hk, rfl, rfl, hq, HK⟩ := hrel
      by_cases hlt : k < n
      · rcases h with rfl | ⟨b, off, rfl, hc⟩
        · simp at hn; omega
        · have hck := hc k (by omega)
          have hlt' : k < ss.length := by omega
          have hsk := hss ss[k] (List.getElem_mem _)
          clear hc hss
          go_wp2
          · go_ret
            exact Told.no
          · go_ret
            exact Told.no
          · have he : (ss[k].size : Int) ≤ 1048576 := by assumption
            go_round
            case rel => exact ⟨k + 1, q + ss[k].size, by omega, by go_num, by go_num, by omega, small_snoc ss k hlt' HK.out he⟩
            case measure => simp [intOf]; omega
      · clear h hss
        have HA : Hid (small ss) := small_all ss k (by omega) HK.out
        go_wp2
        all_goals
          go_ret
          first | exact Told.no | exact Told.yes HA.out

set_option maxHeartbeats 800000 in
theorem bytes7_any (a : Option Addr) (n c : Nat) (ss : List ByteArray) (a' : Option Addr) (n' c' : Nat) (ss' : List ByteArray) (y : ByteArray) (w : World) (hn : ss.length = n) (hm : n ≤ maxLen) (hn' : ss'.length = n') (hm' : n' ≤ maxLen) (hy : y.size ≤ maxLen)
    (hss : ∀ s ∈ ss, s.size ≤ maxLen) (hss' : ∀ s ∈ ss', s.size ≤ maxLen) (h : HasS w a ss) (h' : HasS w a' ss') :
    Calls Try.prog 7 #[.slice a n c, .slice a' n' c', .string y] w (Told (small ss ∧ small ss') w) := by
  unfold maxLen at hm hm' hy hss hss'
  go_enter Try.func7, Try.ntmps7
  go_wp2
  · go_ret
    exact Told.no
  · go_loop [7, 8] (fun z i => ∃ k q : Nat, k ≤ n ∧ i = .int .i64 k ∧ z = .int .i64 q ∧ q ≤ 1048576 ∧ Hid (small (ss.take k))) (fun _ i => n - (intOf i).toNat)
    case atStart => exact ⟨0, n, Nat.zero_le _, rfl, rfl, by omega, small_nil ss⟩
    case round =>
      obtain ⟨k, q, hk, rfl, rfl, hq, HK⟩ := hrel
      by_cases hlt : k < n
      · rcases h with rfl | ⟨b, off, rfl, hc⟩
        · simp at hn; omega
        · have hck := hc k (by omega)
          have hlt' : k < ss.length := by omega
          have hsk := hss ss[k] (List.getElem_mem _)
          clear hc hss h' hss'
          go_wp2
          · go_ret
            exact Told.no
          · go_ret
            exact Told.no
          · have he : (ss[k].size : Int) ≤ 1048576 := by assumption
            go_round
            case rel => exact ⟨k + 1, q + ss[k].size, by omega, by go_num, by go_num, by omega, small_snoc ss k hlt' HK.out he⟩
            case measure => simp [intOf]; omega
      · clear h hss
        have HA : Hid (small ss) := small_all ss k (by omega) HK.out
        go_wp2
        · go_ret
          exact Told.no
        · go_ret
          exact Told.no
        · have hq2 : (q : Int) + n' ≤ 1048576 := by assumption
          go_loop [7, 9] (fun z i => ∃ k q : Nat, k ≤ n' ∧ i = .int .i64 k ∧ z = .int .i64 q ∧ q ≤ 1048576 ∧ Hid (small (ss'.take k))) (fun _ i => n' - (intOf i).toNat)
          case atStart => exact ⟨0, q + n', Nat.zero_le _, rfl, by go_num, by omega, small_nil ss'⟩
          case round =>
            obtain ⟨k2, q2, hk2, rfl, rfl, hq2, HK2⟩ := hrel
            by_cases hlt2 : k2 < n'
            · rcases h' with rfl | ⟨b, off, rfl, hc⟩
              · simp at hn'; omega
              · have hck := hc k2 (by omega)
                have hlt' : k2 < ss'.length := by omega
                have hsk := hss' ss'[k2] (List.getElem_mem _)
                clear hc hss'
                go_wp2
                · go_ret
                  exact Told.no
                · go_ret
                  exact Told.no
                · have he : (ss'[k2].size : Int) ≤ 1048576 := by assumption
                  go_round
                  case rel => exact ⟨k2 + 1, q2 + ss'[k2].size, by omega, by go_num, by go_num, by omega, small_snoc ss' k2 hlt' HK2.out he⟩
                  case measure => simp [intOf]; omega
            · clear h' hss'
              have HB : Hid (small ss') := small_all ss' k2 (by omega) HK2.out
              go_wp2
              all_goals
                go_ret
                first | exact Told.no | exact Told.yes ⟨HA.out, HB.out⟩
end Go.Proofs.Qxb6628447a
