import Derived.Test.Qxb6628489aWalkG
namespace Go.Proofs.Qxb6628489a
open Go.RowKit

/-- The block g holds the row of ints vs, none of them frozen. -/
def RowI (w : World) (g : Nat) (vs : List Value) : Prop := w.heap[g]? = some (.cells vs.toArray 3 (0, 0))
theorem RowI.cell {w : World} {g : Nat} {vs : List Value} (h : RowI w g vs) (k : Nat) (hk : k < vs.length) : w.cell? ⟨g, k, none⟩ = some vs[k] := by
  rw [cell_of_row w g k _ _ _ h]; simp [hk]
theorem RowI.free {w : World} {g : Nat} {vs : List Value} (h : RowI w g vs) (k : Nat) : w.frozen? ⟨g, k, none⟩ = false := frozen_of_row w g k _ _ h
theorem RowI.set {w : World} {g : Nat} {vs : List Value} (h : RowI w g vs) (k : Nat) (v : Value) : RowI (w.setCell ⟨g, k, none⟩ v) g (vs.set k v) := by
  unfold RowI at *
  rw [heap_setCell_same w g k _ _ v h]
  simp
theorem RowI.other {w : World} {g g' : Nat} {vs : List Value} (h : RowI w g vs) (k : Nat) (v : Value) (hg : g ≠ g') : RowI (w.setCell ⟨g', k, none⟩ v) g vs := by
  unfold RowI at *
  rw [heap_setCell_other w ⟨g', k, none⟩ g v hg]
  exact h
theorem RowI.draws {w : World} {g : Nat} {vs : List Value} (h : RowI w g vs) (n : Nat) : RowI (w.drewN n) g vs := h
theorem RowI.below {w w' : World} {g B : Nat} {vs : List Value} (h : RowI w g vs) (hb : Below B w w') (hg : g < B) : RowI w' g vs := by
  unfold RowI at *
  rw [hb.block g hg]; exact h
theorem RowI.lt {w : World} {g : Nat} {vs : List Value} (h : RowI w g vs) : g < w.heap.size := lt_of_block h
theorem RowI.made {w w' : World} {base n : Nat} (h : w'.ownsRow base 3 1 (.slice (some ⟨w.heap.size, 0, none⟩) n n) n (madeCells (Value.int .i64 0).cells (n * 1)).toList) : RowI w' w.heap.size (List.replicate n (Value.int .i64 0)) := by
  rcases h.2 with ⟨h', _⟩ | ⟨g, cap, cur, h', _, hg, _, _, hcs, htake⟩
  · simp at h'
  · simp only [Value.slice.injEq, Option.some.injEq, Addr.mk.injEq, and_true, true_and] at h'
    obtain ⟨rfl, rfl⟩ := h'
    unfold RowI
    rw [hg]
    have e : cur.toList = List.replicate n (Value.int .i64 0) := by
      have h1 : cur.toList.take (n * 1) = cur.toList := List.take_of_length_le (by simp [hcs])
      rw [h1] at htake
      rw [htake, Nat.mul_one]
      exact toList_madeCells_one _ _
    rw [← e]
theorem grown_below {w w' : World} (h : w.grownBy w' none) : Below w.heap.size w w' := (Below.refl _ _).grown h (Nat.le_refl _) (by simp)
theorem info3 : (Try.prog.info? 3).map (fun i => (i.zero, i.size, i.bytes)) = some (some (.int .i64 0), 1, 8) := by kernel_rfl
/-- 'make([]int, n)' in the walk. -/
theorem wpList_makeI (w : World) {ops : Array Oper} {rest : List Oper} {o : Oper} {a : Act} {Q : Exit → Act → World → Prop} (n : Nat)
    (hg : o.guard = none) (l c : Operand) (hop : o.op = Op.makeSlice 27 l c) (L C : Int) (hl : a.eval l = .int .i64 L) (hc : a.eval c = .int .i64 C) (hL : L = (n : Int)) (hC : C = (n : Int)) (hn : n ≤ 10000000)
    (hK : ∀ w', Hid (RowI w' w.heap.size (List.replicate n (Value.int .i64 0))) → Below w.heap.size w w' → wpList Try.prog ops Q rest (a.put o.dst (.slice (some ⟨w.heap.size, 0, none⟩) n n)) w') :
    wpList Try.prog ops Q (o :: rest) a w := by
  obtain ⟨i3, hi3, hz0, hz1, hz2⟩ := info_parts info3
  exact wpList_make_full w hg l c 27 hop w.heap.size 3 i3 (.int .i64 0) 1 Try.underlying27 hi3 hz0 hz1 _ _ _ _ n hl hc hL hC (by rw [hz2]; omega) (by unfold maxLen; omega) (Nat.le_refl _)
    fun w' h1 h2 => hK w' (RowI.made h1) (grown_below h2)

/-- The row as numbers. -/
def nums (f : Nat → Nat) (m : Nat) : List Value := (List.range (m + 1)).map fun j => Value.int .i64 (f j : Int)
theorem nums_length (f : Nat → Nat) (m : Nat) : (nums f m).length = m + 1 := by simp [nums]
theorem nums_get (f : Nat → Nat) (m j : Nat) (h : j < (nums f m).length) : (nums f m)[j] = .int .i64 (f j : Int) := by simp [nums]
theorem nums_zero (m : Nat) : List.replicate (m + 1) (Value.int .i64 0) = nums (fun _ => 0) m := by
  apply List.ext_getElem
  · simp [nums]
  · intro i h1 h2; rw [nums_get]; simp
theorem nums_set (f g : Nat → Nat) (m j v : Nat) (h1 : ∀ i, i ≠ j → g i = f i) (h2 : g j = v) : (nums f m).set j (.int .i64 (v : Int)) = nums g m := by
  apply List.ext_getElem
  · simp [nums]
  · intro i a1 a2
    rw [List.getElem_set, nums_get g m i a2]
    by_cases e : j = i
    · subst e; rw [if_pos rfl, h2]
    · rw [if_neg e, nums_get, h1 i (by omega)]
theorem nums_congr (f g : Nat → Nat) (m : Nat) (h : ∀ i, i ≤ m → f i = g i) : nums f m = nums g m := by
  apply List.ext_getElem
  · simp [nums]
  · intro i a1 a2
    rw [nums_length] at a1
    rw [nums_get, nums_get, h i (by omega)]

/-- The current row on the way: behind j the old numbers. -/
def mix (f o : Nat → Nat) (j : Nat) : Nat → Nat := fun i => if i < j then f i else o i
theorem mix_step (f o : Nat → Nat) (m j v : Nat) (hv : v = f j) : (nums (mix f o j) m).set j (.int .i64 (v : Int)) = nums (mix f o (j + 1)) m := by
  apply nums_set
  · intro i hi; unfold mix; by_cases h : i < j
    · rw [if_pos h, if_pos (by omega)]
    · rw [if_neg h, if_neg (by omega)]
  · unfold mix; rw [if_pos (by omega), hv]
theorem mix_start (S T : List Int) (i : Nat) (o : Nat → Nat) (m : Nat) (h : o 0 = 0) : nums o m = nums (mix (tab S T i) o 1) m := by
  apply nums_congr
  intro j _
  unfold mix
  by_cases h0 : j < 1
  · obtain rfl : j = 0 := by omega
    rw [if_pos h0, h, tab_right]
  · rw [if_neg h0]
theorem mix_end (f o : Nat → Nat) (m : Nat) : nums (mix f o (m + 1)) m = nums f m := by
  apply nums_congr
  intro j hj
  unfold mix
  rw [if_pos (by omega)]
theorem tab_zero_row (S T : List Int) (m : Nat) : nums (fun _ => 0) m = nums (tab S T 0) m := nums_congr _ _ _ fun i _ => by simp [tab]
theorem tab_step (S T : List Int) (i j : Nat) : tab S T (i + 1) (j + 1) = if S.getD i 0 = T.getD j 0 then tab S T i j + 1 else 0 := rfl
theorem RowI.num {w : World} {g m j : Nat} {f : Nat → Nat} (h : RowI w g (nums f m)) (hj : j ≤ m) : w.cell? ⟨g, j, none⟩ = some (.int .i64 (f j : Int)) := by
  rw [h.cell j (by rw [nums_length]; omega), nums_get]
theorem RowI.put {w : World} {g m j v : Nat} {f o : Nat → Nat} (h : RowI w g (nums (mix f o j) m)) (hv : v = f j) (x : Int) (hx : x = (v : Int)) : RowI (w.setCell ⟨g, j, none⟩ (.int .i64 x)) g (nums (mix f o (j + 1)) m) := by
  have := h.set j (.int .i64 (v : Int))
  rw [mix_step f o m j v hv] at this
  rw [hx]; exact this

/-- What 'lcsRunByTable' leaves. -/
def TabPost (S T : List Int) (w : World) (e : Ending) (w' : World) : Prop := ∃ L : Nat, e = .returned (.int .i64 L) ∧ Longest S T L ∧ Below w.heap.size w w'

set_option maxRecDepth 100000 in
set_option maxHeartbeats 2000000 in
theorem table_any (S T : List Int) (b off cs b' off' ct : Nat) (n m : Nat) (w : World) (hn : S.length = n) (hm : T.length = m) (hn1 : n ≤ 20000) (hm1 : m ≤ 20000) (hS : HasR w b off S) (hT : HasR w b' off' T) :
    Calls Try.prog 6 #[.slice (some ⟨b, off, none⟩) n cs, .slice (some ⟨b', off', none⟩) m ct] w (TabPost S T w) := by
  have HN := Hid.mk hn
  have HM := Hid.mk hm
  have HS := Hid.mk hS
  have HT := Hid.mk hT
  clear hn hm hS hT
  go_enter Try.func6, Try.ntmps6
  go_wp2_with (first
    | (at_make; refine wpList_makeI _ (m + 1) rfl (.tmp 15) (.tmp 15) rfl _ _ rfl rfl (by omega) (by omega) (by omega) ?_; intro w1 hrow1 hB1)
    | (at_make; refine wpList_makeI _ (m + 1) rfl (.tmp 18) (.tmp 18) rfl _ _ rfl rfl (by omega) (by omega) (by omega) ?_; intro w2 hrow2 hB2))
  go_loopw [6, 7, 8, 9] (fun v6 v7 v8 v9 wr => ∃ (p c bst i : Nat) (o : Nat → Nat), v6 = .slice (some ⟨p, 0, none⟩) (m + 1) (m + 1) ∧ v7 = .slice (some ⟨c, 0, none⟩) (m + 1) (m + 1) ∧ v8 = .int .i64 bst ∧ v9 = .int .i64 i ∧ 1 ≤ i ∧ i ≤ n + 1 ∧ bst ≤ 20000 ∧ Hid (w.heap.size ≤ p ∧ w.heap.size ≤ c ∧ p ≠ c ∧ o 0 = 0) ∧ Hid (RowI wr p (nums (tab S T (i - 1)) m)) ∧ Hid (RowI wr c (nums o m)) ∧ Hid (Best S T i 1 bst) ∧ Below w.heap.size w wr) (fun _ _ _ v _ => n + 1 - (intOf v).toNat)
  case atStart =>
    have z1 := hB1.size
    have z2 := hrow1.out.lt
    refine ⟨w.heap.size, w1.heap.size, 0, 1, fun _ => 0, rfl, rfl, rfl, rfl, by omega, by omega, by omega, ⟨Nat.le_refl _, z1, by omega, rfl⟩, ?_, ?_, best_start S T, hB1.trans (hB2.mono z1)⟩
    · have := hrow1.out.below hB2 z2
      rw [nums_zero, tab_zero_row S T m] at this
      exact this
    · have := hrow2.out
      rw [nums_zero] at this
      exact this
  case round =>
    clear hrow1 hrow2 hB1 hB2
    obtain ⟨p, c, bst, i, o, rfl, rfl, rfl, rfl, hi1, hi2, hb1, HP, HR1, HR2, HBst, hB⟩ := hrel
    by_cases hlt : i ≤ n
    · go_wp2
      go_loopw [8, 10] (fun v8 v10 wr2 => ∃ bst j : Nat, v8 = .int .i64 bst ∧ v10 = .int .i64 j ∧ 1 ≤ j ∧ j ≤ m + 1 ∧ bst ≤ 20000 ∧ Hid (RowI wr2 p (nums (tab S T (i - 1)) m)) ∧ Hid (RowI wr2 c (nums (mix (tab S T i) o j) m)) ∧ Hid (Best S T i j bst) ∧ Below w.heap.size w wr2) (fun _ v _ => m + 1 - (intOf v).toNat)
      case atStart => exact ⟨bst, 1, rfl, rfl, by omega, by omega, hb1, HR1, by rw [← mix_start S T i o m HP.out.2.2.2]; exact HR2, HBst, hB⟩
      case round =>
        clear HR1 HR2 HBst hB hb1
        obtain ⟨bst, j, rfl, rfl, hj1, hj2, hb1, HR1, HR2, HBst, hB⟩ := hrel
        by_cases hltj : j ≤ m
        · have a1 : (1 : Int) ≤ (i : Int) := by omega
          have a2 : (1 : Int) ≤ (j : Int) := by omega
          obtain ⟨X, hX⟩ : ∃ X, X = S.getD (i - 1) 0 := ⟨_, rfl⟩
          obtain ⟨Y, hY⟩ : ∃ Y, Y = T.getD (j - 1) 0 := ⟨_, rfl⟩
          have cX : wr.cell? ⟨b, off + (i - 1), none⟩ = some (.int .i32 X) := by rw [hX]; exact HS.out.below hB _ (by rw [HN.out]; omega)
          have cY : wr.cell? ⟨b', off' + (j - 1), none⟩ = some (.int .i32 Y) := by rw [hY]; exact HT.out.below hB _ (by rw [HM.out]; omega)
          have hts : tab S T i j = if X = Y then tab S T (i - 1) (j - 1) + 1 else 0 := by
            have := tab_step S T (i - 1) (j - 1)
            rw [show i - 1 + 1 = i by omega, show j - 1 + 1 = j by omega] at this
            rw [this, hX, hY]
          have cF := HR2.out.free j
          obtain ⟨v0, cV⟩ : ∃ v, wr.cell? ⟨c, j, none⟩ = some v := ⟨_, HR2.out.num hltj⟩
          obtain ⟨pv, hpv⟩ : ∃ pv, pv = tab S T (i - 1) (j - 1) := ⟨_, rfl⟩
          have cP : wr.cell? ⟨p, j - 1, none⟩ = some (.int .i64 (pv : Int)) := by rw [hpv]; exact HR1.out.num (by omega)
          have hpb : pv + 1 ≤ j := by have := (tab_is S T (i - 1) (j - 1)).2.1; omega
          rw [← hpv] at hts
          have HPV := Hid.mk hpv
          by_cases hXY : X = Y
          · rw [if_pos hXY] at hts
            have heq : (X == Y) = true := by simp [hXY]
            have HTS := Hid.mk hts
            have HBn : Hid (Best S T i (j + 1) (max bst (pv + 1))) := best_next HBst.out hts.symm (by rw [HN.out]; exact hlt) (by rw [HM.out]; exact hltj)
            clear hX hY hXY hts hpv HBst
            go_wp2
            go_quiet (fail)
            go_wp2
            · have hv1 : (bst : Int) < (pv : Int) + 1 := by assumption
              go_roundw
              case rel => exact ⟨pv + 1, j + 1, by go_num, by go_num, by omega, by omega, by omega, RowI.other (RowI.draws HR1.out _) _ _ HP.out.2.2.1, RowI.put (RowI.draws HR2.out _) HTS.out.symm _ (by omega), by rw [Nat.max_eq_right (by omega)] at HBn; exact HBn, (below_drewN hB _).setCell (p := ⟨c, j, none⟩) HP.out.2.1 _⟩
              case measure => simp [intOf]; omega
            · have hv1 : (pv : Int) + 1 ≤ (bst : Int) := by assumption
              go_roundw
              case rel => exact ⟨bst, j + 1, rfl, by go_num, by omega, by omega, by omega, RowI.other (RowI.draws HR1.out _) _ _ HP.out.2.2.1, RowI.put (RowI.draws HR2.out _) HTS.out.symm _ (by omega), by rw [Nat.max_eq_left (by omega)] at HBn; exact HBn, (below_drewN hB _).setCell (p := ⟨c, j, none⟩) HP.out.2.1 _⟩
              case measure => simp [intOf]; omega
          · rw [if_neg hXY] at hts
            have heq : (X == Y) = false := by simp [hXY]
            have HTS := Hid.mk hts
            have HBn : Hid (Best S T i (j + 1) (max bst 0)) := best_next HBst.out hts.symm (by rw [HN.out]; exact hlt) (by rw [HM.out]; exact hltj)
            clear hX hY hXY hts hpv HBst
            go_wp2
            go_quiet (fail)
            go_wp2
            go_roundw
            case rel => exact ⟨bst, j + 1, rfl, by go_num, by omega, by omega, by omega, RowI.other (RowI.draws HR1.out _) _ _ HP.out.2.2.1, RowI.put (RowI.draws HR2.out _) HTS.out.symm _ rfl, by rw [Nat.max_eq_left (by omega)] at HBn; exact HBn, (below_drewN hB _).setCell (p := ⟨c, j, none⟩) HP.out.2.1 _⟩
            case measure => simp [intOf]; omega
        · have ej : j = m + 1 := by omega
          subst ej
          have HE1 : Hid (RowI wr c (nums (tab S T i) m)) := by rw [← mix_end (tab S T i) o m]; exact HR2
          go_wp2
          go_roundw
          case rel => exact ⟨c, p, bst, i + 1, tab S T (i - 1), rfl, rfl, rfl, by go_num, by omega, by omega, hb1, ⟨HP.out.2.1, HP.out.1, fun e => HP.out.2.2.1 e.symm, tab_right S T _⟩, by rw [Nat.add_sub_cancel]; exact HE1, HR1, best_row (by rw [HM.out]; exact HBst), hB⟩
          case measure => simp [intOf]; omega
    · have ei : i = n + 1 := by omega
      subst ei
      go_wp2
      go_ret
      exact ⟨bst, rfl, best_end (by rw [HN.out]; exact HBst.out), hB⟩
end Go.Proofs.Qxb6628489a
