import Derived.Test.Qxb6628447aWalkA
import Derived.Laws.CopyOwn
namespace Go.Proofs.Qxb6628447a
open Go.RowKit

/-! ### Plain laws on lists of strings -/
theorem hit_append (a b : List ByteArray) (y : ByteArray) : hit (a ++ b) y = (hit a y || hit b y) := by simp [hit]
theorem hit_cons (x : ByteArray) (b : List ByteArray) (y : ByteArray) : hit (x :: b) y = ((x.toList == y.toList) || hit b y) := by simp [hit]
theorem reach_ne (ss : List ByteArray) (y : ByteArray) (h : ss ≠ []) : reach ss y = hit ss y := by simp [reach, h]
theorem reach_own (ss : List ByteArray) (k : Nat) (h : k < ss.length) : reach ss ss[k] = true := reach_hit ss _ k h (by simp)

/-- The list with x put in at place i. -/
def ins (ss : List ByteArray) (i : Nat) (x : ByteArray) : List ByteArray := ss.take i ++ x :: ss.drop i
theorem ins_length (ss : List ByteArray) (i : Nat) (x : ByteArray) (h : i ≤ ss.length) : (ins ss i x).length = ss.length + 1 := by simp [ins]; omega
theorem ins_ne (ss : List ByteArray) (i : Nat) (x : ByteArray) : ins ss i x ≠ [] := by simp [ins]
theorem ins_hit (ss : List ByteArray) (i : Nat) (x y : ByteArray) : hit (ins ss i x) y = ((y.toList == x.toList) || hit ss y) := by
  have e : hit ss y = (hit (ss.take i) y || hit (ss.drop i) y) := by rw [← hit_append, List.take_append_drop]
  rw [ins, hit_append, hit_cons, e, Bool.beq_comm (a := x.toList)]
  cases hit (ss.take i) y <;> cases (y.toList == x.toList) <;> simp
theorem ins_reach (ss : List ByteArray) (i : Nat) (x y : ByteArray) : reach (ins ss i x) y = ((y.toList == x.toList) || hit ss y) := by
  rw [reach_ne _ _ (ins_ne ss i x), ins_hit]
theorem ins_lt (ss : List ByteArray) (i k : Nat) (x : ByteArray) (hi : i ≤ ss.length) (hk : k < i) : (ins ss i x)[k]'(by rw [ins_length _ _ _ hi]; omega) = ss[k]'(by omega) := by
  simp only [ins]
  rw [List.getElem_append_left (by simp; omega)]
  simp
theorem ins_at (ss : List ByteArray) (i : Nat) (x : ByteArray) (hi : i ≤ ss.length) : (ins ss i x)[i]'(by rw [ins_length _ _ _ hi]; omega) = x := by
  simp only [ins]
  rw [List.getElem_append_right (by simp; omega)]
  simp [Nat.min_eq_left hi]
theorem ins_gt (ss : List ByteArray) (i k : Nat) (x : ByteArray) (hi : i ≤ ss.length) (hk : i ≤ k) (hk2 : k < ss.length) : (ins ss i x)[k + 1]'(by rw [ins_length _ _ _ hi]; omega) = ss[k]'hk2 := by
  simp only [ins]
  rw [List.getElem_append_right (by simp; omega)]
  simp only [List.length_take, Nat.min_eq_left hi]
  have e : k + 1 - i = (k - i) + 1 := by omega
  simp only [e, List.getElem_cons_succ, List.getElem_drop]
  congr 1
  omega

/-! ### A row that is being filled: the first k cells are those of U, the rest is empty -/
def part (U : List ByteArray) (k : Nat) : List Value := (U.take k ++ List.replicate (U.length - k) ByteArray.empty).map Value.string
theorem part_length (U : List ByteArray) (k : Nat) (h : k ≤ U.length) : (part U k).length = U.length := by simp [part]; omega
theorem part_zero (U : List ByteArray) : part U 0 = List.replicate U.length (Value.string ByteArray.empty) := by simp [part]
theorem part_full (U : List ByteArray) : part U U.length = U.map Value.string := by simp [part]
theorem part_set (U : List ByteArray) (k : Nat) (h : k < U.length) : (part U k).set k (.string U[k]) = part U (k + 1) := by
  apply List.ext_getElem
  · rw [List.length_set, part_length _ _ (by omega), part_length _ _ (by omega)]
  · intro j h1 h2
    rw [part_length _ _ (by omega)] at h2
    rw [List.getElem_set]
    simp only [part, List.getElem_map]
    by_cases hj : k = j
    · subst hj
      rw [if_pos rfl, List.getElem_append_left (by simp; omega)]
      simp
    · rw [if_neg hj]
      by_cases hj2 : j < k
      · rw [List.getElem_append_left (by simp; omega), List.getElem_append_left (by simp; omega)]
        simp
      · rw [List.getElem_append_right (by simp; omega), List.getElem_append_right (by simp; omega)]
        simp

/-- The block g holds the row of cells vs, none of them frozen. -/
def Row (w : World) (g : Nat) (vs : List Value) : Prop := w.heap[g]? = some (.cells vs.toArray 9 (0, 0))
theorem Row.cell {w : World} {g : Nat} {vs : List Value} (h : Row w g vs) (k : Nat) (hk : k < vs.length) : w.cell? ⟨g, k, none⟩ = some vs[k] := by
  rw [cell_of_row w g k _ _ _ h]; simp [hk]
theorem Row.free {w : World} {g : Nat} {vs : List Value} (h : Row w g vs) (k : Nat) : w.frozen? ⟨g, k, none⟩ = false := frozen_of_row w g k _ _ h
theorem Row.set {w : World} {g : Nat} {vs : List Value} (h : Row w g vs) (k : Nat) (v : Value) : Row (w.setCell ⟨g, k, none⟩ v) g (vs.set k v) := by
  unfold Row at *
  rw [heap_setCell_same w g k _ _ v h]
  simp
theorem Row.lt {w : World} {g : Nat} {vs : List Value} (h : Row w g vs) : g < w.heap.size := lt_of_block h
theorem Row.has {w : World} {g : Nat} {U : List ByteArray} (h : Row w g (U.map Value.string)) : HasS w (some ⟨g, 0, none⟩) U := by
  right
  refine ⟨g, 0, rfl, fun i hi => ?_⟩
  rw [Nat.zero_add, Row.cell h i (by simpa using hi)]
  simp [List.getD, hi]
theorem Row.put {w : World} {g : Nat} {U : List ByteArray} {k : Nat} (h : Row w g (part U k)) (hk : k < U.length) : Row (w.setCell ⟨g, k, none⟩ (.string U[k])) g (part U (k + 1)) := by
  have := h.set k (.string U[k])
  rwa [part_set U k hk] at this
theorem Row.below {w w' : World} {g B : Nat} {vs : List Value} (h : Row w g vs) (hb : Below B w w') (hg : g < B) : Row w' g vs := by
  unfold Row at *
  rw [hb.block g hg]; exact h

theorem Hid.mk {p : Prop} (h : p) : Hid p := h

/-- A slice that reads in w reads in every later world that keeps w's blocks. -/
theorem HasS.below {w w' : World} {a : Option Addr} {ss : List ByteArray} (h : HasS w a ss) (hb : Below w.heap.size w w') : HasS w' a ss := by
  rcases h with h | ⟨b, off, rfl, hc⟩
  · exact Or.inl h
  · by_cases h0 : ss = []
    · exact Or.inl h0
    · refine Or.inr ⟨b, off, rfl, fun i hi => ?_⟩
      have h1 := hc i hi
      rw [hb.cell (by simpa using Go.block_lt_of_cell h1)]
      exact h1

/-- Of a full 'make([]string, n)': the row. -/
theorem Row.made {w w' : World} {base n : Nat} (h : w'.ownsRow base 9 1 (.slice (some ⟨w.heap.size, 0, none⟩) n n) n (madeCells (Value.string ByteArray.empty).cells (n * 1)).toList) : Row w' w.heap.size (List.replicate n (Value.string ByteArray.empty)) := by
  rcases h.2 with ⟨h', _⟩ | ⟨g, cap, cur, h', _, hg, _, _, hcs, htake⟩
  · simp at h'
  · simp only [Value.slice.injEq, Option.some.injEq, Addr.mk.injEq, and_true, true_and] at h'
    obtain ⟨rfl, rfl⟩ := h'
    unfold Row
    rw [hg]
    have e : cur.toList = List.replicate n (Value.string ByteArray.empty) := by
      have h1 : cur.toList.take (n * 1) = cur.toList := List.take_of_length_le (by simp [hcs])
      rw [h1] at htake
      rw [htake, Nat.mul_one]
      exact toList_madeCells_one _ _
    rw [← e]
theorem grown_below {w w' : World} (h : w.grownBy w' none) : Below w.heap.size w w' := (Below.refl _ _).grown h (Nat.le_refl _) (by simp)
theorem Row.there {w : World} {g : Nat} {U : List ByteArray} {k : Nat} (h : Row w g (part U k)) (hk : k < U.length) : ∃ v, w.cell? ⟨g, k, none⟩ = some v :=
  ⟨_, h.cell k (by rw [part_length _ _ (by omega)]; omega)⟩
theorem Row.ins_mid {w : World} {g p : Nat} {ss : List ByteArray} {x : ByteArray} (h : Row w g (part (ins ss p x) p)) (hp : p ≤ ss.length) : Row (w.setCell ⟨g, p, none⟩ (.string x)) g (part (ins ss p x) (p + 1)) := by
  have := h.put (by rw [ins_length _ _ _ hp]; omega)
  rwa [ins_at ss p x hp] at this
theorem Row.start {w : World} {g m : Nat} {U : List ByteArray} (h : Row w g (List.replicate m (Value.string ByteArray.empty))) (hm : U.length = m) : Row w g (part U 0) := by
  rw [part_zero, hm]; exact h
theorem Row.full {w : World} {g m : Nat} {U : List ByteArray} (h : Row w g (part U m)) (hm : U.length = m) : HasS w (some ⟨g, 0, none⟩) U := by
  subst hm
  rw [part_full] at h
  exact h.has

/-- What a round 'u[j] = t[k]' reads, and what it leaves, where t[k] is U's element at j. -/
theorem HasS.step {w : World} {a : Option Addr} {ss U : List ByteArray} {g j k : Nat} (hS : HasS w a ss) (h : Row w g (part U j)) (hk : k < ss.length) (hj : j < U.length) (he : U[j] = ss[k]) :
    ∃ b off s v0, a = some ⟨b, off, none⟩ ∧ w.cell? ⟨b, off + k, none⟩ = some (.string s) ∧ w.cell? ⟨g, j, none⟩ = some v0 ∧ w.frozen? ⟨g, j, none⟩ = false ∧ Hid (Row (w.setCell ⟨g, j, none⟩ (.string s)) g (part U (j + 1))) := by
  rcases hS with rfl | ⟨b, off, rfl, hc⟩
  · simp at hk
  · obtain ⟨v0, hv0⟩ := h.there hj
    have hput := h.put hj
    rw [he] at hput
    refine ⟨b, off, ss[k], v0, rfl, ?_, hv0, h.free j, hput⟩
    rw [hc k hk]
    simp [List.getD, hk]

/-- An element of a slice that is not empty, as the walk reads it. -/
theorem HasS.at {w : World} {a : Option Addr} {ss : List ByteArray} (hS : HasS w a ss) (j : Nat) (hj : j < ss.length) : ∃ b off s, a = some ⟨b, off, none⟩ ∧ w.cell? ⟨b, off + j, none⟩ = some (.string s) ∧ reach ss s = true := by
  rcases hS with rfl | ⟨b, off, rfl, hc⟩
  · simp at hj
  · refine ⟨b, off, ss[j], rfl, ?_, reach_own ss j hj⟩
    rw [hc j hj]
    simp [List.getD, hj]
theorem small.at {w : World} {b off j : Nat} {s : ByteArray} {ss : List ByteArray} (h : small ss) (hj : j < ss.length) (hS : HasS w (some ⟨b, off, none⟩) ss) (hc : w.cell? ⟨b, off + j, none⟩ = some (.string s)) : s.size ≤ 1048576 := by
  rcases hS with rfl | ⟨b', off', e, hc'⟩
  · simp at hj
  · simp only [Option.some.injEq, Addr.mk.injEq, and_true] at e
    obtain ⟨rfl, rfl⟩ := e
    rw [hc' j hj] at hc
    simp only [Option.some.injEq, Value.string.injEq] at hc
    subst hc
    apply h
    simp [List.getD, hj]
theorem end_none (ss : List ByteArray) (p : Nat) (x y : ByteArray) (h : ss.length = 0) : reach ss y = true ∧ reach (ins ss p x) y = (y.toList == x.toList) := by
  obtain rfl := List.eq_nil_of_length_eq_zero h
  exact ⟨rfl, by rw [ins_reach]; simp [hit]⟩
theorem end_some (ss : List ByteArray) (p : Nat) (x y : ByteArray) (h : ss.length ≠ 0) : reach (ins ss p x) y = ((y.toList == x.toList) || reach ss y) := by
  rw [ins_reach, reach_ne ss y (by intro e; rw [e] at h; simp at h)]

theorem info9 : (Try.prog.info? 9).map (fun i => (i.zero, i.size, i.bytes)) = some (some (.string ByteArray.empty), 1, 16) := by kernel_rfl
theorem size9 : (Try.prog.info? 9).map (·.size) = some 1 := by kernel_rfl

/-- 'make([]string, n)' in the walk: a row of n empty strings in a new block. -/
theorem wpList_makeS (w : World) {ops : Array Oper} {rest : List Oper} {o : Oper} {a : Act} {Q : Exit → Act → World → Prop} (n : Nat)
    (hg : o.guard = none) (l c : Operand) (hop : o.op = Op.makeSlice 22 l c) (L C : Int) (hl : a.eval l = .int .i64 L) (hc : a.eval c = .int .i64 C) (hL : L = (n : Int)) (hC : C = (n : Int)) (hn : n ≤ 10000000)
    (hK : ∀ w', Hid (Row w' w.heap.size (List.replicate n (Value.string ByteArray.empty))) → Below w.heap.size w w' → wpList Try.prog ops Q rest (a.put o.dst (.slice (some ⟨w.heap.size, 0, none⟩) n n)) w') :
    wpList Try.prog ops Q (o :: rest) a w := by
  obtain ⟨i9, hi9, hz0, hz1, hz2⟩ := info_parts info9
  exact wpList_make_full w hg l c 22 hop w.heap.size 9 i9 (.string ByteArray.empty) 1 Try.underlying22 hi9 hz0 hz1 _ _ _ _ n hl hc hL hC (by rw [hz2]; omega) (by unfold maxLen; omega) (Nat.le_refl _)
    fun w' h1 h2 => hK w' (Row.made h1) (grown_below h2)

/-- 'copy(zzc, t)' in the walk: the new row holds t's strings. -/
theorem wpList_copyS (w : World) {ops : Array Oper} {rest : List Oper} {o : Oper} {a : Act} {Q : Exit → Act → World → Prop} (ss : List ByteArray) (g : Nat) (B : Nat) (w0 : World) (hrow : Row w g (List.replicate ss.length (Value.string ByteArray.empty))) (hb : Below B w0 w) (hBg : B ≤ g)
    (hgd : o.guard = none) (d s : Operand) (ho : o.op = .call { callee := .builtin .copy, args := #[d, s], argTypes := #[22, 22] }) (sp : Option Addr) (dLen sLen dCap sCap : Nat) (hd : a.eval d = .slice (some ⟨g, 0, none⟩) dLen dCap) (hs : a.eval s = .slice sp sLen sCap)
    (hdl : dLen = ss.length) (hsl : sLen = ss.length) (hS : HasS w sp ss)
    (h : ∀ w', Hid (Row w' g (ss.map Value.string)) → Below B w0 w' → wpList Try.prog ops Q rest (a.put o.dst (goInt ss.length)) w') :
    wpList Try.prog ops Q (o :: rest) a w := by
  subst hdl; subst hsl
  refine wpList_copy_splice hgd d s 22 22 ho 9 Try.underlying22 size9 _ sp _ dCap _ sCap hd hs g 0 _ 9 hrow (ss.map Value.string) (by simp) ?_ (by simp) ?_ B w0 hb hBg ?_
  · intro hp
    refine ⟨rfl, ?_⟩
    rcases hS with rfl | ⟨b, off, rfl, hc⟩
    · simp at hp
    · refine ⟨_, rfl, fun j v hv => ?_⟩
      obtain ⟨hj, rfl⟩ := List.getElem?_eq_some_iff.1 hv
      have hj' : j < ss.length := by simpa using hj
      rw [Addr.add_lit, hc j hj']
      simp [List.getD, hj']
  · intro v hv
    obtain ⟨_, _, rfl⟩ := List.mem_map.1 hv
    rfl
  · intro w' h1 h2
    have e : splice (List.replicate ss.length (Value.string ByteArray.empty)) 0 (ss.map Value.string) = ss.map Value.string := by simp [splice]
    have h1' := h1.out
    rw [e] at h1'
    simpa using h w' h1' h2
end Go.Proofs.Qxb6628447a
