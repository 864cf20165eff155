import Derived.Below
namespace Go.Proofs.Qxb6628489a

/-! ### Runs along one diagonal: 'M p': the two lists match at place p -/
def Seg (M : Nat → Prop) (p r : Nat) : Prop := ∀ d, d < r → M (p + d)
/-- Every run that starts before lo is at most c long. -/
def Upto (M : Nat → Prop) (l lo c : Nat) : Prop := ∀ p r, p < lo → p + r ≤ l → Seg M p r → r ≤ c

theorem upto_zero (M : Nat → Prop) (l c : Nat) : Upto M l 0 c := fun p _ h => by omega
theorem upto_miss {M : Nat → Prop} {l lo c t : Nat} (h : Upto M l lo c) (ht : t = lo + max c 1 - 1) (hm : ¬ M t) : Upto M l (t + 1) c := by
  intro p r hp hr hs
  by_cases h1 : p < lo
  · exact h p r h1 hr hs
  · by_cases h2 : r ≤ t - p
    · omega
    · exfalso
      apply hm
      have := hs (t - p) (by omega)
      rwa [show p + (t - p) = t by omega] at this
theorem upto_hit {M : Nat → Prop} {l lo c t f g : Nat} (h : Upto M l lo c) (ht : t = lo + max c 1 - 1) (_h1 : lo ≤ f) (h2 : f ≤ t) (h3 : t < g) (_h4 : g ≤ l) (h5 : f = lo ∨ ¬ M (f - 1)) (h6 : g = l ∨ ¬ M g) : Upto M l (g + 1) (max c (g - f)) := by
  intro p r hp hr hs
  by_cases a1 : p < lo
  · have := h p r a1 hr hs
    omega
  · by_cases a2 : p < f
    · rcases h5 with h5 | h5
      · omega
      · by_cases a3 : r ≤ f - 1 - p
        · omega
        · exfalso
          apply h5
          have := hs (f - 1 - p) (by omega)
          rwa [show p + (f - 1 - p) = f - 1 by omega] at this
    · rcases h6 with h6 | h6
      · omega
      · by_cases a3 : r ≤ g - p
        · omega
        · exfalso
          apply h6
          have := hs (g - p) (by omega)
          rwa [show p + (g - p) = g by omega] at this
theorem upto_end {M : Nat → Prop} {l lo c : Nat} (h : Upto M l lo c) (ht : l ≤ lo + max c 1 - 1) : ∀ p r, p + r ≤ l → Seg M p r → r ≤ c := by
  intro p r hr hs
  by_cases a1 : p < lo
  · exact h p r a1 hr hs
  · omega
theorem seg_one {M : Nat → Prop} {p : Nat} (h : M p) : Seg M p 1 := by
  intro d hd
  have : d = 0 := by omega
  subst this
  exact h
theorem seg_up {M : Nat → Prop} {f g : Nat} (h : Seg M f (g - f)) (hg : f ≤ g) (hm : M g) : Seg M f (g + 1 - f) := by
  intro d hd
  by_cases h1 : d < g - f
  · exact h d h1
  · rwa [show f + d = g by omega]
theorem seg_down {M : Nat → Prop} {f g : Nat} (h : Seg M f (g - f)) (hf : 1 ≤ f) (hm : M (f - 1)) : Seg M (f - 1) (g - (f - 1)) := by
  intro d hd
  by_cases h1 : d = 0
  · subst h1; exact hm
  · have := h (d - 1) (by omega)
    rwa [show f + (d - 1) = f - 1 + d by omega] at this

/-! ### Runs on the diagonal of shift k, and anywhere -/
def RunOn (S T : List Int) (k : Int) (r : Nat) : Prop := ∃ i j : Nat, (j : Int) = i + k ∧ i + r ≤ S.length ∧ j + r ≤ T.length ∧ ∀ d, d < r → S.getD (i + d) 0 = T.getD (j + d) 0
def Run (S T : List Int) (r : Nat) : Prop := ∃ i j : Nat, i + r ≤ S.length ∧ j + r ≤ T.length ∧ ∀ d, d < r → S.getD (i + d) 0 = T.getD (j + d) 0
/-- What 'diagonalRun' tells of the new length. -/
def Diag (S T : List Int) (k : Int) (c c' : Nat) : Prop := c ≤ c' ∧ (c' = c ∨ RunOn S T k c') ∧ ∀ r, RunOn S T k r → r ≤ c'
def Longest (S T : List Int) (L : Nat) : Prop := Run S T L ∧ ∀ r, Run S T r → r ≤ L

theorem Longest.unique {S T : List Int} {a b : Nat} (h : Longest S T a) (g : Longest S T b) : a = b := by
  have := h.2 b g.1
  have := g.2 a h.1
  omega
theorem Run.symm {S T : List Int} {r : Nat} (h : Run S T r) : Run T S r := by
  obtain ⟨i, j, h1, h2, h3⟩ := h
  exact ⟨j, i, h2, h1, fun d hd => (h3 d hd).symm⟩
theorem Longest.symm {S T : List Int} {a : Nat} (h : Longest S T a) : Longest T S a := ⟨h.1.symm, fun r hr => h.2 r hr.symm⟩
theorem Run.le {S T : List Int} {r : Nat} (h : Run S T r) : r ≤ S.length ∧ r ≤ T.length := by
  obtain ⟨i, j, h1, h2, _⟩ := h
  exact ⟨by omega, by omega⟩
theorem Run.zero (S T : List Int) : Run S T 0 := ⟨0, 0, by omega, by omega, fun d hd => by omega⟩
theorem RunOn.run {S T : List Int} {k : Int} {r : Nat} (h : RunOn S T k r) : Run S T r := by
  obtain ⟨i, j, _, h1, h2, h3⟩ := h
  exact ⟨i, j, h1, h2, h3⟩
theorem Run.on {S T : List Int} {r : Nat} (h : Run S T r) : ∃ k : Int, RunOn S T k r := by
  obtain ⟨i, j, h1, h2, h3⟩ := h
  exact ⟨(j : Int) - i, i, j, by omega, h1, h2, h3⟩
/-- A run on a diagonal is no longer than the diagonal. -/
theorem RunOn.le {S T : List Int} {k : Int} {r : Nat} (h : RunOn S T k r) : (r : Int) ≤ S.length ∧ (r : Int) ≤ T.length ∧ (r : Int) ≤ S.length + k ∧ (r : Int) ≤ T.length - k := by
  obtain ⟨i, j, h0, h1, h2, _⟩ := h
  omega

/-- The matches on a diagonal that starts at f in S and at g in T. -/
def Mat (S T : List Int) (f g p : Nat) : Prop := S.getD (f + p) 0 = T.getD (g + p) 0
theorem on_of_seg {S T : List Int} {k : Int} {f g l p r : Nat} (hk : (g : Int) = f + k) (hl1 : f + l ≤ S.length) (hl2 : g + l ≤ T.length) (hp : p + r ≤ l) (h : Seg (Mat S T f g) p r) : RunOn S T k r := by
  refine ⟨f + p, g + p, by omega, by omega, by omega, fun d hd => ?_⟩
  have := h d hd
  unfold Mat at this
  rwa [Nat.add_assoc, Nat.add_assoc]
theorem seg_of_on {S T : List Int} {k : Int} {f g l r : Nat} (hk : (g : Int) = f + k) (hf : f = 0 ∨ g = 0) (hl : l = min (S.length - f) (T.length - g)) (h : RunOn S T k r) : ∃ p, p + r ≤ l ∧ Seg (Mat S T f g) p r := by
  obtain ⟨i, j, h0, h1, h2, h3⟩ := h
  refine ⟨i - f, by omega, fun d hd => ?_⟩
  unfold Mat
  rw [show f + (i - f + d) = i + d by omega, show g + (i - f + d) = j + d by omega]
  exact h3 d hd

/-- What the walk of a diagonal knows on the way. -/
def Got (S T : List Int) (f g l c0 c : Nat) : Prop := c0 ≤ c ∧ (c = c0 ∨ ∃ p, p + c ≤ l ∧ Seg (Mat S T f g) p c)
theorem got_start (S T : List Int) (f g l c : Nat) : Got S T f g l c c := ⟨Nat.le_refl _, Or.inl rfl⟩
theorem got_more {S T : List Int} {f g l c0 c a b : Nat} (h : Got S T f g l c0 c) (hb : b ≤ l) (hab : a ≤ b) (hc : c < b - a) (hs : Seg (Mat S T f g) a (b - a)) : Got S T f g l c0 (b - a) :=
  ⟨by have := h.1; omega, Or.inr ⟨a, by omega, hs⟩⟩
theorem got_max {S T : List Int} {f g l c0 c a b : Nat} (h : Got S T f g l c0 c) (hb : b ≤ l) (hab : a ≤ b) (hs : Seg (Mat S T f g) a (b - a)) : Got S T f g l c0 (max c (b - a)) := by
  by_cases hc : c < b - a
  · rw [Nat.max_eq_right (by omega)]; exact got_more h hb hab hc hs
  · rw [Nat.max_eq_left (by omega)]; exact h
theorem diag_end {S T : List Int} {k : Int} {f g l c0 c lo : Nat} (hk : (g : Int) = f + k) (hf : f = 0 ∨ g = 0) (hl : l = min (S.length - f) (T.length - g)) (hfs : f ≤ S.length) (hgt : g ≤ T.length)
    (h : Got S T f g l c0 c) (hu : Upto (Mat S T f g) l lo c) (he : l ≤ lo + max c 1 - 1) : Diag S T k c0 c := by
  refine ⟨h.1, ?_, fun r hr => ?_⟩
  · rcases h.2 with h2 | ⟨p, h2, h3⟩
    · exact Or.inl h2
    · exact Or.inr (on_of_seg hk (by omega) (by omega) h2 h3)
  · obtain ⟨p, h2, h3⟩ := seg_of_on hk hf hl hr
    exact upto_end hu he p r h2 h3

/-! ### All diagonals -/
/-- What 'lcsubstring' knows: the best so far is a run, and no diagonal from lo to hi has a longer one. -/
def Seen (S T : List Int) (lo hi : Int) (c : Nat) : Prop := Run S T c ∧ ∀ k : Int, lo ≤ k → k < hi → ∀ r, RunOn S T k r → r ≤ c
theorem seen_start (S T : List Int) (lo : Int) : Seen S T lo lo 0 := ⟨Run.zero S T, fun k h1 h2 => by omega⟩
theorem seen_hi {S T : List Int} {lo hi : Int} {c c' : Nat} (h : Seen S T lo hi c) (hd : Diag S T hi c c') : Seen S T lo (hi + 1) c' := by
  refine ⟨?_, fun k h1 h2 r hr => ?_⟩
  · rcases hd.2.1 with e | e
    · rw [e]; exact h.1
    · exact e.run
  · by_cases hk : k = hi
    · subst hk; exact hd.2.2 r hr
    · have := h.2 k h1 (by omega) r hr
      have := hd.1
      omega
theorem seen_lo {S T : List Int} {lo hi : Int} {c c' : Nat} (h : Seen S T lo hi c) (hd : Diag S T (lo - 1) c c') : Seen S T (lo - 1) hi c' := by
  refine ⟨?_, fun k h1 h2 r hr => ?_⟩
  · rcases hd.2.1 with e | e
    · rw [e]; exact h.1
    · exact e.run
  · by_cases hk : k = lo - 1
    · subst hk; exact hd.2.2 r hr
    · have := h.2 k (by omega) h2 r hr
      have := hd.1
      omega
/-- The diagonals that are left are too short. -/
theorem seen_end {S T : List Int} {lo hi d : Int} {c : Nat} (h : Seen S T (lo - d + 1) (hi + d) c) (hlo : lo = min 0 ((T.length : Int) - S.length)) (hhi : hi = max 0 ((T.length : Int) - S.length))
    (he : (min S.length T.length : Nat) - d < (max c 1 : Nat)) : Longest S T c := by
  refine ⟨h.1, fun r hr => ?_⟩
  obtain ⟨k, hk⟩ := hr.on
  by_cases h1 : lo - d + 1 ≤ k
  · by_cases h2 : k < hi + d
    · exact h.2 k h1 h2 r hk
    · have := hk.le
      omega
  · have := hk.le
    omega
theorem longest_zero {S T : List Int} (h : min S.length T.length < 1) : Longest S T 0 := by
  refine ⟨Run.zero S T, fun r hr => ?_⟩
  have := hr.le
  omega

/-! ### A list and its first part; a list and its last part -/
theorem longest_pre (A B : List Int) : Longest (A ++ B) A A.length := by
  refine ⟨⟨0, 0, by simp, by simp, fun d hd => ?_⟩, fun r hr => hr.le.2⟩
  simp only [Nat.zero_add, List.getD]
  rw [List.getElem?_append_left hd]
theorem longest_suf (A B : List Int) : Longest B (A ++ B) B.length := by
  refine ⟨⟨0, A.length, by simp, by simp, fun d hd => ?_⟩, fun r hr => hr.le.1⟩
  simp only [Nat.zero_add, List.getD]
  rw [List.getElem?_append_right (by omega)]
  simp

/-! ### The table -/
/-- The length of the common run that ends at S[i-1] and T[j-1]. -/
def tab (S T : List Int) : Nat → Nat → Nat
  | 0, _ => 0
  | _ + 1, 0 => 0
  | i + 1, j + 1 => if S.getD i 0 = T.getD j 0 then tab S T i j + 1 else 0
theorem tab_right (S T : List Int) (i : Nat) : tab S T i 0 = 0 := by cases i <;> rfl
theorem tab_is (S T : List Int) : ∀ i j, tab S T i j ≤ i ∧ tab S T i j ≤ j ∧ ∀ d, d < tab S T i j → S.getD (i - tab S T i j + d) 0 = T.getD (j - tab S T i j + d) 0
  | 0, j => by simp [tab]
  | i + 1, 0 => by simp [tab]
  | i + 1, j + 1 => by
    obtain ⟨h1, h2, h3⟩ := tab_is S T i j
    by_cases h : S.getD i 0 = T.getD j 0
    · have e : tab S T (i + 1) (j + 1) = tab S T i j + 1 := by simp only [tab]; rw [if_pos h]
      rw [e]
      refine ⟨by omega, by omega, fun d hd => ?_⟩
      by_cases hd2 : d = tab S T i j
      · subst hd2
        rw [show i + 1 - (tab S T i j + 1) + tab S T i j = i by omega, show j + 1 - (tab S T i j + 1) + tab S T i j = j by omega]
        exact h
      · have := h3 d (by omega)
        rw [show i + 1 - (tab S T i j + 1) + d = i - tab S T i j + d by omega, show j + 1 - (tab S T i j + 1) + d = j - tab S T i j + d by omega]
        exact this
    · have e : tab S T (i + 1) (j + 1) = 0 := by simp only [tab]; rw [if_neg h]
      rw [e]
      exact ⟨by omega, by omega, fun d hd => by omega⟩
theorem tab_run {S T : List Int} {i j : Nat} (hi : i ≤ S.length) (hj : j ≤ T.length) : Run S T (tab S T i j) := by
  obtain ⟨h1, h2, h3⟩ := tab_is S T i j
  exact ⟨i - tab S T i j, j - tab S T i j, by omega, by omega, h3⟩
theorem tab_ge (S T : List Int) (i j : Nat) : ∀ r, (∀ d, d < r → S.getD (i + d) 0 = T.getD (j + d) 0) → r ≤ tab S T (i + r) (j + r)
  | 0, _ => by omega
  | r + 1, h => by
    have ih := tab_ge S T i j r (fun d hd => h d (by omega))
    have e : tab S T (i + (r + 1)) (j + (r + 1)) = tab S T (i + r) (j + r) + 1 := by
      show tab S T ((i + r) + 1) ((j + r) + 1) = _
      simp only [tab]; rw [if_pos (h r (by omega))]
    omega
/-- The best of the rows before i, and of row i before j. -/
def Best (S T : List Int) (i j b : Nat) : Prop := Run S T b ∧ (∀ i' j', i' < i → j' ≤ T.length → tab S T i' j' ≤ b) ∧ ∀ j', j' < j → tab S T i j' ≤ b
theorem best_start (S T : List Int) : Best S T 1 1 0 := by
  refine ⟨Run.zero S T, fun i' j' h _ => ?_, fun j' h => ?_⟩
  · obtain rfl : i' = 0 := by omega
    simp [tab]
  · obtain rfl : j' = 0 := by omega
    rw [tab_right]; omega
theorem best_next {S T : List Int} {i j b v : Nat} (h : Best S T i j b) (hv : v = tab S T i j) (hi : i ≤ S.length) (hj : j ≤ T.length) : Best S T i (j + 1) (max b v) := by
  subst hv
  refine ⟨?_, fun i' j' h1 h2 => ?_, fun j' h1 => ?_⟩
  · by_cases hb : b ≤ tab S T i j
    · rw [Nat.max_eq_right hb]; exact tab_run hi hj
    · rw [Nat.max_eq_left (by omega)]; exact h.1
  · have := h.2.1 i' j' h1 h2; omega
  · by_cases e : j' = j
    · subst e; omega
    · have := h.2.2 j' (by omega); omega
theorem best_row {S T : List Int} {i b : Nat} (h : Best S T i (T.length + 1) b) : Best S T (i + 1) 1 b := by
  refine ⟨h.1, fun i' j' h1 h2 => ?_, fun j' h1 => ?_⟩
  · by_cases e : i' = i
    · subst e; exact h.2.2 j' (by omega)
    · exact h.2.1 i' j' (by omega) h2
  · obtain rfl : j' = 0 := by omega
    rw [tab_right]; omega
theorem best_end {S T : List Int} {b : Nat} (h : Best S T (S.length + 1) 1 b) : Longest S T b := by
  refine ⟨h.1, fun r hr => ?_⟩
  obtain ⟨i, j, h1, h2, h3⟩ := hr
  have := tab_ge S T i j r h3
  have := h.2.1 (i + r) (j + r) (by omega) h2
  omega
end Go.Proofs.Qxb6628489a
