import Derived.Below
namespace Go.Proofs.Qxb6629008a

/-- What a byte does to the depth: '{' raises it, '}' lowers it. -/
def delta (c : UInt8) : Int := if c = 123 then 1 else if c = 125 then -1 else 0
def bal : List UInt8 → Int
  | [] => 0
  | c :: l => delta c + bal l
/-- The number of colons at depth nought, from depth d on. -/
def fc : Int → List UInt8 → Nat
  | _, [] => 0
  | d, c :: l => (if c = 58 ∧ d = 0 then 1 else 0) + fc (d + delta c) l

theorem bal_append (l m : List UInt8) : bal (l ++ m) = bal l + bal m := by
  induction l with
  | nil => simp [bal]
  | cons c l ih => simp only [List.cons_append, bal, ih]; omega
theorem fc_append (l m : List UInt8) : ∀ d, fc d (l ++ m) = fc d l + fc (d + bal l) m := by
  induction l with
  | nil => intro d; simp [fc, bal]
  | cons c l ih =>
    intro d
    simp only [List.cons_append, fc, bal, ih]
    rw [show d + delta c + bal l = d + (delta c + bal l) by omega]
    omega
theorem delta_bound (c : UInt8) : -1 ≤ delta c ∧ delta c ≤ 1 := by
  unfold delta
  split
  · omega
  · split <;> omega
theorem bal_bound (l : List UInt8) : -(l.length : Int) ≤ bal l ∧ bal l ≤ l.length := by
  induction l with
  | nil => simp [bal]
  | cons c l ih =>
    have := delta_bound c
    simp only [bal, List.length_cons]
    omega
theorem fc_bound (l : List UInt8) : ∀ d, fc d l ≤ l.length := by
  induction l with
  | nil => intro d; simp [fc]
  | cons c l ih =>
    intro d
    have := ih (d + delta c)
    simp only [fc, List.length_cons]
    split <;> omega

/-- The bytes of a string. -/
def bl (s : ByteArray) : List UInt8 := s.data.toList
theorem bl_ext {s t : ByteArray} (h : bl s = bl t) : s = t := by
  cases s; cases t
  simp only [bl] at h
  congr
  exact Array.toList_inj.1 h
theorem bl_append (s t : ByteArray) : bl (s ++ t) = bl s ++ bl t := by simp [bl]
theorem bl_size (s : ByteArray) : (bl s).length = s.size := Array.length_toList
theorem bl_extract (s : ByteArray) (i j : Nat) : bl (s.extract i j) = ((bl s).take j).drop i := by
  simp only [bl, ByteArray.data_extract, Array.toList_extract, List.extract_eq_take_drop]
  rw [List.take_drop]
  by_cases h : i ≤ j
  · rw [show i + (j - i) = j by omega]
  · rw [show i + (j - i) = i by omega, List.drop_eq_nil_of_le (by simp; omega), List.drop_eq_nil_of_le (by simp; omega)]
theorem bl_colon : bl ⟨#[58]⟩ = [58] := rfl
theorem bl_empty : bl ⟨#[]⟩ = [] := rfl
theorem get_bl (s : ByteArray) (k : Nat) (h : k < s.size) : (bl s)[k]'(by rw [bl_size]; exact h) = s[k] := rfl
theorem take_snoc (s : ByteArray) (k : Nat) (h : k < s.size) : (bl s).take (k + 1) = (bl s).take k ++ [s[k]] := by
  rw [List.take_succ_eq_append_getElem (by rw [bl_size]; exact h), get_bl]
theorem split_at (s : ByteArray) (k : Nat) (h : k < s.size) : bl s = (bl s).take k ++ s[k] :: (bl s).drop (k + 1) := by
  have := List.take_append_drop (k + 1) (bl s)
  rw [take_snoc s k h, List.append_assoc] at this
  exact this.symm
theorem bal_snoc (s : ByteArray) (k : Nat) (h : k < s.size) : bal ((bl s).take (k + 1)) = bal ((bl s).take k) + delta s[k] := by
  rw [take_snoc s k h, bal_append]; simp [bal]
theorem fc_snoc (s : ByteArray) (k : Nat) (h : k < s.size) : fc 0 ((bl s).take (k + 1)) = fc 0 ((bl s).take k) + if s[k] = 58 ∧ bal ((bl s).take k) = 0 then 1 else 0 := by
  rw [take_snoc s k h, fc_append]; simp [fc]
theorem take_all (s : ByteArray) (k : Nat) (h : s.size ≤ k) : (bl s).take k = bl s := List.take_of_length_le (by rw [bl_size]; exact h)

/-! ### What 'cutDefault' gives -/
/-- The text is cut at the first colon at depth nought; where there is none, nothing is cut. -/
def CutIs (s nm df : ByteArray) (f : Bool) : Prop :=
  (f = true ∧ bl s = bl nm ++ 58 :: bl df ∧ bal (bl nm) = 0 ∧ fc 0 (bl nm) = 0) ∨ (f = false ∧ nm = s ∧ df = ⟨#[]⟩ ∧ fc 0 (bl s) = 0)

theorem cut_found (s : ByteArray) (k : Nat) (h : k < s.size) (hc : s[k] = 58) (hd : bal ((bl s).take k) = 0) (hf : fc 0 ((bl s).take k) = 0) : CutIs s (s.extract 0 k) (s.extract (k + 1) s.size) true := by
  left
  have e1 : bl (s.extract 0 k) = (bl s).take k := by rw [bl_extract]; simp
  have e2 : bl (s.extract (k + 1) s.size) = (bl s).drop (k + 1) := by rw [bl_extract, take_all s _ (Nat.le_refl _)]
  rw [e1, e2]
  refine ⟨rfl, ?_, hd, hf⟩
  rw [← hc]
  exact split_at s k h
theorem cut_none (s : ByteArray) (hf : fc 0 (bl s) = 0) : CutIs s s ⟨#[]⟩ false := Or.inr ⟨rfl, rfl, rfl, hf⟩

/-- Of a found cut: its parts make the text again. -/
theorem CutIs.join {s nm df : ByteArray} (h : CutIs s nm df true) : nm ++ ⟨#[58]⟩ ++ df = s ∧ bal (bl nm) = 0 ∧ fc 0 (bl nm) = 0 := by
  rcases h with ⟨_, h1, h2, h3⟩ | ⟨h, _⟩
  · refine ⟨bl_ext ?_, h2, h3⟩
    rw [bl_append, bl_append, bl_colon, h1, List.append_assoc]; rfl
  · cases h
theorem CutIs.whole {s nm df : ByteArray} (h : CutIs s nm df false) : nm = s ∧ df = ⟨#[]⟩ ∧ fc 0 (bl s) = 0 := by
  rcases h with ⟨h, _⟩ | ⟨_, h1, h2, h3⟩
  · cases h
  · exact ⟨h1, h2, h3⟩

/-- Behind a name at depth nought a colon is free. -/
theorem fc_hit (X Y : List UInt8) (h : bal X = 0) : 1 ≤ fc 0 (X ++ 58 :: Y) := by
  rw [fc_append, h]
  simp [fc]
  omega
theorem prefix_cases (X Y X' Y' : List UInt8) (c : UInt8) (h : X ++ c :: Y = X' ++ Y') (hl : X.length < X'.length) : ∃ Z, X' = X ++ c :: Z := by
  refine ⟨X'.drop (X.length + 1), ?_⟩
  have e1 : X'.take (X.length + 1) = (X' ++ Y').take (X.length + 1) := by rw [List.take_append_of_le_length (by omega)]
  have e2 : (X ++ c :: Y).take (X.length + 1) = X ++ [c] := by
    rw [List.take_append, List.take_of_length_le (by omega)]
    simp
  have e3 := List.take_append_drop (X.length + 1) X'
  rw [e1, ← h, e2, List.append_assoc] at e3
  exact e3.symm
theorem cut_unique (X Y X' Y' : List UInt8) (h : X ++ 58 :: Y = X' ++ 58 :: Y') (h1 : bal X = 0) (h2 : fc 0 X = 0) (h1' : bal X' = 0) (h2' : fc 0 X' = 0) : X = X' ∧ Y = Y' := by
  have hl : X.length = X'.length := by
    rcases Nat.lt_trichotomy X.length X'.length with hl | hl | hl
    · obtain ⟨Z, rfl⟩ := prefix_cases X Y X' (58 :: Y') 58 h hl
      have := fc_hit X Z h1
      omega
    · exact hl
    · obtain ⟨Z, rfl⟩ := prefix_cases X' Y' X (58 :: Y) 58 h.symm hl
      have := fc_hit X' Z h1'
      omega
  have := List.append_inj h hl
  exact ⟨this.1, by simpa using this.2⟩

/-! ### Over a concatenation -/
/-- a's cut is found: so is (a + b)'s, with a's name, and b behind a's default. -/
theorem over_found {a b nm df n1 d1 : ByteArray} {f : Bool} (h : CutIs (a ++ b) nm df f) (h1 : CutIs a n1 d1 true) : f = true ∧ n1 = nm ∧ d1 ++ b = df := by
  rcases h1 with ⟨_, e1, e2, e3⟩ | ⟨e, _⟩
  · have e : bl (a ++ b) = bl n1 ++ 58 :: (bl d1 ++ bl b) := by rw [bl_append, e1]; simp
    rcases h with ⟨g0, g1, g2, g3⟩ | ⟨g0, g1, g2, g3⟩
    · obtain ⟨k1, k2⟩ := cut_unique _ _ _ _ (e.symm.trans g1) e2 e3 g2 g3
      exact ⟨g0, bl_ext k1, bl_ext (by rw [bl_append]; exact k2)⟩
    · rw [e] at g3
      have := fc_hit (bl n1) (bl d1 ++ bl b) e2
      omega
  · cases e
/-- a's cut is not found: a begins (a + b)'s name. -/
theorem over_none {a b nm df n1 d1 : ByteArray} {f : Bool} (h : CutIs (a ++ b) nm df f) (h1 : CutIs a n1 d1 false) : a.size ≤ nm.size ∧ nm.extract 0 a.size = a := by
  obtain ⟨rfl, rfl, e3⟩ := h1.whole
  rcases h with ⟨g0, g1, g2, g3⟩ | ⟨g0, rfl, rfl, g3⟩
  · have hl : (bl n1).length ≤ (bl nm).length := by
      by_cases hl : (bl nm).length < (bl n1).length
      · rw [bl_append] at g1
        obtain ⟨Z, hZ⟩ := prefix_cases (bl nm) (bl df) (bl n1) (bl b) 58 g1.symm hl
        rw [hZ] at e3
        have := fc_hit (bl nm) Z g2
        omega
      · omega
    refine ⟨by rw [bl_size, bl_size] at hl; exact hl, bl_ext ?_⟩
    rw [bl_extract]
    have e := congrArg (List.take (bl n1).length) g1
    rw [bl_append, List.take_append_of_le_length (Nat.le_refl _), List.take_append_of_le_length hl, List.take_length, bl_size] at e
    simpa using e.symm
  · refine ⟨by rw [ByteArray.size_append]; omega, bl_ext ?_⟩
    rw [bl_extract, bl_append, ← bl_size n1]
    simp
/-- Besides, a's braces balance: (a + b)'s cut is b's, with a ahead of the name. -/
theorem over_bal {a b nm df n1 d1 n2 d2 : ByteArray} {f f2 : Bool} (h : CutIs (a ++ b) nm df f) (h1 : CutIs a n1 d1 false) (hb : bal (bl a) = 0) (h2 : CutIs b n2 d2 f2) : a ++ n2 = nm ∧ d2 = df ∧ f2 = f := by
  obtain ⟨hs, hp⟩ := over_none h h1
  obtain ⟨rfl, rfl, e3⟩ := h1.whole
  have hp' := congrArg bl hp
  rw [bl_extract] at hp'
  simp only [List.drop_zero] at hp'
  rcases h with ⟨g0, g1, g2, g3⟩ | ⟨g0, rfl, rfl, g3⟩
  · -- the name is a and a rest
    obtain ⟨N, hN⟩ : ∃ N, bl nm = bl n1 ++ N := ⟨(bl nm).drop n1.size, by rw [← hp', List.take_append_drop]⟩
    rw [hN] at g1 g2 g3
    rw [bl_append, List.append_assoc] at g1
    have gB : bl b = N ++ 58 :: bl df := List.append_cancel_left g1
    rw [bal_append, hb, Int.zero_add] at g2
    rw [fc_append, hb, Int.zero_add] at g3
    rcases h2 with ⟨k0, k1, k2, k3⟩ | ⟨k0, rfl, rfl, k3⟩
    · obtain ⟨m1, m2⟩ := cut_unique _ _ _ _ (gB.symm.trans k1) g2 (by omega) k2 k3
      exact ⟨bl_ext (by rw [bl_append, hN, m1]), bl_ext m2.symm, by rw [k0, g0]⟩
    · rw [gB] at k3
      have := fc_hit N (bl df) g2
      omega
  · rw [bl_append, fc_append, hb, Int.zero_add] at g3
    rcases h2 with ⟨k0, k1, k2, k3⟩ | ⟨k0, rfl, rfl, k3⟩
    · rw [k1] at g3
      have := fc_hit (bl n2) (bl d2) k2
      omega
    · exact ⟨rfl, rfl, by rw [k0, g0]⟩
end Go.Proofs.Qxb6629008a
