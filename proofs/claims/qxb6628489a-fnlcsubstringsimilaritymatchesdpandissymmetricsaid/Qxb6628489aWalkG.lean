import Derived.Test.Qxb6628489aWalkF
import Derived.Test.Qxb6628489aRunes
import Derived.Laws.IdiomStrings
import Derived.Laws.Concat
namespace Go.Proofs.Qxb6628489a
open Go.RowKit

theorem HasR.below {w w' : World} {b off : Nat} {S : List Int} (h : HasR w b off S) (hb : Below w.heap.size w w') : HasR w' b off S := by
  intro i hi
  have h1 := h i hi
  rw [hb.cell (by simpa using Go.block_lt_of_cell h1)]
  exact h1
theorem below_draws {B : Nat} {a w : World} (h : Below B a w) (n : Nat) : Below B a (w.drewN n) := h.trans ⟨rfl, rfl, rfl, Nat.le_refl _, fun _ _ => rfl⟩

/-- '[]rune(s)' in the walk: a new block holds the string's runes. -/
theorem wpList_runes (w : World) {ops : Array Oper} {rest : List Oper} {o : Oper} {a : Act} {Q : Exit → Act → World → Prop} (s : ByteArray) (hs : s.size ≤ 1000000)
    (hg : o.guard = none) (x : Operand) (hop : o.op = Op.convert 9 23 x) (hx : a.eval x = .string s)
    (hK : ∀ cap w', (runes s).length ≤ cap → Hid (HasR w' w.heap.size 0 (runes s)) → Below w.heap.size w w' → wpList Try.prog ops Q rest (a.put o.dst (.slice (some ⟨w.heap.size, 0, none⟩) (runes s).length cap)) w') :
    wpList Try.prog ops Q (o :: rest) a w := by
  refine wpList_plain hg fun K hK' => ?_
  have hl := runes_length s
  have hsz : (Conv.runesFrom s s.size 0 #[]).size = (runes s).length := by rw [runes_eq]; simp
  have hrun := run_runes_of_string (P := Try.prog) w 9 23 21 s Try.underlying9 Try.underlying23 Try.underlying21 (by rw [hsz]; omega)
  rw [hsz] at hrun
  unfold Oper.wp
  simp [execOp, hop, hx, hrun, Result.andThen]
  refine hK' _ _ (hK _ _ (grownCap_ge _ _ _ _) ?_ ?_)
  · intro i hi
    have hc : ((w.drew.alloc (.cells (Conv.runesFrom s s.size 0 #[] ++ Array.replicate (grownCap w (runes s).length 0 21 - (runes s).length) (.int .i32 0)) 21)).cell? ⟨w.heap.size, 0 + i, none⟩) = some (.int .i32 ((runes s).getD i 0)) := by
      rw [Nat.zero_add, World.cell?_alloc_at (w := w.drew) _ _ w.heap.size _ rfl, runes_eq, Array.getElem?_append_left (by simpa using hi)]
      simp [List.getD, hi]
    exact hc
  · exact ((Below.refl _ _).drew).alloc (Nat.le_refl _) _

/-- 'string(rs)' in the walk. -/
theorem wpList_str (w : World) {ops : Array Oper} {rest : List Oper} {o : Oper} {a : Act} {Q : Exit → Act → World → Prop} (S : List Int) (b off n c : Nat) (hS : HasR w b off S) (hn : S.length = n)
    (hg : o.guard = none) (x : Operand) (hop : o.op = Op.convert 23 9 x) (hx : a.eval x = .slice (some ⟨b, off, none⟩) n c)
    (hK : wpList Try.prog ops Q rest (a.put o.dst (.string (runesBytes S))) w) :
    wpList Try.prog ops Q (o :: rest) a w := by
  subst hn
  refine wpList_plain hg fun K hK' => ?_
  have h1 := run_convert_runes_string (P := Try.prog) w 23 9 21 (some ⟨b, off, none⟩) S.length c Try.underlying23 Try.underlying21 Try.underlying9
  have h2 : (loadCells ⟨b, off, none⟩ (S.map (Value.int .i32)).length).run Try.prog w = .ok (S.map (Value.int .i32)).toArray w := by
    refine run_loadCells_list w _ _ fun j v hv => ?_
    obtain ⟨hj, rfl⟩ := List.getElem?_eq_some_iff.1 hv
    have hj' : j < S.length := by simpa using hj
    rw [Addr.add_lit, hS j hj']
    simp [List.getD, hj']
  rw [List.length_map] at h2
  have h3 := run_runesToString (P := Try.prog) w ⟨b, off, none⟩ S.length c S h2
  have hrun := h1.trans h3
  unfold Oper.wp
  simp [execOp, hop, hx, hrun, Result.andThen]
  exact hK' _ _ hK

/-- What 'LCSubstringSimilarity' leaves. -/
def SimPost (s : Nat) (w : World) (e : Ending) (w' : World) : Prop := e = .returned (.float .f64 s) ∧ Below w.heap.size w w'

set_option maxRecDepth 100000 in
set_option maxHeartbeats 1000000 in
theorem similarity_any (x y : ByteArray) (L n s : Nat) (w : World) (hx : x.size ≤ 40000) (hy : y.size ≤ 40000) (h1 : (runes x).length ≤ 20000) (h2 : (runes y).length ≤ 20000) (hL : Longest (runes x) (runes y) L) (hn : n = max (runes x).length (runes y).length) (hs : Sim (n - L) n s) :
    Calls Try.prog 7 #[.string x, .string y] w (SimPost s w) := by
  have HL := Hid.mk hL
  have hLn : L ≤ n := by have := hL.1.le; omega
  have q1 : max ((runes x).length : Int) ((runes y).length : Int) = (n : Int) := by omega
  have HN := Hid.mk hn
  have hn2 : n ≤ 20000 := by omega
  clear hL hn
  go_enter Try.func7, Try.ntmps7
  go_wp2_with (first
    | (refine wpList_runes _ x (by omega) rfl (.tmp 10) rfl rfl ?_; intro cx w1 hcx HX hB1)
    | (refine wpList_runes _ y (by omega) rfl (.tmp 12) rfl rfl ?_; intro cy w2 hcy HY hB2))
  refine (lcs_any (runes x) (runes y) w.heap.size 0 cx w1.heap.size 0 cy (runes x).length (runes y).length w2 rfl rfl h1 h2 hcx hcy (HX.out.below hB2) HY.out).mono ?_
  rintro e w3 ⟨c, e', q, rfl, rfl, hc⟩
  obtain rfl := hc.unique HL.out
  have HB : Hid (Below w.heap.size w (w2.drewN q)) := below_draws (hB1.trans (hB2.mono hB1.size)) q
  obtain ⟨d, hd⟩ : ∃ d, d = n - c := ⟨_, rfl⟩
  have q2 : (n : Int) - (c : Int) = (d : Int) := by omega
  rw [← hd] at hs
  have HD := Hid.mk hd
  clear hd hc HL HX HY hB1 hB2
  go_wp2_with fail
  refine (sim_any d n s (w2.drewN q) hs).mono ?_
  rintro e w4 ⟨rfl, rfl⟩
  go_wp2
  go_ret
  exact ⟨rfl, HB.out⟩
end Go.Proofs.Qxb6628489a
