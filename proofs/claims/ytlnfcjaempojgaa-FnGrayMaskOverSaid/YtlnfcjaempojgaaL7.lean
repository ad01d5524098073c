/- Contract of Rectangle.Overlaps, of two rectangles that hold something. -/
import Derived.Test.YtlnfcjaempojgaaL2
set_option linter.unusedVariables false
namespace Go.Proofs.Ytlnfcjaempojgaa
open Go.RowKit

set_option maxRecDepth 20000 in
set_option maxHeartbeats 4000000 in
theorem overlaps_any (a b c d a' b' c' d' : Int) (w : World) (h : emptyB a b c d = false) (h' : emptyB a' b' c' d' = false) :
    Calls Try.prog 104 #[rectV a b c d, rectV a' b' c' d'] w fun e w' => e = .returned (.bool (decide (a < c') && decide (a' < c) && decide (b < d') && decide (b' < d))) ∧ Below w.heap.size w w' := by
  go_enter Try.func104, Try.ntmps104
  go_wp2_with fail
  obtain ⟨W0, hW0⟩ : ∃ W : World, W = ((w.alloc (.cells #[iv a, iv b, iv c, iv d] 73)).alloc (.cells #[iv a', iv b', iv c', iv d'] 73)) := ⟨_, rfl⟩
  rw [← hW0]
  have B0 : Hid (Blk W0 (w.heap.size) 73 #[iv a, iv b, iv c, iv d]) := by rw [hW0]; exact Blk.alloc (Blk.new_at (W := w) (t := 73) (cs := #[iv a, iv b, iv c, iv d]) (by simp)) _
  have B1 : Hid (Blk W0 (w.heap.size + 1) 73 #[iv a', iv b', iv c', iv d']) := by rw [hW0]; exact Blk.new_at (W := (w.alloc (.cells #[iv a, iv b, iv c, iv d] 73))) (t := 73) (cs := #[iv a', iv b', iv c', iv d']) (by simp)
  have bW0 : Below w.heap.size w W0 := by rw [hW0]; go_grown
  have sW0 : W0.heap.size = w.heap.size + 2 := by rw [hW0]; simp
  have SW0 := hid sW0
  have zW0 : w.heap.size + 2 ≤ W0.heap.size := by omega
  clear sW0 hW0
  have cA := B0.out.cells4.1
  have cB := B1.out.cells4.1
  have lA := B0.out.lt
  have lB := B1.out.lt
  go_wp2_with fail
  refine (gempty_any _ _ _ _ _).mono ?_
  rintro e w1 ⟨rfl, hb1⟩
  rw [h]
  have bw1 : Below w.heap.size w w1 := bW0.trans (hb1.mono (by omega))
  have F0 := hid (B0.out.keep hb1)
  have F1 := hid (B1.out.keep hb1)
  have cA := F0.out.cells4.1
  have cB := F1.out.cells4.1
  have lA := F0.out.lt
  have lB := F1.out.lt
  clear hb1 bW0 B0 B1
  go_wp2_with fail
  refine (gempty_any _ _ _ _ _).mono ?_
  rintro e w2 ⟨rfl, hb2⟩
  rw [h']
  have bw2 : Below w.heap.size w w2 := bw1.trans (hb2.mono bw1.size)
  have cA := (F0.out.keep hb2).cells4.1
  have cB := (F1.out.keep hb2).cells4.1
  have lA := (F0.out.keep hb2).lt
  have lB := (F1.out.keep hb2).lt
  clear hb2 F0 F1
  have HB := hid bw2
  clear bw2
  by_cases h1 : a < c' <;> by_cases h2 : a' < c <;> by_cases h3 : b < d' <;> by_cases h4 : b' < d
  all_goals
    go_wp2_with fail
    go_returns
    exact ⟨ret_bool (by simp [h1, h2, h3, h4]), HB.out⟩
/-- The part moved to where its source lies, and whether the two overlap. -/
def mvR (d1 d2 s1 s2 : Int) (ca ra ce re ua va : Nat) : Rc := (⟨d1 + ca, d2 + ra, d1 + ce, d2 + re⟩ : Rc).moved (s1 + ua - (d1 + ca)) (s2 + va - (d2 + ra))
def oB (d1 d2 s1 s2 : Int) (ca ra ce re ua va : Nat) : Bool := decide (d1 + (ca : Int) < (mvR d1 d2 s1 s2 ca ra ce re ua va).c) && decide ((mvR d1 d2 s1 s2 ca ra ce re ua va).a < d1 + (ce : Int)) && decide (d2 + (ra : Int) < (mvR d1 d2 s1 s2 ca ra ce re ua va).d) && decide ((mvR d1 d2 s1 s2 ca ra ce re ua va).b < d2 + (re : Int))
end Go.Proofs.Ytlnfcjaempojgaa
