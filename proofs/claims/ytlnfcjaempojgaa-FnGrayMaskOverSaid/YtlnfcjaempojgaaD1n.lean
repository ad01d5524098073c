/- Contract of Rectangle.Intersect where nothing is left. -/
import Derived.Test.YtlnfcjaempojgaaD1e
namespace Go.Proofs.Ytlnfcjaempojgaa
open Go.RowKit

set_option maxHeartbeats 8000000 in
theorem inter_none (a b c d a' b' c' d' : Int) (w : World) (h : emptyB (imax a a') (imax b b') (imin c c') (imin d d') = true) :
    Calls Try.prog 96 #[rectV a b c d, rectV a' b' c' d'] w fun e w' => e = .returned (rectV 0 0 0 0) ∧ Below w.heap.size w w' := by
  dsimp only [imax, imin] at h ⊢
  by_cases h1 : a < a' <;> by_cases h2 : b < b' <;> by_cases h3 : c' < c <;> by_cases h4 : d' < d
  all_goals
    simp only [gt_iff_lt, h1, h2, h3, h4, if_true, if_false] at h ⊢
    go_enter Try.func96, Try.ntmps96
    go_wp2_with fail
    refine (gempty_any _ _ _ _ _).mono ?_
    rintro e w1 ⟨rfl, hb⟩
    have q0 := hb.cell (p := ⟨w.heap.size, 0, none⟩) (by simp; omega)
    have q1 := hb.cell (p := ⟨w.heap.size, 1, none⟩) (by simp; omega)
    have q2 := hb.cell (p := ⟨w.heap.size, 2, none⟩) (by simp; omega)
    have q3 := hb.cell (p := ⟨w.heap.size, 3, none⟩) (by simp; omega)
    have r0 := hb.cell (p := ⟨w.heap.size + 1 + 1, 0, none⟩) (by simp)
    have r1 := hb.cell (p := ⟨w.heap.size + 1 + 1, 1, none⟩) (by simp)
    have r2 := hb.cell (p := ⟨w.heap.size + 1 + 1, 2, none⟩) (by simp)
    have r3 := hb.cell (p := ⟨w.heap.size + 1 + 1, 3, none⟩) (by simp)
    have t0 := hb.frozen (p := ⟨w.heap.size + 1 + 1, 0, none⟩) (by simp)
    have t1 := hb.frozen (p := ⟨w.heap.size + 1 + 1, 1, none⟩) (by simp)
    have t2 := hb.frozen (p := ⟨w.heap.size + 1 + 1, 2, none⟩) (by simp)
    have t3 := hb.frozen (p := ⟨w.heap.size + 1 + 1, 3, none⟩) (by simp)
    simp [go_sem] at q0 q1 q2 q3 r0 r1 r2 r3 t0 t1 t2 t3
    have hsz := hb.size
    simp at hsz
    go_wp2
    refine bodyPost_ret (by simp [results, Try.results96, go_sem, r0, r1, r2, r3] <;> rfl) rfl ⟨rfl, ?_⟩
    (repeat' (first | (with_reducible exact Below.refl _ _) | (with_reducible assumption) | (with_reducible refine drewN_below ?_ _) | (with_reducible refine Below.drew ?_) | (with_reducible refine Below.alloc ?_ ?_ _) | (with_reducible refine Below.setCell ?_ ?_ _) | (with_reducible refine below_via (by with_reducible assumption) ?_ ?_) | go_size))

end Go.Proofs.Ytlnfcjaempojgaa
