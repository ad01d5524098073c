/- Contract of Rectangle.Empty. -/
import Derived.Test.YtlnfcjaempojgaaC3
namespace Go.Proofs.Ytlnfcjaempojgaa
open Go.RowKit

theorem gempty_any (a b c d : Int) (w : World) :
    Calls Try.prog 101 #[rectV a b c d] w fun e w' => e = .returned (.bool (emptyB a b c d)) ∧ Below w.heap.size w w' := by
  go_enter Try.func101, Try.ntmps101
  go_wp2
  all_goals
    go_returns
    exact ⟨ret_bool (by unfold emptyB; simp; try omega), by (repeat' (first | (with_reducible exact Below.refl _ _) | (with_reducible assumption) | (with_reducible refine drewN_below ?_ _) | (with_reducible refine Below.drew ?_) | (with_reducible refine Below.alloc ?_ ?_ _) | (with_reducible refine Below.setCell ?_ ?_ _) | (with_reducible refine below_via (by with_reducible assumption) ?_ ?_) | go_size))⟩

end Go.Proofs.Ytlnfcjaempojgaa
