/- Contract of Rectangle.Intersect. -/
import Derived.Test.YtlnfcjaempojgaaD1
import Derived.Test.YtlnfcjaempojgaaD1n
namespace Go.Proofs.Ytlnfcjaempojgaa
open Go.RowKit

theorem inter_any (r s : Rc) (w : World) : Calls Try.prog 96 #[rcV r, rcV s] w fun e w' => e = .returned (rcV (r.common s)) ∧ Below w.heap.size w w' := by
  unfold Rc.common
  by_cases h : (r.cut s).emp = true
  · rw [if_pos h]
    exact inter_none r.a r.b r.c r.d s.a s.b s.c s.d w h
  · rw [if_neg h]
    exact inter_some r.a r.b r.c r.d s.a s.b s.c s.d w (by simpa [Rc.emp, Rc.cut] using h)

end Go.Proofs.Ytlnfcjaempojgaa
