/- Contracts of laws.zzFits1, laws.rect, laws.fine, spec.Image.Bounds. -/
import Derived.Test.YtlnfcjaempojgaaA2
namespace Go.Proofs.Ytlnfcjaempojgaa
open Go.RowKit

def fitsB (n : Nat) : Bool := !decide ((2147483647 : Int) < (n : Int))
theorem fits_any (k x0 y0 x1 y1 : Int) (A : Option Addr) (n c : Nat) (w : World) :
    Calls Try.prog 15 #[imgV k x0 y0 x1 y1 (.slice A n c)] w fun e w' => e = .returned (.bool (fitsB n)) ∧ Below w.heap.size w w' := by
  by_cases h : (2147483647 : Int) < (n : Int)
  all_goals
    go_enter Try.func15, Try.ntmps15
    go_wp2
    go_returns
    refine ⟨ret_bool (by unfold fitsB; simp; try omega), by go_grown⟩

theorem bounds_uniform (x0 y0 x1 y1 : Int) (s : Value) (w : World) :
    Calls Try.prog 20 #[imgV 6 x0 y0 x1 y1 s] w fun e w' => e = .returned (rectV (-1000000000) (-1000000000) 1000000000 1000000000) ∧ Below w.heap.size w w' := by
  go_enter Try.func20, Try.ntmps20
  go_wp2
  go_returns
  exact ⟨rfl, by go_grown⟩

theorem bounds_plain (k x0 y0 x1 y1 : Int) (s : Value) (w : World) (h : k ≠ 6) :
    Calls Try.prog 20 #[imgV k x0 y0 x1 y1 s] w fun e w' => e = .returned (rectV x0 y0 x1 y1) ∧ Below w.heap.size w w' := by
  have h6 : (k == 6) = false := by simpa using h
  go_enter Try.func20, Try.ntmps20
  go_wp2
  go_returns
  exact ⟨rfl, by go_grown⟩

end Go.Proofs.Ytlnfcjaempojgaa
