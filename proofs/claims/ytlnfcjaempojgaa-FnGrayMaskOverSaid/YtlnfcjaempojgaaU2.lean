/- Contracts of RGBA64.RGBA and Uniform.RGBA. -/
import Derived.Test.YtlnfcjaempojgaaU1
import Derived.Test.YtlnfcjaempojgaaD3
set_option linter.unusedVariables false
namespace Go.Proofs.Ytlnfcjaempojgaa
open Go.RowKit

abbrev u4T (a b c d : Int) : Value := .tuple #[.int .u32 a, .int .u32 b, .int .u32 c, .int .u32 d]
theorem rgba161 (a b c d : Int) (w : World) (ha : C16 a) (hb : C16 b) (hc : C16 c) (hd : C16 d) :
    Calls Try.prog 161 #[.agg #[.int .u16 a, .int .u16 b, .int .u16 c, .int .u16 d]] w fun e w' => e = .returned (u4T a b c d) ∧ Below w.heap.size w w' := by
  unfold C16 at ha hb hc hd
  go_enter Try.func161, Try.ntmps161
  go_wp2
  go_quiet (fail)
  go_wp2
  refine bodyPost_ret (v := u4T a b c d) (by simp [results, Try.results161, go_sem]) rfl ⟨rfl, ?_⟩
  (repeat' (first | (with_reducible exact Below.refl _ _) | (with_reducible assumption) | (with_reducible refine drewN_below ?_ _) | (with_reducible refine Below.drew ?_) | (with_reducible refine Below.alloc ?_ ?_ _) | (with_reducible refine Below.setCell ?_ ?_ _) | (with_reducible refine below_via (by with_reducible assumption) ?_ ?_) | go_size))

theorem uni90 (g : Nat) (a b c d : Int) (w : World) (hB : Blk w g 129 #[.iface 122 (.agg #[.int .u16 a, .int .u16 b, .int .u16 c, .int .u16 d])]) (ha : C16 a) (hb : C16 b) (hc : C16 c) (hd : C16 d) :
    Calls Try.prog 90 #[.pointer (some ⟨g, 0, none⟩)] w fun e w' => e = .returned (u4T a b c d) ∧ Below w.heap.size w w' := by
  have C0 : w.cell? ⟨g, 0, none⟩ = some (.iface 122 (.agg #[.int .u16 a, .int .u16 b, .int .u16 c, .int .u16 d])) := hB.cell 0
  have HA := hid ha; have HBB := hid hb; have HC := hid hc; have HD := hid hd
  clear hB ha hb hc hd
  go_enter Try.func90, Try.ntmps90
  go_wp2_with fail
  refine (rgba161 a b c d _ HA.out HBB.out HC.out HD.out).mono ?_
  rintro e w1 ⟨rfl, hb1⟩
  go_wp2_with fail
  refine bodyPost_ret (v := u4T a b c d) (by simp [results, Try.results90, go_sem]) rfl ⟨rfl, ?_⟩
  (repeat' (first | (with_reducible exact Below.refl _ _) | (with_reducible assumption) | (with_reducible refine drewN_below ?_ _) | (with_reducible refine Below.drew ?_) | (with_reducible refine Below.alloc ?_ ?_ _) | (with_reducible refine Below.setCell ?_ ?_ _) | (with_reducible refine below_via (by with_reducible assumption) ?_ ?_) | go_size))
end Go.Proofs.Ytlnfcjaempojgaa
