/- Contracts of laws.rect, laws.fine. -/
import Derived.Test.YtlnfcjaempojgaaA3
namespace Go.Proofs.Ytlnfcjaempojgaa
open Go.RowKit

theorem idx25_0 (a b c d : Value) (w : World) : (Instr.index 25 (.agg #[a, b, c, d]) (.int .i64 0)).run Try.prog w = .ok a w := by kernel_rfl
theorem idx25_1 (a b c d : Value) (w : World) : (Instr.index 25 (.agg #[a, b, c, d]) (.int .i64 1)).run Try.prog w = .ok b w := by kernel_rfl
theorem idx25_2 (a b c d : Value) (w : World) : (Instr.index 25 (.agg #[a, b, c, d]) (.int .i64 2)).run Try.prog w = .ok c w := by kernel_rfl
theorem idx25_3 (a b c d : Value) (w : World) : (Instr.index 25 (.agg #[a, b, c, d]) (.int .i64 3)).run Try.prog w = .ok d w := by kernel_rfl

theorem rect_ok (a b c d : Int) (w : World) (ha : -1000 ≤ a ∧ a ≤ 1000) (hb : -1000 ≤ b ∧ b ≤ 1000) (hc : -1000 ≤ c ∧ c ≤ 1000) (hd : -1000 ≤ d ∧ d ≤ 1000) :
    Calls Try.prog 16 #[fourV a b c d] w fun e w' => e = .returned (.tuple #[rectV a b c d, .bool true]) ∧ Below w.heap.size w w' := by
  have i0 := idx25_0 (iv a) (iv b) (iv c) (iv d)
  have i1 := idx25_1 (iv a) (iv b) (iv c) (iv d)
  have i2 := idx25_2 (iv a) (iv b) (iv c) (iv d)
  have i3 := idx25_3 (iv a) (iv b) (iv c) (iv d)
  go_enter Try.func16, Try.ntmps16
  go_wp2
  refine wp_loop_rounds 5 ?_
  rw [rounds_succ]
  go_wp2
  rw [rounds_succ]
  go_wp2
  rw [rounds_succ]
  go_wp2
  rw [rounds_succ]
  go_wp2
  rw [rounds_succ]
  go_wp2
  refine bodyPost_ret (v := .tuple #[rectV a b c d, .bool true]) (by simp [results, Try.results16, go_sem]) rfl ⟨rfl, ?_⟩
  go_grown

def in4 (a b c d : Int) : Prop := (-1000 ≤ a ∧ a ≤ 1000) ∧ (-1000 ≤ b ∧ b ≤ 1000) ∧ (-1000 ≤ c ∧ c ≤ 1000) ∧ (-1000 ≤ d ∧ d ≤ 1000)
theorem rect_bad (a b c d : Int) (w : World) (h : ¬ in4 a b c d) :
    Calls Try.prog 16 #[fourV a b c d] w fun e w' => e = .returned (.tuple #[rectV 0 0 0 0, .bool false]) ∧ Below w.heap.size w w' := by
  have i0 := idx25_0 (iv a) (iv b) (iv c) (iv d)
  have i1 := idx25_1 (iv a) (iv b) (iv c) (iv d)
  have i2 := idx25_2 (iv a) (iv b) (iv c) (iv d)
  have i3 := idx25_3 (iv a) (iv b) (iv c) (iv d)
  go_enter Try.func16, Try.ntmps16
  go_wp2
  refine wp_loop_rounds 5 ?_
  repeat any_goals (rw [rounds_succ]; go_wp2)
  all_goals first
    | (exfalso; apply h; unfold in4; omega)
    | (refine bodyPost_ret (v := .tuple #[rectV 0 0 0 0, .bool false]) (by simp [results, Try.results16, go_sem]) rfl ⟨rfl, ?_⟩; go_grown; done)

end Go.Proofs.Ytlnfcjaempojgaa
