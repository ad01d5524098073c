/- Contracts of laws.fine at two and at four places. -/
import Derived.Test.YtlnfcjaempojgaaA4
namespace Go.Proofs.Ytlnfcjaempojgaa
open Go.RowKit

def fineB2 (a b : Int) : Bool := decide (-1000 ≤ a) && decide (a ≤ 1000) && decide (-1000 ≤ b) && decide (b ≤ 1000)
theorem fineB2_iff {a b : Int} : fineB2 a b = true ↔ (-1000 ≤ a ∧ a ≤ 1000) ∧ (-1000 ≤ b ∧ b ≤ 1000) := by unfold fineB2; simp [and_assoc]
def fineB4 (a b c d : Int) : Bool := fineB2 a b && fineB2 c d
theorem fineB4_iff {a b c d : Int} : fineB4 a b c d = true ↔ in4 a b c d := by unfold fineB4 in4; simp [fineB2_iff, and_assoc]

theorem fine2_any (g : Nat) (a b : Int) (w : World) (h0 : w.cell? ⟨g, 0, none⟩ = some (iv a)) (h1 : w.cell? ⟨g, 1, none⟩ = some (iv b)) :
    Calls Try.prog 18 #[.slice (some ⟨g, 0, none⟩) 2 2] w fun e w' => e = .returned (.bool (fineB2 a b)) ∧ w = w' := by
  go_enter Try.func18, Try.ntmps18
  go_wp2
  refine wp_loop_rounds 3 ?_
  repeat any_goals (rw [rounds_succ]; go_wp2)
  all_goals
    go_returns
    refine ⟨ret_bool ?_, rfl⟩
    unfold fineB2
    simp
    omega

theorem fine4_any (g : Nat) (a b c d : Int) (w : World) (h0 : w.cell? ⟨g, 0, none⟩ = some (iv a)) (h1 : w.cell? ⟨g, 1, none⟩ = some (iv b)) (h2 : w.cell? ⟨g, 2, none⟩ = some (iv c)) (h3 : w.cell? ⟨g, 3, none⟩ = some (iv d)) :
    Calls Try.prog 18 #[.slice (some ⟨g, 0, none⟩) 4 4] w fun e w' => e = .returned (.bool (fineB4 a b c d)) ∧ w = w' := by
  go_enter Try.func18, Try.ntmps18
  go_wp2
  refine wp_loop_rounds 5 ?_
  repeat any_goals (rw [rounds_succ]; go_wp2)
  all_goals
    go_returns
    refine ⟨ret_bool ?_, rfl⟩
    unfold fineB4 fineB2
    simp
    omega

end Go.Proofs.Ytlnfcjaempojgaa
