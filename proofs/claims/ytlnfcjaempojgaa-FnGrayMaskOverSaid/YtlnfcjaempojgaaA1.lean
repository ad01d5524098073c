/- Contracts of the small functions on rectangles (spec.Rect), each for every input in range. -/
import Derived.Test.YtlnfcjaempojgaaRows
import Derived.Handy
import Derived.BigQuiet
import Derived.Deep.QuietTactic
import Derived.Deep.RegionHeld3
import Derived.WalkLawsBesides
import Derived.WalkSpells
namespace Go.Proofs.Ytlnfcjaempojgaa
open Go.RowKit

abbrev iv (x : Int) : Value := .int .i64 x
abbrev rectV (a b c d : Int) : Value := .agg #[.int .i64 a, .int .i64 b, .int .i64 c, .int .i64 d]

theorem ret_bool {a b : Bool} (h : a = b) : Ending.returned (.bool a) = .returned (.bool b) := by rw [h]

def emptyB (a b c d : Int) : Bool := decide (c ≤ a) || decide (d ≤ b)
theorem emptyB_true {a b c d : Int} (h : c ≤ a ∨ d ≤ b) : emptyB a b c d = true := by unfold emptyB; simpa using h
theorem emptyB_false {a b c d : Int} (h : a < c ∧ b < d) : emptyB a b c d = false := by unfold emptyB; simp; omega
theorem emptyB_iff {a b c d : Int} : emptyB a b c d = true ↔ (c ≤ a ∨ d ≤ b) := by unfold emptyB; simp
theorem emptyB_not {a b c d : Int} : emptyB a b c d = false ↔ (a < c ∧ b < d) := by unfold emptyB; simp

theorem empty_any (a b c d : Int) (w : World) :
    Calls Try.prog 22 #[rectV a b c d] w fun e w' => e = .returned (.bool (emptyB a b c d)) ∧ Below w.heap.size w w' := by
  go_enter Try.func22, Try.ntmps22
  go_wp2
  all_goals
    go_returns
    exact ⟨ret_bool (by unfold emptyB; simp; try omega), by go_grown⟩

def hasB (a b c d x y : Int) : Bool := decide (a ≤ x) && decide (x < c) && decide (b ≤ y) && decide (y < d)
theorem hasB_iff {a b c d x y : Int} : hasB a b c d x y = true ↔ (a ≤ x ∧ x < c ∧ b ≤ y ∧ y < d) := by unfold hasB; simp [and_assoc]

theorem has_any (a b c d x y : Int) (w : World) :
    Calls Try.prog 57 #[rectV a b c d, iv x, iv y] w fun e w' => e = .returned (.bool (hasB a b c d x y)) ∧ Below w.heap.size w w' := by
  go_enter Try.func57, Try.ntmps57
  go_wp2
  all_goals
    go_returns
    exact ⟨ret_bool (by unfold hasB; simp; try omega), by go_grown⟩

theorem moved_any (a b c d x y : Int) (w : World) (ha : -4000000000 ≤ a ∧ a ≤ 4000000000) (hb : -4000000000 ≤ b ∧ b ≤ 4000000000) (hc : -4000000000 ≤ c ∧ c ≤ 4000000000) (hd : -4000000000 ≤ d ∧ d ≤ 4000000000)
    (hx : -4000000000 ≤ x ∧ x ≤ 4000000000) (hy : -4000000000 ≤ y ∧ y ≤ 4000000000) :
    Calls Try.prog 48 #[rectV a b c d, iv x, iv y] w fun e w' => e = .returned (rectV (a + x) (b + y) (c + x) (d + y)) ∧ Below w.heap.size w w' := by
  go_enter Try.func48, Try.ntmps48
  go_wp2
  go_returns
  exact ⟨rfl, by go_grown⟩

def sizeI (k : Int) : Int := if k = 2 then 1 else if k = 3 then 1 else if k = 4 then 8 else if k = 6 then 8 else 4
theorem ret_i64 {a b : Int} (h : a = b) : Ending.returned (.int .i64 a) = .returned (.int .i64 b) := by rw [h]

theorem size_any (k : Int) (w : World) :
    Calls Try.prog 45 #[iv k] w fun e w' => e = .returned (iv (sizeI k)) ∧ w = w' := by
  go_enter Try.func45, Try.ntmps45
  go_wp2
  all_goals
    go_returns
    exact ⟨ret_i64 (by simp_all [sizeI]), rfl⟩

end Go.Proofs.Ytlnfcjaempojgaa
