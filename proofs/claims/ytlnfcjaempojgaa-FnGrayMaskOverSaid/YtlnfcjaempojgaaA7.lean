/- Contract of spec.Image.multiplied. -/
import Derived.Test.YtlnfcjaempojgaaA6
namespace Go.Proofs.Ytlnfcjaempojgaa
open Go.RowKit

theorem hid {p : Prop} (h : p) : Hid p := h
/-- A slice of n bytes at A reads as bs. -/
def Bytes (w : World) (A : Option Addr) (n : Nat) (bs : List Int) : Prop :=
  bs.length = n ∧ (∀ j, 0 ≤ bs.getD j 0 ∧ bs.getD j 0 ≤ 255) ∧ (0 < n → ∃ g o, A = some ⟨g, o, none⟩ ∧ g < w.heap.size ∧ ∀ j, j < n → w.cell? ⟨g, o + j, none⟩ = some (.int .u8 (bs.getD j 0)))

def SomeB (P : Bool → Prop) (w : World) (e : Ending) (w' : World) : Prop := ∃ b, e = .returned (.bool b) ∧ P b ∧ Below w.heap.size w w'

theorem run_imax3 (P : Program) (w : World) (ts : Array TypeId) (t : TypeId) (k k' k'' : IntKind) (x y z : Int) : (Builtin.max_ ts t #[.int k x, .int k' y, .int k'' z]).run P w = .ok (.int k (imax (imax x y) z)) w := run_max_int3 w ts t k k' k'' x y z
attribute [local go_sem high] run_imax run_imin run_imax3
def Mult4 (bs : List Int) : Prop := ∀ k : Nat, 4 * k + 3 < bs.length → bs.getD (4 * k) 0 ≤ bs.getD (4 * k + 3) 0 ∧ bs.getD (4 * k + 1) 0 ≤ bs.getD (4 * k + 3) 0 ∧ bs.getD (4 * k + 2) 0 ≤ bs.getD (4 * k + 3) 0
theorem drewN_below {B : Nat} {a w : World} (h : Below B a w) (n : Nat) : Below B a (w.drewN n) := ⟨h.os, h.tape, h.output, h.size, h.block⟩

theorem below_via {B : Nat} {w W w1 : World} (hb : Below W.heap.size W w1) (h : Below B w W) (hs : B ≤ W.heap.size) : Below B w w1 := h.trans (hb.mono hs)

theorem mult_rgba (x0 y0 x1 y1 : Int) (g o n c : Nat) (bs : List Int) (w : World) (hlen : bs.length = n) (hr : ∀ j, 0 ≤ bs.getD j 0 ∧ bs.getD j 0 ≤ 255) (hnc : n ≤ c) (hc : c ≤ 140737488355328) (hg : g < w.heap.size)
    (hcell : ∀ j, j < n → w.cell? ⟨g, o + j, none⟩ = some (.int .u8 (bs.getD j 0))) :
    Calls Try.prog 46 #[imgV 0 x0 y0 x1 y1 (.slice (some ⟨g, o, none⟩) n c)] w (SomeB (fun b => b = true → Mult4 bs) w) := by
  have HC := hid hcell; clear hcell
  have HL := hid hlen; clear hlen
  have HR := hid hr; clear hr
  go_enter Try.func46, Try.ntmps46
  go_wp2
  go_loopw [3] (fun i wr => ∃ k m : Nat, 4 * k ≤ n + 3 ∧ i = .int .i64 (4 * k) ∧ wr = (w.alloc (.cells #[iv 0, iv x0, iv y0, iv x1, iv y1, .slice (some ⟨g, o, none⟩) n c] 31)).drewN m ∧
      Hid (∀ j, j < k → bs.getD (4 * j) 0 ≤ bs.getD (4 * j + 3) 0 ∧ bs.getD (4 * j + 1) 0 ≤ bs.getD (4 * j + 3) 0 ∧ bs.getD (4 * j + 2) 0 ≤ bs.getD (4 * j + 3) 0)) (fun i _ => n + 3 - (intOf i).toNat)
  case atStart => exact ⟨0, 0, by omega, rfl, rfl, fun j hj => absurd hj (by omega)⟩
  case round =>
    obtain ⟨k, m, hk, rfl, rfl, hdone⟩ := hrel
    by_cases hlt : 4 * k + 3 < n
    · have r0 := HR.out (4 * k)
      have r1 := HR.out (4 * k + 1)
      have r2 := HR.out (4 * k + 2)
      have r3 := HR.out (4 * k + 3)
      have c0 := HC.out (4 * k) (by omega)
      have c1 : w.cell? ⟨g, o + 4 * k + 1, none⟩ = some (.int .u8 (bs.getD (4 * k + 1) 0)) := HC.out (4 * k + 1) (by omega)
      have c2 : w.cell? ⟨g, o + 4 * k + 2, none⟩ = some (.int .u8 (bs.getD (4 * k + 2) 0)) := HC.out (4 * k + 2) (by omega)
      have c3 : w.cell? ⟨g, o + 4 * k + 3, none⟩ = some (.int .u8 (bs.getD (4 * k + 3) 0)) := HC.out (4 * k + 3) (by omega)
      generalize e0 : bs.getD (4 * k) 0 = b0 at *
      have E0 := hid e0; clear e0
      generalize e1 : bs.getD (4 * k + 1) 0 = b1 at *
      have E1 := hid e1; clear e1
      generalize e2 : bs.getD (4 * k + 2) 0 = b2 at *
      have E2 := hid e2; clear e2
      generalize e3 : bs.getD (4 * k + 3) 0 = b3 at *
      have E3 := hid e3; clear e3
      go_wp2
      go_quiet (fail)
      go_wp2
      · go_returns
        exact ⟨false, rfl, fun h => (by cases h), by (repeat' (first | (with_reducible exact Below.refl _ _) | (with_reducible assumption) | (with_reducible refine drewN_below ?_ _) | (with_reducible refine Below.drew ?_) | (with_reducible refine Below.alloc ?_ ?_ _) | (with_reducible refine Below.setCell ?_ ?_ _) | (with_reducible refine below_via (by with_reducible assumption) ?_ ?_) | go_size))⟩
      · rename_i nq _ hm
        refine ⟨⟨k + 1, _, by omega, by go_num, rfl, fun j hj => ?_⟩, by simp [intOf]; omega⟩
        rw [imax_eq, imax_eq] at hm
        by_cases e : j = k
        · subst e; rw [E0.out, E1.out, E2.out, E3.out]; omega
        · exact hdone.out j (by omega)
    · go_wp2
      go_returns
      refine ⟨true, rfl, fun _ => ?_, by (repeat' (first | (with_reducible exact Below.refl _ _) | (with_reducible assumption) | (with_reducible refine drewN_below ?_ _) | (with_reducible refine Below.drew ?_) | (with_reducible refine Below.alloc ?_ ?_ _) | (with_reducible refine Below.setCell ?_ ?_ _) | (with_reducible refine below_via (by with_reducible assumption) ?_ ?_) | go_size))⟩
      intro j hj
      rw [HL.out] at hj
      exact hdone.out j (by omega)

end Go.Proofs.Ytlnfcjaempojgaa
