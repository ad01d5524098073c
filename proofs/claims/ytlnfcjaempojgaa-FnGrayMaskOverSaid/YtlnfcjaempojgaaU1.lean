/- Contracts of Dx, Dy and PixOffset. -/
import Derived.Test.YtlnfcjaempojgaaK1
set_option linter.unusedVariables false
namespace Go.Proofs.Ytlnfcjaempojgaa
open Go.RowKit

theorem dx_any (a b c d : Int) (w : World) (h : -9223372036854775808 ≤ c - a ∧ c - a ≤ 9223372036854775807) : Calls Try.prog 80 #[rcV ⟨a, b, c, d⟩] w fun e w' => e = .returned (iv (c - a)) ∧ Below w.heap.size w w' := by
  have e1 : IntKind.i64.wrap (c - a) = c - a := IntWalk.i64_in _ (by omega)
  go_enter Try.func80, Try.ntmps80
  go_wp2
  go_returns
  exact ⟨rfl, by (repeat' (first | (with_reducible exact Below.refl _ _) | (with_reducible assumption) | (with_reducible refine drewN_below ?_ _) | (with_reducible refine Below.drew ?_) | (with_reducible refine Below.alloc ?_ ?_ _) | (with_reducible refine Below.setCell ?_ ?_ _) | (with_reducible refine below_via (by with_reducible assumption) ?_ ?_) | go_size))⟩
theorem dy_any (a b c d : Int) (w : World) (h : -9223372036854775808 ≤ d - b ∧ d - b ≤ 9223372036854775807) : Calls Try.prog 103 #[rcV ⟨a, b, c, d⟩] w fun e w' => e = .returned (iv (d - b)) ∧ Below w.heap.size w w' := by
  have e1 : IntKind.i64.wrap (d - b) = d - b := IntWalk.i64_in _ (by omega)
  go_enter Try.func103, Try.ntmps103
  go_wp2
  go_returns
  exact ⟨rfl, by (repeat' (first | (with_reducible exact Below.refl _ _) | (with_reducible assumption) | (with_reducible refine drewN_below ?_ _) | (with_reducible refine Below.drew ?_) | (with_reducible refine Below.alloc ?_ ?_ _) | (with_reducible refine Below.setCell ?_ ?_ _) | (with_reducible refine below_via (by with_reducible assumption) ?_ ?_) | go_size))⟩

theorem off4 {Wd rr cc : Nat} (h1 : Wd ≤ 128) (h2 : rr ≤ 128) (h3 : cc ≤ 128) : IntKind.i64.wrap ((rr : Int) * (4 * (Wd : Int))) = (rr : Int) * (4 * (Wd : Int)) ∧ IntKind.i64.wrap ((rr : Int) * (4 * (Wd : Int)) + (cc : Int) * 4) = ((pos Wd rr cc 0 : Nat) : Int) := by
  have h4 := mul_in (a := (rr : Int)) (b := 4 * (Wd : Int)) (A := 128) (B := 512) ⟨by omega, by omega⟩ ⟨by omega, by omega⟩
  refine ⟨IntWalk.i64_in _ (by omega), ?_⟩
  rw [IntWalk.i64_in _ (by omega)]
  unfold pos
  simp only [Int.natCast_add, Int.natCast_mul]
  rw [show (rr : Int) * (4 * (Wd : Int)) = 4 * ((rr : Int) * (Wd : Int)) from Int.mul_left_comm ..]
  omega
theorem off1 {Wd rr cc : Nat} (h1 : Wd ≤ 128) (h2 : rr ≤ 128) (h3 : cc ≤ 128) : IntKind.i64.wrap ((rr : Int) * (Wd : Int)) = (rr : Int) * (Wd : Int) ∧ IntKind.i64.wrap ((rr : Int) * (Wd : Int) + (cc : Int)) = ((rr * Wd + cc : Nat) : Int) := by
  have h4 := mul_in (a := (rr : Int)) (b := (Wd : Int)) (A := 128) (B := 128) ⟨by omega, by omega⟩ ⟨by omega, by omega⟩
  refine ⟨IntWalk.i64_in _ (by omega), ?_⟩
  rw [IntWalk.i64_in _ (by omega)]
  simp only [Int.natCast_add, Int.natCast_mul]

set_option maxHeartbeats 1000000 in
theorem pixo78 (g : Nat) (s : Value) (Wd rr cc : Nat) (d1 d2 d3 d4 x y : Int) (w : World) (hb : Blk w g 95 #[s, iv (4 * (d3 - d1)), iv d1, iv d2, iv d3, iv d4]) (w3 : d3 = d1 + Wd) (h1 : Wd ≤ 128) (h2 : rr ≤ 128) (h3 : cc ≤ 128) (hd1 : -64 ≤ d1 ∧ d1 ≤ 64) (hd2 : -64 ≤ d2 ∧ d2 ≤ 64) (hx : x = d1 + cc) (hy : y = d2 + rr) :
    Calls Try.prog 78 #[.pointer (some ⟨g, 0, none⟩), iv x, iv y] w fun e w' => e = .returned (.int .i64 ((pos Wd rr cc 0 : Nat) : Int)) ∧ Below w.heap.size w w' := by
  subst hx hy
  have hb' : Blk w g 95 #[s, iv (4 * (Wd : Int)), iv d1, iv d2, iv d3, iv d4] := by rwa [show d3 - d1 = (Wd : Int) by omega] at hb
  have C := hb'.cells6
  obtain ⟨f1, f2⟩ := off4 h1 h2 h3
  have e1 : IntKind.i64.wrap (d2 + (rr : Int) - d2) = (rr : Int) := by rw [IntWalk.i64_in _ (by omega)]; omega
  have e2 : IntKind.i64.wrap (rr : Int) = (rr : Int) := IntWalk.i64_in _ (by omega)
  have e3 : IntKind.i64.wrap (d1 + (cc : Int) - d1) = (cc : Int) := by rw [IntWalk.i64_in _ (by omega)]; omega
  have e4 : IntKind.i64.wrap (cc : Int) = (cc : Int) := IntWalk.i64_in _ (by omega)
  have e5 : IntKind.i64.wrap ((cc : Int) * 4) = (cc : Int) * 4 := IntWalk.i64_in _ (by omega)
  clear hb hb' w3
  go_enter Try.func78, Try.ntmps78
  go_wp2
  go_quiet (fail)
  go_wp2
  go_returns
  exact ⟨rfl, by (repeat' (first | (with_reducible exact Below.refl _ _) | (with_reducible assumption) | (with_reducible refine drewN_below ?_ _) | (with_reducible refine Below.drew ?_) | (with_reducible refine Below.alloc ?_ ?_ _) | (with_reducible refine Below.setCell ?_ ?_ _) | (with_reducible refine below_via (by with_reducible assumption) ?_ ?_) | go_size))⟩
set_option maxHeartbeats 1000000 in
theorem pixo105 (g : Nat) (s : Value) (Wd rr cc : Nat) (d1 d2 d3 d4 x y : Int) (w : World) (hb : Blk w g 113 #[s, iv (d3 - d1), iv d1, iv d2, iv d3, iv d4]) (w3 : d3 = d1 + Wd) (h1 : Wd ≤ 128) (h2 : rr ≤ 128) (h3 : cc ≤ 128) (hd1 : -64 ≤ d1 ∧ d1 ≤ 64) (hd2 : -64 ≤ d2 ∧ d2 ≤ 64) (hx : x = d1 + cc) (hy : y = d2 + rr) :
    Calls Try.prog 105 #[.pointer (some ⟨g, 0, none⟩), iv x, iv y] w fun e w' => e = .returned (.int .i64 ((rr * Wd + cc : Nat) : Int)) ∧ Below w.heap.size w w' := by
  subst hx hy
  have hb' : Blk w g 113 #[s, iv (Wd : Int), iv d1, iv d2, iv d3, iv d4] := by rwa [show d3 - d1 = (Wd : Int) by omega] at hb
  have C := hb'.cells6
  obtain ⟨f1, f2⟩ := off1 h1 h2 h3
  have e1 : IntKind.i64.wrap (d2 + (rr : Int) - d2) = (rr : Int) := by rw [IntWalk.i64_in _ (by omega)]; omega
  have e2 : IntKind.i64.wrap (rr : Int) = (rr : Int) := IntWalk.i64_in _ (by omega)
  have e3 : IntKind.i64.wrap (d1 + (cc : Int) - d1) = (cc : Int) := by rw [IntWalk.i64_in _ (by omega)]; omega
  have e4 : IntKind.i64.wrap (cc : Int) = (cc : Int) := IntWalk.i64_in _ (by omega)
  clear hb hb' w3
  go_enter Try.func105, Try.ntmps105
  go_wp2
  go_quiet (fail)
  go_wp2
  go_returns
  exact ⟨rfl, by (repeat' (first | (with_reducible exact Below.refl _ _) | (with_reducible assumption) | (with_reducible refine drewN_below ?_ _) | (with_reducible refine Below.drew ?_) | (with_reducible refine Below.alloc ?_ ?_ _) | (with_reducible refine Below.setCell ?_ ?_ _) | (with_reducible refine below_via (by with_reducible assumption) ?_ ?_) | go_size))⟩
set_option maxHeartbeats 1000000 in
theorem pixo106 (g : Nat) (s : Value) (Wd rr cc : Nat) (d1 d2 d3 d4 x y : Int) (w : World) (hb : Blk w g 114 #[s, iv (d3 - d1), iv d1, iv d2, iv d3, iv d4]) (w3 : d3 = d1 + Wd) (h1 : Wd ≤ 128) (h2 : rr ≤ 128) (h3 : cc ≤ 128) (hd1 : -64 ≤ d1 ∧ d1 ≤ 64) (hd2 : -64 ≤ d2 ∧ d2 ≤ 64) (hx : x = d1 + cc) (hy : y = d2 + rr) :
    Calls Try.prog 106 #[.pointer (some ⟨g, 0, none⟩), iv x, iv y] w fun e w' => e = .returned (.int .i64 ((rr * Wd + cc : Nat) : Int)) ∧ Below w.heap.size w w' := by
  subst hx hy
  have hb' : Blk w g 114 #[s, iv (Wd : Int), iv d1, iv d2, iv d3, iv d4] := by rwa [show d3 - d1 = (Wd : Int) by omega] at hb
  have C := hb'.cells6
  obtain ⟨f1, f2⟩ := off1 h1 h2 h3
  have e1 : IntKind.i64.wrap (d2 + (rr : Int) - d2) = (rr : Int) := by rw [IntWalk.i64_in _ (by omega)]; omega
  have e2 : IntKind.i64.wrap (rr : Int) = (rr : Int) := IntWalk.i64_in _ (by omega)
  have e3 : IntKind.i64.wrap (d1 + (cc : Int) - d1) = (cc : Int) := by rw [IntWalk.i64_in _ (by omega)]; omega
  have e4 : IntKind.i64.wrap (cc : Int) = (cc : Int) := IntWalk.i64_in _ (by omega)
  clear hb hb' w3
  go_enter Try.func106, Try.ntmps106
  go_wp2
  go_quiet (fail)
  go_wp2
  go_returns
  exact ⟨rfl, by (repeat' (first | (with_reducible exact Below.refl _ _) | (with_reducible assumption) | (with_reducible refine drewN_below ?_ _) | (with_reducible refine Below.drew ?_) | (with_reducible refine Below.alloc ?_ ?_ _) | (with_reducible refine Below.setCell ?_ ?_ _) | (with_reducible refine below_via (by with_reducible assumption) ?_ ?_) | go_size))⟩
end Go.Proofs.Ytlnfcjaempojgaa
