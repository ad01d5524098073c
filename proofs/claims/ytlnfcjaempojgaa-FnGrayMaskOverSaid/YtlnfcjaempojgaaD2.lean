/- Contracts of Rectangle.Add, Point.Sub, the Bounds methods, PixOffset, Dx, Dy, and of rect. -/
import Derived.Test.YtlnfcjaempojgaaC3
namespace Go.Proofs.Ytlnfcjaempojgaa
open Go.RowKit

theorem gadd_any (r : Rc) (x y : Int) (w : World) (hr : r.in_ 4000000000) (hx : -4000000000 ≤ x ∧ x ≤ 4000000000) (hy : -4000000000 ≤ y ∧ y ≤ 4000000000) :
    Calls Try.prog 97 #[rcV r, ptV x y] w fun e w' => e = .returned (rcV (r.moved x y)) ∧ Below w.heap.size w w' := by
  obtain ⟨a, b, c, d⟩ := r
  obtain ⟨ha, hb, hc, hd⟩ := hr
  dsimp only at ha hb hc hd
  unfold Rc.moved
  dsimp only
  go_enter Try.func97, Try.ntmps97
  go_wp2
  go_returns
  exact ⟨rfl, by (repeat' (first | (with_reducible exact Below.refl _ _) | (with_reducible assumption) | (with_reducible refine drewN_below ?_ _) | (with_reducible refine Below.drew ?_) | (with_reducible refine Below.alloc ?_ ?_ _) | (with_reducible refine Below.setCell ?_ ?_ _) | (with_reducible refine below_via (by with_reducible assumption) ?_ ?_) | go_size))⟩

theorem gsub_any (x y x' y' : Int) (w : World) (hx : -4000000000 ≤ x ∧ x ≤ 4000000000) (hy : -4000000000 ≤ y ∧ y ≤ 4000000000) (hx' : -4000000000 ≤ x' ∧ x' ≤ 4000000000) (hy' : -4000000000 ≤ y' ∧ y' ≤ 4000000000) :
    Calls Try.prog 98 #[ptV x y, ptV x' y'] w fun e w' => e = .returned (ptV (x - x') (y - y')) ∧ Below w.heap.size w w' := by
  go_enter Try.func98, Try.ntmps98
  go_wp2
  go_returns
  exact ⟨rfl, by (repeat' (first | (with_reducible exact Below.refl _ _) | (with_reducible assumption) | (with_reducible refine drewN_below ?_ _) | (with_reducible refine Below.drew ?_) | (with_reducible refine Below.alloc ?_ ?_ _) | (with_reducible refine Below.setCell ?_ ?_ _) | (with_reducible refine below_via (by with_reducible assumption) ?_ ?_) | go_size))⟩

theorem grect_any (a b c d : Int) (w : World) :
    Calls Try.prog 67 #[fourV a b c d] w fun e w' => e = .returned (rectV a b c d) ∧ Below w.heap.size w w' := by
  go_enter Try.func67, Try.ntmps67
  go_wp2
  go_returns
  exact ⟨rfl, by (repeat' (first | (with_reducible exact Below.refl _ _) | (with_reducible assumption) | (with_reducible refine drewN_below ?_ _) | (with_reducible refine Below.drew ?_) | (with_reducible refine Below.alloc ?_ ?_ _) | (with_reducible refine Below.setCell ?_ ?_ _) | (with_reducible refine below_via (by with_reducible assumption) ?_ ?_) | go_size))⟩

theorem ubounds_any (v : Value) (w : World) :
    Calls Try.prog 153 #[v] w fun e w' => e = .returned (rectV (-1000000000) (-1000000000) 1000000000 1000000000) ∧ Below w.heap.size w w' := by
  go_enter Try.func153, Try.ntmps153
  go_wp2
  go_returns
  exact ⟨rfl, by (repeat' (first | (with_reducible exact Below.refl _ _) | (with_reducible assumption) | (with_reducible refine drewN_below ?_ _) | (with_reducible refine Below.drew ?_) | (with_reducible refine Below.alloc ?_ ?_ _) | (with_reducible refine Below.setCell ?_ ?_ _) | (with_reducible refine below_via (by with_reducible assumption) ?_ ?_) | go_size))⟩

theorem b128 (g : Nat) (S : TypeId) (s st : Value) (x0 y0 x1 y1 : Int) (w : World) (h : Blk w g S #[s, st, iv x0, iv y0, iv x1, iv y1]) :
    Calls Try.prog 128 #[.pointer (some ⟨g, 0, none⟩)] w fun e w' => e = .returned (rectV x0 y0 x1 y1) ∧ Below w.heap.size w w' := by
  have C := h.cells6
  have hlt := h.lt
  have H := hid h
  clear h
  go_enter Try.func128, Try.ntmps128
  go_wp2
  go_returns
  exact ⟨rfl, by (repeat' (first | (with_reducible exact Below.refl _ _) | (with_reducible assumption) | (with_reducible refine drewN_below ?_ _) | (with_reducible refine Below.drew ?_) | (with_reducible refine Below.alloc ?_ ?_ _) | (with_reducible refine Below.setCell ?_ ?_ _) | (with_reducible refine below_via (by with_reducible assumption) ?_ ?_) | go_size))⟩

theorem b133 (g : Nat) (S : TypeId) (s st : Value) (x0 y0 x1 y1 : Int) (w : World) (h : Blk w g S #[s, st, iv x0, iv y0, iv x1, iv y1]) :
    Calls Try.prog 133 #[.pointer (some ⟨g, 0, none⟩)] w fun e w' => e = .returned (rectV x0 y0 x1 y1) ∧ Below w.heap.size w w' := by
  have C := h.cells6
  have hlt := h.lt
  have H := hid h
  clear h
  go_enter Try.func133, Try.ntmps133
  go_wp2
  go_returns
  exact ⟨rfl, by (repeat' (first | (with_reducible exact Below.refl _ _) | (with_reducible assumption) | (with_reducible refine drewN_below ?_ _) | (with_reducible refine Below.drew ?_) | (with_reducible refine Below.alloc ?_ ?_ _) | (with_reducible refine Below.setCell ?_ ?_ _) | (with_reducible refine below_via (by with_reducible assumption) ?_ ?_) | go_size))⟩

theorem b138 (g : Nat) (S : TypeId) (s st : Value) (x0 y0 x1 y1 : Int) (w : World) (h : Blk w g S #[s, st, iv x0, iv y0, iv x1, iv y1]) :
    Calls Try.prog 138 #[.pointer (some ⟨g, 0, none⟩)] w fun e w' => e = .returned (rectV x0 y0 x1 y1) ∧ Below w.heap.size w w' := by
  have C := h.cells6
  have hlt := h.lt
  have H := hid h
  clear h
  go_enter Try.func138, Try.ntmps138
  go_wp2
  go_returns
  exact ⟨rfl, by (repeat' (first | (with_reducible exact Below.refl _ _) | (with_reducible assumption) | (with_reducible refine drewN_below ?_ _) | (with_reducible refine Below.drew ?_) | (with_reducible refine Below.alloc ?_ ?_ _) | (with_reducible refine Below.setCell ?_ ?_ _) | (with_reducible refine below_via (by with_reducible assumption) ?_ ?_) | go_size))⟩

theorem b143 (g : Nat) (S : TypeId) (s st : Value) (x0 y0 x1 y1 : Int) (w : World) (h : Blk w g S #[s, st, iv x0, iv y0, iv x1, iv y1]) :
    Calls Try.prog 143 #[.pointer (some ⟨g, 0, none⟩)] w fun e w' => e = .returned (rectV x0 y0 x1 y1) ∧ Below w.heap.size w w' := by
  have C := h.cells6
  have hlt := h.lt
  have H := hid h
  clear h
  go_enter Try.func143, Try.ntmps143
  go_wp2
  go_returns
  exact ⟨rfl, by (repeat' (first | (with_reducible exact Below.refl _ _) | (with_reducible assumption) | (with_reducible refine drewN_below ?_ _) | (with_reducible refine Below.drew ?_) | (with_reducible refine Below.alloc ?_ ?_ _) | (with_reducible refine Below.setCell ?_ ?_ _) | (with_reducible refine below_via (by with_reducible assumption) ?_ ?_) | go_size))⟩

theorem b148 (g : Nat) (S : TypeId) (s st : Value) (x0 y0 x1 y1 : Int) (w : World) (h : Blk w g S #[s, st, iv x0, iv y0, iv x1, iv y1]) :
    Calls Try.prog 148 #[.pointer (some ⟨g, 0, none⟩)] w fun e w' => e = .returned (rectV x0 y0 x1 y1) ∧ Below w.heap.size w w' := by
  have C := h.cells6
  have hlt := h.lt
  have H := hid h
  clear h
  go_enter Try.func148, Try.ntmps148
  go_wp2
  go_returns
  exact ⟨rfl, by (repeat' (first | (with_reducible exact Below.refl _ _) | (with_reducible assumption) | (with_reducible refine drewN_below ?_ _) | (with_reducible refine Below.drew ?_) | (with_reducible refine Below.alloc ?_ ?_ _) | (with_reducible refine Below.setCell ?_ ?_ _) | (with_reducible refine below_via (by with_reducible assumption) ?_ ?_) | go_size))⟩

theorem b157 (g : Nat) (S : TypeId) (s st : Value) (x0 y0 x1 y1 : Int) (w : World) (h : Blk w g S #[s, st, iv x0, iv y0, iv x1, iv y1]) :
    Calls Try.prog 157 #[.pointer (some ⟨g, 0, none⟩)] w fun e w' => e = .returned (rectV x0 y0 x1 y1) ∧ Below w.heap.size w w' := by
  have C := h.cells6
  have hlt := h.lt
  have H := hid h
  clear h
  go_enter Try.func157, Try.ntmps157
  go_wp2
  go_returns
  exact ⟨rfl, by (repeat' (first | (with_reducible exact Below.refl _ _) | (with_reducible assumption) | (with_reducible refine drewN_below ?_ _) | (with_reducible refine Below.drew ?_) | (with_reducible refine Below.alloc ?_ ?_ _) | (with_reducible refine Below.setCell ?_ ?_ _) | (with_reducible refine below_via (by with_reducible assumption) ?_ ?_) | go_size))⟩

end Go.Proofs.Ytlnfcjaempojgaa
