/- Contract of spec.Image.multiplied at RGBA64 and Uniform, and at the kinds without a condition. -/
import Derived.Test.YtlnfcjaempojgaaA7
namespace Go.Proofs.Ytlnfcjaempojgaa
open Go.RowKit
attribute [local go_sem high] run_imax run_imin run_imax3

def w16 (bs : List Int) (k : Nat) : Int := bs.getD k 0 * 256 + bs.getD (k + 1) 0
def Mult8 (bs : List Int) : Prop := ∀ k : Nat, 8 * k + 7 < bs.length → w16 bs (8 * k) ≤ w16 bs (8 * k + 6) ∧ w16 bs (8 * k + 2) ≤ w16 bs (8 * k + 6) ∧ w16 bs (8 * k + 4) ≤ w16 bs (8 * k + 6)

theorem Blk.cells6 {w : World} {g : Nat} {t : TypeId} {a b c d e f : Value} (h : Blk w g t #[a, b, c, d, e, f]) :
   (w.cell? ⟨g, 0, none⟩ = some a ∧ w.cell? ⟨g, 1, none⟩ = some b ∧ w.cell? ⟨g, 2, none⟩ = some c ∧ w.cell? ⟨g, 3, none⟩ = some d ∧ w.cell? ⟨g, 4, none⟩ = some e ∧ w.cell? ⟨g, 5, none⟩ = some f) := ⟨h.cell 0, h.cell 1, h.cell 2, h.cell 3, h.cell 4, h.cell 5⟩

set_option maxHeartbeats 800000 in
theorem mult_wide (kd x0 y0 x1 y1 : Int) (hkd : kd = 4 ∨ kd = 6) (g o n c : Nat) (bs : List Int) (w : World) (hlen : bs.length = n) (hr : ∀ j, 0 ≤ bs.getD j 0 ∧ bs.getD j 0 ≤ 255) (hnc : n ≤ c) (hc : c ≤ 140737488355328) (hg : g < w.heap.size)
    (hcell : ∀ j, j < n → w.cell? ⟨g, o + j, none⟩ = some (.int .u8 (bs.getD j 0))) :
    Calls Try.prog 46 #[imgV kd x0 y0 x1 y1 (.slice (some ⟨g, o, none⟩) n c)] w (SomeB (fun b => b = true → Mult8 bs) w) := by
  have HC := hid hcell; clear hcell
  have HL := hid hlen; clear hlen
  have HR := hid hr; clear hr
  have k0 : (kd == 0) = false := by rcases hkd with rfl | rfl <;> rfl
  rcases hkd with rfl | rfl
  · go_enter Try.func46, Try.ntmps46
    go_wp2
    go_loopw [5] (fun i wr => ∃ k : Nat, 8 * k ≤ n + 7 ∧ i = .int .i64 (8 * k) ∧ Hid (Blk wr w.heap.size 31 #[iv 4, iv x0, iv y0, iv x1, iv y1, .slice (some ⟨g, o, none⟩) n c]) ∧ Below w.heap.size w wr ∧
        Hid (∀ j, j < k → w16 bs (8 * j) ≤ w16 bs (8 * j + 6) ∧ w16 bs (8 * j + 2) ≤ w16 bs (8 * j + 6) ∧ w16 bs (8 * j + 4) ≤ w16 bs (8 * j + 6))) (fun i _ => n + 7 - (intOf i).toNat)
    case atStart => exact ⟨0, by omega, rfl, Blk.new _ _ _, by (repeat' (first | (with_reducible exact Below.refl _ _) | (with_reducible assumption) | (with_reducible refine drewN_below ?_ _) | (with_reducible refine Below.drew ?_) | (with_reducible refine Below.alloc ?_ ?_ _) | (with_reducible refine Below.setCell ?_ ?_ _) | (with_reducible refine below_via (by with_reducible assumption) ?_ ?_) | go_size)), fun j hj => absurd hj (by omega)⟩
    case round =>
      obtain ⟨k, hk, rfl, hblk, hbel, hdone⟩ := hrel
      have hsz := hblk.out.lt
      have hp5 : wr.cell? ⟨w.heap.size, 5, none⟩ = some (.slice (some ⟨g, o, none⟩) n c) := hblk.out.cell 5
      by_cases hlt : 8 * k + 7 < n
      · have hC : ∀ j, j < n → wr.cell? ⟨g, o + j, none⟩ = some (.int .u8 (bs.getD j 0)) := fun j hj => (hbel.cell (p := ⟨g, o + j, none⟩) hg).trans (HC.out j hj)
        have c0 : wr.cell? ⟨g, o + 8 * k, none⟩ = some (.int .u8 (bs.getD (8 * k) 0)) := hC (8 * k) (by omega)
        have c1 : wr.cell? ⟨g, o + 8 * k + 1, none⟩ = some (.int .u8 (bs.getD (8 * k + 1) 0)) := hC (8 * k + 1) (by omega)
        have c2 : wr.cell? ⟨g, o + 8 * k + 2, none⟩ = some (.int .u8 (bs.getD (8 * k + 2) 0)) := hC (8 * k + 2) (by omega)
        have c3 : wr.cell? ⟨g, o + 8 * k + 3, none⟩ = some (.int .u8 (bs.getD (8 * k + 3) 0)) := hC (8 * k + 3) (by omega)
        have c4 : wr.cell? ⟨g, o + 8 * k + 4, none⟩ = some (.int .u8 (bs.getD (8 * k + 4) 0)) := hC (8 * k + 4) (by omega)
        have c5 : wr.cell? ⟨g, o + 8 * k + 5, none⟩ = some (.int .u8 (bs.getD (8 * k + 5) 0)) := hC (8 * k + 5) (by omega)
        have c6 : wr.cell? ⟨g, o + 8 * k + 6, none⟩ = some (.int .u8 (bs.getD (8 * k + 6) 0)) := hC (8 * k + 6) (by omega)
        have c7 : wr.cell? ⟨g, o + 8 * k + 7, none⟩ = some (.int .u8 (bs.getD (8 * k + 7) 0)) := hC (8 * k + 7) (by omega)
        have hgr : g < wr.heap.size := by omega
        have W := fun (L C : Nat) (hL : 8 ≤ L) => wide_any g (o + 8 * k) L C _ _ _ _ _ _ _ _ wr hL hgr c0 c1 c2 c3 c4 c5 c6 c7 (HR.out _) (HR.out _) (HR.out _) (HR.out _) (HR.out _) (HR.out _) (HR.out _) (HR.out _)
        have W0 := hid W
        clear hC c0 c1 c2 c3 c4 c5 c6 c7 W
        have r0 : 0 ≤ w16 bs (8 * k) ∧ w16 bs (8 * k) ≤ 65535 := by have := HR.out (8 * k); have := HR.out (8 * k + 1); unfold w16; omega
        have r1 : 0 ≤ w16 bs (8 * k + 2) ∧ w16 bs (8 * k + 2) ≤ 65535 := by have := HR.out (8 * k + 2); have := HR.out (8 * k + 2 + 1); unfold w16; omega
        have r2 : 0 ≤ w16 bs (8 * k + 4) ∧ w16 bs (8 * k + 4) ≤ 65535 := by have := HR.out (8 * k + 4); have := HR.out (8 * k + 4 + 1); unfold w16; omega
        have r3 : 0 ≤ w16 bs (8 * k + 6) ∧ w16 bs (8 * k + 6) ≤ 65535 := by have := HR.out (8 * k + 6); have := HR.out (8 * k + 6 + 1); unfold w16; omega
        go_wp2_with fail
        refine (W0.out _ _ (by omega)).mono ?_
        change ∀ e w', e = Ending.returned (fourV (w16 bs (8 * k)) (w16 bs (8 * k + 2)) (w16 bs (8 * k + 4)) (w16 bs (8 * k + 6))) ∧ Below wr.heap.size wr w' → _
        generalize e0 : w16 bs (8 * k) = v0 at *
        generalize e1 : w16 bs (8 * k + 2) = v1 at *
        generalize e2 : w16 bs (8 * k + 4) = v2 at *
        generalize e3 : w16 bs (8 * k + 6) = v3 at *
        have E0 := hid e0; have E1 := hid e1; have E2 := hid e2; have E3 := hid e3
        clear e0 e1 e2 e3
        rintro e w1 ⟨rfl, hb1⟩
        have hblk1 := hid (hblk.out.keep hb1)
        have hp51 : w1.cell? ⟨w.heap.size, 5, none⟩ = some (.slice (some ⟨g, o, none⟩) n c) := hblk1.out.cell 5
        have hbel1 := hbel.trans (hb1.mono hbel.size)
        have hsz1 : w.heap.size < w1.heap.size := hblk1.out.lt
        clear hp5 hb1
        go_wp2
        · go_returns
          exact ⟨false, rfl, fun h => (by cases h), by (repeat' (first | (with_reducible exact Below.refl _ _) | (with_reducible assumption) | (with_reducible refine drewN_below ?_ _) | (with_reducible refine Below.drew ?_) | (with_reducible refine Below.alloc ?_ ?_ _) | (with_reducible refine Below.setCell ?_ ?_ _) | (with_reducible refine below_via (by with_reducible assumption) ?_ ?_) | go_size))⟩
        · rename_i hm
          refine ⟨⟨k + 1, by omega, by go_num, Blk.alloc hblk1.out _, by (repeat' (first | (with_reducible exact Below.refl _ _) | (with_reducible assumption) | (with_reducible refine drewN_below ?_ _) | (with_reducible refine Below.drew ?_) | (with_reducible refine Below.alloc ?_ ?_ _) | (with_reducible refine Below.setCell ?_ ?_ _) | (with_reducible refine below_via (by with_reducible assumption) ?_ ?_) | go_size)), fun j hj => ?_⟩, by simp [intOf]; omega⟩
          rw [imax_eq, imax_eq] at hm
          by_cases e : j = k
          · subst e; rw [E0.out, E1.out, E2.out, E3.out]; omega
          · exact hdone.out j (by omega)
      · go_wp2
        go_returns
        refine ⟨true, rfl, fun _ => ?_, by (repeat' (first | (with_reducible exact Below.refl _ _) | (with_reducible assumption) | (with_reducible refine drewN_below ?_ _) | (with_reducible refine Below.drew ?_) | (with_reducible refine Below.alloc ?_ ?_ _) | (with_reducible refine Below.setCell ?_ ?_ _) | (with_reducible refine below_via (by with_reducible assumption) ?_ ?_) | go_size))⟩
        intro j hj
        rw [HL.out] at hj
        exact hdone.out j (by omega)

  · go_enter Try.func46, Try.ntmps46
    go_wp2
    go_loopw [5] (fun i wr => ∃ k : Nat, 8 * k ≤ n + 7 ∧ i = .int .i64 (8 * k) ∧ Hid (Blk wr w.heap.size 31 #[iv 6, iv x0, iv y0, iv x1, iv y1, .slice (some ⟨g, o, none⟩) n c]) ∧ Below w.heap.size w wr ∧
        Hid (∀ j, j < k → w16 bs (8 * j) ≤ w16 bs (8 * j + 6) ∧ w16 bs (8 * j + 2) ≤ w16 bs (8 * j + 6) ∧ w16 bs (8 * j + 4) ≤ w16 bs (8 * j + 6))) (fun i _ => n + 7 - (intOf i).toNat)
    case atStart => exact ⟨0, by omega, rfl, Blk.new _ _ _, by (repeat' (first | (with_reducible exact Below.refl _ _) | (with_reducible assumption) | (with_reducible refine drewN_below ?_ _) | (with_reducible refine Below.drew ?_) | (with_reducible refine Below.alloc ?_ ?_ _) | (with_reducible refine Below.setCell ?_ ?_ _) | (with_reducible refine below_via (by with_reducible assumption) ?_ ?_) | go_size)), fun j hj => absurd hj (by omega)⟩
    case round =>
      obtain ⟨k, hk, rfl, hblk, hbel, hdone⟩ := hrel
      have hsz := hblk.out.lt
      have hp5 : wr.cell? ⟨w.heap.size, 5, none⟩ = some (.slice (some ⟨g, o, none⟩) n c) := hblk.out.cell 5
      by_cases hlt : 8 * k + 7 < n
      · have hC : ∀ j, j < n → wr.cell? ⟨g, o + j, none⟩ = some (.int .u8 (bs.getD j 0)) := fun j hj => (hbel.cell (p := ⟨g, o + j, none⟩) hg).trans (HC.out j hj)
        have c0 : wr.cell? ⟨g, o + 8 * k, none⟩ = some (.int .u8 (bs.getD (8 * k) 0)) := hC (8 * k) (by omega)
        have c1 : wr.cell? ⟨g, o + 8 * k + 1, none⟩ = some (.int .u8 (bs.getD (8 * k + 1) 0)) := hC (8 * k + 1) (by omega)
        have c2 : wr.cell? ⟨g, o + 8 * k + 2, none⟩ = some (.int .u8 (bs.getD (8 * k + 2) 0)) := hC (8 * k + 2) (by omega)
        have c3 : wr.cell? ⟨g, o + 8 * k + 3, none⟩ = some (.int .u8 (bs.getD (8 * k + 3) 0)) := hC (8 * k + 3) (by omega)
        have c4 : wr.cell? ⟨g, o + 8 * k + 4, none⟩ = some (.int .u8 (bs.getD (8 * k + 4) 0)) := hC (8 * k + 4) (by omega)
        have c5 : wr.cell? ⟨g, o + 8 * k + 5, none⟩ = some (.int .u8 (bs.getD (8 * k + 5) 0)) := hC (8 * k + 5) (by omega)
        have c6 : wr.cell? ⟨g, o + 8 * k + 6, none⟩ = some (.int .u8 (bs.getD (8 * k + 6) 0)) := hC (8 * k + 6) (by omega)
        have c7 : wr.cell? ⟨g, o + 8 * k + 7, none⟩ = some (.int .u8 (bs.getD (8 * k + 7) 0)) := hC (8 * k + 7) (by omega)
        have hgr : g < wr.heap.size := by omega
        have W := fun (L C : Nat) (hL : 8 ≤ L) => wide_any g (o + 8 * k) L C _ _ _ _ _ _ _ _ wr hL hgr c0 c1 c2 c3 c4 c5 c6 c7 (HR.out _) (HR.out _) (HR.out _) (HR.out _) (HR.out _) (HR.out _) (HR.out _) (HR.out _)
        have W0 := hid W
        clear hC c0 c1 c2 c3 c4 c5 c6 c7 W
        have r0 : 0 ≤ w16 bs (8 * k) ∧ w16 bs (8 * k) ≤ 65535 := by have := HR.out (8 * k); have := HR.out (8 * k + 1); unfold w16; omega
        have r1 : 0 ≤ w16 bs (8 * k + 2) ∧ w16 bs (8 * k + 2) ≤ 65535 := by have := HR.out (8 * k + 2); have := HR.out (8 * k + 2 + 1); unfold w16; omega
        have r2 : 0 ≤ w16 bs (8 * k + 4) ∧ w16 bs (8 * k + 4) ≤ 65535 := by have := HR.out (8 * k + 4); have := HR.out (8 * k + 4 + 1); unfold w16; omega
        have r3 : 0 ≤ w16 bs (8 * k + 6) ∧ w16 bs (8 * k + 6) ≤ 65535 := by have := HR.out (8 * k + 6); have := HR.out (8 * k + 6 + 1); unfold w16; omega
        go_wp2_with fail
        refine (W0.out _ _ (by omega)).mono ?_
        change ∀ e w', e = Ending.returned (fourV (w16 bs (8 * k)) (w16 bs (8 * k + 2)) (w16 bs (8 * k + 4)) (w16 bs (8 * k + 6))) ∧ Below wr.heap.size wr w' → _
        generalize e0 : w16 bs (8 * k) = v0 at *
        generalize e1 : w16 bs (8 * k + 2) = v1 at *
        generalize e2 : w16 bs (8 * k + 4) = v2 at *
        generalize e3 : w16 bs (8 * k + 6) = v3 at *
        have E0 := hid e0; have E1 := hid e1; have E2 := hid e2; have E3 := hid e3
        clear e0 e1 e2 e3
        rintro e w1 ⟨rfl, hb1⟩
        have hblk1 := hid (hblk.out.keep hb1)
        have hp51 : w1.cell? ⟨w.heap.size, 5, none⟩ = some (.slice (some ⟨g, o, none⟩) n c) := hblk1.out.cell 5
        have hbel1 := hbel.trans (hb1.mono hbel.size)
        have hsz1 : w.heap.size < w1.heap.size := hblk1.out.lt
        clear hp5 hb1
        go_wp2
        · go_returns
          exact ⟨false, rfl, fun h => (by cases h), by (repeat' (first | (with_reducible exact Below.refl _ _) | (with_reducible assumption) | (with_reducible refine drewN_below ?_ _) | (with_reducible refine Below.drew ?_) | (with_reducible refine Below.alloc ?_ ?_ _) | (with_reducible refine Below.setCell ?_ ?_ _) | (with_reducible refine below_via (by with_reducible assumption) ?_ ?_) | go_size))⟩
        · rename_i hm
          refine ⟨⟨k + 1, by omega, by go_num, Blk.alloc hblk1.out _, by (repeat' (first | (with_reducible exact Below.refl _ _) | (with_reducible assumption) | (with_reducible refine drewN_below ?_ _) | (with_reducible refine Below.drew ?_) | (with_reducible refine Below.alloc ?_ ?_ _) | (with_reducible refine Below.setCell ?_ ?_ _) | (with_reducible refine below_via (by with_reducible assumption) ?_ ?_) | go_size)), fun j hj => ?_⟩, by simp [intOf]; omega⟩
          rw [imax_eq, imax_eq] at hm
          by_cases e : j = k
          · subst e; rw [E0.out, E1.out, E2.out, E3.out]; omega
          · exact hdone.out j (by omega)
      · go_wp2
        go_returns
        refine ⟨true, rfl, fun _ => ?_, by (repeat' (first | (with_reducible exact Below.refl _ _) | (with_reducible assumption) | (with_reducible refine drewN_below ?_ _) | (with_reducible refine Below.drew ?_) | (with_reducible refine Below.alloc ?_ ?_ _) | (with_reducible refine Below.setCell ?_ ?_ _) | (with_reducible refine below_via (by with_reducible assumption) ?_ ?_) | go_size))⟩
        intro j hj
        rw [HL.out] at hj
        exact hdone.out j (by omega)

end Go.Proofs.Ytlnfcjaempojgaa
