/- Contracts of spec.Image.At, one for each kind that these laws reach. Written by mk_H3.py. -/
import Derived.Test.YtlnfcjaempojgaaH1
set_option linter.unusedVariables false
namespace Go.Proofs.Ytlnfcjaempojgaa
open Go.RowKit

/-- Where a pixel lies among the bytes: the numbers that At reckons do not wrap. -/
structure AtF (z x0 y0 x1 x y : Int) (i : Nat) : Prop where
  f1 : IntKind.i64.wrap (y - y0) = y - y0
  f2 : IntKind.i64.wrap (x1 - x0) = x1 - x0
  f3 : IntKind.i64.wrap ((y - y0) * (x1 - x0)) = (y - y0) * (x1 - x0)
  f4 : IntKind.i64.wrap ((y - y0) * (x1 - x0) + x) = (y - y0) * (x1 - x0) + x
  f5 : IntKind.i64.wrap ((y - y0) * (x1 - x0) + x - x0) = (y - y0) * (x1 - x0) + x - x0
  f6 : IntKind.i64.wrap (z * ((y - y0) * (x1 - x0) + x - x0)) = (i : Int)
theorem atF {z x0 y0 x1 x y : Int} {i : Nat} (hy : 0 ≤ y - y0 ∧ y - y0 ≤ 1000) (hw : 0 ≤ x1 - x0 ∧ x1 - x0 ≤ 1000) (h0 : -1000 ≤ x0 ∧ x0 ≤ 1000) (hx : -1000 ≤ x ∧ x ≤ 1000)
    (hi : z * ((y - y0) * (x1 - x0) + x - x0) = (i : Int)) (hm : i ≤ 140737488355328) : AtF z x0 y0 x1 x y i := by
  have h := mul_in hy hw
  refine ⟨IntWalk.i64_in _ (by omega), IntWalk.i64_in _ (by omega), IntWalk.i64_in _ (by omega), IntWalk.i64_in _ (by omega), IntWalk.i64_in _ (by omega), ?_⟩
  rw [hi]; exact IntWalk.i64_in _ (by omega)


set_option maxHeartbeats 1000000 in
theorem at_rgba (x0 y0 x1 y1 x y : Int) (g o n c i : Nat) (b0 b1 b2 b3 : Int) (w : World) (hF : AtF 4 x0 y0 x1 x y i) (hn : i + 4 ≤ n) (hc : n ≤ c) (hm : c ≤ 140737488355328) (hg : g < w.heap.size)
    (c0 : w.cell? ⟨g, o + i, none⟩ = some (.int .u8 b0)) (c1 : w.cell? ⟨g, o + i + 1, none⟩ = some (.int .u8 b1)) (c2 : w.cell? ⟨g, o + i + 2, none⟩ = some (.int .u8 b2)) (c3 : w.cell? ⟨g, o + i + 3, none⟩ = some (.int .u8 b3))
    (r0 : 0 ≤ b0 ∧ b0 ≤ 255) (r1 : 0 ≤ b1 ∧ b1 ≤ 255) (r2 : 0 ≤ b2 ∧ b2 ≤ 255) (r3 : 0 ≤ b3 ∧ b3 ≤ 255) :
    Calls Try.prog 58 #[imgV 0 x0 y0 x1 y1 (.slice (some ⟨g, o, none⟩) n c), iv x, iv y] w fun e w' => e = .returned (fourV (b0 * 257) (b1 * 257) (b2 * 257) (b3 * 257)) ∧ Below w.heap.size w w' := by
  obtain ⟨f1, f2, f3, f4, f5, f6⟩ := hF
  have hg1 : g < w.heap.size + 1 := by omega
  have hg2 : g < w.heap.size + 1 + 1 := by omega
  have hg3 : g < w.heap.size + 1 + 1 + 1 := by omega
  have hn0 : g ≠ w.heap.size := by omega
  have hn1 : g ≠ w.heap.size + 1 := by omega
  have hn2 : g ≠ w.heap.size + 1 + 1 := by omega
  have hn3 : g ≠ w.heap.size + 1 + 1 + 1 := by omega
  go_enter Try.func58, Try.ntmps58
  go_wp2_with fail
  refine (size_any 0 _).mono ?_
  rintro e w1 ⟨rfl, rfl⟩
  rw [show sizeI 0 = 4 from rfl]
  go_wp2
  refine wp_loop_rounds 5 ?_
  rw [rounds_succ]
  go_wp2
  rw [rounds_succ]
  go_wp2
  rw [rounds_succ]
  go_wp2
  rw [rounds_succ]
  go_wp2
  rw [rounds_succ]
  go_wp2
  refine bodyPost_ret (v := fourV (b0 * 257) (b1 * 257) (b2 * 257) (b3 * 257)) (by simp [results, Try.results58, go_sem]) rfl ⟨rfl, ?_⟩
  (repeat' (first | (with_reducible exact Below.refl _ _) | (with_reducible assumption) | (with_reducible refine drewN_below ?_ _) | (with_reducible refine Below.drew ?_) | (with_reducible refine Below.alloc ?_ ?_ _) | (with_reducible refine Below.setCell ?_ ?_ _) | (with_reducible refine below_via (by with_reducible assumption) ?_ ?_) | go_size))

set_option maxHeartbeats 1000000 in
theorem at_alpha (x0 y0 x1 y1 x y : Int) (g o n c i : Nat) (b0 : Int) (w : World) (hF : AtF 1 x0 y0 x1 x y i) (hn : i + 1 ≤ n) (hc : n ≤ c) (hm : c ≤ 140737488355328) (hg : g < w.heap.size)
    (c0 : w.cell? ⟨g, o + i, none⟩ = some (.int .u8 b0))
    (r0 : 0 ≤ b0 ∧ b0 ≤ 255) :
    Calls Try.prog 58 #[imgV 2 x0 y0 x1 y1 (.slice (some ⟨g, o, none⟩) n c), iv x, iv y] w fun e w' => e = .returned (fourV (b0 * 257) (b0 * 257) (b0 * 257) (b0 * 257)) ∧ Below w.heap.size w w' := by
  obtain ⟨f1, f2, f3, f4, f5', f6'⟩ := hF
  have f5 : IntKind.i64.wrap ((y - y0) * (x1 - x0) + x - x0) = (i : Int) := by rw [Int.one_mul] at f6'; exact f6'
  have f6 : IntKind.i64.wrap (i : Int) = (i : Int) := IntWalk.i64_in _ (by omega)
  clear f5' f6'
  have hg1 : g < w.heap.size + 1 := by omega
  have hg2 : g < w.heap.size + 1 + 1 := by omega
  have hg3 : g < w.heap.size + 1 + 1 + 1 := by omega
  have hn0 : g ≠ w.heap.size := by omega
  have hn1 : g ≠ w.heap.size + 1 := by omega
  have hn2 : g ≠ w.heap.size + 1 + 1 := by omega
  have hn3 : g ≠ w.heap.size + 1 + 1 + 1 := by omega
  go_enter Try.func58, Try.ntmps58
  go_wp2_with fail
  refine (size_any 2 _).mono ?_
  rintro e w1 ⟨rfl, rfl⟩
  rw [show sizeI 2 = 1 from rfl]
  go_wp2
  refine wp_loop_rounds 5 ?_
  rw [rounds_succ]
  go_wp2
  rw [rounds_succ]
  go_wp2
  rw [rounds_succ]
  go_wp2
  rw [rounds_succ]
  go_wp2
  rw [rounds_succ]
  go_wp2
  refine bodyPost_ret (v := fourV (b0 * 257) (b0 * 257) (b0 * 257) (b0 * 257)) (by simp [results, Try.results58, go_sem]) rfl ⟨rfl, ?_⟩
  (repeat' (first | (with_reducible exact Below.refl _ _) | (with_reducible assumption) | (with_reducible refine drewN_below ?_ _) | (with_reducible refine Below.drew ?_) | (with_reducible refine Below.alloc ?_ ?_ _) | (with_reducible refine Below.setCell ?_ ?_ _) | (with_reducible refine below_via (by with_reducible assumption) ?_ ?_) | go_size))

set_option maxHeartbeats 1000000 in
theorem at_gray (x0 y0 x1 y1 x y : Int) (g o n c i : Nat) (b0 : Int) (w : World) (hF : AtF 1 x0 y0 x1 x y i) (hn : i + 1 ≤ n) (hc : n ≤ c) (hm : c ≤ 140737488355328) (hg : g < w.heap.size)
    (c0 : w.cell? ⟨g, o + i, none⟩ = some (.int .u8 b0))
    (r0 : 0 ≤ b0 ∧ b0 ≤ 255) :
    Calls Try.prog 58 #[imgV 3 x0 y0 x1 y1 (.slice (some ⟨g, o, none⟩) n c), iv x, iv y] w fun e w' => e = .returned (fourV (b0 * 257) (b0 * 257) (b0 * 257) 65535) ∧ Below w.heap.size w w' := by
  obtain ⟨f1, f2, f3, f4, f5', f6'⟩ := hF
  have f5 : IntKind.i64.wrap ((y - y0) * (x1 - x0) + x - x0) = (i : Int) := by rw [Int.one_mul] at f6'; exact f6'
  have f6 : IntKind.i64.wrap (i : Int) = (i : Int) := IntWalk.i64_in _ (by omega)
  clear f5' f6'
  have hg1 : g < w.heap.size + 1 := by omega
  have hg2 : g < w.heap.size + 1 + 1 := by omega
  have hg3 : g < w.heap.size + 1 + 1 + 1 := by omega
  have hn0 : g ≠ w.heap.size := by omega
  have hn1 : g ≠ w.heap.size + 1 := by omega
  have hn2 : g ≠ w.heap.size + 1 + 1 := by omega
  have hn3 : g ≠ w.heap.size + 1 + 1 + 1 := by omega
  go_enter Try.func58, Try.ntmps58
  go_wp2_with fail
  refine (size_any 3 _).mono ?_
  rintro e w1 ⟨rfl, rfl⟩
  rw [show sizeI 3 = 1 from rfl]
  go_wp2
  refine wp_loop_rounds 4 ?_
  rw [rounds_succ]
  go_wp2
  rw [rounds_succ]
  go_wp2
  rw [rounds_succ]
  go_wp2
  rw [rounds_succ]
  go_wp2
  refine bodyPost_ret (v := fourV (b0 * 257) (b0 * 257) (b0 * 257) 65535) (by simp [results, Try.results58, go_sem]) rfl ⟨rfl, ?_⟩
  (repeat' (first | (with_reducible exact Below.refl _ _) | (with_reducible assumption) | (with_reducible refine drewN_below ?_ _) | (with_reducible refine Below.drew ?_) | (with_reducible refine Below.alloc ?_ ?_ _) | (with_reducible refine Below.setCell ?_ ?_ _) | (with_reducible refine below_via (by with_reducible assumption) ?_ ?_) | go_size))

set_option maxHeartbeats 1000000 in
theorem at_nrgba (x0 y0 x1 y1 x y : Int) (g o n c i : Nat) (b0 b1 b2 b3 : Int) (w : World) (hF : AtF 4 x0 y0 x1 x y i) (hn : i + 4 ≤ n) (hc : n ≤ c) (hm : c ≤ 140737488355328) (hg : g < w.heap.size)
    (c0 : w.cell? ⟨g, o + i, none⟩ = some (.int .u8 b0)) (c1 : w.cell? ⟨g, o + i + 1, none⟩ = some (.int .u8 b1)) (c2 : w.cell? ⟨g, o + i + 2, none⟩ = some (.int .u8 b2)) (c3 : w.cell? ⟨g, o + i + 3, none⟩ = some (.int .u8 b3))
    (r0 : 0 ≤ b0 ∧ b0 ≤ 255) (r1 : 0 ≤ b1 ∧ b1 ≤ 255) (r2 : 0 ≤ b2 ∧ b2 ≤ 255) (r3 : 0 ≤ b3 ∧ b3 ≤ 255) :
    Calls Try.prog 58 #[imgV 1 x0 y0 x1 y1 (.slice (some ⟨g, o, none⟩) n c), iv x, iv y] w fun e w' => e = .returned (fourV (b0 * 257 * b3 / 255) (b1 * 257 * b3 / 255) (b2 * 257 * b3 / 255) (b3 * 257)) ∧ Below w.heap.size w w' := by
  obtain ⟨f1, f2, f3, f4, f5, f6⟩ := hF
  have p0 := mul_in (a := b0 * 257) (A := 65535) ⟨by omega, by omega⟩ r3
  have q0 : IntKind.i64.wrap (b0 * 257 * b3) = b0 * 257 * b3 := IntWalk.i64_in _ (by omega)
  have t0 : IntKind.i64.wrap (b0 * 257 * b3 / 255) = b0 * 257 * b3 / 255 := IntWalk.i64_in _ (by omega)
  have p1 := mul_in (a := b1 * 257) (A := 65535) ⟨by omega, by omega⟩ r3
  have q1 : IntKind.i64.wrap (b1 * 257 * b3) = b1 * 257 * b3 := IntWalk.i64_in _ (by omega)
  have t1 : IntKind.i64.wrap (b1 * 257 * b3 / 255) = b1 * 257 * b3 / 255 := IntWalk.i64_in _ (by omega)
  have p2 := mul_in (a := b2 * 257) (A := 65535) ⟨by omega, by omega⟩ r3
  have q2 : IntKind.i64.wrap (b2 * 257 * b3) = b2 * 257 * b3 := IntWalk.i64_in _ (by omega)
  have t2 : IntKind.i64.wrap (b2 * 257 * b3 / 255) = b2 * 257 * b3 / 255 := IntWalk.i64_in _ (by omega)
  have hg1 : g < w.heap.size + 1 := by omega
  have hg2 : g < w.heap.size + 1 + 1 := by omega
  have hg3 : g < w.heap.size + 1 + 1 + 1 := by omega
  have hn0 : g ≠ w.heap.size := by omega
  have hn1 : g ≠ w.heap.size + 1 := by omega
  have hn2 : g ≠ w.heap.size + 1 + 1 := by omega
  have hn3 : g ≠ w.heap.size + 1 + 1 + 1 := by omega
  go_enter Try.func58, Try.ntmps58
  go_wp2_with fail
  refine (size_any 1 _).mono ?_
  rintro e w1 ⟨rfl, rfl⟩
  rw [show sizeI 1 = 4 from rfl]
  go_wp2
  refine wp_loop_rounds 4 ?_
  rw [rounds_succ]
  go_wp2
  go_region
  go_wp2
  rw [rounds_succ]
  go_wp2
  go_region
  go_wp2
  rw [rounds_succ]
  go_wp2
  go_region
  go_wp2
  rw [rounds_succ]
  go_wp2
  refine bodyPost_ret (v := fourV (b0 * 257 * b3 / 255) (b1 * 257 * b3 / 255) (b2 * 257 * b3 / 255) (b3 * 257)) (by simp [results, Try.results58, go_sem]) rfl ⟨rfl, ?_⟩
  (repeat' (first | (with_reducible exact Below.refl _ _) | (with_reducible assumption) | (with_reducible refine drewN_below ?_ _) | (with_reducible refine Below.drew ?_) | (with_reducible refine Below.alloc ?_ ?_ _) | (with_reducible refine Below.setCell ?_ ?_ _) | (with_reducible refine below_via (by with_reducible assumption) ?_ ?_) | go_size))

set_option maxHeartbeats 1000000 in
theorem at_cmyk (x0 y0 x1 y1 x y : Int) (g o n c i : Nat) (b0 b1 b2 b3 : Int) (w : World) (hF : AtF 4 x0 y0 x1 x y i) (hn : i + 4 ≤ n) (hc : n ≤ c) (hm : c ≤ 140737488355328) (hg : g < w.heap.size)
    (c0 : w.cell? ⟨g, o + i, none⟩ = some (.int .u8 b0)) (c1 : w.cell? ⟨g, o + i + 1, none⟩ = some (.int .u8 b1)) (c2 : w.cell? ⟨g, o + i + 2, none⟩ = some (.int .u8 b2)) (c3 : w.cell? ⟨g, o + i + 3, none⟩ = some (.int .u8 b3))
    (r0 : 0 ≤ b0 ∧ b0 ≤ 255) (r1 : 0 ≤ b1 ∧ b1 ≤ 255) (r2 : 0 ≤ b2 ∧ b2 ≤ 255) (r3 : 0 ≤ b3 ∧ b3 ≤ 255) :
    Calls Try.prog 58 #[imgV 5 x0 y0 x1 y1 (.slice (some ⟨g, o, none⟩) n c), iv x, iv y] w fun e w' => e = .returned (fourV ((65535 - b0 * 257) * (65535 - b3 * 257) / 65535) ((65535 - b1 * 257) * (65535 - b3 * 257) / 65535) ((65535 - b2 * 257) * (65535 - b3 * 257) / 65535) 65535) ∧ Below w.heap.size w w' := by
  obtain ⟨f1, f2, f3, f4, f5, f6⟩ := hF
  have v3 : 0 ≤ 65535 - b3 * 257 ∧ 65535 - b3 * 257 ≤ 65535 := ⟨by omega, by omega⟩
  have p0 := mul_in (a := 65535 - b0 * 257) (A := 65535) ⟨by omega, by omega⟩ v3
  have q0 : IntKind.i64.wrap ((65535 - b0 * 257) * (65535 - b3 * 257)) = (65535 - b0 * 257) * (65535 - b3 * 257) := IntWalk.i64_in _ (by omega)
  have t0 : IntKind.i64.wrap ((65535 - b0 * 257) * (65535 - b3 * 257) / 65535) = (65535 - b0 * 257) * (65535 - b3 * 257) / 65535 := IntWalk.i64_in _ (by omega)
  have p1 := mul_in (a := 65535 - b1 * 257) (A := 65535) ⟨by omega, by omega⟩ v3
  have q1 : IntKind.i64.wrap ((65535 - b1 * 257) * (65535 - b3 * 257)) = (65535 - b1 * 257) * (65535 - b3 * 257) := IntWalk.i64_in _ (by omega)
  have t1 : IntKind.i64.wrap ((65535 - b1 * 257) * (65535 - b3 * 257) / 65535) = (65535 - b1 * 257) * (65535 - b3 * 257) / 65535 := IntWalk.i64_in _ (by omega)
  have p2 := mul_in (a := 65535 - b2 * 257) (A := 65535) ⟨by omega, by omega⟩ v3
  have q2 : IntKind.i64.wrap ((65535 - b2 * 257) * (65535 - b3 * 257)) = (65535 - b2 * 257) * (65535 - b3 * 257) := IntWalk.i64_in _ (by omega)
  have t2 : IntKind.i64.wrap ((65535 - b2 * 257) * (65535 - b3 * 257) / 65535) = (65535 - b2 * 257) * (65535 - b3 * 257) / 65535 := IntWalk.i64_in _ (by omega)
  have hg1 : g < w.heap.size + 1 := by omega
  have hg2 : g < w.heap.size + 1 + 1 := by omega
  have hg3 : g < w.heap.size + 1 + 1 + 1 := by omega
  have hn0 : g ≠ w.heap.size := by omega
  have hn1 : g ≠ w.heap.size + 1 := by omega
  have hn2 : g ≠ w.heap.size + 1 + 1 := by omega
  have hn3 : g ≠ w.heap.size + 1 + 1 + 1 := by omega
  go_enter Try.func58, Try.ntmps58
  go_wp2_with fail
  refine (size_any 5 _).mono ?_
  rintro e w1 ⟨rfl, rfl⟩
  rw [show sizeI 5 = 4 from rfl]
  go_wp2
  refine wp_loop_rounds 4 ?_
  rw [rounds_succ]
  go_wp2
  rw [rounds_succ]
  go_wp2
  rw [rounds_succ]
  go_wp2
  rw [rounds_succ]
  go_wp2
  refine bodyPost_ret (v := fourV ((65535 - b0 * 257) * (65535 - b3 * 257) / 65535) ((65535 - b1 * 257) * (65535 - b3 * 257) / 65535) ((65535 - b2 * 257) * (65535 - b3 * 257) / 65535) 65535) (by simp [results, Try.results58, go_sem]) rfl ⟨rfl, ?_⟩
  (repeat' (first | (with_reducible exact Below.refl _ _) | (with_reducible assumption) | (with_reducible refine drewN_below ?_ _) | (with_reducible refine Below.drew ?_) | (with_reducible refine Below.alloc ?_ ?_ _) | (with_reducible refine Below.setCell ?_ ?_ _) | (with_reducible refine below_via (by with_reducible assumption) ?_ ?_) | go_size))

theorem at_uniform (x0 y0 x1 y1 x y : Int) (g o n c : Nat) (b0 b1 b2 b3 b4 b5 b6 b7 : Int) (w : World) (hn : 8 ≤ n) (hg : g < w.heap.size)
    (h0 : w.cell? ⟨g, o, none⟩ = some (.int .u8 b0)) (h1 : w.cell? ⟨g, o + 1, none⟩ = some (.int .u8 b1)) (h2 : w.cell? ⟨g, o + 2, none⟩ = some (.int .u8 b2)) (h3 : w.cell? ⟨g, o + 3, none⟩ = some (.int .u8 b3))
    (h4 : w.cell? ⟨g, o + 4, none⟩ = some (.int .u8 b4)) (h5 : w.cell? ⟨g, o + 5, none⟩ = some (.int .u8 b5)) (h6 : w.cell? ⟨g, o + 6, none⟩ = some (.int .u8 b6)) (h7 : w.cell? ⟨g, o + 7, none⟩ = some (.int .u8 b7))
    (r0 : 0 ≤ b0 ∧ b0 ≤ 255) (r1 : 0 ≤ b1 ∧ b1 ≤ 255) (r2 : 0 ≤ b2 ∧ b2 ≤ 255) (r3 : 0 ≤ b3 ∧ b3 ≤ 255) (r4 : 0 ≤ b4 ∧ b4 ≤ 255) (r5 : 0 ≤ b5 ∧ b5 ≤ 255) (r6 : 0 ≤ b6 ∧ b6 ≤ 255) (r7 : 0 ≤ b7 ∧ b7 ≤ 255) :
    Calls Try.prog 58 #[imgV 6 x0 y0 x1 y1 (.slice (some ⟨g, o, none⟩) n c), iv x, iv y] w fun e w' => e = .returned (fourV (b0 * 256 + b1) (b2 * 256 + b3) (b4 * 256 + b5) (b6 * 256 + b7)) ∧ Below w.heap.size w w' := by
  have W := fun w' (hb : Below w.heap.size w w') => wide_any g o n c b0 b1 b2 b3 b4 b5 b6 b7 w' hn (Nat.lt_of_lt_of_le hg hb.size) ((hb.cell (p := ⟨g, o, none⟩) hg).trans h0) ((hb.cell (p := ⟨g, o + 1, none⟩) hg).trans h1) ((hb.cell (p := ⟨g, o + 2, none⟩) hg).trans h2) ((hb.cell (p := ⟨g, o + 3, none⟩) hg).trans h3)
    ((hb.cell (p := ⟨g, o + 4, none⟩) hg).trans h4) ((hb.cell (p := ⟨g, o + 5, none⟩) hg).trans h5) ((hb.cell (p := ⟨g, o + 6, none⟩) hg).trans h6) ((hb.cell (p := ⟨g, o + 7, none⟩) hg).trans h7) r0 r1 r2 r3 r4 r5 r6 r7
  have HW := hid W
  clear W h0 h1 h2 h3 h4 h5 h6 h7
  go_enter Try.func58, Try.ntmps58
  go_wp2_with fail
  obtain ⟨W1, hW1⟩ : ∃ W : World, W = (w.alloc (.cells #[iv 6, iv x0, iv y0, iv x1, iv y1, .slice (some ⟨g, o, none⟩) n c] 31)).alloc (.cells #[iv 0, iv 0, iv 0, iv 0] 25) := ⟨_, rfl⟩
  have B : Blk W1 (w.heap.size + 1) 25 #[iv 0, iv 0, iv 0, iv 0] := by rw [hW1]; exact (by simp : (w.alloc (.cells #[iv 6, iv x0, iv y0, iv x1, iv y1, .slice (some ⟨g, o, none⟩) n c] 31)).heap.size = w.heap.size + 1) ▸ Blk.new _ _ _
  have b1 : Below w.heap.size w W1 := by rw [hW1]; go_grown
  rw [← hW1]
  refine (HW.out W1 b1).mono ?_
  rintro e w2 ⟨rfl, b2⟩
  have cB := (B.keep b2).cells4
  have bw2 : Below w.heap.size w w2 := b1.trans (b2.mono b1.size)
  clear hW1 b1 b2 B
  go_wp2
  refine bodyPost_ret (v := fourV (b0 * 256 + b1) (b2 * 256 + b3) (b4 * 256 + b5) (b6 * 256 + b7)) (by simp [results, Try.results58, go_sem, cB]) rfl ⟨rfl, ?_⟩
  (repeat' (first | (with_reducible exact Below.refl _ _) | (with_reducible assumption) | (with_reducible refine drewN_below ?_ _) | (with_reducible refine Below.drew ?_) | (with_reducible refine Below.alloc ?_ ?_ _) | (with_reducible refine Below.setCell ?_ ?_ _) | (with_reducible refine below_via (by with_reducible assumption) ?_ ?_) | go_size))

end Go.Proofs.Ytlnfcjaempojgaa
