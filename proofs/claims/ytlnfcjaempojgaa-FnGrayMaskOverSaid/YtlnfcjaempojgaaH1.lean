/- Contracts of spec.Composed and spec.Near (onto RGBA). -/
import Derived.Test.YtlnfcjaempojgaaA10
set_option linter.unusedVariables false
namespace Go.Proofs.Ytlnfcjaempojgaa
open Go.RowKit

theorem mul_in {a b A B : Int} (ha : 0 ≤ a ∧ a ≤ A) (hb : 0 ≤ b ∧ b ≤ B) : 0 ≤ a * b ∧ a * b ≤ A * B :=
  ⟨Int.mul_nonneg ha.1 hb.1, Int.mul_le_mul ha.2 hb.2 hb.1 (by omega)⟩

/-- Numbers of 16 bits. -/
def C16 (x : Int) : Prop := 0 ≤ x ∧ x ≤ 65535

structure CompF (d s a m : Int) : Prop where
  f1 : IntKind.i64.wrap (s * m) = s * m
  f2 : IntKind.i64.wrap (s * m * 65535) = s * m * 65535
  f3 : IntKind.i64.wrap (d * (4294836225 - a * m)) = d * (4294836225 - a * m)
  f4 : IntKind.i64.wrap (s * m * 65535 + d * (4294836225 - a * m)) = s * m * 65535 + d * (4294836225 - a * m)
theorem compF {d s a m : Int} (hd : C16 d) (hs : C16 s) (ha : C16 a) (hm : C16 m) : CompF d s a m := by
  have h1 := mul_in hs hm
  have h2 := mul_in ha hm
  have h3 := mul_in hd (B := 4294836225) (b := 4294836225 - a * m) ⟨by omega, by omega⟩
  exact ⟨IntWalk.i64_in _ (by omega), IntWalk.i64_in _ (by omega), IntWalk.i64_in _ (by omega), IntWalk.i64_in _ (by omega)⟩

set_option maxHeartbeats 1000000 in
theorem composed_over (d0 d1 d2 d3 s0 s1 s2 s3 m : Int) (w : World) (hd0 : C16 d0) (hd1 : C16 d1) (hd2 : C16 d2) (hd3 : C16 d3) (hs0 : C16 s0) (hs1 : C16 s1) (hs2 : C16 s2) (hs3 : C16 s3) (hm : C16 m) :
    Calls Try.prog 59 #[fourV d0 d1 d2 d3, fourV s0 s1 s2 s3, iv m, iv 0] w fun e w' =>
      e = .returned (fourV (s0 * m * 65535 + d0 * (4294836225 - s3 * m)) (s1 * m * 65535 + d1 * (4294836225 - s3 * m)) (s2 * m * 65535 + d2 * (4294836225 - s3 * m)) (s3 * m * 65535 + d3 * (4294836225 - s3 * m))) ∧ Below w.heap.size w w' := by
  obtain ⟨a1, a2, a3, a4⟩ := compF hd0 hs0 hs3 hm
  obtain ⟨b1, b2, b3, b4⟩ := compF hd1 hs1 hs3 hm
  obtain ⟨c1, c2, c3, c4⟩ := compF hd2 hs2 hs3 hm
  obtain ⟨e1, e2, e3, e4⟩ := compF hd3 hs3 hs3 hm
  have q : IntKind.i64.wrap (4294836225 - s3 * m) = 4294836225 - s3 * m := by
    have := mul_in hs3 hm
    exact IntWalk.i64_in _ (by omega)
  clear hd0 hd1 hd2 hd3 hs0 hs1 hs2 hs3 hm
  go_enter Try.func59, Try.ntmps59
  go_wp2
  refine wp_loop_rounds 5 ?_
  rw [rounds_succ]
  go_wp2
  go_region
  go_wp2
  rw [rounds_succ]
  go_wp2
  go_region
  go_wp2
  rw [rounds_succ]
  go_wp2
  go_region
  go_wp2
  rw [rounds_succ]
  go_wp2
  go_region
  go_wp2
  rw [rounds_succ]
  go_wp2
  refine bodyPost_ret (v := fourV (s0 * m * 65535 + d0 * (4294836225 - s3 * m)) (s1 * m * 65535 + d1 * (4294836225 - s3 * m)) (s2 * m * 65535 + d2 * (4294836225 - s3 * m)) (s3 * m * 65535 + d3 * (4294836225 - s3 * m))) (by simp [results, Try.results59, go_sem]) rfl ⟨rfl, ?_⟩
  (repeat' (first | (with_reducible exact Below.refl _ _) | (with_reducible assumption) | (with_reducible refine drewN_below ?_ _) | (with_reducible refine Below.drew ?_) | (with_reducible refine Below.alloc ?_ ?_ _) | (with_reducible refine Below.setCell ?_ ?_ _) | (with_reducible refine below_via (by with_reducible assumption) ?_ ?_) | go_size))

set_option maxHeartbeats 1000000 in
theorem composed_src (d0 d1 d2 d3 s0 s1 s2 s3 m : Int) (w : World) (hs0 : C16 s0) (hs1 : C16 s1) (hs2 : C16 s2) (hs3 : C16 s3) (hm : C16 m) :
    Calls Try.prog 59 #[fourV d0 d1 d2 d3, fourV s0 s1 s2 s3, iv m, iv 1] w fun e w' =>
      e = .returned (fourV (s0 * m * 65535) (s1 * m * 65535) (s2 * m * 65535) (s3 * m * 65535)) ∧ Below w.heap.size w w' := by
  have z : C16 0 := ⟨by omega, by omega⟩
  obtain ⟨a1, a2, _, _⟩ := compF z hs0 hs3 hm
  obtain ⟨b1, b2, _, _⟩ := compF z hs1 hs3 hm
  obtain ⟨c1, c2, _, _⟩ := compF z hs2 hs3 hm
  obtain ⟨e1, e2, _, _⟩ := compF z hs3 hs3 hm
  clear hs0 hs1 hs2 hs3 hm z
  go_enter Try.func59, Try.ntmps59
  go_wp2
  refine wp_loop_rounds 5 ?_
  rw [rounds_succ]
  go_wp2
  rw [rounds_succ]
  go_wp2
  rw [rounds_succ]
  go_wp2
  rw [rounds_succ]
  go_wp2
  rw [rounds_succ]
  go_wp2
  refine bodyPost_ret (v := fourV (s0 * m * 65535) (s1 * m * 65535) (s2 * m * 65535) (s3 * m * 65535)) (by simp [results, Try.results59, go_sem]) rfl ⟨rfl, ?_⟩
  (repeat' (first | (with_reducible exact Below.refl _ _) | (with_reducible assumption) | (with_reducible refine drewN_below ?_ _) | (with_reducible refine Below.drew ?_) | (with_reducible refine Below.alloc ?_ ?_ _) | (with_reducible refine Below.setCell ?_ ?_ _) | (with_reducible refine below_via (by with_reducible assumption) ?_ ?_) | go_size))

/-- One byte of a pixel of RGBA is near to a color. -/
def NearB (b x : Int) : Prop := b * 257 * 65535 * 65535 - x ≤ 1655659364700 ∧ x - b * 257 * 65535 * 65535 ≤ 1655659364700

theorem near_rgba (g o n c : Nat) (b0 b1 b2 b3 w0 w1 w2 w3 : Int) (w : World) (hn : 4 ≤ n) (hg : g < w.heap.size)
    (h0 : w.cell? ⟨g, o, none⟩ = some (.int .u8 b0)) (h1 : w.cell? ⟨g, o + 1, none⟩ = some (.int .u8 b1)) (h2 : w.cell? ⟨g, o + 2, none⟩ = some (.int .u8 b2)) (h3 : w.cell? ⟨g, o + 3, none⟩ = some (.int .u8 b3))
    (r0 : 0 ≤ b0 ∧ b0 ≤ 255) (r1 : 0 ≤ b1 ∧ b1 ≤ 255) (r2 : 0 ≤ b2 ∧ b2 ≤ 255) (r3 : 0 ≤ b3 ∧ b3 ≤ 255) (n0 : NearB b0 w0) (n1 : NearB b1 w1) (n2 : NearB b2 w2) (n3 : NearB b3 w3) :
    Calls Try.prog 60 #[iv 0, .slice (some ⟨g, o, none⟩) n c, fourV w0 w1 w2 w3, iv 150] w fun e w' => e = .returned (.bool true) ∧ Below w.heap.size w w' := by
  unfold NearB at n0 n1 n2 n3
  go_enter Try.func60, Try.ntmps60
  go_wp2
  refine wp_loop_rounds 5 ?_
  rw [rounds_succ]
  go_wp2
  rw [rounds_succ]
  go_wp2
  rw [rounds_succ]
  go_wp2
  rw [rounds_succ]
  go_wp2
  rw [rounds_succ]
  go_wp2
  go_loopw [45] (fun i wr => ∃ k m : Nat, k ≤ 4 ∧ i = .int .i64 k ∧ wr = ((w.alloc (.cells #[iv w0, iv w1, iv w2, iv w3] 25)).alloc (.cells #[iv (b0 * 257), iv (b1 * 257), iv (b2 * 257), iv (b3 * 257)] 25)).drewN m) (fun i _ => 4 - (intOf i).toNat)
  case atStart => exact ⟨0, 0, by omega, rfl, rfl⟩
  case round =>
    obtain ⟨k, m, hk, rfl, rfl⟩ := hrel
    by_cases hlt : k < 4
    · have hk4 : k = 0 ∨ k = 1 ∨ k = 2 ∨ k = 3 := by omega
      rcases hk4 with rfl | rfl | rfl | rfl
      all_goals
        go_wp2
        go_quiet (fail)
        go_wp2
      all_goals
        first
          | exact ⟨⟨1, _, by omega, rfl, rfl⟩, by simp [intOf]⟩
          | exact ⟨⟨2, _, by omega, rfl, rfl⟩, by simp [intOf]⟩
          | exact ⟨⟨3, _, by omega, rfl, rfl⟩, by simp [intOf]⟩
          | exact ⟨⟨4, _, by omega, rfl, rfl⟩, by simp [intOf]⟩
    · go_wp2
      go_returns
      exact ⟨rfl, by (repeat' (first | (with_reducible exact Below.refl _ _) | (with_reducible assumption) | (with_reducible refine drewN_below ?_ _) | (with_reducible refine Below.drew ?_) | (with_reducible refine Below.alloc ?_ ?_ _) | (with_reducible refine Below.setCell ?_ ?_ _) | (with_reducible refine below_via (by with_reducible assumption) ?_ ?_) | go_size))⟩

end Go.Proofs.Ytlnfcjaempojgaa
