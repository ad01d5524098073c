/- Contract of spec.wide. -/
import Derived.Test.YtlnfcjaempojgaaA5
import Derived.BigRegion
namespace Go.Proofs.Ytlnfcjaempojgaa
open Go.RowKit

theorem ofInt_i64 (a : Nat) (ha : a < 9223372036854775808) : (BitVec.ofInt 64 (a : Int)).toNat = a := by
  rw [BitVec.ofInt_natCast, BitVec.toNat_ofNat]; exact Nat.mod_eq_of_lt (by omega)
theorem i64_or_nat (a b : Nat) (ha : a < 9223372036854775808) (hb : b < 9223372036854775808) : bits .or .i64 (a : Int) (b : Int) = ((a ||| b : Nat) : Int) := by
  have hx : a ||| b < 2 ^ 63 := Nat.or_lt_two_pow (by omega) (by omega)
  show IntKind.i64.wrap ((BitVec.ofInt 64 (a : Int) ||| BitVec.ofInt 64 (b : Int)).toNat : Int) = _
  rw [BitVec.toNat_or, ofInt_i64 a ha, ofInt_i64 b hb, IntKind.wrap_i64]
  omega
theorem or16 {a b : Int} (ha : 0 ≤ a ∧ a ≤ 255) (hb : 0 ≤ b ∧ b ≤ 255) : bits .or .i64 (a * 256) b = a * 256 + b := by
  obtain ⟨x, rfl⟩ := Int.eq_ofNat_of_zero_le ha.1
  obtain ⟨y, rfl⟩ := Int.eq_ofNat_of_zero_le hb.1
  have e : ((x : Int) * 256) = ((x * 256 : Nat) : Int) := by omega
  rw [e, i64_or_nat _ _ (by omega) (by omega)]
  have h := Nat.shiftLeft_add_eq_or_of_lt (i := 8) (b := y) (by omega) x
  rw [Nat.shiftLeft_eq] at h
  rw [show (2 : Nat) ^ 8 = 256 from rfl] at h
  rw [← h]
  omega

theorem wide_any (g o n c : Nat) (b0 b1 b2 b3 b4 b5 b6 b7 : Int) (w : World) (hn : 8 ≤ n) (hg : g < w.heap.size)
    (h0 : w.cell? ⟨g, o, none⟩ = some (.int .u8 b0)) (h1 : w.cell? ⟨g, o + 1, none⟩ = some (.int .u8 b1)) (h2 : w.cell? ⟨g, o + 2, none⟩ = some (.int .u8 b2)) (h3 : w.cell? ⟨g, o + 3, none⟩ = some (.int .u8 b3))
    (h4 : w.cell? ⟨g, o + 4, none⟩ = some (.int .u8 b4)) (h5 : w.cell? ⟨g, o + 5, none⟩ = some (.int .u8 b5)) (h6 : w.cell? ⟨g, o + 6, none⟩ = some (.int .u8 b6)) (h7 : w.cell? ⟨g, o + 7, none⟩ = some (.int .u8 b7))
    (r0 : 0 ≤ b0 ∧ b0 ≤ 255) (r1 : 0 ≤ b1 ∧ b1 ≤ 255) (r2 : 0 ≤ b2 ∧ b2 ≤ 255) (r3 : 0 ≤ b3 ∧ b3 ≤ 255) (r4 : 0 ≤ b4 ∧ b4 ≤ 255) (r5 : 0 ≤ b5 ∧ b5 ≤ 255) (r6 : 0 ≤ b6 ∧ b6 ≤ 255) (r7 : 0 ≤ b7 ∧ b7 ≤ 255) :
    Calls Try.prog 66 #[.slice (some ⟨g, o, none⟩) n c] w fun e w' => e = .returned (fourV (b0 * 256 + b1) (b2 * 256 + b3) (b4 * 256 + b5) (b6 * 256 + b7)) ∧ Below w.heap.size w w' := by
  go_enter Try.func66, Try.ntmps66
  go_wp2
  refine wp_loop_rounds 5 ?_
  rw [rounds_succ]
  go_wp2
  go_region
  go_wp2
  rw [rounds_succ]
  go_wp2
  go_region
  go_wp2
  rw [rounds_succ]
  go_wp2
  go_region
  go_wp2
  rw [rounds_succ]
  go_wp2
  go_region
  go_wp2
  rw [rounds_succ]
  go_wp2
  refine bodyPost_ret (v := fourV (bits .or .i64 (b0 * 256) b1) (bits .or .i64 (b2 * 256) b3) (bits .or .i64 (b4 * 256) b5) (bits .or .i64 (b6 * 256) b7)) (by simp [results, Try.results66, go_sem]) rfl ⟨?_, ?_⟩
  · rw [or16 r0 r1, or16 r2 r3, or16 r4 r5, or16 r6 r7]
  · go_grown

end Go.Proofs.Ytlnfcjaempojgaa
