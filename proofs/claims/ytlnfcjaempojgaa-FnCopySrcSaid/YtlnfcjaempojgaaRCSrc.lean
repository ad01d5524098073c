/- Contract of drawCopySrc. Written by mk_CS.py. -/
import Derived.Test.YtlnfcjaempojgaaU1
import Derived.Test.YtlnfcjaempojgaaI3
import Derived.Test.YtlnfcjaempojgaaK3
set_option linter.unusedVariables false
namespace Go.Proofs.Ytlnfcjaempojgaa
open Go.RowKit

/-- What Src makes of a pixel of RGBA. -/
def copyP (D S : Nat → Int) (k : Nat) : Int := S k

set_option maxRecDepth 20000 in
set_option maxHeartbeats 4000000 in
theorem copysrc_fw (gp cap n : Nat) (d1 d2 : Int) (Wd H : Nat) (f : Nat → Int) (gq scap m : Nat) (s1 s2 : Int) (Ws Hs : Nat) (fs : Nat → Int) (ca ra ce re ua va pd qd bN : Nat) (w : World)
    (hrow : PixRow w gp cap n f) (hsrc : PixRow w gq scap m fs) (hcap : n ≤ cap ∧ cap ≤ 9223372036854775807) (hscap : m ≤ scap ∧ scap ≤ 9223372036854775807) (hn : n = 4 * (H * Wd)) (hm : m = 4 * (Hs * Ws)) (HL : Wd ≤ 128 ∧ H ≤ 128 ∧ Ws ≤ 128 ∧ Hs ≤ 128)
    (hd : -64 ≤ d1 ∧ d1 ≤ 64 ∧ -64 ≤ d2 ∧ d2 ≤ 64) (hs : -64 ≤ s1 ∧ s1 ≤ 64 ∧ -64 ≤ s2 ∧ s2 ≤ 64)
    (hne : gp ≠ gq) (h0 : ca < ce ∧ ra < re) (h1 : ce ≤ Wd) (h2 : re ≤ H) (h3 : ua + (ce - ca) ≤ Ws) (h4 : va + (re - ra) ≤ Hs) (hpd : pd = pos Wd ra ca 0) (hqd : qd = pos Ws va ua 0) (hbN : bN = 4 * (ce - ca)) (hdir : ¬ d2 + (ra : Int) > s2 + va) :
    Calls Try.prog 79 #[.slice (some ⟨gp, pd, none⟩) (n - pd) (cap - pd), iv (4 * (Wd : Int)), rcV ⟨d1 + ca, d2 + ra, d1 + ce, d2 + re⟩, .slice (some ⟨gq, qd, none⟩) (m - qd) (scap - qd), iv (4 * (Ws : Int)), ptV (s1 + ua) (s2 + va), .int .i64 (bN : Int)] w fun e w' =>
      (∃ v, e = .returned v) ∧ Only [gp] w w' ∧ ∃ f', PixRow w' gp cap n f' ∧ Painted Wd f (fun r c => copyP (fun k => f (pos Wd r c k)) (fun j => fs (4 * ((va + (r - ra)) * Ws + (ua + (c - ca))) + j))) (inPart ca ra ce re) f' := by
  have HROW := hid hrow; have SROW := hid hsrc
  obtain ⟨nw, hnw⟩ : ∃ nw : Nat → Nat → Nat → Int, nw = fun r c => copyP (fun k => f (pos Wd r c k)) (fun j => fs (4 * ((va + (r - ra)) * Ws + (ua + (c - ca))) + j)) := ⟨_, rfl⟩
  rw [← hnw]
  have HNW := hid hnw
  obtain ⟨wN, hwN⟩ : ∃ wN, wN = ce - ca := ⟨_, rfl⟩
  obtain ⟨hN, hhN⟩ : ∃ hN, hN = re - ra := ⟨_, rfl⟩
  have DY : Hid (∀ W, Calls Try.prog 103 #[rcV ⟨d1 + ca, d2 + ra, d1 + ce, d2 + re⟩] W fun e w' => e = .returned (.int .i64 (hN : Int)) ∧ Below W.heap.size W w') := fun W => by
    have := dy_any (d1 + ca) (d2 + ra) (d1 + ce) (d2 + re) W (by omega)
    rwa [show d2 + (re : Int) - (d2 + ra) = (hN : Int) by omega] at this
  have hwl : wN ≤ 128 ∧ hN ≤ 128 ∧ 0 < wN ∧ 0 < hN := ⟨by omega, by omega, by omega, by omega⟩
  have hb4 : bN = 4 * wN := by omega
  have HWN := hid hwN; have HHN := hid hhN; have HPD := hid hpd; have HQD := hid hqd; have HBN := hid hb4; have HNN := hid hn; have HMM := hid hm
  have hdir' : ¬ s2 + (va : Int) < d2 + (ra : Int) := by omega
  clear hrow hsrc hnw hwN hhN hpd hqd hb4 hbN hn hm hdir
  go_enter Try.func79, Try.ntmps79
  go_wp2_with fail
  obtain ⟨W0, hW0⟩ : ∃ W : World, W = ((w.alloc (.cells #[iv (d1 + ca), iv (d2 + ra), iv (d1 + ce), iv (d2 + re)] 73)).alloc (.cells #[iv (s1 + ua), iv (s2 + va)] 71)) := ⟨_, rfl⟩
  rw [← hW0]
  have B0 : Hid (Blk W0 (w.heap.size) 73 #[iv (d1 + ca), iv (d2 + ra), iv (d1 + ce), iv (d2 + re)]) := by rw [hW0]; exact Blk.alloc (Blk.new_at (W := w) (t := 73) (cs := #[iv (d1 + ca), iv (d2 + ra), iv (d1 + ce), iv (d2 + re)]) (by simp)) _
  have B1 : Hid (Blk W0 (w.heap.size + 1) 71 #[iv (s1 + ua), iv (s2 + va)]) := by rw [hW0]; exact Blk.new_at (W := (w.alloc (.cells #[iv (d1 + ca), iv (d2 + ra), iv (d1 + ce), iv (d2 + re)] 73))) (t := 71) (cs := #[iv (s1 + ua), iv (s2 + va)]) (by simp)
  have bW0 : Below w.heap.size w W0 := by rw [hW0]; go_grown
  have sW0 : W0.heap.size = w.heap.size + 2 := by rw [hW0]; simp
  have SW0 := hid sW0
  have zW0 : w.heap.size + 2 ≤ W0.heap.size := by omega
  clear sW0 hW0
  refine (DY.out _).mono ?_
  rintro e W3 ⟨rfl, hb3⟩
  have bw3 : Below w.heap.size w W3 := bW0.trans (hb3.mono (by omega))
  have cB := (B0.out.keep hb3).cells4.1
  have cP := (B1.out.keep hb3).cells2.1
  have lB := (B0.out.keep hb3).lt
  have lP := (B1.out.keep hb3).lt
  have HBW := hid bw3
  have SR := hid (SROW.out.keep bw3)
  have HROW := hid (HROW.out.keep bw3)
  clear hb3 bw3 bW0 B0 B1
  go_wp2_with fail
  clear cB cP lB lP
  go_loopw [14, 15, 18] (fun s14 s15 s18 wr => ∃ t : Nat, t ≤ hN ∧ s14 = .int .i64 ((4 * (t * Wd) : Nat) : Int) ∧ s15 = .int .i64 ((4 * (t * Ws) : Nat) : Int) ∧ s18 = .int .i64 ((hN - t : Nat) : Int) ∧ Only [gp] W3 wr ∧ ∃ f', PixRow wr gp cap n f' ∧
    Painted Wd f nw (fun r' c' => inPart ca ra ce re r' c' ∧ r' < ra + t) f') (fun _ _ s18 _ => (intOf s18).toNat)
  case atStart =>
    refine ⟨0, by omega, by simp, by simp, rfl, Only.refl _ _, f, HROW.out, Painted.start _ _ _ fun r c h => ?_⟩
    have h1 := h.1.1
    omega
  case round =>
    obtain ⟨t, ht, rfl, rfl, rfl, hon, f', hrow, hpt⟩ := hrel
    by_cases hlt : t < hN
    case neg =>
      obtain rfl : t = hN := by omega
      go_wp2_with fail
      go_end0
      exact ⟨⟨_, rfl⟩, (Only.of_below HBW.out).trans hon, f', hrow, hpt.congr fun r' c' _ => ⟨fun h => h.1, fun h => ⟨h, by have := h.2.1; have := HHN.out; omega⟩⟩⟩
    obtain ⟨left, hleft⟩ : ∃ x, x = hN - t := ⟨_, rfl⟩
    obtain ⟨a0, ha0⟩ : ∃ x, x = 4 * (t * Wd) := ⟨_, rfl⟩
    obtain ⟨b0, hb0⟩ : ∃ x, x = 4 * (t * Ws) := ⟨_, rfl⟩
    rw [← hleft, ← ha0, ← hb0]
    have hl0 : (0 : Int) < (left : Int) := by omega
    have hl1 : left ≤ 128 := by omega
    have hrr : ra + t < re := by have := HHN.out; omega
    have hvv : va + t < Hs := by have := HHN.out; omega
    have hpn : pd + a0 + bN ≤ n ∧ a0 + 4 * Wd ≤ 131072 := by
      have h1 := Nat.mul_le_mul_right Wd (show ra + t + 1 ≤ H by omega)
      have h5 := Nat.mul_le_mul (show t + 1 ≤ 128 by omega) HL.1
      rw [Nat.add_mul, Nat.add_mul, Nat.one_mul] at h1
      rw [Nat.add_mul, Nat.one_mul] at h5
      have h2 := HNN.out; have h3 := HWN.out; have h6 := HPD.out; have h7 := HBN.out
      unfold pos at h6
      omega
    have hqm : qd + b0 + bN ≤ m ∧ b0 + 4 * Ws ≤ 131072 := by
      have h1 := Nat.mul_le_mul_right Ws (show va + t + 1 ≤ Hs by omega)
      have h5 := Nat.mul_le_mul (show t + 1 ≤ 128 by omega) HL.2.2.1
      rw [Nat.add_mul, Nat.add_mul, Nat.one_mul] at h1
      rw [Nat.add_mul, Nat.one_mul] at h5
      have h2 := HMM.out; have h3 := HWN.out; have h6 := HQD.out; have h7 := HBN.out
      unfold pos at h6
      omega
    have hbn : bN ≤ 512 ∧ 0 < bN := by have := HBN.out; omega
    have e11 : IntKind.i64.wrap ((a0 : Int) + 4 * (Wd : Int)) = ((a0 + 4 * Wd : Nat) : Int) := by rw [IntWalk.i64_in _ (by omega)]; omega
    have e12 : IntKind.i64.wrap ((b0 : Int) + 4 * (Ws : Int)) = ((b0 + 4 * Ws : Nat) : Int) := by rw [IntWalk.i64_in _ (by omega)]; omega
    have HLEFT := hid hleft; have HA0 := hid ha0; have HB0 := hid hb0
    have HON := hid hon; have HROW' := hid hrow; have HPT := hid hpt
    clear hleft ha0 hb0 hon hrow hpt
    go_wp2_with fail
    refine Plan.wp_region_steps 12 [] [.slice (some ⟨gp, pd, none⟩) (n - pd) (cap - pd), .int .i64 (a0 : Int), .int .i64 (a0 : Int), .int .i64 (bN : Int), .int .i64 ((a0 : Int) + (bN : Int)), .slice (some ⟨gp, pd + a0, none⟩) bN (cap - pd - a0), .slice (some ⟨gq, qd, none⟩) (m - qd) (scap - qd), .int .i64 (b0 : Int), .int .i64 (b0 : Int), .int .i64 (bN : Int), .int .i64 ((b0 : Int) + (bN : Int)), .slice (some ⟨gq, qd + b0, none⟩) bN (scap - qd - b0)] [] (by kernel_rfl) (by kernel_rfl) (fun _ _ _ _ _ h => h) ?_ ?_
    · refine ⟨?_, ?_, ?_, ?_, ?_, ?_, ?_, ?_, ?_, ?_, ?_, ?_, trivial⟩
      · -- 0: Op.move (Operand.tmp 0)
        intro a W hold hdep hb
        have e0 : a.tmps[0]?.getD undef = .slice (some ⟨gp, pd, none⟩) (n - pd) (cap - pd) := Plan.ev (hold 0 (by kernel_rfl))
        clear hold hdep
        exact Plan.step_const rfl rfl (by go_simp <;> exact IntWalk.i64_in _ (by omega))
      · -- 1: Op.move (Operand.tmp 14)
        intro a W hold hdep hb
        have e14 : a.tmps[14]?.getD undef = .int .i64 (a0 : Int) := Plan.ev (hold 14 (by kernel_rfl))
        clear hold hdep
        exact Plan.step_const rfl rfl (by go_simp <;> exact IntWalk.i64_in _ (by omega))
      · -- 2: Op.move (Operand.tmp 14)
        intro a W hold hdep hb
        have e14 : a.tmps[14]?.getD undef = .int .i64 (a0 : Int) := Plan.ev (hold 14 (by kernel_rfl))
        clear hold hdep
        exact Plan.step_const rfl rfl (by go_simp <;> exact IntWalk.i64_in _ (by omega))
      · -- 3: Op.move (Operand.tmp 6)
        intro a W hold hdep hb
        have e6 : a.tmps[6]?.getD undef = .int .i64 (bN : Int) := Plan.ev (hold 6 (by kernel_rfl))
        clear hold hdep
        exact Plan.step_const rfl rfl (by go_simp <;> exact IntWalk.i64_in _ (by omega))
      · -- 4: Op.binOp BinOp.add 3 (Operand.tmp 47) (Operand.tmp 48) 3
        intro a W hold hdep hb
        have e47 : a.tmps[47]?.getD undef = .int .i64 (a0 : Int) := Plan.ev (Plan.dep_const (by rfl) (hdep 2 (by kernel_rfl)))
        have e48 : a.tmps[48]?.getD undef = .int .i64 (bN : Int) := Plan.ev (Plan.dep_const (by rfl) (hdep 3 (by kernel_rfl)))
        clear hold hdep
        exact Plan.step_const rfl rfl (by go_simp <;> exact IntWalk.i64_in _ (by omega))
      · -- 5: Op.slice 22 (Operand.tmp 45) (some (Operand.tmp 46)) (some (Operand.tm
        intro a W hold hdep hb
        have e45 : a.tmps[45]?.getD undef = .slice (some ⟨gp, pd, none⟩) (n - pd) (cap - pd) := Plan.ev (Plan.dep_const (by rfl) (hdep 0 (by kernel_rfl)))
        have e46 : a.tmps[46]?.getD undef = .int .i64 (a0 : Int) := Plan.ev (Plan.dep_const (by rfl) (hdep 1 (by kernel_rfl)))
        have e49 : a.tmps[49]?.getD undef = .int .i64 ((a0 : Int) + (bN : Int)) := Plan.ev (Plan.dep_const (by rfl) (hdep 4 (by kernel_rfl)))
        have tn := (show ((a0 : Int) + (bN : Int)).toNat = a0 + bN by omega)
        have tp := (show (0 : Int) ≤ (a0 : Int) + (bN : Int) by omega)
        have tq := (show (a0 : Int) + (bN : Int) ≤ ((cap - pd : Nat) : Int) by omega)
        have tr := (show ¬ (cap - pd = a0) by omega)
        clear hold hdep
        exact Plan.step_const rfl rfl (by go_simp <;> exact IntWalk.i64_in _ (by omega))
      · -- 6: Op.move (Operand.tmp 3)
        intro a W hold hdep hb
        have e3 : a.tmps[3]?.getD undef = .slice (some ⟨gq, qd, none⟩) (m - qd) (scap - qd) := Plan.ev (hold 3 (by kernel_rfl))
        clear hold hdep
        exact Plan.step_const rfl rfl (by go_simp <;> exact IntWalk.i64_in _ (by omega))
      · -- 7: Op.move (Operand.tmp 15)
        intro a W hold hdep hb
        have e15 : a.tmps[15]?.getD undef = .int .i64 (b0 : Int) := Plan.ev (hold 15 (by kernel_rfl))
        clear hold hdep
        exact Plan.step_const rfl rfl (by go_simp <;> exact IntWalk.i64_in _ (by omega))
      · -- 8: Op.move (Operand.tmp 15)
        intro a W hold hdep hb
        have e15 : a.tmps[15]?.getD undef = .int .i64 (b0 : Int) := Plan.ev (hold 15 (by kernel_rfl))
        clear hold hdep
        exact Plan.step_const rfl rfl (by go_simp <;> exact IntWalk.i64_in _ (by omega))
      · -- 9: Op.move (Operand.tmp 6)
        intro a W hold hdep hb
        have e6 : a.tmps[6]?.getD undef = .int .i64 (bN : Int) := Plan.ev (hold 6 (by kernel_rfl))
        clear hold hdep
        exact Plan.step_const rfl rfl (by go_simp <;> exact IntWalk.i64_in _ (by omega))
      · -- 10: Op.binOp BinOp.add 3 (Operand.tmp 53) (Operand.tmp 54) 3
        intro a W hold hdep hb
        have e53 : a.tmps[53]?.getD undef = .int .i64 (b0 : Int) := Plan.ev (Plan.dep_const (by rfl) (hdep 8 (by kernel_rfl)))
        have e54 : a.tmps[54]?.getD undef = .int .i64 (bN : Int) := Plan.ev (Plan.dep_const (by rfl) (hdep 9 (by kernel_rfl)))
        clear hold hdep
        exact Plan.step_const rfl rfl (by go_simp <;> exact IntWalk.i64_in _ (by omega))
      · -- 11: Op.slice 22 (Operand.tmp 51) (some (Operand.tmp 52)) (some (Operand.tm
        intro a W hold hdep hb
        have e51 : a.tmps[51]?.getD undef = .slice (some ⟨gq, qd, none⟩) (m - qd) (scap - qd) := Plan.ev (Plan.dep_const (by rfl) (hdep 6 (by kernel_rfl)))
        have e52 : a.tmps[52]?.getD undef = .int .i64 (b0 : Int) := Plan.ev (Plan.dep_const (by rfl) (hdep 7 (by kernel_rfl)))
        have e55 : a.tmps[55]?.getD undef = .int .i64 ((b0 : Int) + (bN : Int)) := Plan.ev (Plan.dep_const (by rfl) (hdep 10 (by kernel_rfl)))
        have tn := (show ((b0 : Int) + (bN : Int)).toNat = b0 + bN by omega)
        have tp := (show (0 : Int) ≤ (b0 : Int) + (bN : Int) by omega)
        have tq := (show (b0 : Int) + (bN : Int) ≤ ((scap - qd : Nat) : Int) by omega)
        have tr := (show ¬ (scap - qd = b0) by omega)
        clear hold hdep
        exact Plan.step_const rfl rfl (by go_simp <;> exact IntWalk.i64_in _ (by omega))
    intro vs W4 lo hi hD
    change wpList _ _ _ _ { tmps := (Array.setIfInBounds (Array.setIfInBounds (Array.setIfInBounds (Array.setIfInBounds (Array.setIfInBounds (Array.setIfInBounds (Array.setIfInBounds (Array.setIfInBounds (Array.setIfInBounds (Array.setIfInBounds (Array.setIfInBounds (Array.setIfInBounds _ 45 (vs 0)) 46 (vs 1)) 47 (vs 2)) 48 (vs 3)) 49 (vs 4)) 50 (vs 5)) 51 (vs 6)) 52 (vs 7)) 53 (vs 8)) 54 (vs 9)) 55 (vs 10)) 56 (vs 11)), defers := _ } _
    simp only [Plan.putAll_zero, List.setIfInBounds_toArray, List.set_cons_zero, List.set_cons_succ, List.drop_succ_cons, List.drop_zero]
    have p0 : vs 0 = .slice (some ⟨gp, pd, none⟩) (n - pd) (cap - pd) := (hD.facts 0 (by omega)).2.2.2
    have p1 : vs 1 = .int .i64 (a0 : Int) := (hD.facts 1 (by omega)).2.2.2
    have p2 : vs 2 = .int .i64 (a0 : Int) := (hD.facts 2 (by omega)).2.2.2
    have p3 : vs 3 = .int .i64 (bN : Int) := (hD.facts 3 (by omega)).2.2.2
    have p4 : vs 4 = .int .i64 ((a0 : Int) + (bN : Int)) := (hD.facts 4 (by omega)).2.2.2
    have p5 : vs 5 = .slice (some ⟨gp, pd + a0, none⟩) bN (cap - pd - a0) := (hD.facts 5 (by omega)).2.2.2
    have p6 : vs 6 = .slice (some ⟨gq, qd, none⟩) (m - qd) (scap - qd) := (hD.facts 6 (by omega)).2.2.2
    have p7 : vs 7 = .int .i64 (b0 : Int) := (hD.facts 7 (by omega)).2.2.2
    have p8 : vs 8 = .int .i64 (b0 : Int) := (hD.facts 8 (by omega)).2.2.2
    have p9 : vs 9 = .int .i64 (bN : Int) := (hD.facts 9 (by omega)).2.2.2
    have p10 : vs 10 = .int .i64 ((b0 : Int) + (bN : Int)) := (hD.facts 10 (by omega)).2.2.2
    have p11 : vs 11 = .slice (some ⟨gq, qd + b0, none⟩) bN (scap - qd - b0) := (hD.facts 11 (by omega)).2.2.2
    simp only [p0, p1, p2, p3, p4, p5, p6, p7, p8, p9, p10, p11]
    clear p0 p1 p2 p3 p4 p5 p6 p7 p8 p9 p10 p11
    have hW4 := hD.bel
    clear hD  lo hi vs
    have hs4 : Below wr.heap.size wr W4 := ⟨hW4.os, hW4.tape, hW4.output, hW4.size, hW4.block⟩
    have hrow4 := HROW'.out.keep hs4
    have sr := (SR.out.of_block (HON.out.block gq SR.out.lt (by simp; exact Ne.symm hne))).keep hs4
    have HON4 := hid (HON.out.trans (Only.of_below hs4))
    clear hW4 hs4 HON HROW'
    refine wpList_copy_pix rfl (.tmp 50) (.tmp 56) 22 22 rfl 5 Try.underlying22 (by kernel_rfl) gp (pd + a0) bN _ gq (qd + b0) _ rfl rfl cap n f' (fun j => fs (qd + b0 + j)) hrow4 (by omega) (fun j hj => sr.cell (by omega)) ?_
    intro W5 u hO5 hrow5
    have HON5 := hid (HON4.out.trans hO5)
    have HROW5 := hid hrow5
    clear hO5 hrow5 HON4 hrow4 sr
    go_wp2_with fail
    refine ⟨⟨t + 1, by omega, ?_, ?_, ?_, HON5.out, _, HROW5.out, ?_⟩, ?_⟩
    · rw [show 4 * ((t + 1) * Wd) = a0 + 4 * Wd by rw [HA0.out, Nat.add_mul]; omega]; first | rfl | (congr 1; omega)
    · rw [show 4 * ((t + 1) * Ws) = b0 + 4 * Ws by rw [HB0.out, Nat.add_mul]; omega]; first | rfl | (congr 1; omega)
    · have := HLEFT.out; congr 1; omega
    · rw [HBN.out]
      refine HPT.out.span (r0 := ra + t) (ca := ca) (by have := HWN.out; omega) ?_ (fun k j hk hj => ?_) fun r' c' hc' => ⟨fun h => ?_, fun h => ?_⟩
      · rw [HPD.out, HA0.out]; unfold pos; rw [Nat.add_mul]; omega
      · rw [HNW.out]
        show fs (qd + b0 + (4 * k + j)) = fs (4 * ((va + (ra + t - ra)) * Ws + (ua + (ca + k - ca))) + j)
        rw [show ra + t - ra = t by omega, show ca + k - ca = k by omega, HQD.out, HB0.out]
        unfold pos
        rw [Nat.add_mul]
        congr 1
        omega
      · have := HWN.out; have := HHN.out
        rcases h with ⟨h1, h2⟩ | ⟨rfl, h1, h2⟩
        · exact ⟨h1, by omega⟩
        · exact ⟨⟨by omega, by omega, by omega, by omega⟩, by omega⟩
      · have := HWN.out; have := HHN.out
        obtain ⟨⟨h1, h2, h3, h4⟩, h5⟩ := h
        by_cases e : r' = ra + t
        · exact Or.inr ⟨e, h3, by omega⟩
        · exact Or.inl ⟨⟨h1, h2, h3, h4⟩, by omega⟩
    · simp only [intOf]; omega

set_option maxRecDepth 20000 in
set_option maxHeartbeats 4000000 in
theorem copysrc_bw (gp cap n : Nat) (d1 d2 : Int) (Wd H : Nat) (f : Nat → Int) (gq scap m : Nat) (s1 s2 : Int) (Ws Hs : Nat) (fs : Nat → Int) (ca ra ce re ua va pd qd bN : Nat) (w : World)
    (hrow : PixRow w gp cap n f) (hsrc : PixRow w gq scap m fs) (hcap : n ≤ cap ∧ cap ≤ 9223372036854775807) (hscap : m ≤ scap ∧ scap ≤ 9223372036854775807) (hn : n = 4 * (H * Wd)) (hm : m = 4 * (Hs * Ws)) (HL : Wd ≤ 128 ∧ H ≤ 128 ∧ Ws ≤ 128 ∧ Hs ≤ 128)
    (hd : -64 ≤ d1 ∧ d1 ≤ 64 ∧ -64 ≤ d2 ∧ d2 ≤ 64) (hs : -64 ≤ s1 ∧ s1 ≤ 64 ∧ -64 ≤ s2 ∧ s2 ≤ 64)
    (hne : gp ≠ gq) (h0 : ca < ce ∧ ra < re) (h1 : ce ≤ Wd) (h2 : re ≤ H) (h3 : ua + (ce - ca) ≤ Ws) (h4 : va + (re - ra) ≤ Hs) (hpd : pd = pos Wd ra ca 0) (hqd : qd = pos Ws va ua 0) (hbN : bN = 4 * (ce - ca)) (hdir : d2 + (ra : Int) > s2 + va) :
    Calls Try.prog 79 #[.slice (some ⟨gp, pd, none⟩) (n - pd) (cap - pd), iv (4 * (Wd : Int)), rcV ⟨d1 + ca, d2 + ra, d1 + ce, d2 + re⟩, .slice (some ⟨gq, qd, none⟩) (m - qd) (scap - qd), iv (4 * (Ws : Int)), ptV (s1 + ua) (s2 + va), .int .i64 (bN : Int)] w fun e w' =>
      (∃ v, e = .returned v) ∧ Only [gp] w w' ∧ ∃ f', PixRow w' gp cap n f' ∧ Painted Wd f (fun r c => copyP (fun k => f (pos Wd r c k)) (fun j => fs (4 * ((va + (r - ra)) * Ws + (ua + (c - ca))) + j))) (inPart ca ra ce re) f' := by
  have HROW := hid hrow; have SROW := hid hsrc
  obtain ⟨nw, hnw⟩ : ∃ nw : Nat → Nat → Nat → Int, nw = fun r c => copyP (fun k => f (pos Wd r c k)) (fun j => fs (4 * ((va + (r - ra)) * Ws + (ua + (c - ca))) + j)) := ⟨_, rfl⟩
  rw [← hnw]
  have HNW := hid hnw
  obtain ⟨wN, hwN⟩ : ∃ wN, wN = ce - ca := ⟨_, rfl⟩
  obtain ⟨hN, hhN⟩ : ∃ hN, hN = re - ra := ⟨_, rfl⟩
  have DY : Hid (∀ W, Calls Try.prog 103 #[rcV ⟨d1 + ca, d2 + ra, d1 + ce, d2 + re⟩] W fun e w' => e = .returned (.int .i64 (hN : Int)) ∧ Below W.heap.size W w') := fun W => by
    have := dy_any (d1 + ca) (d2 + ra) (d1 + ce) (d2 + re) W (by omega)
    rwa [show d2 + (re : Int) - (d2 + ra) = (hN : Int) by omega] at this
  have hwl : wN ≤ 128 ∧ hN ≤ 128 ∧ 0 < wN ∧ 0 < hN := ⟨by omega, by omega, by omega, by omega⟩
  have hb4 : bN = 4 * wN := by omega
  have HWN := hid hwN; have HHN := hid hhN; have HPD := hid hpd; have HQD := hid hqd; have HBN := hid hb4; have HNN := hid hn; have HMM := hid hm
  have hdir' : s2 + (va : Int) < d2 + (ra : Int) := by omega
  obtain ⟨aD, haD⟩ : ∃ a, a = 4 * ((hN - 1) * Wd) := ⟨_, rfl⟩
  obtain ⟨aS, haS⟩ : ∃ a, a = 4 * ((hN - 1) * Ws) := ⟨_, rfl⟩
  have hb1 := Nat.mul_le_mul (show hN - 1 ≤ 128 by omega) HL.1
  have hb2 := Nat.mul_le_mul (show hN - 1 ≤ 128 by omega) HL.2.2.1
  have f1 : IntKind.i64.wrap (((hN : Int) - 1) * (4 * (Wd : Int))) = (aD : Int) := by
    have h1 := mul_in (a := (hN : Int) - 1) (b := (Wd : Int)) (A := 128) (B := 128) ⟨by omega, by omega⟩ ⟨by omega, by omega⟩
    have h2 : ((hN : Int) - 1) * (4 * (Wd : Int)) = 4 * (((hN : Int) - 1) * (Wd : Int)) := Int.mul_left_comm ..
    rw [h2, IntWalk.i64_in _ (by omega), haD, show (hN : Int) - 1 = ((hN - 1 : Nat) : Int) by omega]
    simp only [Int.natCast_mul]
    rfl
  have f2 : IntKind.i64.wrap (((hN : Int) - 1) * (4 * (Ws : Int))) = (aS : Int) := by
    have h1 := mul_in (a := (hN : Int) - 1) (b := (Ws : Int)) (A := 128) (B := 128) ⟨by omega, by omega⟩ ⟨by omega, by omega⟩
    have h2 : ((hN : Int) - 1) * (4 * (Ws : Int)) = 4 * (((hN : Int) - 1) * (Ws : Int)) := Int.mul_left_comm ..
    rw [h2, IntWalk.i64_in _ (by omega), haS, show (hN : Int) - 1 = ((hN - 1 : Nat) : Int) by omega]
    simp only [Int.natCast_mul]
    rfl
  have HAD := hid haD; have HAS := hid haS
  clear haD haS hb1 hb2
  clear hrow hsrc hnw hwN hhN hpd hqd hb4 hbN hn hm hdir
  go_enter Try.func79, Try.ntmps79
  go_wp2_with fail
  obtain ⟨W0, hW0⟩ : ∃ W : World, W = ((w.alloc (.cells #[iv (d1 + ca), iv (d2 + ra), iv (d1 + ce), iv (d2 + re)] 73)).alloc (.cells #[iv (s1 + ua), iv (s2 + va)] 71)) := ⟨_, rfl⟩
  rw [← hW0]
  have B0 : Hid (Blk W0 (w.heap.size) 73 #[iv (d1 + ca), iv (d2 + ra), iv (d1 + ce), iv (d2 + re)]) := by rw [hW0]; exact Blk.alloc (Blk.new_at (W := w) (t := 73) (cs := #[iv (d1 + ca), iv (d2 + ra), iv (d1 + ce), iv (d2 + re)]) (by simp)) _
  have B1 : Hid (Blk W0 (w.heap.size + 1) 71 #[iv (s1 + ua), iv (s2 + va)]) := by rw [hW0]; exact Blk.new_at (W := (w.alloc (.cells #[iv (d1 + ca), iv (d2 + ra), iv (d1 + ce), iv (d2 + re)] 73))) (t := 71) (cs := #[iv (s1 + ua), iv (s2 + va)]) (by simp)
  have bW0 : Below w.heap.size w W0 := by rw [hW0]; go_grown
  have sW0 : W0.heap.size = w.heap.size + 2 := by rw [hW0]; simp
  have SW0 := hid sW0
  have zW0 : w.heap.size + 2 ≤ W0.heap.size := by omega
  clear sW0 hW0
  refine (DY.out _).mono ?_
  rintro e W3 ⟨rfl, hb3⟩
  have bw3 : Below w.heap.size w W3 := bW0.trans (hb3.mono (by omega))
  have cB := (B0.out.keep hb3).cells4.1
  have cP := (B1.out.keep hb3).cells2.1
  have lB := (B0.out.keep hb3).lt
  have lP := (B1.out.keep hb3).lt
  have HBW := hid bw3
  have SR := hid (SROW.out.keep bw3)
  have HROW := hid (HROW.out.keep bw3)
  clear hb3 bw3 bW0 B0 B1
  go_wp2_with fail
  clear cB cP lB lP
  go_loopw [14, 15, 18] (fun s14 s15 s18 wr => ∃ t : Nat, t ≤ hN ∧ s14 = .int .i64 (((4 * (t * Wd) : Nat) : Int) - 4 * (Wd : Int)) ∧ s15 = .int .i64 (((4 * (t * Ws) : Nat) : Int) - 4 * (Ws : Int)) ∧ s18 = .int .i64 (t : Int) ∧ Only [gp] W3 wr ∧ ∃ f', PixRow wr gp cap n f' ∧
    Painted Wd f nw (fun r' c' => inPart ca ra ce re r' c' ∧ ra + t ≤ r') f') (fun _ _ s18 _ => (intOf s18).toNat)
  case atStart =>
    refine ⟨hN, by omega, ?_, ?_, rfl, Only.refl _ _, f, HROW.out, Painted.start _ _ _ fun r c h => ?_⟩
    · rw [show 4 * (hN * Wd) = aD + 4 * Wd by rw [HAD.out]; have h1 : hN = (hN - 1) + 1 := by omega
                                              rw [show hN * Wd = (hN - 1) * Wd + Wd by conv => { lhs; rw [h1, Nat.add_mul, Nat.one_mul] }]; omega]
      congr 1
      omega
    · rw [show 4 * (hN * Ws) = aS + 4 * Ws by rw [HAS.out]; have h1 : hN = (hN - 1) + 1 := by omega
                                              rw [show hN * Ws = (hN - 1) * Ws + Ws by conv => { lhs; rw [h1, Nat.add_mul, Nat.one_mul] }]; omega]
      congr 1
      omega
    · have h1 := h.1.2.1
      have := HHN.out
      omega
  case round =>
    obtain ⟨t, ht, rfl, rfl, rfl, hon, f', hrow, hpt⟩ := hrel
    by_cases hlt : 0 < t
    case neg =>
      obtain rfl : t = 0 := by omega
      go_wp2_with fail
      go_end0
      exact ⟨⟨_, rfl⟩, (Only.of_below HBW.out).trans hon, f', hrow, hpt.congr fun r' c' _ => ⟨fun h => h.1, fun h => ⟨h, by have := h.1; omega⟩⟩⟩
    obtain ⟨q, rfl⟩ : ∃ q, t = q + 1 := ⟨t - 1, by omega⟩
    obtain ⟨left, hleft⟩ : ∃ x, x = q + 1 := ⟨_, rfl⟩
    obtain ⟨a0, ha0⟩ : ∃ x, x = 4 * (q * Wd) := ⟨_, rfl⟩
    obtain ⟨b0, hb0⟩ : ∃ x, x = 4 * (q * Ws) := ⟨_, rfl⟩
    rw [show ((4 * ((q + 1) * Wd) : Nat) : Int) - 4 * (Wd : Int) = (a0 : Int) by rw [ha0, Nat.add_mul]; omega]
    rw [show ((4 * ((q + 1) * Ws) : Nat) : Int) - 4 * (Ws : Int) = (b0 : Int) by rw [hb0, Nat.add_mul]; omega]
    rw [← hleft]
    have hl0 : (0 : Int) < (left : Int) := by omega
    have hl1 : left ≤ 128 := by omega
    have hrr : ra + q < re := by have := HHN.out; omega
    have hvv : va + q < Hs := by have := HHN.out; omega
    have hpn : pd + a0 + bN ≤ n ∧ a0 + 4 * Wd ≤ 131072 := by
      have h1 := Nat.mul_le_mul_right Wd (show ra + q + 1 ≤ H by omega)
      have h5 := Nat.mul_le_mul (show q + 1 ≤ 128 by omega) HL.1
      rw [Nat.add_mul, Nat.add_mul, Nat.one_mul] at h1
      rw [Nat.add_mul, Nat.one_mul] at h5
      have h2 := HNN.out; have h3 := HWN.out; have h6 := HPD.out; have h7 := HBN.out
      unfold pos at h6
      omega
    have hqm : qd + b0 + bN ≤ m ∧ b0 + 4 * Ws ≤ 131072 := by
      have h1 := Nat.mul_le_mul_right Ws (show va + q + 1 ≤ Hs by omega)
      have h5 := Nat.mul_le_mul (show q + 1 ≤ 128 by omega) HL.2.2.1
      rw [Nat.add_mul, Nat.add_mul, Nat.one_mul] at h1
      rw [Nat.add_mul, Nat.one_mul] at h5
      have h2 := HMM.out; have h3 := HWN.out; have h6 := HQD.out; have h7 := HBN.out
      unfold pos at h6
      omega
    have hbn : bN ≤ 512 ∧ 0 < bN := by have := HBN.out; omega
    have HLEFT := hid hleft; have HA0 := hid ha0; have HB0 := hid hb0
    have HON := hid hon; have HROW' := hid hrow; have HPT := hid hpt
    clear hleft ha0 hb0 hon hrow hpt
    go_wp2_with fail
    refine Plan.wp_region_steps 12 [] [.slice (some ⟨gp, pd, none⟩) (n - pd) (cap - pd), .int .i64 (a0 : Int), .int .i64 (a0 : Int), .int .i64 (bN : Int), .int .i64 ((a0 : Int) + (bN : Int)), .slice (some ⟨gp, pd + a0, none⟩) bN (cap - pd - a0), .slice (some ⟨gq, qd, none⟩) (m - qd) (scap - qd), .int .i64 (b0 : Int), .int .i64 (b0 : Int), .int .i64 (bN : Int), .int .i64 ((b0 : Int) + (bN : Int)), .slice (some ⟨gq, qd + b0, none⟩) bN (scap - qd - b0)] [] (by kernel_rfl) (by kernel_rfl) (fun _ _ _ _ _ h => h) ?_ ?_
    · refine ⟨?_, ?_, ?_, ?_, ?_, ?_, ?_, ?_, ?_, ?_, ?_, ?_, trivial⟩
      · -- 0: Op.move (Operand.tmp 0)
        intro a W hold hdep hb
        have e0 : a.tmps[0]?.getD undef = .slice (some ⟨gp, pd, none⟩) (n - pd) (cap - pd) := Plan.ev (hold 0 (by kernel_rfl))
        clear hold hdep
        exact Plan.step_const rfl rfl (by go_simp <;> exact IntWalk.i64_in _ (by omega))
      · -- 1: Op.move (Operand.tmp 14)
        intro a W hold hdep hb
        have e14 : a.tmps[14]?.getD undef = .int .i64 (a0 : Int) := Plan.ev (hold 14 (by kernel_rfl))
        clear hold hdep
        exact Plan.step_const rfl rfl (by go_simp <;> exact IntWalk.i64_in _ (by omega))
      · -- 2: Op.move (Operand.tmp 14)
        intro a W hold hdep hb
        have e14 : a.tmps[14]?.getD undef = .int .i64 (a0 : Int) := Plan.ev (hold 14 (by kernel_rfl))
        clear hold hdep
        exact Plan.step_const rfl rfl (by go_simp <;> exact IntWalk.i64_in _ (by omega))
      · -- 3: Op.move (Operand.tmp 6)
        intro a W hold hdep hb
        have e6 : a.tmps[6]?.getD undef = .int .i64 (bN : Int) := Plan.ev (hold 6 (by kernel_rfl))
        clear hold hdep
        exact Plan.step_const rfl rfl (by go_simp <;> exact IntWalk.i64_in _ (by omega))
      · -- 4: Op.binOp BinOp.add 3 (Operand.tmp 47) (Operand.tmp 48) 3
        intro a W hold hdep hb
        have e47 : a.tmps[47]?.getD undef = .int .i64 (a0 : Int) := Plan.ev (Plan.dep_const (by rfl) (hdep 2 (by kernel_rfl)))
        have e48 : a.tmps[48]?.getD undef = .int .i64 (bN : Int) := Plan.ev (Plan.dep_const (by rfl) (hdep 3 (by kernel_rfl)))
        clear hold hdep
        exact Plan.step_const rfl rfl (by go_simp <;> exact IntWalk.i64_in _ (by omega))
      · -- 5: Op.slice 22 (Operand.tmp 45) (some (Operand.tmp 46)) (some (Operand.tm
        intro a W hold hdep hb
        have e45 : a.tmps[45]?.getD undef = .slice (some ⟨gp, pd, none⟩) (n - pd) (cap - pd) := Plan.ev (Plan.dep_const (by rfl) (hdep 0 (by kernel_rfl)))
        have e46 : a.tmps[46]?.getD undef = .int .i64 (a0 : Int) := Plan.ev (Plan.dep_const (by rfl) (hdep 1 (by kernel_rfl)))
        have e49 : a.tmps[49]?.getD undef = .int .i64 ((a0 : Int) + (bN : Int)) := Plan.ev (Plan.dep_const (by rfl) (hdep 4 (by kernel_rfl)))
        have tn := (show ((a0 : Int) + (bN : Int)).toNat = a0 + bN by omega)
        have tp := (show (0 : Int) ≤ (a0 : Int) + (bN : Int) by omega)
        have tq := (show (a0 : Int) + (bN : Int) ≤ ((cap - pd : Nat) : Int) by omega)
        have tr := (show ¬ (cap - pd = a0) by omega)
        clear hold hdep
        exact Plan.step_const rfl rfl (by go_simp <;> exact IntWalk.i64_in _ (by omega))
      · -- 6: Op.move (Operand.tmp 3)
        intro a W hold hdep hb
        have e3 : a.tmps[3]?.getD undef = .slice (some ⟨gq, qd, none⟩) (m - qd) (scap - qd) := Plan.ev (hold 3 (by kernel_rfl))
        clear hold hdep
        exact Plan.step_const rfl rfl (by go_simp <;> exact IntWalk.i64_in _ (by omega))
      · -- 7: Op.move (Operand.tmp 15)
        intro a W hold hdep hb
        have e15 : a.tmps[15]?.getD undef = .int .i64 (b0 : Int) := Plan.ev (hold 15 (by kernel_rfl))
        clear hold hdep
        exact Plan.step_const rfl rfl (by go_simp <;> exact IntWalk.i64_in _ (by omega))
      · -- 8: Op.move (Operand.tmp 15)
        intro a W hold hdep hb
        have e15 : a.tmps[15]?.getD undef = .int .i64 (b0 : Int) := Plan.ev (hold 15 (by kernel_rfl))
        clear hold hdep
        exact Plan.step_const rfl rfl (by go_simp <;> exact IntWalk.i64_in _ (by omega))
      · -- 9: Op.move (Operand.tmp 6)
        intro a W hold hdep hb
        have e6 : a.tmps[6]?.getD undef = .int .i64 (bN : Int) := Plan.ev (hold 6 (by kernel_rfl))
        clear hold hdep
        exact Plan.step_const rfl rfl (by go_simp <;> exact IntWalk.i64_in _ (by omega))
      · -- 10: Op.binOp BinOp.add 3 (Operand.tmp 53) (Operand.tmp 54) 3
        intro a W hold hdep hb
        have e53 : a.tmps[53]?.getD undef = .int .i64 (b0 : Int) := Plan.ev (Plan.dep_const (by rfl) (hdep 8 (by kernel_rfl)))
        have e54 : a.tmps[54]?.getD undef = .int .i64 (bN : Int) := Plan.ev (Plan.dep_const (by rfl) (hdep 9 (by kernel_rfl)))
        clear hold hdep
        exact Plan.step_const rfl rfl (by go_simp <;> exact IntWalk.i64_in _ (by omega))
      · -- 11: Op.slice 22 (Operand.tmp 51) (some (Operand.tmp 52)) (some (Operand.tm
        intro a W hold hdep hb
        have e51 : a.tmps[51]?.getD undef = .slice (some ⟨gq, qd, none⟩) (m - qd) (scap - qd) := Plan.ev (Plan.dep_const (by rfl) (hdep 6 (by kernel_rfl)))
        have e52 : a.tmps[52]?.getD undef = .int .i64 (b0 : Int) := Plan.ev (Plan.dep_const (by rfl) (hdep 7 (by kernel_rfl)))
        have e55 : a.tmps[55]?.getD undef = .int .i64 ((b0 : Int) + (bN : Int)) := Plan.ev (Plan.dep_const (by rfl) (hdep 10 (by kernel_rfl)))
        have tn := (show ((b0 : Int) + (bN : Int)).toNat = b0 + bN by omega)
        have tp := (show (0 : Int) ≤ (b0 : Int) + (bN : Int) by omega)
        have tq := (show (b0 : Int) + (bN : Int) ≤ ((scap - qd : Nat) : Int) by omega)
        have tr := (show ¬ (scap - qd = b0) by omega)
        clear hold hdep
        exact Plan.step_const rfl rfl (by go_simp <;> exact IntWalk.i64_in _ (by omega))
    intro vs W4 lo hi hD
    change wpList _ _ _ _ { tmps := (Array.setIfInBounds (Array.setIfInBounds (Array.setIfInBounds (Array.setIfInBounds (Array.setIfInBounds (Array.setIfInBounds (Array.setIfInBounds (Array.setIfInBounds (Array.setIfInBounds (Array.setIfInBounds (Array.setIfInBounds (Array.setIfInBounds _ 45 (vs 0)) 46 (vs 1)) 47 (vs 2)) 48 (vs 3)) 49 (vs 4)) 50 (vs 5)) 51 (vs 6)) 52 (vs 7)) 53 (vs 8)) 54 (vs 9)) 55 (vs 10)) 56 (vs 11)), defers := _ } _
    simp only [Plan.putAll_zero, List.setIfInBounds_toArray, List.set_cons_zero, List.set_cons_succ, List.drop_succ_cons, List.drop_zero]
    have p0 : vs 0 = .slice (some ⟨gp, pd, none⟩) (n - pd) (cap - pd) := (hD.facts 0 (by omega)).2.2.2
    have p1 : vs 1 = .int .i64 (a0 : Int) := (hD.facts 1 (by omega)).2.2.2
    have p2 : vs 2 = .int .i64 (a0 : Int) := (hD.facts 2 (by omega)).2.2.2
    have p3 : vs 3 = .int .i64 (bN : Int) := (hD.facts 3 (by omega)).2.2.2
    have p4 : vs 4 = .int .i64 ((a0 : Int) + (bN : Int)) := (hD.facts 4 (by omega)).2.2.2
    have p5 : vs 5 = .slice (some ⟨gp, pd + a0, none⟩) bN (cap - pd - a0) := (hD.facts 5 (by omega)).2.2.2
    have p6 : vs 6 = .slice (some ⟨gq, qd, none⟩) (m - qd) (scap - qd) := (hD.facts 6 (by omega)).2.2.2
    have p7 : vs 7 = .int .i64 (b0 : Int) := (hD.facts 7 (by omega)).2.2.2
    have p8 : vs 8 = .int .i64 (b0 : Int) := (hD.facts 8 (by omega)).2.2.2
    have p9 : vs 9 = .int .i64 (bN : Int) := (hD.facts 9 (by omega)).2.2.2
    have p10 : vs 10 = .int .i64 ((b0 : Int) + (bN : Int)) := (hD.facts 10 (by omega)).2.2.2
    have p11 : vs 11 = .slice (some ⟨gq, qd + b0, none⟩) bN (scap - qd - b0) := (hD.facts 11 (by omega)).2.2.2
    simp only [p0, p1, p2, p3, p4, p5, p6, p7, p8, p9, p10, p11]
    clear p0 p1 p2 p3 p4 p5 p6 p7 p8 p9 p10 p11
    have hW4 := hD.bel
    clear hD  lo hi vs
    have hs4 : Below wr.heap.size wr W4 := ⟨hW4.os, hW4.tape, hW4.output, hW4.size, hW4.block⟩
    have hrow4 := HROW'.out.keep hs4
    have sr := (SR.out.of_block (HON.out.block gq SR.out.lt (by simp; exact Ne.symm hne))).keep hs4
    have HON4 := hid (HON.out.trans (Only.of_below hs4))
    clear hW4 hs4 HON HROW'
    refine wpList_copy_pix rfl (.tmp 50) (.tmp 56) 22 22 rfl 5 Try.underlying22 (by kernel_rfl) gp (pd + a0) bN _ gq (qd + b0) _ rfl rfl cap n f' (fun j => fs (qd + b0 + j)) hrow4 (by omega) (fun j hj => sr.cell (by omega)) ?_
    intro W5 u hO5 hrow5
    have HON5 := hid (HON4.out.trans hO5)
    have HROW5 := hid hrow5
    clear hO5 hrow5 HON4 hrow4 sr
    go_wp2_with fail
    refine ⟨⟨q, by omega, ?_, ?_, ?_, HON5.out, _, HROW5.out, ?_⟩, ?_⟩
    · rw [← HA0.out]; first | rfl | (congr 1; omega)
    · rw [← HB0.out]; first | rfl | (congr 1; omega)
    · have := HLEFT.out; first | rfl | (congr 1; omega)
    · rw [HBN.out]
      refine HPT.out.span (r0 := ra + q) (ca := ca) (by have := HWN.out; omega) ?_ (fun k j hk hj => ?_) fun r' c' hc' => ⟨fun h => ?_, fun h => ?_⟩
      · rw [HPD.out, HA0.out]; unfold pos; rw [Nat.add_mul]; omega
      · rw [HNW.out]
        show fs (qd + b0 + (4 * k + j)) = fs (4 * ((va + (ra + q - ra)) * Ws + (ua + (ca + k - ca))) + j)
        rw [show ra + q - ra = q by omega, show ca + k - ca = k by omega, HQD.out, HB0.out]
        unfold pos
        rw [Nat.add_mul]
        congr 1
        omega
      · have := HWN.out; have := HHN.out
        rcases h with ⟨h1, h2⟩ | ⟨rfl, h1, h2⟩
        · exact ⟨h1, by omega⟩
        · exact ⟨⟨by omega, by omega, by omega, by omega⟩, by omega⟩
      · have := HWN.out; have := HHN.out
        obtain ⟨⟨h1, h2, h3, h4⟩, h5⟩ := h
        by_cases e : r' = ra + q
        · exact Or.inr ⟨e, h3, by omega⟩
        · exact Or.inl ⟨⟨h1, h2, h3, h4⟩, by omega⟩
    · simp only [intOf]; omega

theorem drawCopySrc_any (gp cap n : Nat) (d1 d2 : Int) (Wd H : Nat) (f : Nat → Int) (gq scap m : Nat) (s1 s2 : Int) (Ws Hs : Nat) (fs : Nat → Int) (ca ra ce re ua va pd qd bN : Nat) (w : World)
    (hrow : PixRow w gp cap n f) (hsrc : PixRow w gq scap m fs) (hcap : n ≤ cap ∧ cap ≤ 9223372036854775807) (hscap : m ≤ scap ∧ scap ≤ 9223372036854775807) (hn : n = 4 * (H * Wd)) (hm : m = 4 * (Hs * Ws)) (HL : Wd ≤ 128 ∧ H ≤ 128 ∧ Ws ≤ 128 ∧ Hs ≤ 128)
    (hd : -64 ≤ d1 ∧ d1 ≤ 64 ∧ -64 ≤ d2 ∧ d2 ≤ 64) (hs : -64 ≤ s1 ∧ s1 ≤ 64 ∧ -64 ≤ s2 ∧ s2 ≤ 64)
    (hne : gp ≠ gq) (h0 : ca < ce ∧ ra < re) (h1 : ce ≤ Wd) (h2 : re ≤ H) (h3 : ua + (ce - ca) ≤ Ws) (h4 : va + (re - ra) ≤ Hs) (hpd : pd = pos Wd ra ca 0) (hqd : qd = pos Ws va ua 0) (hbN : bN = 4 * (ce - ca)) :
    Calls Try.prog 79 #[.slice (some ⟨gp, pd, none⟩) (n - pd) (cap - pd), iv (4 * (Wd : Int)), rcV ⟨d1 + ca, d2 + ra, d1 + ce, d2 + re⟩, .slice (some ⟨gq, qd, none⟩) (m - qd) (scap - qd), iv (4 * (Ws : Int)), ptV (s1 + ua) (s2 + va), .int .i64 (bN : Int)] w fun e w' =>
      (∃ v, e = .returned v) ∧ Only [gp] w w' ∧ ∃ f', PixRow w' gp cap n f' ∧ Painted Wd f (fun r c => copyP (fun k => f (pos Wd r c k)) (fun j => fs (4 * ((va + (r - ra)) * Ws + (ua + (c - ca))) + j))) (inPart ca ra ce re) f' := by
  by_cases h : d2 + (ra : Int) > s2 + va
  · exact copysrc_bw gp cap n d1 d2 Wd H f gq scap m s1 s2 Ws Hs fs ca ra ce re ua va pd qd bN w hrow hsrc hcap hscap hn hm HL hd hs hne h0 h1 h2 h3 h4 hpd hqd hbN h
  · exact copysrc_fw gp cap n d1 d2 Wd H f gq scap m s1 s2 Ws Hs fs ca ra ce re ua va pd qd bN w hrow hsrc hcap hscap hn hm HL hd hs hne h0 h1 h2 h3 h4 hpd hqd hbN h
end Go.Proofs.Ytlnfcjaempojgaa
