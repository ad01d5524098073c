/- What is to be shown of the road for CopySrc. Written by mk_Q.py. -/
import Derived.Test.YtlnfcjaempojgaaL2
import Derived.Test.YtlnfcjaempojgaaRCSrc
set_option linter.unusedVariables false
namespace Go.Proofs.Ytlnfcjaempojgaa
open Go.RowKit

theorem assertT77 (g : Nat) (w : World) : (Instr.typeAssert (.iface 84 (.pointer (some ⟨g, 0, none⟩))) 79 84 false).run Try.prog w = .ok (.pointer (some ⟨g, 0, none⟩)) w := by kernel_rfl

set_option maxRecDepth 20000 in
set_option maxHeartbeats 2000000 in
theorem fn77_any (gD gp cap n : Nat) (d1 d2 d3 d4 : Int) (Wd H : Nat) (f : Nat → Int) (gS gq scap m : Nat) (s1 s2 s3 s4 : Int) (Ws Hs : Nat) (fs : Nat → Int) (ca ra ce re ua va : Nat) (M : Value) (mx my : Int) (w : World)
    (hD : DstAt w gD gp cap n d1 d2 d3 d4 Wd H f) (hS : SrcAt 95 4 w gS gq scap m (4 * (s3 - s1)) s1 s2 s3 s4 Ws Hs fs) (hne : gp ≠ gq) (h0 : ca < ce ∧ ra < re) (h1 : ce ≤ Wd) (h2 : re ≤ H) (h3 : ua + (ce - ca) ≤ Ws) (h4 : va + (re - ra) ≤ Hs)
    (rf : ∀ j, 0 ≤ f j ∧ f j ≤ 255) (rs : ∀ j, 0 ≤ fs j ∧ fs j ≤ 255) :
    Calls Try.prog 77 #[.pointer (some ⟨gD, 0, none⟩), rcV ⟨d1 + ca, d2 + ra, d1 + ce, d2 + re⟩, .iface 84 (.pointer (some ⟨gS, 0, none⟩)), ptV (s1 + ua) (s2 + va), M, ptV mx my] w fun e w' =>
      (∃ v, e = .returned v) ∧ Only [gp] w w' ∧ ∃ f', PixRow w' gp cap n f' ∧ Painted Wd f (fun r c => copyP (fun k => f (pos Wd r c k)) (fun j => fs (4 * ((va + (r - ra)) * Ws + (ua + (c - ca))) + j))) (inPart ca ra ce re) f' := by
  have HD := hid hD; have HS := hid hS
  have HB12 : Hid ((-64 ≤ d1 ∧ d3 ≤ 64) ∧ (-64 ≤ d2 ∧ d4 ≤ 64) ∧ d3 = d1 + Wd ∧ d4 = d2 + H) := ⟨hD.b1, hD.b2, hD.w3, hD.w4⟩
  have SB12 : Hid ((-64 ≤ s1 ∧ s3 ≤ 64) ∧ (-64 ≤ s2 ∧ s4 ≤ 64) ∧ s3 = s1 + Ws ∧ s4 = s2 + Hs) := ⟨hS.b1, hS.b2, hS.w3, hS.w4⟩
  have HL : Wd ≤ 128 ∧ H ≤ 128 ∧ Ws ≤ 128 ∧ Hs ≤ 128 := by
    have := HB12.out; have := SB12.out
    exact ⟨by omega, by omega, by omega, by omega⟩
  obtain ⟨wN, hwN⟩ : ∃ wN, wN = ce - ca := ⟨_, rfl⟩
  have DX : Hid (∀ W, Calls Try.prog 80 #[rcV ⟨d1 + ca, d2 + ra, d1 + ce, d2 + re⟩] W fun e w' => e = .returned (.int .i64 (wN : Int)) ∧ Below W.heap.size W w') := fun W => by
    have := dx_any (d1 + ca) (d2 + ra) (d1 + ce) (d2 + re) W (by have := HB12.out; omega)
    rwa [show d1 + (ce : Int) - (d1 + ca) = (wN : Int) by omega] at this
  obtain ⟨pd, hpd⟩ : ∃ pd, pd = pos Wd ra ca 0 := ⟨_, rfl⟩
  obtain ⟨qd, hqd⟩ : ∃ qd, qd = pos Ws va ua 0 := ⟨_, rfl⟩
  have hpn : pd < n := by
    have h5 := hD.len
    have h6 := pos_lt (W := Wd) (H := H) (r := ra) (c := ca) (k := 0) (by omega) (by omega) (by omega)
    omega
  have hqn : qd < m := by
    have h5 := hS.len
    have h6 := pos_lt (W := Ws) (H := Hs) (r := va) (c := ua) (k := 0) (by omega) (by omega) (by omega)
    omega
  have hcap := hD.cap; have hscap := hS.cap
  have CS : Hid (∀ W, Below w.heap.size w W → Calls Try.prog 79 #[.slice (some ⟨gp, pd, none⟩) (n - pd) (cap - pd), iv (4 * (Wd : Int)), rcV ⟨d1 + ca, d2 + ra, d1 + ce, d2 + re⟩, .slice (some ⟨gq, qd, none⟩) (m - qd) (scap - qd), iv (4 * (Ws : Int)), ptV (s1 + ua) (s2 + va), .int .i64 ((4 * wN : Nat) : Int)] W fun e w' =>
      (∃ v, e = .returned v) ∧ Only [gp] W w' ∧ ∃ f', PixRow w' gp cap n f' ∧ Painted Wd f (fun r c => copyP (fun k => f (pos Wd r c k)) (fun j => fs (4 * ((va + (r - ra)) * Ws + (ua + (c - ca))) + j))) (inPart ca ra ce re) f') := fun W hb =>
    drawCopySrc_any gp cap n d1 d2 Wd H f gq scap m s1 s2 Ws Hs fs ca ra ce re ua va pd qd (4 * wN) W (hD.row.keep hb) (hS.row.keep hb) hcap hscap hD.len hS.len HL (by have := HB12.out; omega) (by have := SB12.out; omega) hne h0 h1 h2 h3 h4 hpd hqd (by omega)
  generalize (fun r c => copyP (fun k => f (pos Wd r c k)) (fun j => fs (4 * ((va + (r - ra)) * Ws + (ua + (c - ca))) + j))) = nw at *
  have HPD := hid hpd; have HQD := hid hqd; have HWN := hid hwN
  have hwl : wN ≤ 128 := by have := HL; omega
  have ta := assertT77
  clear hD hS rf rs hpd hqd hwN
  go_enter Try.func77, Try.ntmps77
  go_wp2_with fail
  obtain ⟨W0, hW0⟩ : ∃ W : World, W = (((w.alloc (.cells #[iv (d1 + ca), iv (d2 + ra), iv (d1 + ce), iv (d2 + re)] 73)).alloc (.cells #[iv (s1 + ua), iv (s2 + va)] 71)).alloc (.cells #[iv mx, iv my] 71)) := ⟨_, rfl⟩
  rw [← hW0]
  have B0 : Hid (Blk W0 (w.heap.size) 73 #[iv (d1 + ca), iv (d2 + ra), iv (d1 + ce), iv (d2 + re)]) := by rw [hW0]; exact Blk.alloc (Blk.alloc (Blk.new_at (W := w) (t := 73) (cs := #[iv (d1 + ca), iv (d2 + ra), iv (d1 + ce), iv (d2 + re)]) (by simp)) _) _
  have B1 : Hid (Blk W0 (w.heap.size + 1) 71 #[iv (s1 + ua), iv (s2 + va)]) := by rw [hW0]; exact Blk.alloc (Blk.new_at (W := (w.alloc (.cells #[iv (d1 + ca), iv (d2 + ra), iv (d1 + ce), iv (d2 + re)] 73))) (t := 71) (cs := #[iv (s1 + ua), iv (s2 + va)]) (by simp)) _
  have B2 : Hid (Blk W0 (w.heap.size + 1 + 1) 71 #[iv mx, iv my]) := by rw [hW0]; exact Blk.new_at (W := ((w.alloc (.cells #[iv (d1 + ca), iv (d2 + ra), iv (d1 + ce), iv (d2 + re)] 73)).alloc (.cells #[iv (s1 + ua), iv (s2 + va)] 71))) (t := 71) (cs := #[iv mx, iv my]) (by simp)
  have bW0 : Below w.heap.size w W0 := by rw [hW0]; go_grown
  have sW0 : W0.heap.size = w.heap.size + 3 := by rw [hW0]; simp
  have SW0 := hid sW0
  have zW0 : w.heap.size + 3 ≤ W0.heap.size := by omega
  clear sW0 hW0
  refine (pixo78 gD _ Wd ra ca d1 d2 d3 d4 _ _ _ (HD.out.blk.keep bW0) HB12.out.2.2.1 (by omega) (by omega) (by omega) (by have := HB12.out; omega) (by have := HB12.out; omega) rfl rfl).mono ?_
  rintro e W2 ⟨rfl, hb2⟩
  have F0 := hid (B0.out.keep hb2)
  have F1 := hid (B1.out.keep hb2)
  have bw2 := bW0.trans (hb2.mono (by omega))
  have cP := F1.out.cells2.1
  have lP := F1.out.lt
  clear B0 B1 B2 hb2 bW0
  go_wp2_with fail
  refine (pixo78 gS _ Ws va ua s1 s2 s3 s4 _ _ _ (HS.out.blk.keep bw2) SB12.out.2.2.1 (by omega) (by omega) (by omega) (by have := SB12.out; omega) (by have := SB12.out; omega) rfl rfl).mono ?_
  rintro e W3 ⟨rfl, hb3⟩
  have bw3 := bw2.trans (hb3.mono bw2.size)
  have G0 := hid (F0.out.keep hb3)
  have G1 := hid (F1.out.keep hb3)
  have DB : Hid (Blk W3 gD 95 #[.slice (some ⟨gp, 0, none⟩) n cap, iv (4 * (Wd : Int)), iv d1, iv d2, iv d3, iv d4]) := by
    have h := HD.out.blk.keep bw3
    rwa [show d3 - d1 = (Wd : Int) by have := HB12.out; omega] at h
  have SBk : Hid (Blk W3 gS 95 #[.slice (some ⟨gq, 0, none⟩) m scap, iv (4 * (Ws : Int)), iv s1, iv s2, iv s3, iv s4]) := by
    have h := HS.out.blk.keep bw3
    rwa [show s3 - s1 = (Ws : Int) by have := SB12.out; omega] at h
  rw [← HPD.out, ← HQD.out]
  have HB := hid bw3
  have z3 := bw3.size
  clear hb3 bw2 F0 F1 cP lP ta bw3
  have hcp : ¬ cap = pd := by omega
  have hcq : ¬ scap = qd := by omega
  go_wp2_with fail
  refine Plan.wp_region_steps 25 [] [.pointer (some ⟨gD, 0, none⟩), .pointer (some ⟨gD, 0, none⟩), .pointer (some ⟨gD, 0, none⟩), .slice (some ⟨gp, 0, none⟩) n cap, .int .i64 (pd : Int), .slice (some ⟨gp, pd, none⟩) (n - pd) (cap - pd), .pointer (some ⟨gD, 0, none⟩), .pointer (some ⟨gD, 0, none⟩), .pointer (some ⟨gD, 1, none⟩), iv (4 * (Wd : Int)), rcV ⟨d1 + ca, d2 + ra, d1 + ce, d2 + re⟩, .pointer (some ⟨gS, 0, none⟩), .pointer (some ⟨gS, 0, none⟩), .pointer (some ⟨gS, 0, none⟩), .slice (some ⟨gq, 0, none⟩) m scap, .int .i64 (qd : Int), .slice (some ⟨gq, qd, none⟩) (m - qd) (scap - qd), .pointer (some ⟨gS, 0, none⟩), .pointer (some ⟨gS, 0, none⟩), .pointer (some ⟨gS, 1, none⟩), iv (4 * (Ws : Int)), ptV (s1 + ua) (s2 + va), rcV ⟨d1 + ca, d2 + ra, d1 + ce, d2 + re⟩, .int .i64 (wN : Int), .int .i64 ((4 * wN : Nat) : Int)] [] (by kernel_rfl) (by kernel_rfl) (fun _ _ _ _ _ h => h) ?_ ?_
  · refine ⟨?_, ?_, ?_, ?_, ?_, ?_, ?_, ?_, ?_, ?_, ?_, ?_, ?_, ?_, ?_, ?_, ?_, ?_, ?_, ?_, ?_, ?_, ?_, ?_, ?_, trivial⟩
    · -- 0: Op.move (Operand.tmp 0)
      intro a W hold hdep hb
      have e0 : a.tmps[0]?.getD undef = .pointer (some ⟨gD, 0, none⟩) := Plan.ev (hold 0 (by kernel_rfl))
      clear hold hdep
      exact Plan.step_const rfl rfl (by go_simp <;> exact IntWalk.i64_in _ (by omega))
    · -- 1: Op.nilCheck (Operand.tmp 31)
      intro a W hold hdep hb
      have e31 : a.tmps[31]?.getD undef = .pointer (some ⟨gD, 0, none⟩) := Plan.ev (Plan.dep_const (by rfl) (hdep 0 (by kernel_rfl)))
      clear hold hdep
      exact Plan.step_const rfl rfl (by go_simp <;> exact IntWalk.i64_in _ (by omega))
    · -- 2: Op.fieldAddr 95 (Operand.tmp 32) 0
      intro a W hold hdep hb
      have e32 : a.tmps[32]?.getD undef = .pointer (some ⟨gD, 0, none⟩) := Plan.ev (Plan.dep_const (by rfl) (hdep 1 (by kernel_rfl)))
      clear hold hdep
      exact Plan.step_const rfl rfl (by go_simp <;> exact IntWalk.i64_in _ (by omega))
    · -- 3: Op.load 22 (Operand.tmp 33)
      intro a W hold hdep hb
      have e33 : a.tmps[33]?.getD undef = .pointer (some ⟨gD, 0, none⟩) := Plan.ev (Plan.dep_const (by rfl) (hdep 2 (by kernel_rfl)))
      have CC := ((DB.out).drew.keep hb).cells6
      clear hold hdep
      exact Plan.step_const rfl rfl (by go_simp <;> exact IntWalk.i64_in _ (by omega))
    · -- 4: Op.move (Operand.tmp 13)
      intro a W hold hdep hb
      have e13 : a.tmps[13]?.getD undef = .int .i64 (pd : Int) := Plan.ev (hold 13 (by kernel_rfl))
      clear hold hdep
      exact Plan.step_const rfl rfl (by go_simp <;> exact IntWalk.i64_in _ (by omega))
    · -- 5: Op.slice 22 (Operand.tmp 34) (some (Operand.tmp 35)) none none
      intro a W hold hdep hb
      have e34 : a.tmps[34]?.getD undef = .slice (some ⟨gp, 0, none⟩) n cap := Plan.ev (Plan.dep_const (by rfl) (hdep 3 (by kernel_rfl)))
      have e35 : a.tmps[35]?.getD undef = .int .i64 (pd : Int) := Plan.ev (Plan.dep_const (by rfl) (hdep 4 (by kernel_rfl)))
      have tq := (show ¬ (n < pd) by omega)
      have tr := (show pd ≤ n by omega)
      clear hold hdep
      exact Plan.step_const rfl rfl (by go_simp <;> exact IntWalk.i64_in _ (by omega))
    · -- 6: Op.move (Operand.tmp 0)
      intro a W hold hdep hb
      have e0 : a.tmps[0]?.getD undef = .pointer (some ⟨gD, 0, none⟩) := Plan.ev (hold 0 (by kernel_rfl))
      clear hold hdep
      exact Plan.step_const rfl rfl (by go_simp <;> exact IntWalk.i64_in _ (by omega))
    · -- 7: Op.nilCheck (Operand.tmp 37)
      intro a W hold hdep hb
      have e37 : a.tmps[37]?.getD undef = .pointer (some ⟨gD, 0, none⟩) := Plan.ev (Plan.dep_const (by rfl) (hdep 6 (by kernel_rfl)))
      clear hold hdep
      exact Plan.step_const rfl rfl (by go_simp <;> exact IntWalk.i64_in _ (by omega))
    · -- 8: Op.fieldAddr 95 (Operand.tmp 38) 1
      intro a W hold hdep hb
      have e38 : a.tmps[38]?.getD undef = .pointer (some ⟨gD, 0, none⟩) := Plan.ev (Plan.dep_const (by rfl) (hdep 7 (by kernel_rfl)))
      clear hold hdep
      exact Plan.step_const rfl rfl (by go_simp <;> exact IntWalk.i64_in _ (by omega))
    · -- 9: Op.load 3 (Operand.tmp 39)
      intro a W hold hdep hb
      have e39 : a.tmps[39]?.getD undef = .pointer (some ⟨gD, 1, none⟩) := Plan.ev (Plan.dep_const (by rfl) (hdep 8 (by kernel_rfl)))
      have CC := ((DB.out).drew.keep hb).cells6
      clear hold hdep
      exact Plan.step_const rfl rfl (by go_simp <;> exact IntWalk.i64_in _ (by omega))
    · -- 10: Op.load 73 (Operand.tmp 7)
      intro a W hold hdep hb
      have e7 : a.tmps[7]?.getD undef = .pointer (some ⟨w.heap.size, 0, none⟩) := Plan.ev (hold 7 (by kernel_rfl))
      have CC := ((G0.out).drew.keep hb).cells4.1
      clear hold hdep
      exact Plan.step_const rfl rfl (by go_simp <;> exact IntWalk.i64_in _ (by omega))
    · -- 11: Op.move (Operand.tmp 12)
      intro a W hold hdep hb
      have e12 : a.tmps[12]?.getD undef = .pointer (some ⟨gS, 0, none⟩) := Plan.ev (hold 12 (by kernel_rfl))
      clear hold hdep
      exact Plan.step_const rfl rfl (by go_simp <;> exact IntWalk.i64_in _ (by omega))
    · -- 12: Op.nilCheck (Operand.tmp 42)
      intro a W hold hdep hb
      have e42 : a.tmps[42]?.getD undef = .pointer (some ⟨gS, 0, none⟩) := Plan.ev (Plan.dep_const (by rfl) (hdep 11 (by kernel_rfl)))
      clear hold hdep
      exact Plan.step_const rfl rfl (by go_simp <;> exact IntWalk.i64_in _ (by omega))
    · -- 13: Op.fieldAddr 95 (Operand.tmp 43) 0
      intro a W hold hdep hb
      have e43 : a.tmps[43]?.getD undef = .pointer (some ⟨gS, 0, none⟩) := Plan.ev (Plan.dep_const (by rfl) (hdep 12 (by kernel_rfl)))
      clear hold hdep
      exact Plan.step_const rfl rfl (by go_simp <;> exact IntWalk.i64_in _ (by omega))
    · -- 14: Op.load 22 (Operand.tmp 44)
      intro a W hold hdep hb
      have e44 : a.tmps[44]?.getD undef = .pointer (some ⟨gS, 0, none⟩) := Plan.ev (Plan.dep_const (by rfl) (hdep 13 (by kernel_rfl)))
      have CC := ((SBk.out).drew.keep hb).cells6
      clear hold hdep
      exact Plan.step_const rfl rfl (by go_simp <;> exact IntWalk.i64_in _ (by omega))
    · -- 15: Op.move (Operand.tmp 14)
      intro a W hold hdep hb
      have e14 : a.tmps[14]?.getD undef = .int .i64 (qd : Int) := Plan.ev (hold 14 (by kernel_rfl))
      clear hold hdep
      exact Plan.step_const rfl rfl (by go_simp <;> exact IntWalk.i64_in _ (by omega))
    · -- 16: Op.slice 22 (Operand.tmp 45) (some (Operand.tmp 46)) none none
      intro a W hold hdep hb
      have e45 : a.tmps[45]?.getD undef = .slice (some ⟨gq, 0, none⟩) m scap := Plan.ev (Plan.dep_const (by rfl) (hdep 14 (by kernel_rfl)))
      have e46 : a.tmps[46]?.getD undef = .int .i64 (qd : Int) := Plan.ev (Plan.dep_const (by rfl) (hdep 15 (by kernel_rfl)))
      have tq := (show ¬ (m < qd) by omega)
      have tr := (show qd ≤ m by omega)
      clear hold hdep
      exact Plan.step_const rfl rfl (by go_simp <;> exact IntWalk.i64_in _ (by omega))
    · -- 17: Op.move (Operand.tmp 12)
      intro a W hold hdep hb
      have e12 : a.tmps[12]?.getD undef = .pointer (some ⟨gS, 0, none⟩) := Plan.ev (hold 12 (by kernel_rfl))
      clear hold hdep
      exact Plan.step_const rfl rfl (by go_simp <;> exact IntWalk.i64_in _ (by omega))
    · -- 18: Op.nilCheck (Operand.tmp 48)
      intro a W hold hdep hb
      have e48 : a.tmps[48]?.getD undef = .pointer (some ⟨gS, 0, none⟩) := Plan.ev (Plan.dep_const (by rfl) (hdep 17 (by kernel_rfl)))
      clear hold hdep
      exact Plan.step_const rfl rfl (by go_simp <;> exact IntWalk.i64_in _ (by omega))
    · -- 19: Op.fieldAddr 95 (Operand.tmp 49) 1
      intro a W hold hdep hb
      have e49 : a.tmps[49]?.getD undef = .pointer (some ⟨gS, 0, none⟩) := Plan.ev (Plan.dep_const (by rfl) (hdep 18 (by kernel_rfl)))
      clear hold hdep
      exact Plan.step_const rfl rfl (by go_simp <;> exact IntWalk.i64_in _ (by omega))
    · -- 20: Op.load 3 (Operand.tmp 50)
      intro a W hold hdep hb
      have e50 : a.tmps[50]?.getD undef = .pointer (some ⟨gS, 1, none⟩) := Plan.ev (Plan.dep_const (by rfl) (hdep 19 (by kernel_rfl)))
      have CC := ((SBk.out).drew.keep hb).cells6
      clear hold hdep
      exact Plan.step_const rfl rfl (by go_simp <;> exact IntWalk.i64_in _ (by omega))
    · -- 21: Op.load 71 (Operand.tmp 9)
      intro a W hold hdep hb
      have e9 : a.tmps[9]?.getD undef = .pointer (some ⟨w.heap.size + 1, 0, none⟩) := Plan.ev (hold 9 (by kernel_rfl))
      have CC := ((G1.out).drew.keep hb).cells2
      clear hold hdep
      exact Plan.step_const rfl rfl (by go_simp <;> exact IntWalk.i64_in _ (by omega))
    · -- 22: Op.load 73 (Operand.tmp 7)
      intro a W hold hdep hb
      have e7 : a.tmps[7]?.getD undef = .pointer (some ⟨w.heap.size, 0, none⟩) := Plan.ev (hold 7 (by kernel_rfl))
      have CC := ((G0.out).drew.keep hb).cells4.1
      clear hold hdep
      exact Plan.step_const rfl rfl (by go_simp <;> exact IntWalk.i64_in _ (by omega))
    · -- 23: Op.call { callee := Callee.value (Operand.func 80), args := #[Operand.
      intro a W hold hdep hb
      have e53 : a.tmps[53]?.getD undef = rcV ⟨d1 + ca, d2 + ra, d1 + ce, d2 + re⟩ := Plan.ev (Plan.dep_const (by rfl) (hdep 22 (by kernel_rfl)))
      clear hold hdep
      exact Plan.step_call (f := 80) (args := #[rcV ⟨d1 + ca, d2 + ra, d1 + ce, d2 + re⟩]) rfl rfl (by go_simp) (DX.out W)
    · -- 24: Op.binOp BinOp.mul 3 (Operand.const (Value.int IntKind.i64 4)) (Operan
      intro a W hold hdep hb
      have e54 : a.tmps[54]?.getD undef = .int .i64 (wN : Int) := Plan.ev (Plan.dep_const (by rfl) (hdep 23 (by kernel_rfl)))
      clear hold hdep
      exact Plan.step_const rfl rfl (by go_simp <;> exact IntWalk.i64_in _ (by omega))
  intro vs W4 lo hi hD
  change wpList _ _ _ _ { tmps := (Array.setIfInBounds (Array.setIfInBounds (Array.setIfInBounds (Array.setIfInBounds (Array.setIfInBounds (Array.setIfInBounds (Array.setIfInBounds (Array.setIfInBounds (Array.setIfInBounds (Array.setIfInBounds (Array.setIfInBounds (Array.setIfInBounds (Array.setIfInBounds (Array.setIfInBounds (Array.setIfInBounds (Array.setIfInBounds (Array.setIfInBounds (Array.setIfInBounds (Array.setIfInBounds (Array.setIfInBounds (Array.setIfInBounds (Array.setIfInBounds (Array.setIfInBounds (Array.setIfInBounds (Array.setIfInBounds _ 31 (vs 0)) 32 (vs 1)) 33 (vs 2)) 34 (vs 3)) 35 (vs 4)) 36 (vs 5)) 37 (vs 6)) 38 (vs 7)) 39 (vs 8)) 40 (vs 9)) 41 (vs 10)) 42 (vs 11)) 43 (vs 12)) 44 (vs 13)) 45 (vs 14)) 46 (vs 15)) 47 (vs 16)) 48 (vs 17)) 49 (vs 18)) 50 (vs 19)) 51 (vs 20)) 52 (vs 21)) 53 (vs 22)) 54 (vs 23)) 55 (vs 24)), defers := _ } _
  simp only [Plan.putAll_zero, List.setIfInBounds_toArray, List.set_cons_zero, List.set_cons_succ, List.drop_succ_cons, List.drop_zero]
  have p0 : vs 0 = .pointer (some ⟨gD, 0, none⟩) := (hD.facts 0 (by omega)).2.2.2
  have p1 : vs 1 = .pointer (some ⟨gD, 0, none⟩) := (hD.facts 1 (by omega)).2.2.2
  have p2 : vs 2 = .pointer (some ⟨gD, 0, none⟩) := (hD.facts 2 (by omega)).2.2.2
  have p3 : vs 3 = .slice (some ⟨gp, 0, none⟩) n cap := (hD.facts 3 (by omega)).2.2.2
  have p4 : vs 4 = .int .i64 (pd : Int) := (hD.facts 4 (by omega)).2.2.2
  have p5 : vs 5 = .slice (some ⟨gp, pd, none⟩) (n - pd) (cap - pd) := (hD.facts 5 (by omega)).2.2.2
  have p6 : vs 6 = .pointer (some ⟨gD, 0, none⟩) := (hD.facts 6 (by omega)).2.2.2
  have p7 : vs 7 = .pointer (some ⟨gD, 0, none⟩) := (hD.facts 7 (by omega)).2.2.2
  have p8 : vs 8 = .pointer (some ⟨gD, 1, none⟩) := (hD.facts 8 (by omega)).2.2.2
  have p9 : vs 9 = iv (4 * (Wd : Int)) := (hD.facts 9 (by omega)).2.2.2
  have p10 : vs 10 = rcV ⟨d1 + ca, d2 + ra, d1 + ce, d2 + re⟩ := (hD.facts 10 (by omega)).2.2.2
  have p11 : vs 11 = .pointer (some ⟨gS, 0, none⟩) := (hD.facts 11 (by omega)).2.2.2
  have p12 : vs 12 = .pointer (some ⟨gS, 0, none⟩) := (hD.facts 12 (by omega)).2.2.2
  have p13 : vs 13 = .pointer (some ⟨gS, 0, none⟩) := (hD.facts 13 (by omega)).2.2.2
  have p14 : vs 14 = .slice (some ⟨gq, 0, none⟩) m scap := (hD.facts 14 (by omega)).2.2.2
  have p15 : vs 15 = .int .i64 (qd : Int) := (hD.facts 15 (by omega)).2.2.2
  have p16 : vs 16 = .slice (some ⟨gq, qd, none⟩) (m - qd) (scap - qd) := (hD.facts 16 (by omega)).2.2.2
  have p17 : vs 17 = .pointer (some ⟨gS, 0, none⟩) := (hD.facts 17 (by omega)).2.2.2
  have p18 : vs 18 = .pointer (some ⟨gS, 0, none⟩) := (hD.facts 18 (by omega)).2.2.2
  have p19 : vs 19 = .pointer (some ⟨gS, 1, none⟩) := (hD.facts 19 (by omega)).2.2.2
  have p20 : vs 20 = iv (4 * (Ws : Int)) := (hD.facts 20 (by omega)).2.2.2
  have p21 : vs 21 = ptV (s1 + ua) (s2 + va) := (hD.facts 21 (by omega)).2.2.2
  have p22 : vs 22 = rcV ⟨d1 + ca, d2 + ra, d1 + ce, d2 + re⟩ := (hD.facts 22 (by omega)).2.2.2
  have p23 : vs 23 = .int .i64 (wN : Int) := (hD.facts 23 (by omega)).2.2.2
  have p24 : vs 24 = .int .i64 ((4 * wN : Nat) : Int) := (hD.facts 24 (by omega)).2.2.2
  simp only [p0, p1, p2, p3, p4, p5, p6, p7, p8, p9, p10, p11, p12, p13, p14, p15, p16, p17, p18, p19, p20, p21, p22, p23, p24]
  clear p0 p1 p2 p3 p4 p5 p6 p7 p8 p9 p10 p11 p12 p13 p14 p15 p16 p17 p18 p19 p20 p21 p22 p23 p24
  have hW4 := hD.bel
  clear hD  lo hi vs
  have bw4 : Below w.heap.size w W4 := HB.out.trans ((stay_below hW4).mono (by omega))
  clear hW4 G0 G1 DB SBk
  go_wp2_with fail
  refine (CS.out W4 bw4).mono ?_
  rintro e w5 ⟨⟨v, rfl⟩, hon, hf⟩
  have HF := hid hf
  have HON := hid ((Only.of_below bw4).trans hon)
  clear hf hon
  go_wp2_with fail
  go_end0
  exact ⟨⟨_, rfl⟩, HON.out, HF.out⟩

def yC (S : Nat → Int) (k : Nat) : Int := S k * 257
theorem copy_near (D S : Nat → Int) (k : Nat) (hS : ∀ j, 0 ≤ S j ∧ S j ≤ 255) : NearB (copyP D S k) (comp 1 (D k * 257) (yC S k) (yC S 3) 65535) := by
  have := hS k
  unfold NearB comp copyP yC
  rw [if_neg (by omega)]
  omega

theorem coreCSrc (d1 d2 d3 d4 : Int) (dA : Option Addr) (n dc : Nat) (ds : List Int) (ra rb rc rd s1 s2 s3 s4 : Int) (sA : Option Addr) (sn sc : Nat) (ss : List Int) (sx sy : Int) (w : World)
    (hdb : ByteSl w dA n dc ds) (hsb : ByteSl w sA sn sc ss) (fd : n ≤ 2147483647) (fs : sn ≤ 2147483647) (hdv : ValidP 0 d1 d2 d3 d4 n ds) (hsv : ValidP 0 s1 s2 s3 s4 sn ss) (hin : in4 ra rb rc rd) (hsx : -1000 ≤ sx ∧ sx ≤ 1000) (hsy : -1000 ≤ sy ∧ sy ≤ 1000)
    (C : Rc) (hC : C = ((⟨ra, rb, rc, rd⟩ : Rc).common ⟨d1, d2, d3, d4⟩).common ((boundsOf 0 s1 s2 s3 s4).moved (ra - sx) (rb - sy))) (hE : C.emp = false) (Wd H : Nat) (hW : d3 = d1 + Wd) (hH : d4 = d2 + H) :
    Core 77 0 1 d1 d2 d3 d4 n ds ra rb rc rd s1 s2 s3 s4 sA sn sc ss sx sy C Wd H w := by
  refine core_src (T := 84) (BT := 95) (z := 4) (st := 4 * (s3 - s1)) copyP yC (fun _ => True) (by omega) rfl (by omega) hdb hsb fd fs hdv hsv hin hsx hsy hC hE hW hH (fun Ws Hs A c base W hG hn hown => makes0 hG hn fs hown) (fun _ _ _ _ _ _ _ h => hasb0 h) (fun _ _ => trivial) ?_ ?_ ?_ ?_ ?_
  · intro x y i g o W hF hi hA hg hcell
    subst hA
    have := at_rgba s1 s2 s3 s4 x y g o sn sc i (ss.getD i 0) (ss.getD (i + 1) 0) (ss.getD (i + 2) 0) (ss.getD (i + 3) 0) W hF hi hsb.le hsb.cap hg (hcell 0 (by omega)) (hcell 1 (by omega)) (hcell 2 (by omega)) (hcell 3 (by omega)) (hsb.rng i) (hsb.rng _) (hsb.rng _) (hsb.rng _)
    exact this
  · intro S k hS
    have := hS k
    unfold C16 yC
    omega
  · intro D S k hD hS hV hk4
    exact copy_near D S k hS
  · intro D S k hD hS hV hk4
    exact hS k
  · intro Ws Hs ca ra' ce re ua va gD gp cap gS gq scap M mx my W hD hS hne h0 h1 h2 h3 h4
    exact fn77_any gD gp cap n d1 d2 d3 d4 Wd H (fun j => ds.getD j 0) gS gq scap sn s1 s2 s3 s4 Ws Hs (fun j => ss.getD j 0) ca ra' ce re ua va M mx my W hD hS hne h0 h1 h2 h3 h4 (fun j => hdb.rng j) (fun j => hsb.rng j)
end Go.Proofs.Ytlnfcjaempojgaa
