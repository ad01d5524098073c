/- Contract of drawGrayMaskOver, part C. Written by mk_RMG.py. -/
import Derived.Test.YtlnfcjaempojgaaU2
import Derived.Test.YtlnfcjaempojgaaI4
import Derived.Test.YtlnfcjaempojgaaK3
import Derived.Test.YtlnfcjaempojgaaL2
import Derived.Test.YtlnfcjaempojgaaL7
import Derived.Deep.CutBlock
import Derived.Deep.CutRange
set_option linter.unusedVariables false
namespace Go.Proofs.Ytlnfcjaempojgaa
open Go.RowKit

set_option maxRecDepth 20000 in
set_option maxHeartbeats 8000000 in
theorem gm_C (gD gp cap n : Nat) (d1 d2 d3 d4 : Int) (Wd H : Nat) (f : Nat → Int) (gS gq scap m : Nat) (s1 s2 s3 s4 : Int) (Ws Hs : Nat) (fs : Nat → Int) (gM gr mcap l : Nat) (m1 m2 m3 m4 : Int) (Wm Hm : Nat) (fm : Nat → Int) (ca ra ce re ua va um vm : Nat) (w : World)
    (hD : DstAt w gD gp cap n d1 d2 d3 d4 Wd H f) (hS : SrcAt 114 1 w gS gq scap m (s3 - s1) s1 s2 s3 s4 Ws Hs fs) (hM : SrcAt 113 1 w gM gr mcap l (m3 - m1) m1 m2 m3 m4 Wm Hm fm) (hne : gp ≠ gq) (hnm : gp ≠ gr)
    (h0 : ca < ce ∧ ra < re) (h1 : ce ≤ Wd) (h2 : re ≤ H) (h3 : ua + (ce - ca) ≤ Ws) (h4 : va + (re - ra) ≤ Hs) (h5 : um + (ce - ca) ≤ Wm) (h6 : vm + (re - ra) ≤ Hm)
    (rf : ∀ j, 0 ≤ f j ∧ f j ≤ 255) (rs : ∀ j, 0 ≤ fs j ∧ fs j ≤ 255) (rm : ∀ j, 0 ≤ fm j ∧ fm j ≤ 255) (b : Bool) (hob : oB d1 d2 s1 s2 ca ra ce re ua va = b) (hbf : b = true) (hdir : s2 + (va : Int) < d2 + ra ∨ (s2 + (va : Int) = d2 + ra ∧ s1 + (ua : Int) < d1 + ca)) :
    Calls Try.prog 86 #[.pointer (some ⟨gD, 0, none⟩), rcV ⟨d1 + ca, d2 + ra, d1 + ce, d2 + re⟩, .pointer (some ⟨gS, 0, none⟩), ptV (s1 + ua) (s2 + va), .pointer (some ⟨gM, 0, none⟩), ptV (m1 + um) (m2 + vm)] w fun e w' =>
      (∃ v, e = .returned v) ∧ Only [gp] w w' ∧ ∃ f', PixRow w' gp cap n f' ∧ Painted Wd f (fun r c k => maskB (f (pos Wd r c k)) (if k = 3 then 65535 else fs ((va + (r - ra)) * Ws + (ua + (c - ca))) * 257) 65535 (fm ((vm + (r - ra)) * Wm + (um + (c - ca))))) (inPart ca ra ce re) f' := by
  have HD := hid hD; have HS := hid hS; have HM := hid hM; have RF := hid rf; have RS := hid rs; have RM := hid rm
  obtain ⟨nw, hnw⟩ : ∃ nw : Nat → Nat → Nat → Int, nw = fun r c k => maskB (f (pos Wd r c k)) (if k = 3 then 65535 else fs ((va + (r - ra)) * Ws + (ua + (c - ca))) * 257) 65535 (fm ((vm + (r - ra)) * Wm + (um + (c - ca)))) := ⟨_, rfl⟩
  rw [← hnw]
  have HNW := hid hnw
  obtain ⟨wN, hwN⟩ : ∃ wN, wN = ce - ca := ⟨_, rfl⟩
  have HB12 : Hid ((-64 ≤ d1 ∧ d3 ≤ 64) ∧ (-64 ≤ d2 ∧ d4 ≤ 64) ∧ d3 = d1 + Wd ∧ d4 = d2 + H) := ⟨hD.b1, hD.b2, hD.w3, hD.w4⟩
  have SB12 : Hid ((-64 ≤ s1 ∧ s3 ≤ 64) ∧ (-64 ≤ s2 ∧ s4 ≤ 64) ∧ s3 = s1 + Ws ∧ s4 = s2 + Hs) := ⟨hS.b1, hS.b2, hS.w3, hS.w4⟩
  have MB12 : Hid ((-64 ≤ m1 ∧ m3 ≤ 64) ∧ (-64 ≤ m2 ∧ m4 ≤ 64) ∧ m3 = m1 + Wm ∧ m4 = m2 + Hm) := ⟨hM.b1, hM.b2, hM.w3, hM.w4⟩
  have HL : Wd ≤ 128 ∧ H ≤ 128 ∧ Ws ≤ 128 ∧ Hs ≤ 128 ∧ Wm ≤ 128 ∧ Hm ≤ 128 := by
    have := HB12.out; have := SB12.out; have := MB12.out
    exact ⟨by omega, by omega, by omega, by omega, by omega, by omega⟩
  have HWN := hid hwN
  have hwl : wN ≤ 128 ∧ 0 < wN := ⟨by omega, by omega⟩
  have hgpw := hD.row.lt
  have bD : -64 ≤ d1 ∧ d1 ≤ 64 ∧ -64 ≤ d2 ∧ d2 ≤ 64 := by have := HB12.out; omega
  have bS : -64 ≤ s1 ∧ s1 ≤ 64 ∧ -64 ≤ s2 ∧ s2 ≤ 64 := by have := SB12.out; omega
  have bM : -64 ≤ m1 ∧ m1 ≤ 64 ∧ -64 ≤ m2 ∧ m2 ≤ 64 := by have := MB12.out; omega
  have hre : re ≤ 128 ∧ ce ≤ 128 ∧ ua + wN ≤ 128 ∧ va ≤ 128 ∧ um + wN ≤ 128 ∧ vm ≤ 128 := ⟨by omega, by omega, by omega, by omega, by omega, by omega⟩
  have SUB : Hid (∀ W, Calls Try.prog 98 #[ptV (s1 + ua) (s2 + va), ptV (d1 + ca) (d2 + ra)] W fun e w' => e = .returned (ptV (s1 + ua - (d1 + ca)) (s2 + va - (d2 + ra))) ∧ Below W.heap.size W w') := fun W => gsub_any _ _ _ _ W ⟨by omega, by omega⟩ ⟨by omega, by omega⟩ ⟨by omega, by omega⟩ ⟨by omega, by omega⟩
  have ADD : Hid (∀ W, Calls Try.prog 97 #[rcV ⟨d1 + ca, d2 + ra, d1 + ce, d2 + re⟩, ptV (s1 + ua - (d1 + ca)) (s2 + va - (d2 + ra))] W fun e w' => e = .returned (rcV (mvR d1 d2 s1 s2 ca ra ce re ua va)) ∧ Below W.heap.size W w') := fun W => gadd_any _ _ _ W ⟨by dsimp only; omega, by dsimp only; omega, by dsimp only; omega, by dsimp only; omega⟩ ⟨by omega, by omega⟩ ⟨by omega, by omega⟩
  have OV : Hid (∀ W, Calls Try.prog 104 #[rcV ⟨d1 + ca, d2 + ra, d1 + ce, d2 + re⟩, rcV (mvR d1 d2 s1 s2 ca ra ce re ua va)] W fun e w' => e = .returned (.bool b) ∧ Below W.heap.size W w') := fun W => by
    rw [← hob]
    refine overlaps_any _ _ _ _ _ _ _ _ W ?_ ?_
    · unfold emptyB; simp; omega
    · unfold emptyB mvR Rc.moved; simp; omega
  obtain ⟨MV, hMV⟩ : ∃ v, v = mvR d1 d2 s1 s2 ca ra ce re ua va := ⟨_, rfl⟩
  rw [← hMV] at ADD OV
  have HDIR := hid hdir
  clear hdir
  clear hD hS hM hnw rf rs rm hwN hob hMV
  go_enter Try.func86, Try.ntmps86
  go_wp2_with fail
  obtain ⟨W0, hW0⟩ : ∃ W : World, W = (((w.alloc (.cells #[iv (d1 + ca), iv (d2 + ra), iv (d1 + ce), iv (d2 + re)] 73)).alloc (.cells #[iv (s1 + ua), iv (s2 + va)] 71)).alloc (.cells #[iv (m1 + um), iv (m2 + vm)] 71)) := ⟨_, rfl⟩
  rw [← hW0]
  have B0 : Hid (Blk W0 (w.heap.size) 73 #[iv (d1 + ca), iv (d2 + ra), iv (d1 + ce), iv (d2 + re)]) := by rw [hW0]; exact Blk.alloc (Blk.alloc (Blk.new_at (W := w) (t := 73) (cs := #[iv (d1 + ca), iv (d2 + ra), iv (d1 + ce), iv (d2 + re)]) (by simp)) _) _
  have B1 : Hid (Blk W0 (w.heap.size + 1) 71 #[iv (s1 + ua), iv (s2 + va)]) := by rw [hW0]; exact Blk.alloc (Blk.new_at (W := (w.alloc (.cells #[iv (d1 + ca), iv (d2 + ra), iv (d1 + ce), iv (d2 + re)] 73))) (t := 71) (cs := #[iv (s1 + ua), iv (s2 + va)]) (by simp)) _
  have B2 : Hid (Blk W0 (w.heap.size + 1 + 1) 71 #[iv (m1 + um), iv (m2 + vm)]) := by rw [hW0]; exact Blk.new_at (W := ((w.alloc (.cells #[iv (d1 + ca), iv (d2 + ra), iv (d1 + ce), iv (d2 + re)] 73)).alloc (.cells #[iv (s1 + ua), iv (s2 + va)] 71))) (t := 71) (cs := #[iv (m1 + um), iv (m2 + vm)]) (by simp)
  have bW0 : Below w.heap.size w W0 := by rw [hW0]; go_grown
  have sW0 : W0.heap.size = w.heap.size + 3 := by rw [hW0]; simp
  have SW0 := hid sW0
  have zW0 : w.heap.size + 3 ≤ W0.heap.size := by omega
  clear sW0 hW0
  have cB := B0.out.cells4.1
  have lB := B0.out.lt
  have cP := B1.out.cells2.1
  have lP := B1.out.lt
  have cQ := B2.out.cells2.1
  have lQ := B2.out.lt
  go_quiet (fail)
  go_wp2_with fail
  go_quiet (fail)
  go_wp2_with fail
  refine Plan.wp_region_steps 7 [] [rcV ⟨d1 + ca, d2 + ra, d1 + ce, d2 + re⟩, rcV ⟨d1 + ca, d2 + ra, d1 + ce, d2 + re⟩, ptV (s1 + ua) (s2 + va), .pointer (some ⟨w.heap.size, 0, none⟩), ptV (d1 + ca) (d2 + ra), ptV (s1 + ua - (d1 + ca)) (s2 + va - (d2 + ra)), rcV MV] [] (by kernel_rfl) (by kernel_rfl) (fun _ _ _ _ _ h => h) ?_ ?_
  · refine ⟨?_, ?_, ?_, ?_, ?_, ?_, ?_, trivial⟩
    · -- 0: Op.load 73 (Operand.tmp 7)
      intro a W hold hdep hb
      have e7 : a.tmps[7]?.getD undef = .pointer (some ⟨w.heap.size, 0, none⟩) := Plan.ev (hold 7 (by kernel_rfl))
      have CC := ((B0.out.keep (drewN_below (drewN_below (Below.refl _ _) _) _)).drew.keep hb).cells4.1
      clear hold hdep
      exact Plan.step_const rfl rfl (by go_simp <;> exact IntWalk.i64_in _ (by omega))
    · -- 1: Op.load 73 (Operand.tmp 7)
      intro a W hold hdep hb
      have e7 : a.tmps[7]?.getD undef = .pointer (some ⟨w.heap.size, 0, none⟩) := Plan.ev (hold 7 (by kernel_rfl))
      have CC := ((B0.out.keep (drewN_below (drewN_below (Below.refl _ _) _) _)).drew.keep hb).cells4.1
      clear hold hdep
      exact Plan.step_const rfl rfl (by go_simp <;> exact IntWalk.i64_in _ (by omega))
    · -- 2: Op.load 71 (Operand.tmp 9)
      intro a W hold hdep hb
      have e9 : a.tmps[9]?.getD undef = .pointer (some ⟨w.heap.size + 1, 0, none⟩) := Plan.ev (hold 9 (by kernel_rfl))
      have CC := ((B1.out.keep (drewN_below (drewN_below (Below.refl _ _) _) _)).drew.keep hb).cells2
      clear hold hdep
      exact Plan.step_const rfl rfl (by go_simp <;> exact IntWalk.i64_in _ (by omega))
    · -- 3: Op.fieldAddr 73 (Operand.tmp 7) 0
      intro a W hold hdep hb
      have e7 : a.tmps[7]?.getD undef = .pointer (some ⟨w.heap.size, 0, none⟩) := Plan.ev (hold 7 (by kernel_rfl))
      clear hold hdep
      exact Plan.step_const rfl rfl (by go_simp <;> exact IntWalk.i64_in _ (by omega))
    · -- 4: Op.load 71 (Operand.tmp 55)
      intro a W hold hdep hb
      have e55 : a.tmps[55]?.getD undef = .pointer (some ⟨w.heap.size, 0, none⟩) := Plan.ev (Plan.dep_const (by rfl) (hdep 3 (by kernel_rfl)))
      have CC := ((B0.out.keep (drewN_below (drewN_below (Below.refl _ _) _) _)).drew.keep hb).cells4.1
      clear hold hdep
      exact Plan.step_const rfl rfl (by go_simp <;> exact IntWalk.i64_in _ (by omega))
    · -- 5: Op.call { callee := Callee.value (Operand.func 98), args := #[Operand.
      intro a W hold hdep hb
      have e54 : a.tmps[54]?.getD undef = ptV (s1 + ua) (s2 + va) := Plan.ev (Plan.dep_const (by rfl) (hdep 2 (by kernel_rfl)))
      have e56 : a.tmps[56]?.getD undef = ptV (d1 + ca) (d2 + ra) := Plan.ev (Plan.dep_const (by rfl) (hdep 4 (by kernel_rfl)))
      clear hold hdep
      exact Plan.step_call (f := 98) (args := #[ptV (s1 + ua) (s2 + va), ptV (d1 + ca) (d2 + ra)]) rfl rfl (by go_simp) (SUB.out W)
    · -- 6: Op.call { callee := Callee.value (Operand.func 97), args := #[Operand.
      intro a W hold hdep hb
      have e53 : a.tmps[53]?.getD undef = rcV ⟨d1 + ca, d2 + ra, d1 + ce, d2 + re⟩ := Plan.ev (Plan.dep_const (by rfl) (hdep 1 (by kernel_rfl)))
      have e57 : a.tmps[57]?.getD undef = ptV (s1 + ua - (d1 + ca)) (s2 + va - (d2 + ra)) := Plan.ev (Plan.dep_const (by rfl) (hdep 5 (by kernel_rfl)))
      clear hold hdep
      exact Plan.step_call (f := 97) (args := #[rcV ⟨d1 + ca, d2 + ra, d1 + ce, d2 + re⟩, ptV (s1 + ua - (d1 + ca)) (s2 + va - (d2 + ra))]) rfl rfl (by go_simp) (ADD.out W)
  intro vs W1 lo hi hD
  change wpList _ _ _ _ { tmps := (Array.setIfInBounds (Array.setIfInBounds (Array.setIfInBounds (Array.setIfInBounds (Array.setIfInBounds (Array.setIfInBounds (Array.setIfInBounds _ 52 (vs 0)) 53 (vs 1)) 54 (vs 2)) 55 (vs 3)) 56 (vs 4)) 57 (vs 5)) 58 (vs 6)), defers := _ } _
  simp only [Plan.putAll_zero, List.setIfInBounds_toArray, List.set_cons_zero, List.set_cons_succ, List.drop_succ_cons, List.drop_zero]
  have p0 : vs 0 = rcV ⟨d1 + ca, d2 + ra, d1 + ce, d2 + re⟩ := (hD.facts 0 (by omega)).2.2.2
  have p1 : vs 1 = rcV ⟨d1 + ca, d2 + ra, d1 + ce, d2 + re⟩ := (hD.facts 1 (by omega)).2.2.2
  have p2 : vs 2 = ptV (s1 + ua) (s2 + va) := (hD.facts 2 (by omega)).2.2.2
  have p3 : vs 3 = .pointer (some ⟨w.heap.size, 0, none⟩) := (hD.facts 3 (by omega)).2.2.2
  have p4 : vs 4 = ptV (d1 + ca) (d2 + ra) := (hD.facts 4 (by omega)).2.2.2
  have p5 : vs 5 = ptV (s1 + ua - (d1 + ca)) (s2 + va - (d2 + ra)) := (hD.facts 5 (by omega)).2.2.2
  have p6 : vs 6 = rcV MV := (hD.facts 6 (by omega)).2.2.2
  simp only [p0, p1, p2, p3, p4, p5, p6]
  clear p0 p1 p2 p3 p4 p5 p6
  have hW1 := hD.bel
  clear hD  lo hi vs
  have bw0 : Below w.heap.size w W1 := (Below.drew (drewN_below (drewN_below bW0 _) _)).trans (hW1.mono (Below.drew (drewN_below (drewN_below bW0 _) _)).size)
  have b00 : Below W0.heap.size W0 W1 := (Below.drew (drewN_below (drewN_below (Below.refl _ W0) _) _)).trans (hW1.mono (Below.drew (drewN_below (drewN_below (Below.refl W0.heap.size W0) _) _)).size)
  clear hW1 cB lB cP lP cQ lQ
  go_wp2_with fail
  refine (OV.out W1).mono ?_
  rintro e W2 ⟨rfl, hb2⟩
  have bw1 : Below w.heap.size w W2 := bw0.trans (hb2.mono bw0.size)
  have b01 : Below W0.heap.size W0 W2 := b00.trans (hb2.mono b00.size)
  have F0 := hid (B0.out.keep b01)
  have F1 := hid (B1.out.keep b01)
  have F2 := hid (B2.out.keep b01)
  clear hb2 bw0 b00
  have z1 := bw1.size
  have s01 : W0.heap.size ≤ W2.heap.size := b01.size
  clear B0 B1 B2 b01
  have cB := F0.out.cells4.1
  have lB := F0.out.lt
  have cP := F1.out.cells2.1
  have lP := F1.out.lt
  have cQ := F2.out.cells2.1
  have lQ := F2.out.lt
  obtain rfl := hbf
  go_upto_region 4 with (fail)
  go_cut [81] from 60 to 81 (fun s81 wx => W2 = wx ∧ s81 = .bool true)
  case first =>
    rcases HDIR.out with hh | ⟨hh1, hh2⟩
    · go_wp2_with fail
      go_meet
      case rel => exact ⟨rfl, rfl⟩
    · have k0 : (s2 + (va : Int) == d2 + (ra : Int)) = true := by simpa using hh1
      have k1 : ¬ (s2 + (va : Int) < d2 + (ra : Int)) := by omega
      clear hh1
      go_wp2_with fail
      go_meet
      case rel => exact ⟨rfl, rfl⟩
  case rest =>
  obtain ⟨rfl, rfl⟩ := hcut
  obtain ⟨y0, hy0⟩ : ∃ x : Int, x = d2 + (re : Int) - 1 := ⟨_, rfl⟩
  obtain ⟨yf, hyf⟩ : ∃ x : Int, x = d2 + (ra : Int) - 1 := ⟨_, rfl⟩
  obtain ⟨x0, hx0⟩ : ∃ x : Int, x = d1 + (ce : Int) - 1 := ⟨_, rfl⟩
  obtain ⟨xf, hxf⟩ : ∃ x : Int, x = d1 + (ca : Int) - 1 := ⟨_, rfl⟩
  obtain ⟨ye, hye⟩ : ∃ x : Int, x = s2 + ((va + (re - ra) : Nat) : Int) - 1 := ⟨_, rfl⟩
  obtain ⟨me, hme⟩ : ∃ x : Int, x = m2 + ((vm + (re - ra) : Nat) : Int) - 1 := ⟨_, rfl⟩
  obtain ⟨se, hse⟩ : ∃ x : Int, x = s1 + ((ua + wN : Nat) : Int) - 1 := ⟨_, rfl⟩
  obtain ⟨ne, hne'⟩ : ∃ x : Int, x = m1 + ((um + wN : Nat) : Int) - 1 := ⟨_, rfl⟩
  obtain ⟨sf, hsf⟩ : ∃ x : Int, x = s1 + (ua : Int) - 1 := ⟨_, rfl⟩
  have hwce : (wN : Int) = ce - ca := by have := HWN.out; omega
  have c1 : IntKind.i64.wrap (d2 + (re : Int) - 1) = y0 := by rw [IntWalk.i64_in _ (by omega)]; omega
  have c2 : IntKind.i64.wrap (d2 + (ra : Int) - 1) = yf := by rw [IntWalk.i64_in _ (by omega)]; omega
  have c3 : IntKind.i64.wrap (d1 + (ce : Int) - 1) = x0 := by rw [IntWalk.i64_in _ (by omega)]; omega
  have c4 : IntKind.i64.wrap (d1 + (ca : Int) - 1) = xf := by rw [IntWalk.i64_in _ (by omega)]; omega
  have g1 : IntKind.i64.wrap (s2 + (va : Int) + y0 - (d2 + (ra : Int))) = ye := by rw [IntWalk.i64_in _ (by omega)]; omega
  have g2 : IntKind.i64.wrap (m2 + (vm : Int) + y0 - (d2 + (ra : Int))) = me := by rw [IntWalk.i64_in _ (by omega)]; omega
  have g3 : IntKind.i64.wrap (s1 + (ua : Int) + x0 - (d1 + (ca : Int))) = se := by rw [IntWalk.i64_in _ (by omega)]; omega
  have g4 : IntKind.i64.wrap (m1 + (um : Int) + x0 - (d1 + (ca : Int))) = ne := by rw [IntWalk.i64_in _ (by omega)]; omega
  have g5 : IntKind.i64.wrap (se + (xf - x0)) = sf := by rw [IntWalk.i64_in _ (by omega)]; omega
  have bo : -65 ≤ y0 ∧ y0 ≤ 200 ∧ -65 ≤ yf ∧ yf ≤ 200 ∧ -65 ≤ x0 ∧ x0 ≤ 200 ∧ -65 ≤ xf ∧ xf ≤ 200 ∧ -65 ≤ se ∧ se ≤ 300 := by omega
  have HOP : Hid (y0 = d2 + (re : Int) - 1 ∧ yf = d2 + (ra : Int) - 1 ∧ x0 = d1 + (ce : Int) - 1 ∧ xf = d1 + (ca : Int) - 1 ∧ ye = s2 + ((va + (re - ra) : Nat) : Int) - 1 ∧ me = m2 + ((vm + (re - ra) : Nat) : Int) - 1 ∧ se = s1 + ((ua + wN : Nat) : Int) - 1 ∧ ne = m1 + ((um + wN : Nat) : Int) - 1 ∧ sf = s1 + (ua : Int) - 1) := ⟨hy0, hyf, hx0, hxf, hye, hme, hse, hne', hsf⟩
  clear hy0 hyf hx0 hxf hye hme hse hne' hsf hwce
  go_wp2_with fail
  clear g1 g2 g3 g4 g5 c1 c2 c3 c4
  refine (pixo78 gD _ Wd (re - 1) (ce - 1) d1 d2 d3 d4 _ _ _ (HD.out.blk.keep bw1) HB12.out.2.2.1 (by omega) (by omega) (by omega) (by omega) (by omega) (by have := HOP.out; omega) (by have := HOP.out; omega)).mono ?_
  rintro e W5 ⟨rfl, hb5⟩
  have bw5 : Below w.heap.size w W5 := bw1.trans (hb5.mono bw1.size)
  obtain ⟨pa, hpa⟩ : ∃ x, x = pos Wd (re - 1) (ce - 1) 0 := ⟨_, rfl⟩
  rw [← hpa]
  have HPA := hid hpa
  have hpan : pa ≤ 131072 := by
    have h5 := Nat.mul_le_mul (show re - 1 ≤ 128 by omega) HL.1
    unfold pos at hpa
    omega
  have DB : Hid (Blk W5 gD 95 #[.slice (some ⟨gp, 0, none⟩) n cap, iv (4 * (Wd : Int)), iv d1, iv d2, iv d3, iv d4]) := by
    have h := HD.out.blk.keep bw5
    rwa [show d3 - d1 = (Wd : Int) by have := HB12.out; omega] at h
  have nD : gD ≠ gp := fun h => by
    obtain ⟨cur, hc, _⟩ := HD.out.row
    have := HD.out.blk
    rw [h] at this
    rw [this] at hc
    simp at hc
  have nS : gS ≠ gp := fun h => by
    obtain ⟨cur, hc, _⟩ := HD.out.row
    have := HS.out.blk
    rw [h] at this
    rw [this] at hc
    simp at hc
  have nM : gM ≠ gp := fun h => by
    obtain ⟨cur, hc, _⟩ := HD.out.row
    have := HM.out.blk
    rw [h] at this
    rw [this] at hc
    simp at hc
  have HROW := hid (HD.out.row.keep bw5)
  have SR := hid (HS.out.row.keep bw5)
  have MR := hid (HM.out.row.keep bw5)
  have SBk := hid (HS.out.blk.keep bw5)
  have MBk := hid (HM.out.blk.keep bw5)
  have HBW := hid bw5
  clear hb5 bW0 cB lB cP lP cQ lQ bw5 hpa F0 F1 F2 bw1
  go_wp2_with fail
  go_loopw [18, 19, 23, 25] (fun s18 s19 s23 s25 wr => ∃ r : Nat, ra ≤ r ∧ r ≤ re ∧ s18 = .int .i64 (s2 + ((va + (r - ra) : Nat) : Int) - 1) ∧ s19 = .int .i64 (m2 + ((vm + (r - ra) : Nat) : Int) - 1) ∧ s23 = .int .i64 (((pos Wd r ca 0 : Nat) : Int) + 4 * (wN : Int) - 4 - 4 * (Wd : Int)) ∧ s25 = .int .i64 (d2 + (r : Int) - 1) ∧ Only [gp] W5 wr ∧ ∃ f', PixRow wr gp cap n f' ∧
    Painted Wd f nw (fun r' c' => inPart ca ra ce re r' c' ∧ r ≤ r') f') (fun _ _ _ s25 _ => (intOf s25 - (d2 + (ra : Int)) + 1).toNat)
  case atStart =>
    refine ⟨re, by omega, by omega, ?_, ?_, ?_, ?_, Only.refl _ _, f, HROW.out, Painted.start _ _ _ fun r c h => ?_⟩
    · rw [HOP.out.2.2.2.2.1]
    · rw [HOP.out.2.2.2.2.2.1]
    · have h3 : re * Wd = (re - 1) * Wd + Wd := by rw [← Nat.succ_mul]; congr 1; omega
      have h4 := HPA.out
      have h5 := HWN.out
      congr 1
      unfold pos at h4 ⊢
      omega
    · rw [HOP.out.1]
    · have h' := h.1.2.1
      omega
  case round =>
    obtain ⟨r, hr1, hr2, rfl, rfl, rfl, rfl, hon, f', hrow, hpt⟩ := hrel
    clear HROW HPA
    by_cases hlt : ra < r
    case neg =>
      obtain rfl : r = ra := by omega
      rw [show d2 + (r : Int) - 1 = yf from HOP.out.2.1.symm]
      go_wp2_with fail
      go_end0
      exact ⟨⟨_, rfl⟩, (Only.of_below HBW.out).trans hon, f', hrow, hpt.congr fun r' c' _ => ⟨fun h => h.1, fun h => ⟨h, h.1⟩⟩⟩
    obtain ⟨q, rfl⟩ : ∃ q, r = q + 1 := ⟨r - 1, by omega⟩
    rw [show d2 + ((q + 1 : Nat) : Int) - 1 = d2 + (q : Int) by omega]
    have k1 : (d2 + (q : Int) != yf) = true := by have := HOP.out; simp; omega
    have k0 : (d2 + (q : Int) == yf) = false := by have := HOP.out; simp; omega
    obtain ⟨pd, hpd⟩ : ∃ pd, pd = pos Wd q ca 0 := ⟨_, rfl⟩
    obtain ⟨pe, hpe⟩ : ∃ pe, pe = pd + 4 * (wN - 1) := ⟨_, rfl⟩
    rw [show ((pos Wd (q + 1) ca 0 : Nat) : Int) + 4 * (wN : Int) - 4 - 4 * (Wd : Int) = (pe : Int) by rw [hpe, hpd]; unfold pos; rw [Nat.add_mul]; omega]
    have hpn : pd + 4 * wN ≤ n ∧ pd + 4 * Wd ≤ 131072 := by
      have h1 := Nat.mul_le_mul_right Wd (show q + 1 ≤ H by omega)
      have h5 := Nat.mul_le_mul (show q + 1 ≤ 128 by omega) HL.1
      rw [Nat.add_mul, Nat.one_mul] at h1 h5
      have h2 := HD.out.len
      have h3 := HWN.out
      unfold pos at hpd
      omega
    have hpeb : pe + 4 = pd + 4 * wN := by omega
    obtain ⟨v, hv⟩ : ∃ v, v = va + (q - ra) := ⟨_, rfl⟩
    obtain ⟨vv, hvv⟩ : ∃ v, v = vm + (q - ra) := ⟨_, rfl⟩
    have hvH : v < Hs ∧ vv < Hm := ⟨by omega, by omega⟩
    rw [show s2 + ((va + (q + 1 - ra) : Nat) : Int) - 1 = s2 + (v : Int) by omega, show m2 + ((vm + (q + 1 - ra) : Nat) : Int) - 1 = m2 + (vv : Int) by omega]
    have hcap := HD.out.cap
    have hscap := HS.out.cap
    have hmcap := HM.out.cap
    have HPD := hid hpd; have HVV := hid hv; have HVM := hid hvv; have HPE := hid hpeb
    have HON := hid hon; have HROW' := hid hrow; have HPT := hid hpt
    have hpe2 : pe ≤ 131072 := by have := HWN.out; omega
    clear hpd hon hrow hpt hv hvv hpe hpeb
    go_wp2_with fail
    clear k0 k1
    go_loopw [26, 27, 28] (fun s26 s27 s28 wr => ∃ k : Nat, k ≤ wN ∧ s26 = .int .i64 ((pd : Int) + 4 * (k : Int) - 4) ∧ s27 = .int .i64 (s1 + ((ua + k : Nat) : Int) - 1) ∧ s28 = .int .i64 (m1 + ((um + k : Nat) : Int) - 1) ∧ Only [gp] W5 wr ∧ ∃ f', PixRow wr gp cap n f' ∧
      Painted Wd f nw (fun r' c' => inPart ca ra ce re r' c' ∧ (q + 1 ≤ r' ∨ (r' = q ∧ ca + k ≤ c'))) f') (fun s26 _ _ _ => (intOf s26 - (pd : Int) + 4).toNat)
    case atStart =>
      refine ⟨wN, by omega, ?_, ?_, ?_, HON.out, f', HROW'.out, HPT.out.congr fun r' c' _ => ⟨fun h => ⟨h.1, Or.inl h.2⟩, fun h => ⟨h.1, ?_⟩⟩⟩
      · have := HPE.out
        congr 1
        omega
      · rw [HOP.out.2.2.2.2.2.2.1]
      · rw [HOP.out.2.2.2.2.2.2.2.1]
      · obtain ⟨⟨h1, h2, h3, h4⟩, h5⟩ := h
        have := HWN.out
        omega
    case round =>
      clear HON HROW' HPT
      obtain ⟨k, hk2, rfl, rfl, rfl, hon, f', hrow, hpt⟩ := hrel
      by_cases hlc : 0 < k
      case neg =>
        obtain rfl : k = 0 := by omega
        rw [show s1 + ((ua + 0 : Nat) : Int) - 1 = sf by have := HOP.out; omega]
        have cD := (hon.blk DB.out (by simp [nD])).cells6
        have e10 : IntKind.i64.wrap (-1 * (4 * (Wd : Int))) = -(4 * (Wd : Int)) := by rw [IntWalk.i64_in _ (by omega)]; omega
        have e12 : IntKind.i64.wrap (-(4 * (Wd : Int))) = -(4 * (Wd : Int)) := IntWalk.i64_in _ (by omega)
        go_wp2_with fail
        refine ⟨⟨q, by omega, by omega, ?_, ?_, ?_, ?_, hon, f', hrow, hpt.congr fun r' c' _ => ⟨fun h => ⟨h.1, ?_⟩, fun h => ⟨h.1, ?_⟩⟩⟩, ?_⟩
        · rw [← HVV.out]; first | rfl | (congr 1; done) | (congr 1; omega)
        · rw [← HVM.out]; first | rfl | (congr 1; done) | (congr 1; omega)
        · rw [← HPD.out]; have := HPE.out; first | rfl | (congr 1; done) | (congr 1; omega)
        · first | rfl | (congr 1; done) | (congr 1; omega)
        · obtain ⟨⟨h1, h2, h3, h4⟩, h5⟩ := h
          have := HWN.out
          omega
        · obtain ⟨⟨h1, h2, h3, h4⟩, h5⟩ := h
          have := HWN.out
          omega
        · simp only [intOf]; omega
      obtain ⟨k, rfl⟩ : ∃ j, k = j + 1 := ⟨k - 1, by omega⟩
      obtain ⟨x, hx⟩ : ∃ x, x = pd + 4 * k := ⟨_, rfl⟩
      obtain ⟨uu, huu⟩ : ∃ x, x = ua + k := ⟨_, rfl⟩
      obtain ⟨mm, hmm⟩ : ∃ x, x = um + k := ⟨_, rfl⟩
      rw [show (pd : Int) + 4 * ((k + 1 : Nat) : Int) - 4 = (x : Int) by omega, show s1 + ((ua + (k + 1) : Nat) : Int) - 1 = s1 + (uu : Int) by omega, show m1 + ((um + (k + 1) : Nat) : Int) - 1 = m1 + (mm : Int) by omega]
      have kk1 : (s1 + (uu : Int) != sf) = true := by have := HOP.out; simp; omega
      have kk0 : (s1 + (uu : Int) == sf) = false := by have := HOP.out; simp; omega
      obtain ⟨c, hc⟩ : ∃ c, c = ca + k := ⟨_, rfl⟩
      have hcc : c < ce ∧ c < Wd := by have := HWN.out; omega
      have hin : ¬ (inPart ca ra ce re q c ∧ (q + 1 ≤ q ∨ (q = q ∧ ca + (k + 1) ≤ c))) := by omega
      have eP : pos Wd q c 0 = x := by
        rw [hx, HPD.out, hc]
        unfold pos
        omega
      have hold : ∀ j, j < 4 → f' (x + j) = f (pos Wd q c j) := fun j hj => by
        have h1 := (hpt q c j (by omega) hj).2 hin
        have h2 : pos Wd q c j = x + j := by rw [← eP]; unfold pos; omega
        rw [← h2]; exact h1
      obtain ⟨si, hsi⟩ : ∃ x, x = v * Ws + uu := ⟨_, rfl⟩
      obtain ⟨mi, hmi⟩ : ∃ x, x = vv * Wm + mm := ⟨_, rfl⟩
      have hsp : (va + (q - ra)) * Ws + (ua + (c - ca)) = si := by
        rw [← HVV.out, hsi, huu, hc]
        omega
      have hsm : (vm + (q - ra)) * Wm + (um + (c - ca)) = mi := by
        rw [← HVM.out, hmi, hmm, hc]
        omega
      have eN : Hid (∀ j, nw q c j = maskB (f (pos Wd q c j)) (if j = 3 then 65535 else fs si * 257) 65535 (fm mi)) := by
        intro j
        rw [HNW.out, ← hsp, ← hsm]
      have HEP := hid eP
      have hxn : x + 4 ≤ n := by omega
      have hsim : si < m := by
        have h1 := place_lt (z := 1) (v := v) (Ws := Ws) (Hs := Hs) (u := uu) hvH.1 (by have := HWN.out; omega)
        have h2 := HS.out.len
        omega
      have hmil : mi < l := by
        have h1 := place_lt (z := 1) (v := vv) (Ws := Wm) (Hs := Hm) (u := mm) hvH.2 (by have := HWN.out; omega)
        have h2 := HM.out.len
        omega
      have hsr : si ≤ 131072 ∧ mi ≤ 131072 := by
        have h1 := Nat.mul_le_mul (show v ≤ 128 by omega) HL.2.2.1
        have h2 := Nat.mul_le_mul (show vv ≤ 128 by omega) HL.2.2.2.2.1
        exact ⟨by omega, by omega⟩
      have HSI := hid hsi; have HMI := hid hmi
      have HC := hid hc; have HX := hid hx; have HUu := hid huu; have HMm := hid hmm
      have HON := hid hon; have HROW' := hid hrow; have HPT := hid hpt; have HOLD := hid hold
      have huW : uu ≤ 128 ∧ mm ≤ 128 := by omega
      clear hon hrow hpt hold eP hc hx huu hmm hsp hsm hsi hmi
      go_wp2_with fail
      refine (pixo105 gM _ Wm vv mm m1 m2 m3 m4 _ _ _ (HON.out.blk MBk.out (by simp [nM])) MB12.out.2.2.1 (by omega) (by omega) (by omega) (by omega) (by omega) rfl rfl).mono ?_
      rintro e wA ⟨rfl, hbA⟩
      rw [← HMI.out]
      have HONa := hid (HON.out.trans (Only.of_below hbA))
      have HROWa := hid (HROW'.out.keep hbA)
      have cM := (HONa.out.blk MBk.out (by simp [nM])).cells6
      have mc := (MR.out.of_block (HONa.out.block gr MR.out.lt (by simp; exact Ne.symm hnm))).cell (j := mi) (by omega)
      have mr := RM.out mi
      obtain ⟨mb, hmb⟩ : ∃ t, t = fm mi := ⟨_, rfl⟩
      rw [← hmb] at mc mr
      have HMB := hid hmb
      have tw := twice mr
      have y8 : IntKind.u32.wrap (mb * 256) = mb * 256 := IntWalk.u32_in _ (by omega)
      clear hbA hmb HON HROW' kk1 kk0
      go_wp2_with fail
      refine (pixo106 gS _ Ws v uu s1 s2 s3 s4 _ _ _ (HONa.out.blk SBk.out (by simp [nS])) SB12.out.2.2.1 (by omega) (by omega) (by omega) (by omega) (by omega) rfl rfl).mono ?_
      rintro e wB ⟨rfl, hbB⟩
      rw [← HSI.out]
      have HON := hid (HONa.out.trans (Only.of_below hbB))
      have hrow := HROWa.out.keep hbB
      have cD := (HON.out.blk DB.out (by simp [nD])).cells6
      have cS := (HON.out.blk SBk.out (by simp [nS])).cells6
      have sr := SR.out.of_block (HON.out.block gq SR.out.lt (by simp; exact Ne.symm hne))
      have p0c := sr.cell (j := si) (by omega)
      have x0 := hrow.cell (j := x) (by omega)
      have x1 := hrow.cell (j := x + 1) (by omega)
      have x2 := hrow.cell (j := x + 2) (by omega)
      have x3 := hrow.cell (j := x + 3) (by omega)
      have z0 := hrow.frozen x
      have z1 := hrow.frozen (x + 1)
      have z2 := hrow.frozen (x + 2)
      have z3 := hrow.frozen (x + 3)
      have o0 := HOLD.out 0 (by omega)
      have o1 := HOLD.out 1 (by omega)
      have o2 := HOLD.out 2 (by omega)
      have o3 := HOLD.out 3 (by omega)
      rw [Nat.add_zero] at o0
      rw [o0] at x0
      rw [o1] at x1
      rw [o2] at x2
      rw [o3] at x3
      have tr0 := RF.out (pos Wd q c 0)
      have tr1 := RF.out (pos Wd q c 1)
      have tr2 := RF.out (pos Wd q c 2)
      have tr3 := RF.out (pos Wd q c 3)
      have pr0 := RS.out si
      obtain ⟨t0, ht0⟩ : ∃ t, t = f (pos Wd q c 0) := ⟨_, rfl⟩
      obtain ⟨t1, ht1⟩ : ∃ t, t = f (pos Wd q c 1) := ⟨_, rfl⟩
      obtain ⟨t2, ht2⟩ : ∃ t, t = f (pos Wd q c 2) := ⟨_, rfl⟩
      obtain ⟨t3, ht3⟩ : ∃ t, t = f (pos Wd q c 3) := ⟨_, rfl⟩
      obtain ⟨p0, hp0⟩ : ∃ t, t = fs si := ⟨_, rfl⟩
      rw [← ht0] at x0 tr0
      rw [← ht1] at x1 tr1
      rw [← ht2] at x2 tr2
      rw [← ht3] at x3 tr3
      rw [← hp0] at p0c pr0
      have HDS : Hid ((f (pos Wd q c 0) = t0 ∧ f (pos Wd q c 1) = t1 ∧ f (pos Wd q c 2) = t2 ∧ f (pos Wd q c 3) = t3) ∧ fs si = p0 ∧ fm mi = mb) := ⟨⟨ht0.symm, ht1.symm, ht2.symm, ht3.symm⟩, hp0.symm, HMB.out.symm⟩
      have ex4 : IntKind.i64.wrap ((x : Int) + 4) = ((x + 4 : Nat) : Int) := by rw [IntWalk.i64_in _ (by omega)]; omega
      have hcpx : ¬ cap = x := by omega
      have a3 : (0 : Int) ≤ 65535 ∧ (65535 : Int) ≤ 65535 := by omega
      obtain ⟨ga1, ga2, ga3, ga4, ga5⟩ := maskF tr0 a3 (u := p0 * 257) (by omega) mr
      obtain ⟨gb1, gb2, gb3, gb4, gb5⟩ := maskF tr1 a3 (u := p0 * 257) (by omega) mr
      obtain ⟨gc1, gc2, gc3, gc4, gc5⟩ := maskF tr2 a3 (u := p0 * 257) (by omega) mr
      obtain ⟨gd1, gd2, gd3, gd4, gd5⟩ := maskF tr3 a3 (u := 65535) (by omega) mr
      have eC : (65535 : Int) * (mb * 257) / 65535 = mb * 257 := Int.mul_ediv_cancel_left _ (by omega)
      rw [eC] at ga3 gb3 gc3 gd3 ga5 gb5 gc5 gd5
      have tw0 := twice pr0
      have w80 : IntKind.u32.wrap (p0 * 256) = p0 * 256 := IntWalk.u32_in _ (by omega)
      have HROW' := hid hrow
      clear hbB hrow o0 o1 o2 o3 ht0 ht1 ht2 ht3 hp0 sr HONa HROWa
      have y9 : IntKind.u32.wrap (65535 * (mb * 257)) = 65535 * (mb * 257) := IntWalk.u32_in _ (by omega)
      have yA : IntKind.u32.wrap (65535 - mb * 257) = 65535 - mb * 257 := IntWalk.u32_in _ (by omega)
      have yB : IntKind.u32.wrap ((65535 - mb * 257) * 257) = (65535 - mb * 257) * 257 := IntWalk.u32_in _ (by omega)
      have q0 : IntKind.u32.wrap (p0 * 257 * (mb * 257)) = p0 * 257 * (mb * 257) := IntWalk.u32_in _ (by omega)
      have n0 : IntKind.u32.wrap (t0 * ((65535 - mb * 257) * 257)) = t0 * ((65535 - mb * 257) * 257) := IntWalk.u32_in _ (by omega)
      have n1 : IntKind.u32.wrap (t1 * ((65535 - mb * 257) * 257)) = t1 * ((65535 - mb * 257) * 257) := IntWalk.u32_in _ (by omega)
      have n2 : IntKind.u32.wrap (t2 * ((65535 - mb * 257) * 257)) = t2 * ((65535 - mb * 257) * 257) := IntWalk.u32_in _ (by omega)
      have n3 : IntKind.u32.wrap (t3 * ((65535 - mb * 257) * 257)) = t3 * ((65535 - mb * 257) * 257) := IntWalk.u32_in _ (by omega)
      have e0s : IntKind.u32.wrap (t0 * ((65535 - mb * 257) * 257) + p0 * 257 * (mb * 257)) = t0 * ((65535 - mb * 257) * 257) + p0 * 257 * (mb * 257) := IntWalk.u32_in _ (by omega)
      have e1s : IntKind.u32.wrap (t1 * ((65535 - mb * 257) * 257) + p0 * 257 * (mb * 257)) = t1 * ((65535 - mb * 257) * 257) + p0 * 257 * (mb * 257) := IntWalk.u32_in _ (by omega)
      have e2s : IntKind.u32.wrap (t2 * ((65535 - mb * 257) * 257) + p0 * 257 * (mb * 257)) = t2 * ((65535 - mb * 257) * 257) + p0 * 257 * (mb * 257) := IntWalk.u32_in _ (by omega)
      have e3s : IntKind.u32.wrap (t3 * ((65535 - mb * 257) * 257) + 65535 * (mb * 257)) = t3 * ((65535 - mb * 257) * 257) + 65535 * (mb * 257) := IntWalk.u32_in _ (by omega)
      go_wp2_with fail
      refine ⟨⟨k, by omega, ?_, ?_, ?_, ?_, _, HROW'.out.quad x _ _ _ _, HPT.out.step4 (r0 := q) (c0 := c) (by omega) HEP.out ?_ fun r' c' _ => ⟨fun h => ?_, fun h => ?_⟩⟩, ?_⟩
      · rw [HX.out]; first | rfl | (congr 1; done) | (congr 1; omega)
      · rw [HUu.out]; first | rfl | (congr 1; done) | (congr 1; omega)
      · rw [HMm.out]; first | rfl | (congr 1; done) | (congr 1; omega)
      · exact (((HON.out.setCell (Or.inl (by simp)) _).setCell (Or.inl (by simp)) _).setCell (Or.inl (by simp)) _).setCell (Or.inl (by simp)) _
      · obtain ⟨⟨w0, w1, w2, w3⟩, u0, w4⟩ := HDS.out
        rw [eN.out 0, eN.out 1, eN.out 2, eN.out 3, w0, w1, w2, w3, w4, u0]
        unfold maskB
        rw [eC, if_neg (by omega), if_neg (by omega), if_neg (by omega), if_pos rfl]
        exact ⟨rfl, rfl, rfl, rfl⟩
      · have := HC.out
        have := HWN.out
        rcases h with ⟨h1, h2⟩ | ⟨rfl, rfl⟩
        · exact ⟨h1, by omega⟩
        · exact ⟨⟨by omega, by omega, by omega, by omega⟩, by omega⟩
      · have := HC.out
        by_cases e : r' = q ∧ c' = c
        · exact Or.inr e
        · exact Or.inl ⟨h.1, by omega⟩
      · simp only [intOf]; have := HX.out; omega
end Go.Proofs.Ytlnfcjaempojgaa
