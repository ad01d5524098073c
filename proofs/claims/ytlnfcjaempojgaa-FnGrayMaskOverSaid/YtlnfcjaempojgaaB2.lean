/- Contract of spec.Clip with a mask. -/
import Derived.Test.YtlnfcjaempojgaaB1
namespace Go.Proofs.Ytlnfcjaempojgaa
open Go.RowKit
attribute [local go_sem high] run_imax run_imin run_imax3

set_option maxRecDepth 20000 in
set_option maxHeartbeats 1000000 in
theorem clip_masked (dst r src mask : Rc) (sx sy mx my : Int) (w : World) (hr : r.in_ 1000) (hs : src.in_ 4000000000) (hm : mask.in_ 4000000000) (hsx : -1000 ≤ sx ∧ sx ≤ 1000) (hsy : -1000 ≤ sy ∧ sy ≤ 1000) (hmx : -1000 ≤ mx ∧ mx ≤ 1000) (hmy : -1000 ≤ my ∧ my ≤ 1000)
    (C0 C : Rc) (hC0 : C0 = (r.common dst).common (src.moved (r.a - sx) (r.b - sy))) (hC : C = C0.common (mask.moved (r.a - mx) (r.b - my))) :
    Calls Try.prog 19 #[rcV dst, rcV r, rcV src, iv sx, iv sy, rcV mask, .bool true, iv mx, iv my] w fun e w' =>
      e = .returned (.tuple #[rcV C, ptV (sx + C.a - r.a) (sy + C.b - r.b), ptV (mx + C.a - r.a) (my + C.b - r.b)]) ∧ Below w.heap.size w w' := by
  have hS := hid hs
  have hM := hid hm
  have hCi : C.in_ 1000 := by rw [hC, hC0]; exact Rc.common_in _ (by omega) (Rc.common_in _ (by omega) (Rc.common_in _ (by omega) hr))
  obtain ⟨hra, hrb, hrc, hrd⟩ := hr
  obtain ⟨hca, hcb, hcc, hcd⟩ := hCi
  have HC0 := hid hC0
  have HC := hid hC
  clear hs hC hC0 hm
  go_enter Try.func19, Try.ntmps19
  go_wp2_with fail
  obtain ⟨W0, hW0⟩ : ∃ W : World, W = (((((((w.alloc (.cells #[iv dst.a, iv dst.b, iv dst.c, iv dst.d] 28)).alloc (.cells #[iv r.a, iv r.b, iv r.c, iv r.d] 28)).alloc (.cells #[iv src.a, iv src.b, iv src.c, iv src.d] 28)).alloc (.cells #[iv mask.a, iv mask.b, iv mask.c, iv mask.d] 28)).alloc (.cells #[iv 0, iv 0, iv 0, iv 0] 28)).alloc (.cells #[iv 0, iv 0] 34)).alloc (.cells #[iv 0, iv 0] 34)) := ⟨_, rfl⟩
  rw [← hW0]
  have B0 : Hid (Blk W0 (w.heap.size) 28 #[iv dst.a, iv dst.b, iv dst.c, iv dst.d]) := by rw [hW0]; exact Blk.alloc (Blk.alloc (Blk.alloc (Blk.alloc (Blk.alloc (Blk.alloc (Blk.new_at (W := w) (t := 28) (cs := #[iv dst.a, iv dst.b, iv dst.c, iv dst.d]) (by simp)) _) _) _) _) _) _
  have B1 : Hid (Blk W0 (w.heap.size + 1) 28 #[iv r.a, iv r.b, iv r.c, iv r.d]) := by rw [hW0]; exact Blk.alloc (Blk.alloc (Blk.alloc (Blk.alloc (Blk.alloc (Blk.new_at (W := (w.alloc (.cells #[iv dst.a, iv dst.b, iv dst.c, iv dst.d] 28))) (t := 28) (cs := #[iv r.a, iv r.b, iv r.c, iv r.d]) (by simp)) _) _) _) _) _
  have B2 : Hid (Blk W0 (w.heap.size + 1 + 1) 28 #[iv src.a, iv src.b, iv src.c, iv src.d]) := by rw [hW0]; exact Blk.alloc (Blk.alloc (Blk.alloc (Blk.alloc (Blk.new_at (W := ((w.alloc (.cells #[iv dst.a, iv dst.b, iv dst.c, iv dst.d] 28)).alloc (.cells #[iv r.a, iv r.b, iv r.c, iv r.d] 28))) (t := 28) (cs := #[iv src.a, iv src.b, iv src.c, iv src.d]) (by simp)) _) _) _) _
  have B3 : Hid (Blk W0 (w.heap.size + 1 + 1 + 1) 28 #[iv mask.a, iv mask.b, iv mask.c, iv mask.d]) := by rw [hW0]; exact Blk.alloc (Blk.alloc (Blk.alloc (Blk.new_at (W := (((w.alloc (.cells #[iv dst.a, iv dst.b, iv dst.c, iv dst.d] 28)).alloc (.cells #[iv r.a, iv r.b, iv r.c, iv r.d] 28)).alloc (.cells #[iv src.a, iv src.b, iv src.c, iv src.d] 28))) (t := 28) (cs := #[iv mask.a, iv mask.b, iv mask.c, iv mask.d]) (by simp)) _) _) _
  have B4 : Hid (Blk W0 (w.heap.size + 1 + 1 + 1 + 1) 28 #[iv 0, iv 0, iv 0, iv 0]) := by rw [hW0]; exact Blk.alloc (Blk.alloc (Blk.new_at (W := ((((w.alloc (.cells #[iv dst.a, iv dst.b, iv dst.c, iv dst.d] 28)).alloc (.cells #[iv r.a, iv r.b, iv r.c, iv r.d] 28)).alloc (.cells #[iv src.a, iv src.b, iv src.c, iv src.d] 28)).alloc (.cells #[iv mask.a, iv mask.b, iv mask.c, iv mask.d] 28))) (t := 28) (cs := #[iv 0, iv 0, iv 0, iv 0]) (by simp)) _) _
  have B5 : Hid (Blk W0 (w.heap.size + 1 + 1 + 1 + 1 + 1) 34 #[iv 0, iv 0]) := by rw [hW0]; exact Blk.alloc (Blk.new_at (W := (((((w.alloc (.cells #[iv dst.a, iv dst.b, iv dst.c, iv dst.d] 28)).alloc (.cells #[iv r.a, iv r.b, iv r.c, iv r.d] 28)).alloc (.cells #[iv src.a, iv src.b, iv src.c, iv src.d] 28)).alloc (.cells #[iv mask.a, iv mask.b, iv mask.c, iv mask.d] 28)).alloc (.cells #[iv 0, iv 0, iv 0, iv 0] 28))) (t := 34) (cs := #[iv 0, iv 0]) (by simp)) _
  have B6 : Hid (Blk W0 (w.heap.size + 1 + 1 + 1 + 1 + 1 + 1) 34 #[iv 0, iv 0]) := by rw [hW0]; exact Blk.new_at (W := ((((((w.alloc (.cells #[iv dst.a, iv dst.b, iv dst.c, iv dst.d] 28)).alloc (.cells #[iv r.a, iv r.b, iv r.c, iv r.d] 28)).alloc (.cells #[iv src.a, iv src.b, iv src.c, iv src.d] 28)).alloc (.cells #[iv mask.a, iv mask.b, iv mask.c, iv mask.d] 28)).alloc (.cells #[iv 0, iv 0, iv 0, iv 0] 28)).alloc (.cells #[iv 0, iv 0] 34))) (t := 34) (cs := #[iv 0, iv 0]) (by simp)
  have bW0 : Below w.heap.size w W0 := by rw [hW0]; go_grown
  have sW0 : W0.heap.size = w.heap.size + 7 := by rw [hW0]; simp
  have SW0 := hid sW0
  have zW0 : w.heap.size + 7 ≤ W0.heap.size := by omega
  clear sW0 hW0
  refine Plan.wp_region_steps 15 [] [rcV r, rcV dst, rcV (r.common dst), rcV src, .pointer (some ⟨w.heap.size + 1, 0, none⟩), iv r.a, iv sx, iv (r.a - sx), .pointer (some ⟨w.heap.size + 1, 1, none⟩), iv r.b, iv sy, iv (r.b - sy), rcV (src.moved (r.a - sx) (r.b - sy)), rcV ((r.common dst).common (src.moved (r.a - sx) (r.b - sy))), undef] [(14, 28, #[iv 0, iv 0, iv 0, iv 0])] (by kernel_rfl) (by kernel_rfl) (fun _ _ _ _ _ h => h) ?_ ?_
  · refine ⟨?_, ?_, ?_, ?_, ?_, ?_, ?_, ?_, ?_, ?_, ?_, ?_, ?_, ?_, ?_, trivial⟩
    · -- 0: Op.load 28 (Operand.tmp 10)
      intro a W hold hdep hb
      have e10 : a.tmps[10]?.getD undef = .pointer (some ⟨w.heap.size + 1, 0, none⟩) := Plan.ev (hold 10 (by kernel_rfl))
      have C := ((B1.out).drew.keep hb).cells4.1
      clear hold hdep
      exact Plan.step_const rfl rfl (by go_simp <;> exact IntWalk.i64_in _ (by omega))
    · -- 1: Op.load 28 (Operand.tmp 9)
      intro a W hold hdep hb
      have e9 : a.tmps[9]?.getD undef = .pointer (some ⟨w.heap.size, 0, none⟩) := Plan.ev (hold 9 (by kernel_rfl))
      have C := ((B0.out).drew.keep hb).cells4.1
      clear hold hdep
      exact Plan.step_const rfl rfl (by go_simp <;> exact IntWalk.i64_in _ (by omega))
    · -- 2: Op.call { callee := Callee.value (Operand.func 47), args := #[Operand.
      intro a W hold hdep hb
      have e22 : a.tmps[22]?.getD undef = rcV r := Plan.ev (Plan.dep_const (by rfl) (hdep 0 (by kernel_rfl)))
      have e23 : a.tmps[23]?.getD undef = rcV dst := Plan.ev (Plan.dep_const (by rfl) (hdep 1 (by kernel_rfl)))
      clear hold hdep
      exact Plan.step_call (f := 47) (args := #[rcV r, rcV dst]) rfl rfl (by go_simp) (common_any _ _ _)
    · -- 3: Op.load 28 (Operand.tmp 11)
      intro a W hold hdep hb
      have e11 : a.tmps[11]?.getD undef = .pointer (some ⟨w.heap.size + 1 + 1, 0, none⟩) := Plan.ev (hold 11 (by kernel_rfl))
      have C := ((B2.out).drew.keep hb).cells4.1
      clear hold hdep
      exact Plan.step_const rfl rfl (by go_simp <;> exact IntWalk.i64_in _ (by omega))
    · -- 4: Op.fieldAddr 28 (Operand.tmp 10) 0
      intro a W hold hdep hb
      have e10 : a.tmps[10]?.getD undef = .pointer (some ⟨w.heap.size + 1, 0, none⟩) := Plan.ev (hold 10 (by kernel_rfl))
      clear hold hdep
      exact Plan.step_const rfl rfl (by go_simp <;> exact IntWalk.i64_in _ (by omega))
    · -- 5: Op.load 3 (Operand.tmp 26)
      intro a W hold hdep hb
      have e26 : a.tmps[26]?.getD undef = .pointer (some ⟨w.heap.size + 1, 0, none⟩) := Plan.ev (Plan.dep_const (by rfl) (hdep 4 (by kernel_rfl)))
      have C := ((B1.out).drew.keep hb).cells4.1
      clear hold hdep
      exact Plan.step_const rfl rfl (by go_simp <;> exact IntWalk.i64_in _ (by omega))
    · -- 6: Op.move (Operand.tmp 3)
      intro a W hold hdep hb
      have e3 : a.tmps[3]?.getD undef = iv sx := Plan.ev (hold 3 (by kernel_rfl))
      clear hold hdep
      exact Plan.step_const rfl rfl (by go_simp <;> exact IntWalk.i64_in _ (by omega))
    · -- 7: Op.binOp BinOp.sub 3 (Operand.tmp 27) (Operand.tmp 28) 3
      intro a W hold hdep hb
      have e27 : a.tmps[27]?.getD undef = iv r.a := Plan.ev (Plan.dep_const (by rfl) (hdep 5 (by kernel_rfl)))
      have e28 : a.tmps[28]?.getD undef = iv sx := Plan.ev (Plan.dep_const (by rfl) (hdep 6 (by kernel_rfl)))
      clear hold hdep
      exact Plan.step_const rfl rfl (by go_simp <;> exact IntWalk.i64_in _ (by omega))
    · -- 8: Op.fieldAddr 28 (Operand.tmp 10) 1
      intro a W hold hdep hb
      have e10 : a.tmps[10]?.getD undef = .pointer (some ⟨w.heap.size + 1, 0, none⟩) := Plan.ev (hold 10 (by kernel_rfl))
      clear hold hdep
      exact Plan.step_const rfl rfl (by go_simp <;> exact IntWalk.i64_in _ (by omega))
    · -- 9: Op.load 3 (Operand.tmp 30)
      intro a W hold hdep hb
      have e30 : a.tmps[30]?.getD undef = .pointer (some ⟨w.heap.size + 1, 1, none⟩) := Plan.ev (Plan.dep_const (by rfl) (hdep 8 (by kernel_rfl)))
      have C := ((B1.out).drew.keep hb).cells4.1
      clear hold hdep
      exact Plan.step_const rfl rfl (by go_simp <;> exact IntWalk.i64_in _ (by omega))
    · -- 10: Op.move (Operand.tmp 4)
      intro a W hold hdep hb
      have e4 : a.tmps[4]?.getD undef = iv sy := Plan.ev (hold 4 (by kernel_rfl))
      clear hold hdep
      exact Plan.step_const rfl rfl (by go_simp <;> exact IntWalk.i64_in _ (by omega))
    · -- 11: Op.binOp BinOp.sub 3 (Operand.tmp 31) (Operand.tmp 32) 3
      intro a W hold hdep hb
      have e31 : a.tmps[31]?.getD undef = iv r.b := Plan.ev (Plan.dep_const (by rfl) (hdep 9 (by kernel_rfl)))
      have e32 : a.tmps[32]?.getD undef = iv sy := Plan.ev (Plan.dep_const (by rfl) (hdep 10 (by kernel_rfl)))
      clear hold hdep
      exact Plan.step_const rfl rfl (by go_simp <;> exact IntWalk.i64_in _ (by omega))
    · -- 12: Op.call { callee := Callee.value (Operand.func 48), args := #[Operand.
      intro a W hold hdep hb
      have e25 : a.tmps[25]?.getD undef = rcV src := Plan.ev (Plan.dep_const (by rfl) (hdep 3 (by kernel_rfl)))
      have e29 : a.tmps[29]?.getD undef = iv (r.a - sx) := Plan.ev (Plan.dep_const (by rfl) (hdep 7 (by kernel_rfl)))
      have e33 : a.tmps[33]?.getD undef = iv (r.b - sy) := Plan.ev (Plan.dep_const (by rfl) (hdep 11 (by kernel_rfl)))
      clear hold hdep
      exact Plan.step_call (f := 48) (args := #[rcV src, iv (r.a - sx), iv (r.b - sy)]) rfl rfl (by go_simp) (moved_rc _ _ _ _ hS.out (by omega) (by omega))
    · -- 13: Op.call { callee := Callee.value (Operand.func 47), args := #[Operand.
      intro a W hold hdep hb
      have e24 : a.tmps[24]?.getD undef = rcV (r.common dst) := Plan.ev (Plan.dep_const (by rfl) (hdep 2 (by kernel_rfl)))
      have e34 : a.tmps[34]?.getD undef = rcV (src.moved (r.a - sx) (r.b - sy)) := Plan.ev (Plan.dep_const (by rfl) (hdep 12 (by kernel_rfl)))
      clear hold hdep
      exact Plan.step_call (f := 47) (args := #[rcV (r.common dst), rcV (src.moved (r.a - sx) (r.b - sy))]) rfl rfl (by go_simp) (common_any _ _ _)
    · -- 14: Op.alloc 28
      intro a W hold hdep hb
      clear hold hdep
      exact Plan.step_alloc rfl rfl (by go_simp)
  intro vs W1 lo hi hD
  change wpList _ _ _ _ { tmps := (Array.setIfInBounds (Array.setIfInBounds (Array.setIfInBounds (Array.setIfInBounds (Array.setIfInBounds (Array.setIfInBounds (Array.setIfInBounds (Array.setIfInBounds (Array.setIfInBounds (Array.setIfInBounds (Array.setIfInBounds (Array.setIfInBounds (Array.setIfInBounds (Array.setIfInBounds (Array.setIfInBounds _ 22 (vs 0)) 23 (vs 1)) 24 (vs 2)) 25 (vs 3)) 26 (vs 4)) 27 (vs 5)) 28 (vs 6)) 29 (vs 7)) 30 (vs 8)) 31 (vs 9)) 32 (vs 10)) 33 (vs 11)) 34 (vs 12)) 35 (vs 13)) 21 (vs 14)), defers := _ } _
  simp only [Plan.putAll_zero, List.setIfInBounds_toArray, List.set_cons_zero, List.set_cons_succ, List.drop_succ_cons, List.drop_zero]
  have p0 : vs 0 = rcV r := (hD.facts 0 (by omega)).2.2.2
  have p1 : vs 1 = rcV dst := (hD.facts 1 (by omega)).2.2.2
  have p2 : vs 2 = rcV (r.common dst) := (hD.facts 2 (by omega)).2.2.2
  have p3 : vs 3 = rcV src := (hD.facts 3 (by omega)).2.2.2
  have p4 : vs 4 = .pointer (some ⟨w.heap.size + 1, 0, none⟩) := (hD.facts 4 (by omega)).2.2.2
  have p5 : vs 5 = iv r.a := (hD.facts 5 (by omega)).2.2.2
  have p6 : vs 6 = iv sx := (hD.facts 6 (by omega)).2.2.2
  have p7 : vs 7 = iv (r.a - sx) := (hD.facts 7 (by omega)).2.2.2
  have p8 : vs 8 = .pointer (some ⟨w.heap.size + 1, 1, none⟩) := (hD.facts 8 (by omega)).2.2.2
  have p9 : vs 9 = iv r.b := (hD.facts 9 (by omega)).2.2.2
  have p10 : vs 10 = iv sy := (hD.facts 10 (by omega)).2.2.2
  have p11 : vs 11 = iv (r.b - sy) := (hD.facts 11 (by omega)).2.2.2
  have p12 : vs 12 = rcV (src.moved (r.a - sx) (r.b - sy)) := (hD.facts 12 (by omega)).2.2.2
  have p13 : vs 13 = rcV ((r.common dst).common (src.moved (r.a - sx) (r.b - sy))) := (hD.facts 13 (by omega)).2.2.2
  obtain ⟨p14, q14, b14⟩ : vs 14 = .pointer (some ⟨lo 14, 0, none⟩) ∧ hi 14 = lo 14 + 1 ∧ Blk W1 (lo 14) 28 #[iv 0, iv 0, iv 0, iv 0] := (hD.facts 14 (by omega)).2.2.2
  have l14 := (hD.facts 14 (by omega)).1
  simp only [p0, p1, p2, p3, p4, p5, p6, p7, p8, p9, p10, p11, p12, p13, p14]
  clear p0 p1 p2 p3 p4 p5 p6 p7 p8 p9 p10 p11 p12 p13 p14
  have hW1 := hD.bel
  generalize lo 14 = g14 at *
  clear hD q14 lo hi vs
  rw [← HC0.out]
  have D14 := b14.cells4
  go_wp2_with fail
  have z14 : W0.heap.size ≤ g14 := l14
  change Code.wp _ _ _ _ (set4 W1 g14 (iv C0.a) (iv C0.b) (iv C0.c) (iv C0.d))
  have F14 := hid (b14.set4_ (iv C0.a) (iv C0.b) (iv C0.c) (iv C0.d))
  have F1 := hid (((B1.out).drew.keep hW1).far4 (g' := g14) (by omega) (iv C0.a) (iv C0.b) (iv C0.c) (iv C0.d))
  have F3 := hid (((B3.out).drew.keep hW1).far4 (g' := g14) (by omega) (iv C0.a) (iv C0.b) (iv C0.c) (iv C0.d))
  have F4 := hid (((B4.out).drew.keep hW1).far4 (g' := g14) (by omega) (iv C0.a) (iv C0.b) (iv C0.c) (iv C0.d))
  have F5 := hid (((B5.out).drew.keep hW1).far4 (g' := g14) (by omega) (iv C0.a) (iv C0.b) (iv C0.c) (iv C0.d))
  have F6 := hid (((B6.out).drew.keep hW1).far4 (g' := g14) (by omega) (iv C0.a) (iv C0.b) (iv C0.c) (iv C0.d))
  have hb2 : Below w.heap.size w (set4 W1 g14 (iv C0.a) (iv C0.b) (iv C0.c) (iv C0.d)) := below4 (bW0.trans ((drew_below hW1).mono (by omega))) (by omega) _ _ _ _
  generalize set4 W1 g14 (iv C0.a) (iv C0.b) (iv C0.c) (iv C0.d) = W2 at *
  have z2 := F14.out.lt
  clear D14 b14 hW1 l14
  refine Plan.wp_region_steps 12 [] [rcV C0, rcV mask, .pointer (some ⟨w.heap.size + 1, 0, none⟩), iv r.a, iv mx, iv (r.a - mx), .pointer (some ⟨w.heap.size + 1, 1, none⟩), iv r.b, iv my, iv (r.b - my), rcV (mask.moved (r.a - mx) (r.b - my)), rcV (C0.common (mask.moved (r.a - mx) (r.b - my)))] [] (by kernel_rfl) (by kernel_rfl) (fun _ _ _ _ _ h => h) ?_ ?_
  · refine ⟨?_, ?_, ?_, ?_, ?_, ?_, ?_, ?_, ?_, ?_, ?_, ?_, trivial⟩
    · -- 0: Op.load 28 (Operand.tmp 21)
      intro a W hold hdep hb
      have e21 : a.tmps[21]?.getD undef = .pointer (some ⟨g14, 0, none⟩) := Plan.ev (hold 21 (by kernel_rfl))
      have C := ((F14.out).drew.keep hb).cells4.1
      clear hold hdep
      exact Plan.step_const rfl rfl (by go_simp <;> exact IntWalk.i64_in _ (by omega))
    · -- 1: Op.load 28 (Operand.tmp 14)
      intro a W hold hdep hb
      have e14 : a.tmps[14]?.getD undef = .pointer (some ⟨w.heap.size + 1 + 1 + 1, 0, none⟩) := Plan.ev (hold 14 (by kernel_rfl))
      have C := ((F3.out).drew.keep hb).cells4.1
      clear hold hdep
      exact Plan.step_const rfl rfl (by go_simp <;> exact IntWalk.i64_in _ (by omega))
    · -- 2: Op.fieldAddr 28 (Operand.tmp 10) 0
      intro a W hold hdep hb
      have e10 : a.tmps[10]?.getD undef = .pointer (some ⟨w.heap.size + 1, 0, none⟩) := Plan.ev (hold 10 (by kernel_rfl))
      clear hold hdep
      exact Plan.step_const rfl rfl (by go_simp <;> exact IntWalk.i64_in _ (by omega))
    · -- 3: Op.load 3 (Operand.tmp 39)
      intro a W hold hdep hb
      have e39 : a.tmps[39]?.getD undef = .pointer (some ⟨w.heap.size + 1, 0, none⟩) := Plan.ev (Plan.dep_const (by rfl) (hdep 2 (by kernel_rfl)))
      have C := ((F1.out).drew.keep hb).cells4.1
      clear hold hdep
      exact Plan.step_const rfl rfl (by go_simp <;> exact IntWalk.i64_in _ (by omega))
    · -- 4: Op.move (Operand.tmp 7)
      intro a W hold hdep hb
      have e7 : a.tmps[7]?.getD undef = iv mx := Plan.ev (hold 7 (by kernel_rfl))
      clear hold hdep
      exact Plan.step_const rfl rfl (by go_simp <;> exact IntWalk.i64_in _ (by omega))
    · -- 5: Op.binOp BinOp.sub 3 (Operand.tmp 40) (Operand.tmp 41) 3
      intro a W hold hdep hb
      have e40 : a.tmps[40]?.getD undef = iv r.a := Plan.ev (Plan.dep_const (by rfl) (hdep 3 (by kernel_rfl)))
      have e41 : a.tmps[41]?.getD undef = iv mx := Plan.ev (Plan.dep_const (by rfl) (hdep 4 (by kernel_rfl)))
      clear hold hdep
      exact Plan.step_const rfl rfl (by go_simp <;> exact IntWalk.i64_in _ (by omega))
    · -- 6: Op.fieldAddr 28 (Operand.tmp 10) 1
      intro a W hold hdep hb
      have e10 : a.tmps[10]?.getD undef = .pointer (some ⟨w.heap.size + 1, 0, none⟩) := Plan.ev (hold 10 (by kernel_rfl))
      clear hold hdep
      exact Plan.step_const rfl rfl (by go_simp <;> exact IntWalk.i64_in _ (by omega))
    · -- 7: Op.load 3 (Operand.tmp 43)
      intro a W hold hdep hb
      have e43 : a.tmps[43]?.getD undef = .pointer (some ⟨w.heap.size + 1, 1, none⟩) := Plan.ev (Plan.dep_const (by rfl) (hdep 6 (by kernel_rfl)))
      have C := ((F1.out).drew.keep hb).cells4.1
      clear hold hdep
      exact Plan.step_const rfl rfl (by go_simp <;> exact IntWalk.i64_in _ (by omega))
    · -- 8: Op.move (Operand.tmp 8)
      intro a W hold hdep hb
      have e8 : a.tmps[8]?.getD undef = iv my := Plan.ev (hold 8 (by kernel_rfl))
      clear hold hdep
      exact Plan.step_const rfl rfl (by go_simp <;> exact IntWalk.i64_in _ (by omega))
    · -- 9: Op.binOp BinOp.sub 3 (Operand.tmp 44) (Operand.tmp 45) 3
      intro a W hold hdep hb
      have e44 : a.tmps[44]?.getD undef = iv r.b := Plan.ev (Plan.dep_const (by rfl) (hdep 7 (by kernel_rfl)))
      have e45 : a.tmps[45]?.getD undef = iv my := Plan.ev (Plan.dep_const (by rfl) (hdep 8 (by kernel_rfl)))
      clear hold hdep
      exact Plan.step_const rfl rfl (by go_simp <;> exact IntWalk.i64_in _ (by omega))
    · -- 10: Op.call { callee := Callee.value (Operand.func 48), args := #[Operand.
      intro a W hold hdep hb
      have e38 : a.tmps[38]?.getD undef = rcV mask := Plan.ev (Plan.dep_const (by rfl) (hdep 1 (by kernel_rfl)))
      have e42 : a.tmps[42]?.getD undef = iv (r.a - mx) := Plan.ev (Plan.dep_const (by rfl) (hdep 5 (by kernel_rfl)))
      have e46 : a.tmps[46]?.getD undef = iv (r.b - my) := Plan.ev (Plan.dep_const (by rfl) (hdep 9 (by kernel_rfl)))
      clear hold hdep
      exact Plan.step_call (f := 48) (args := #[rcV mask, iv (r.a - mx), iv (r.b - my)]) rfl rfl (by go_simp) (moved_rc _ _ _ _ hM.out (by omega) (by omega))
    · -- 11: Op.call { callee := Callee.value (Operand.func 47), args := #[Operand.
      intro a W hold hdep hb
      have e37 : a.tmps[37]?.getD undef = rcV C0 := Plan.ev (Plan.dep_const (by rfl) (hdep 0 (by kernel_rfl)))
      have e47 : a.tmps[47]?.getD undef = rcV (mask.moved (r.a - mx) (r.b - my)) := Plan.ev (Plan.dep_const (by rfl) (hdep 10 (by kernel_rfl)))
      clear hold hdep
      exact Plan.step_call (f := 47) (args := #[rcV C0, rcV (mask.moved (r.a - mx) (r.b - my))]) rfl rfl (by go_simp) (common_any _ _ _)
  intro vs W3 lo hi hD
  change wpList _ _ _ _ { tmps := (Array.setIfInBounds (Array.setIfInBounds (Array.setIfInBounds (Array.setIfInBounds (Array.setIfInBounds (Array.setIfInBounds (Array.setIfInBounds (Array.setIfInBounds (Array.setIfInBounds (Array.setIfInBounds (Array.setIfInBounds (Array.setIfInBounds _ 37 (vs 0)) 38 (vs 1)) 39 (vs 2)) 40 (vs 3)) 41 (vs 4)) 42 (vs 5)) 43 (vs 6)) 44 (vs 7)) 45 (vs 8)) 46 (vs 9)) 47 (vs 10)) 48 (vs 11)), defers := _ } _
  simp only [Plan.putAll_zero, List.setIfInBounds_toArray, List.set_cons_zero, List.set_cons_succ, List.drop_succ_cons, List.drop_zero]
  have p0 : vs 0 = rcV C0 := (hD.facts 0 (by omega)).2.2.2
  have p1 : vs 1 = rcV mask := (hD.facts 1 (by omega)).2.2.2
  have p2 : vs 2 = .pointer (some ⟨w.heap.size + 1, 0, none⟩) := (hD.facts 2 (by omega)).2.2.2
  have p3 : vs 3 = iv r.a := (hD.facts 3 (by omega)).2.2.2
  have p4 : vs 4 = iv mx := (hD.facts 4 (by omega)).2.2.2
  have p5 : vs 5 = iv (r.a - mx) := (hD.facts 5 (by omega)).2.2.2
  have p6 : vs 6 = .pointer (some ⟨w.heap.size + 1, 1, none⟩) := (hD.facts 6 (by omega)).2.2.2
  have p7 : vs 7 = iv r.b := (hD.facts 7 (by omega)).2.2.2
  have p8 : vs 8 = iv my := (hD.facts 8 (by omega)).2.2.2
  have p9 : vs 9 = iv (r.b - my) := (hD.facts 9 (by omega)).2.2.2
  have p10 : vs 10 = rcV (mask.moved (r.a - mx) (r.b - my)) := (hD.facts 10 (by omega)).2.2.2
  have p11 : vs 11 = rcV (C0.common (mask.moved (r.a - mx) (r.b - my))) := (hD.facts 11 (by omega)).2.2.2
  simp only [p0, p1, p2, p3, p4, p5, p6, p7, p8, p9, p10, p11]
  clear p0 p1 p2 p3 p4 p5 p6 p7 p8 p9 p10 p11
  have hW3 := hD.bel
  clear hD  lo hi vs
  rw [← HC.out]
  have D14 := ((F14.out).drew.keep hW3).cells4
  go_wp2_with fail
  change Code.wp _ _ _ _ (set4 W3 g14 (iv C.a) (iv C.b) (iv C.c) (iv C.d))
  have K14 := ((F14.out).drew.keep hW3).set4_ (iv C.a) (iv C.b) (iv C.c) (iv C.d)
  have K1 := ((F1.out).drew.keep hW3).far4 (g' := g14) (by omega) (iv C.a) (iv C.b) (iv C.c) (iv C.d)
  have K4 := ((F4.out).drew.keep hW3).far4 (g' := g14) (by omega) (iv C.a) (iv C.b) (iv C.c) (iv C.d)
  have K5 := ((F5.out).drew.keep hW3).far4 (g' := g14) (by omega) (iv C.a) (iv C.b) (iv C.c) (iv C.d)
  have K6 := ((F6.out).drew.keep hW3).far4 (g' := g14) (by omega) (iv C.a) (iv C.b) (iv C.c) (iv C.d)
  have hb4 : Below w.heap.size w (set4 W3 g14 (iv C.a) (iv C.b) (iv C.c) (iv C.d)) := below4 (hb2.trans ((drew_below hW3).mono (by omega))) (by omega) _ _ _ _
  generalize set4 W3 g14 (iv C.a) (iv C.b) (iv C.c) (iv C.d) = W4 at *
  have z4 := K14.lt
  have G14 := K14.cells4.1
  have G1 := K1.cells4.1
  have G4 := K4.cells4
  have G5 := K5.cells2
  have G6 := K6.cells2
  clear K14 K1 K4 K5 K6 D14 hW3 hb2 z2
  have n1 : g14 ≠ w.heap.size + 1 + 1 + 1 + 1 := by omega
  have n2 : g14 ≠ w.heap.size + 1 + 1 + 1 + 1 + 1 := by omega
  have n3 : g14 ≠ w.heap.size + 1 + 1 + 1 + 1 + 1 + 1 := by omega
  have v1 : IntKind.i64.wrap (sx + C.a) = sx + C.a := IntWalk.i64_in _ (by omega)
  have v2 : IntKind.i64.wrap (sx + C.a - r.a) = sx + C.a - r.a := IntWalk.i64_in _ (by omega)
  have v3 : IntKind.i64.wrap (sy + C.b) = sy + C.b := IntWalk.i64_in _ (by omega)
  have v4 : IntKind.i64.wrap (sy + C.b - r.b) = sy + C.b - r.b := IntWalk.i64_in _ (by omega)
  have v5 : IntKind.i64.wrap (mx + C.a) = mx + C.a := IntWalk.i64_in _ (by omega)
  have v6 : IntKind.i64.wrap (mx + C.a - r.a) = mx + C.a - r.a := IntWalk.i64_in _ (by omega)
  have v7 : IntKind.i64.wrap (my + C.b) = my + C.b := IntWalk.i64_in _ (by omega)
  have v8 : IntKind.i64.wrap (my + C.b - r.b) = my + C.b - r.b := IntWalk.i64_in _ (by omega)
  go_region_held3 (fun w' => (w'.cell? ⟨g14, 0, none⟩ = some (iv C.a) ∧ w'.cell? ⟨g14, 1, none⟩ = some (iv C.b) ∧ w'.cell? ⟨g14, 2, none⟩ = some (iv C.c) ∧ w'.cell? ⟨g14, 3, none⟩ = some (iv C.d)) ∧ w'.cell? ⟨w.heap.size + 1, 0, none⟩ = some (iv r.a) ∧ w'.cell? ⟨w.heap.size + 1, 1, none⟩ = some (iv r.b)) (first | (go_keep; done) | (simp (disch := omega) only [cell_drew, cell_far, *]; done) | (simp (disch := omega) only [cell_drew, cell_far, *]; trivial)) (first | fail)
  go_wp2
  refine bodyPost_ret (v := .tuple #[rcV C, ptV (sx + C.a - r.a) (sy + C.b - r.b), ptV (mx + C.a - r.a) (my + C.b - r.b)]) (by simp [results, Try.results19, go_sem, G4, G5, G6]) rfl ⟨rfl, ?_⟩
  (repeat' (first | (with_reducible exact Below.refl _ _) | (with_reducible assumption) | (with_reducible refine drewN_below ?_ _) | (with_reducible refine Below.drew ?_) | (with_reducible refine Below.alloc ?_ ?_ _) | (with_reducible refine Below.setCell ?_ ?_ _) | (with_reducible refine below_via (by with_reducible assumption) ?_ ?_) | go_size))

end Go.Proofs.Ytlnfcjaempojgaa
