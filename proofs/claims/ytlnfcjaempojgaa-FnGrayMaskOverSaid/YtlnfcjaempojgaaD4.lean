/- Contract of clip. Written by mk_D4.py. -/
import Derived.Test.YtlnfcjaempojgaaD3
import Derived.Test.YtlnfcjaempojgaaD1a
set_option linter.unusedVariables false
namespace Go.Proofs.Ytlnfcjaempojgaa
open Go.RowKit

theorem set4_keep {w : World} {g : Nat} {a b c d : Value} : (set4 w g a b c d).heap.size = w.heap.size := size_set4 ..

/-- What clip leaves: the rectangle cut, the places moved; nothing else of what was there has turned. -/
def ClipPost (g1 g2 g3 : Nat) (C : Rc) (sx sy mx my : Int) (w : World) (e : Ending) (w' : World) : Prop :=
  (∃ v, e = .returned v) ∧ Only [g1, g2, g3] w w' ∧ Blk w' g1 73 #[iv C.a, iv C.b, iv C.c, iv C.d] ∧ Blk w' g2 71 #[iv sx, iv sy] ∧ Blk w' g3 71 #[iv mx, iv my]

theorem stay_only {w W : World} {G : List Nat} (h : Below w.heap.size w.drew W) : Only G w W := ⟨h.os, h.tape, h.output, h.size, fun k hk _ => h.block k hk⟩

set_option maxRecDepth 20000 in
set_option maxHeartbeats 2000000 in
theorem clip_u_still (D S : Value) (db sb mb : Rc) (g1 g2 g3 : Nat) (r : Rc) (sx sy mx my : Int) (w : World) (hD : HasB w D db) (hS : HasB w S sb) 
    (h1 : Blk w g1 73 #[iv r.a, iv r.b, iv r.c, iv r.d]) (h2 : Blk w g2 71 #[iv sx, iv sy]) (h3 : Blk w g3 71 #[iv mx, iv my]) (n12 : g1 ≠ g2) (n13 : g1 ≠ g3) (n23 : g2 ≠ g3)
    (hr : r.in_ 1000) (hsb : sb.in_ 1000000000) (hmb : mb.in_ 1000000000) (hsx : -1000 ≤ sx ∧ sx ≤ 1000) (hsy : -1000 ≤ sy ∧ sy ≤ 1000) (hmx : -1000 ≤ mx ∧ mx ≤ 1000) (hmy : -1000 ≤ my ∧ my ≤ 1000)
    (C1 C2 C3 : Rc) (hC1 : C1 = r.common db) (hC2 : C2 = C1.common (sb.moved (r.a - sx) (r.b - sy))) (hC3 : C3 = C2.common (mb.moved (r.a - mx) (r.b - my)))
    (hmv : C2.a = r.a ∧ C2.b = r.b) :
    Calls Try.prog 68 #[D, .pointer (some ⟨g1, 0, none⟩), S, .pointer (some ⟨g2, 0, none⟩), .nilIface, .pointer (some ⟨g3, 0, none⟩)] w (ClipPost g1 g2 g3 C2 (sx + (C2.a - r.a)) (sy + (C2.b - r.b)) (mx + (C2.a - r.a)) (my + (C2.b - r.b)) w) := by
  have hC1i : C1.in_ 1000 := by rw [hC1]; exact Rc.common_in _ (by omega) hr
  have hC2i : C2.in_ 1000 := by rw [hC2]; exact Rc.common_in _ (by omega) hC1i
  have hC3i : C3.in_ 1000 := by rw [hC3]; exact Rc.common_in _ (by omega) hC2i
  have HC1 := hid hC1; have HC2 := hid hC2; have HC3 := hid hC3
  have HSB : Hid (sb.in_ 4000000000) := by obtain ⟨a, b, c, d⟩ := hsb; exact ⟨by omega, by omega, by omega, by omega⟩
  have HMB : Hid (mb.in_ 4000000000) := by obtain ⟨a, b, c, d⟩ := hmb; exact ⟨by omega, by omega, by omega, by omega⟩
  clear hC1 hC2 hC3 hsb hmb hC1i
  obtain ⟨hra, hrb, hrc, hrd⟩ := hr
  obtain ⟨hca2, hcb2, hcc2, hcd2⟩ := hC2i
  obtain ⟨hca3, hcb3, hcc3, hcd3⟩ := hC3i
  have HMV := hid hmv
  clear hmv
  have HS := hid hS
  obtain ⟨fD, aD, hDb, hDc⟩ := hD.call
  have HDb := hid hDb; have HDc := hid hDc
  clear hDb hDc hD hS
  have e1 := h1.cells4
  have e2 := h2.cells2
  have e3 := h3.cells2
  have l1 := h1.lt
  have l2 := h2.lt
  have l3 := h3.lt
  have H1 := hid h1; have H2 := hid h2; have H3 := hid h3
  clear h1 h2 h3
  go_enter Try.func68, Try.ntmps68
  go_wp2_with fail
  clear e1 e2 e3
  obtain ⟨W0, hW0⟩ : ∃ W : World, W = w.alloc (.cells #[iv r.a, iv r.b] 71) := ⟨_, rfl⟩
  change Code.wp _ _ _ _ (w.alloc (.cells #[iv r.a, iv r.b] 71))
  rw [← hW0]
  have B1 := hid (H1.out.alloc (.cells #[iv r.a, iv r.b] 71)); rw [← hW0] at B1
  have B2 := hid (H2.out.alloc (.cells #[iv r.a, iv r.b] 71)); rw [← hW0] at B2
  have B3 := hid (H3.out.alloc (.cells #[iv r.a, iv r.b] 71)); rw [← hW0] at B3
  have B4 := hid (Blk.new w 71 #[iv r.a, iv r.b]); rw [← hW0] at B4
  have O0 : Only [g1, g2, g3] w W0 := by rw [hW0]; exact (Only.refl _ _).alloc _
  have bW0 : Below w.heap.size w W0 := by rw [hW0]; go_grown
  have z0 : w.heap.size < W0.heap.size := B4.out.lt
  clear hW0
  refine Plan.wp_region_steps 7 [] [.pointer (some ⟨g1, 0, none⟩), .pointer (some ⟨g1, 0, none⟩), .pointer (some ⟨g1, 0, none⟩), rcV r, D, rcV db, rcV (r.common db)] [] (by kernel_rfl) (by kernel_rfl) (fun _ _ _ _ _ h => h) ?_ ?_
  · refine ⟨?_, ?_, ?_, ?_, ?_, ?_, ?_, trivial⟩
    · -- 0: Op.move (Operand.tmp 1)
      intro a W hold hdep hb
      have e1 : a.tmps[1]?.getD undef = .pointer (some ⟨g1, 0, none⟩) := Plan.ev (hold 1 (by kernel_rfl))
      clear hold hdep
      exact Plan.step_const rfl rfl (by go_simp <;> exact IntWalk.i64_in _ (by omega))
    · -- 1: Op.move (Operand.tmp 1)
      intro a W hold hdep hb
      have e1 : a.tmps[1]?.getD undef = .pointer (some ⟨g1, 0, none⟩) := Plan.ev (hold 1 (by kernel_rfl))
      clear hold hdep
      exact Plan.step_const rfl rfl (by go_simp <;> exact IntWalk.i64_in _ (by omega))
    · -- 2: Op.nilCheck (Operand.tmp 20)
      intro a W hold hdep hb
      have e20 : a.tmps[20]?.getD undef = .pointer (some ⟨g1, 0, none⟩) := Plan.ev (Plan.dep_const (by rfl) (hdep 1 (by kernel_rfl)))
      clear hold hdep
      exact Plan.step_const rfl rfl (by go_simp <;> exact IntWalk.i64_in _ (by omega))
    · -- 3: Op.load 73 (Operand.tmp 21)
      intro a W hold hdep hb
      have e21 : a.tmps[21]?.getD undef = .pointer (some ⟨g1, 0, none⟩) := Plan.ev (Plan.dep_const (by rfl) (hdep 2 (by kernel_rfl)))
      have C := ((B1.out).drew.keep hb).cells4.1
      clear hold hdep
      exact Plan.step_const rfl rfl (by go_simp <;> exact IntWalk.i64_in _ (by omega))
    · -- 4: Op.move (Operand.tmp 0)
      intro a W hold hdep hb
      have e0 : a.tmps[0]?.getD undef = D := Plan.ev (hold 0 (by kernel_rfl))
      clear hold hdep
      exact Plan.step_const rfl rfl (by go_simp <;> exact IntWalk.i64_in _ (by omega))
    · -- 5: Op.call { callee := Callee.invoke (Operand.tmp 23) "Bounds", args := #
      intro a W hold hdep hb
      have e23 : a.tmps[23]?.getD undef = D := Plan.ev (Plan.dep_const (by rfl) (hdep 4 (by kernel_rfl)))
      clear hold hdep
      exact Plan.step_call (f := fD) (args := aD) rfl rfl (HDb.out _ _ _ _ _ _ _ _ (Plan.ev' e23)) (HDc.out W (bW0.trans ((drew_below hb).mono (by omega))))
    · -- 6: Op.call { callee := Callee.value (Operand.func 96), args := #[Operand.
      intro a W hold hdep hb
      have e22 : a.tmps[22]?.getD undef = rcV r := Plan.ev (Plan.dep_const (by rfl) (hdep 3 (by kernel_rfl)))
      have e24 : a.tmps[24]?.getD undef = rcV db := Plan.ev (Plan.dep_const (by rfl) (hdep 5 (by kernel_rfl)))
      clear hold hdep
      exact Plan.step_call (f := 96) (args := #[rcV r, rcV db]) rfl rfl (by go_simp) (inter_any _ _ _)
  intro vs W1 lo hi hD
  change wpList _ _ _ _ { tmps := (Array.setIfInBounds (Array.setIfInBounds (Array.setIfInBounds (Array.setIfInBounds (Array.setIfInBounds (Array.setIfInBounds (Array.setIfInBounds _ 19 (vs 0)) 20 (vs 1)) 21 (vs 2)) 22 (vs 3)) 23 (vs 4)) 24 (vs 5)) 25 (vs 6)), defers := _ } _
  simp only [Plan.putAll_zero, List.setIfInBounds_toArray, List.set_cons_zero, List.set_cons_succ, List.drop_succ_cons, List.drop_zero]
  have p0 : vs 0 = .pointer (some ⟨g1, 0, none⟩) := (hD.facts 0 (by omega)).2.2.2
  have p1 : vs 1 = .pointer (some ⟨g1, 0, none⟩) := (hD.facts 1 (by omega)).2.2.2
  have p2 : vs 2 = .pointer (some ⟨g1, 0, none⟩) := (hD.facts 2 (by omega)).2.2.2
  have p3 : vs 3 = rcV r := (hD.facts 3 (by omega)).2.2.2
  have p4 : vs 4 = D := (hD.facts 4 (by omega)).2.2.2
  have p5 : vs 5 = rcV db := (hD.facts 5 (by omega)).2.2.2
  have p6 : vs 6 = rcV (r.common db) := (hD.facts 6 (by omega)).2.2.2
  simp only [p0, p1, p2, p3, p4, p5, p6]
  clear p0 p1 p2 p3 p4 p5 p6
  have hW1 := hD.bel
  clear hD  lo hi vs
  have D1 := ((B1.out).drew.keep hW1).cells4
  rw [← HC1.out]
  go_wp2_with fail
  clear D1
  change Code.wp _ _ _ _ (set4 W1 g1 (iv C1.a) (iv C1.b) (iv C1.c) (iv C1.d))
  have F1 := hid (((B1.out).drew.keep hW1).set4_ (iv C1.a) (iv C1.b) (iv C1.c) (iv C1.d))
  have F2 := hid (((B2.out).drew.keep hW1).far4 (g' := g1) (by omega) (iv C1.a) (iv C1.b) (iv C1.c) (iv C1.d))
  have F3 := hid (((B3.out).drew.keep hW1).far4 (g' := g1) (by omega) (iv C1.a) (iv C1.b) (iv C1.c) (iv C1.d))
  have F4 := hid (((B4.out).drew.keep hW1).far4 (g' := g1) (by omega) (iv C1.a) (iv C1.b) (iv C1.c) (iv C1.d))
  have O2 : Only [g1, g2, g3] w (set4 W1 g1 (iv C1.a) (iv C1.b) (iv C1.c) (iv C1.d)) := (O0.trans (stay_only hW1)).set4_ (.inl (by simp)) _ _ _ _
  generalize set4 W1 g1 (iv C1.a) (iv C1.b) (iv C1.c) (iv C1.d) = W2 at *
  have z2 : w.heap.size < W2.heap.size := F4.out.lt
  obtain ⟨fS, aS, hSb, hSc⟩ := (HS.out.only O2 H1.out H2.out H3.out).call
  have HSb := hid hSb; have HSc := hid hSc
  clear B1 B2 B3 B4 hW1 O0 bW0 z0 HDb HDc hSb hSc
  refine Plan.wp_region_steps 13 [] [.pointer (some ⟨g1, 0, none⟩), .pointer (some ⟨g1, 0, none⟩), .pointer (some ⟨g1, 0, none⟩), rcV C1, S, rcV sb, ptV r.a r.b, .pointer (some ⟨g2, 0, none⟩), .pointer (some ⟨g2, 0, none⟩), ptV sx sy, ptV (r.a - sx) (r.b - sy), rcV (sb.moved (r.a - sx) (r.b - sy)), rcV (C1.common (sb.moved (r.a - sx) (r.b - sy)))] [] (by kernel_rfl) (by kernel_rfl) (fun _ _ _ _ _ h => h) ?_ ?_
  · refine ⟨?_, ?_, ?_, ?_, ?_, ?_, ?_, ?_, ?_, ?_, ?_, ?_, ?_, trivial⟩
    · -- 0: Op.move (Operand.tmp 1)
      intro a W hold hdep hb
      have e1 : a.tmps[1]?.getD undef = .pointer (some ⟨g1, 0, none⟩) := Plan.ev (hold 1 (by kernel_rfl))
      clear hold hdep
      exact Plan.step_const rfl rfl (by go_simp <;> exact IntWalk.i64_in _ (by omega))
    · -- 1: Op.move (Operand.tmp 1)
      intro a W hold hdep hb
      have e1 : a.tmps[1]?.getD undef = .pointer (some ⟨g1, 0, none⟩) := Plan.ev (hold 1 (by kernel_rfl))
      clear hold hdep
      exact Plan.step_const rfl rfl (by go_simp <;> exact IntWalk.i64_in _ (by omega))
    · -- 2: Op.nilCheck (Operand.tmp 28)
      intro a W hold hdep hb
      have e28 : a.tmps[28]?.getD undef = .pointer (some ⟨g1, 0, none⟩) := Plan.ev (Plan.dep_const (by rfl) (hdep 1 (by kernel_rfl)))
      clear hold hdep
      exact Plan.step_const rfl rfl (by go_simp <;> exact IntWalk.i64_in _ (by omega))
    · -- 3: Op.load 73 (Operand.tmp 29)
      intro a W hold hdep hb
      have e29 : a.tmps[29]?.getD undef = .pointer (some ⟨g1, 0, none⟩) := Plan.ev (Plan.dep_const (by rfl) (hdep 2 (by kernel_rfl)))
      have C := ((F1.out).drew.keep hb).cells4.1
      clear hold hdep
      exact Plan.step_const rfl rfl (by go_simp <;> exact IntWalk.i64_in _ (by omega))
    · -- 4: Op.move (Operand.tmp 2)
      intro a W hold hdep hb
      have e2 : a.tmps[2]?.getD undef = S := Plan.ev (hold 2 (by kernel_rfl))
      clear hold hdep
      exact Plan.step_const rfl rfl (by go_simp <;> exact IntWalk.i64_in _ (by omega))
    · -- 5: Op.call { callee := Callee.invoke (Operand.tmp 31) "Bounds", args := #
      intro a W hold hdep hb
      have e31 : a.tmps[31]?.getD undef = S := Plan.ev (Plan.dep_const (by rfl) (hdep 4 (by kernel_rfl)))
      clear hold hdep
      exact Plan.step_call (f := fS) (args := aS) rfl rfl (HSb.out _ _ _ _ _ _ _ _ (Plan.ev' e31)) (HSc.out W (drew_below hb))
    · -- 6: Op.load 71 (Operand.tmp 12)
      intro a W hold hdep hb
      have e12 : a.tmps[12]?.getD undef = .pointer (some ⟨w.heap.size, 0, none⟩) := Plan.ev (hold 12 (by kernel_rfl))
      have C := ((F4.out).drew.keep hb).cells2.1
      clear hold hdep
      exact Plan.step_const rfl rfl (by go_simp <;> exact IntWalk.i64_in _ (by omega))
    · -- 7: Op.move (Operand.tmp 3)
      intro a W hold hdep hb
      have e3 : a.tmps[3]?.getD undef = .pointer (some ⟨g2, 0, none⟩) := Plan.ev (hold 3 (by kernel_rfl))
      clear hold hdep
      exact Plan.step_const rfl rfl (by go_simp <;> exact IntWalk.i64_in _ (by omega))
    · -- 8: Op.nilCheck (Operand.tmp 34)
      intro a W hold hdep hb
      have e34 : a.tmps[34]?.getD undef = .pointer (some ⟨g2, 0, none⟩) := Plan.ev (Plan.dep_const (by rfl) (hdep 7 (by kernel_rfl)))
      clear hold hdep
      exact Plan.step_const rfl rfl (by go_simp <;> exact IntWalk.i64_in _ (by omega))
    · -- 9: Op.load 71 (Operand.tmp 35)
      intro a W hold hdep hb
      have e35 : a.tmps[35]?.getD undef = .pointer (some ⟨g2, 0, none⟩) := Plan.ev (Plan.dep_const (by rfl) (hdep 8 (by kernel_rfl)))
      have C := ((F2.out).drew.keep hb).cells2.1
      clear hold hdep
      exact Plan.step_const rfl rfl (by go_simp <;> exact IntWalk.i64_in _ (by omega))
    · -- 10: Op.call { callee := Callee.value (Operand.func 98), args := #[Operand.
      intro a W hold hdep hb
      have e33 : a.tmps[33]?.getD undef = ptV r.a r.b := Plan.ev (Plan.dep_const (by rfl) (hdep 6 (by kernel_rfl)))
      have e36 : a.tmps[36]?.getD undef = ptV sx sy := Plan.ev (Plan.dep_const (by rfl) (hdep 9 (by kernel_rfl)))
      clear hold hdep
      exact Plan.step_call (f := 98) (args := #[ptV r.a r.b, ptV sx sy]) rfl rfl (by go_simp) (gsub_any _ _ _ _ _ (by omega) (by omega) (by omega) (by omega))
    · -- 11: Op.call { callee := Callee.value (Operand.func 97), args := #[Operand.
      intro a W hold hdep hb
      have e32 : a.tmps[32]?.getD undef = rcV sb := Plan.ev (Plan.dep_const (by rfl) (hdep 5 (by kernel_rfl)))
      have e37 : a.tmps[37]?.getD undef = ptV (r.a - sx) (r.b - sy) := Plan.ev (Plan.dep_const (by rfl) (hdep 10 (by kernel_rfl)))
      clear hold hdep
      exact Plan.step_call (f := 97) (args := #[rcV sb, ptV (r.a - sx) (r.b - sy)]) rfl rfl (by go_simp) (gadd_any _ _ _ _ HSB.out (by omega) (by omega))
    · -- 12: Op.call { callee := Callee.value (Operand.func 96), args := #[Operand.
      intro a W hold hdep hb
      have e30 : a.tmps[30]?.getD undef = rcV C1 := Plan.ev (Plan.dep_const (by rfl) (hdep 3 (by kernel_rfl)))
      have e38 : a.tmps[38]?.getD undef = rcV (sb.moved (r.a - sx) (r.b - sy)) := Plan.ev (Plan.dep_const (by rfl) (hdep 11 (by kernel_rfl)))
      clear hold hdep
      exact Plan.step_call (f := 96) (args := #[rcV C1, rcV (sb.moved (r.a - sx) (r.b - sy))]) rfl rfl (by go_simp) (inter_any _ _ _)
  intro vs W3 lo hi hD
  change wpList _ _ _ _ { tmps := (Array.setIfInBounds (Array.setIfInBounds (Array.setIfInBounds (Array.setIfInBounds (Array.setIfInBounds (Array.setIfInBounds (Array.setIfInBounds (Array.setIfInBounds (Array.setIfInBounds (Array.setIfInBounds (Array.setIfInBounds (Array.setIfInBounds (Array.setIfInBounds _ 27 (vs 0)) 28 (vs 1)) 29 (vs 2)) 30 (vs 3)) 31 (vs 4)) 32 (vs 5)) 33 (vs 6)) 34 (vs 7)) 35 (vs 8)) 36 (vs 9)) 37 (vs 10)) 38 (vs 11)) 39 (vs 12)), defers := _ } _
  simp only [Plan.putAll_zero, List.setIfInBounds_toArray, List.set_cons_zero, List.set_cons_succ, List.drop_succ_cons, List.drop_zero]
  have p0 : vs 0 = .pointer (some ⟨g1, 0, none⟩) := (hD.facts 0 (by omega)).2.2.2
  have p1 : vs 1 = .pointer (some ⟨g1, 0, none⟩) := (hD.facts 1 (by omega)).2.2.2
  have p2 : vs 2 = .pointer (some ⟨g1, 0, none⟩) := (hD.facts 2 (by omega)).2.2.2
  have p3 : vs 3 = rcV C1 := (hD.facts 3 (by omega)).2.2.2
  have p4 : vs 4 = S := (hD.facts 4 (by omega)).2.2.2
  have p5 : vs 5 = rcV sb := (hD.facts 5 (by omega)).2.2.2
  have p6 : vs 6 = ptV r.a r.b := (hD.facts 6 (by omega)).2.2.2
  have p7 : vs 7 = .pointer (some ⟨g2, 0, none⟩) := (hD.facts 7 (by omega)).2.2.2
  have p8 : vs 8 = .pointer (some ⟨g2, 0, none⟩) := (hD.facts 8 (by omega)).2.2.2
  have p9 : vs 9 = ptV sx sy := (hD.facts 9 (by omega)).2.2.2
  have p10 : vs 10 = ptV (r.a - sx) (r.b - sy) := (hD.facts 10 (by omega)).2.2.2
  have p11 : vs 11 = rcV (sb.moved (r.a - sx) (r.b - sy)) := (hD.facts 11 (by omega)).2.2.2
  have p12 : vs 12 = rcV (C1.common (sb.moved (r.a - sx) (r.b - sy))) := (hD.facts 12 (by omega)).2.2.2
  simp only [p0, p1, p2, p3, p4, p5, p6, p7, p8, p9, p10, p11, p12]
  clear p0 p1 p2 p3 p4 p5 p6 p7 p8 p9 p10 p11 p12
  have hW3 := hD.bel
  clear hD  lo hi vs
  have D1 := ((F1.out).drew.keep hW3).cells4
  rw [← HC2.out]
  go_wp2_with fail
  clear D1
  change Code.wp _ _ _ _ (set4 W3 g1 (iv C2.a) (iv C2.b) (iv C2.c) (iv C2.d))
  have K1 := hid (((F1.out).drew.keep hW3).set4_ (iv C2.a) (iv C2.b) (iv C2.c) (iv C2.d))
  have K2 := hid (((F2.out).drew.keep hW3).far4 (g' := g1) (by omega) (iv C2.a) (iv C2.b) (iv C2.c) (iv C2.d))
  have K3 := hid (((F3.out).drew.keep hW3).far4 (g' := g1) (by omega) (iv C2.a) (iv C2.b) (iv C2.c) (iv C2.d))
  have K4 := hid (((F4.out).drew.keep hW3).far4 (g' := g1) (by omega) (iv C2.a) (iv C2.b) (iv C2.c) (iv C2.d))
  have O4 : Only [g1, g2, g3] w (set4 W3 g1 (iv C2.a) (iv C2.b) (iv C2.c) (iv C2.d)) := (O2.trans (stay_only hW3)).set4_ (.inl (by simp)) _ _ _ _
  generalize set4 W3 g1 (iv C2.a) (iv C2.b) (iv C2.c) (iv C2.d) = W4 at *
  have z4 : w.heap.size < W4.heap.size := K4.out.lt
  clear F1 F2 F3 F4 hW3 O2 z2 HSb HSc
  have d1 := K1.out.cells4
  have d2 := K2.out.cells2
  have d3 := K3.out.cells2
  have d4 := K4.out.cells2
  have v1 : IntKind.i64.wrap (C2.a - r.a) = C2.a - r.a := IntWalk.i64_in _ (by omega)
  have v2 : IntKind.i64.wrap (C2.b - r.b) = C2.b - r.b := IntWalk.i64_in _ (by omega)
  have m1 : ((C2.a - r.a) == 0) = true := by have := HMV.out; simp; omega
  have m2 : ((C2.b - r.b) == 0) = true := by have := HMV.out; simp; omega
  go_wp2_with fail
  go_quiet (fail)
  go_wp2_with fail
  go_quiet (fail)
  go_wp2_with fail
  refine bodyPost_ret (results_none rfl _ _ _) rfl ⟨⟨_, rfl⟩, ?_, ?_, ?_, ?_⟩
  · repeat' (first | exact O4 | refine Only.drewN ?_ _ | refine Only.drew ?_)
  · exact K1.out
  · have e1 : sx + (C2.a - r.a) = sx := by have := HMV.out; omega
    have e2 : sy + (C2.b - r.b) = sy := by have := HMV.out; omega
    rw [e1, e2]; exact K2.out
  · have e1 : mx + (C2.a - r.a) = mx := by have := HMV.out; omega
    have e2 : my + (C2.b - r.b) = my := by have := HMV.out; omega
    rw [e1, e2]; exact K3.out

set_option maxRecDepth 20000 in
set_option maxHeartbeats 2000000 in
theorem clip_u_moved (D S : Value) (db sb mb : Rc) (g1 g2 g3 : Nat) (r : Rc) (sx sy mx my : Int) (w : World) (hD : HasB w D db) (hS : HasB w S sb) 
    (h1 : Blk w g1 73 #[iv r.a, iv r.b, iv r.c, iv r.d]) (h2 : Blk w g2 71 #[iv sx, iv sy]) (h3 : Blk w g3 71 #[iv mx, iv my]) (n12 : g1 ≠ g2) (n13 : g1 ≠ g3) (n23 : g2 ≠ g3)
    (hr : r.in_ 1000) (hsb : sb.in_ 1000000000) (hmb : mb.in_ 1000000000) (hsx : -1000 ≤ sx ∧ sx ≤ 1000) (hsy : -1000 ≤ sy ∧ sy ≤ 1000) (hmx : -1000 ≤ mx ∧ mx ≤ 1000) (hmy : -1000 ≤ my ∧ my ≤ 1000)
    (C1 C2 C3 : Rc) (hC1 : C1 = r.common db) (hC2 : C2 = C1.common (sb.moved (r.a - sx) (r.b - sy))) (hC3 : C3 = C2.common (mb.moved (r.a - mx) (r.b - my)))
    (hmv : ¬ (C2.a = r.a ∧ C2.b = r.b)) :
    Calls Try.prog 68 #[D, .pointer (some ⟨g1, 0, none⟩), S, .pointer (some ⟨g2, 0, none⟩), .nilIface, .pointer (some ⟨g3, 0, none⟩)] w (ClipPost g1 g2 g3 C2 (sx + (C2.a - r.a)) (sy + (C2.b - r.b)) (mx + (C2.a - r.a)) (my + (C2.b - r.b)) w) := by
  have hC1i : C1.in_ 1000 := by rw [hC1]; exact Rc.common_in _ (by omega) hr
  have hC2i : C2.in_ 1000 := by rw [hC2]; exact Rc.common_in _ (by omega) hC1i
  have hC3i : C3.in_ 1000 := by rw [hC3]; exact Rc.common_in _ (by omega) hC2i
  have HC1 := hid hC1; have HC2 := hid hC2; have HC3 := hid hC3
  have HSB : Hid (sb.in_ 4000000000) := by obtain ⟨a, b, c, d⟩ := hsb; exact ⟨by omega, by omega, by omega, by omega⟩
  have HMB : Hid (mb.in_ 4000000000) := by obtain ⟨a, b, c, d⟩ := hmb; exact ⟨by omega, by omega, by omega, by omega⟩
  clear hC1 hC2 hC3 hsb hmb hC1i
  obtain ⟨hra, hrb, hrc, hrd⟩ := hr
  obtain ⟨hca2, hcb2, hcc2, hcd2⟩ := hC2i
  obtain ⟨hca3, hcb3, hcc3, hcd3⟩ := hC3i
  have HMV := hid hmv
  clear hmv
  have HS := hid hS
  obtain ⟨fD, aD, hDb, hDc⟩ := hD.call
  have HDb := hid hDb; have HDc := hid hDc
  clear hDb hDc hD hS
  have e1 := h1.cells4
  have e2 := h2.cells2
  have e3 := h3.cells2
  have l1 := h1.lt
  have l2 := h2.lt
  have l3 := h3.lt
  have H1 := hid h1; have H2 := hid h2; have H3 := hid h3
  clear h1 h2 h3
  go_enter Try.func68, Try.ntmps68
  go_wp2_with fail
  clear e1 e2 e3
  obtain ⟨W0, hW0⟩ : ∃ W : World, W = w.alloc (.cells #[iv r.a, iv r.b] 71) := ⟨_, rfl⟩
  change Code.wp _ _ _ _ (w.alloc (.cells #[iv r.a, iv r.b] 71))
  rw [← hW0]
  have B1 := hid (H1.out.alloc (.cells #[iv r.a, iv r.b] 71)); rw [← hW0] at B1
  have B2 := hid (H2.out.alloc (.cells #[iv r.a, iv r.b] 71)); rw [← hW0] at B2
  have B3 := hid (H3.out.alloc (.cells #[iv r.a, iv r.b] 71)); rw [← hW0] at B3
  have B4 := hid (Blk.new w 71 #[iv r.a, iv r.b]); rw [← hW0] at B4
  have O0 : Only [g1, g2, g3] w W0 := by rw [hW0]; exact (Only.refl _ _).alloc _
  have bW0 : Below w.heap.size w W0 := by rw [hW0]; go_grown
  have z0 : w.heap.size < W0.heap.size := B4.out.lt
  clear hW0
  refine Plan.wp_region_steps 7 [] [.pointer (some ⟨g1, 0, none⟩), .pointer (some ⟨g1, 0, none⟩), .pointer (some ⟨g1, 0, none⟩), rcV r, D, rcV db, rcV (r.common db)] [] (by kernel_rfl) (by kernel_rfl) (fun _ _ _ _ _ h => h) ?_ ?_
  · refine ⟨?_, ?_, ?_, ?_, ?_, ?_, ?_, trivial⟩
    · -- 0: Op.move (Operand.tmp 1)
      intro a W hold hdep hb
      have e1 : a.tmps[1]?.getD undef = .pointer (some ⟨g1, 0, none⟩) := Plan.ev (hold 1 (by kernel_rfl))
      clear hold hdep
      exact Plan.step_const rfl rfl (by go_simp <;> exact IntWalk.i64_in _ (by omega))
    · -- 1: Op.move (Operand.tmp 1)
      intro a W hold hdep hb
      have e1 : a.tmps[1]?.getD undef = .pointer (some ⟨g1, 0, none⟩) := Plan.ev (hold 1 (by kernel_rfl))
      clear hold hdep
      exact Plan.step_const rfl rfl (by go_simp <;> exact IntWalk.i64_in _ (by omega))
    · -- 2: Op.nilCheck (Operand.tmp 20)
      intro a W hold hdep hb
      have e20 : a.tmps[20]?.getD undef = .pointer (some ⟨g1, 0, none⟩) := Plan.ev (Plan.dep_const (by rfl) (hdep 1 (by kernel_rfl)))
      clear hold hdep
      exact Plan.step_const rfl rfl (by go_simp <;> exact IntWalk.i64_in _ (by omega))
    · -- 3: Op.load 73 (Operand.tmp 21)
      intro a W hold hdep hb
      have e21 : a.tmps[21]?.getD undef = .pointer (some ⟨g1, 0, none⟩) := Plan.ev (Plan.dep_const (by rfl) (hdep 2 (by kernel_rfl)))
      have C := ((B1.out).drew.keep hb).cells4.1
      clear hold hdep
      exact Plan.step_const rfl rfl (by go_simp <;> exact IntWalk.i64_in _ (by omega))
    · -- 4: Op.move (Operand.tmp 0)
      intro a W hold hdep hb
      have e0 : a.tmps[0]?.getD undef = D := Plan.ev (hold 0 (by kernel_rfl))
      clear hold hdep
      exact Plan.step_const rfl rfl (by go_simp <;> exact IntWalk.i64_in _ (by omega))
    · -- 5: Op.call { callee := Callee.invoke (Operand.tmp 23) "Bounds", args := #
      intro a W hold hdep hb
      have e23 : a.tmps[23]?.getD undef = D := Plan.ev (Plan.dep_const (by rfl) (hdep 4 (by kernel_rfl)))
      clear hold hdep
      exact Plan.step_call (f := fD) (args := aD) rfl rfl (HDb.out _ _ _ _ _ _ _ _ (Plan.ev' e23)) (HDc.out W (bW0.trans ((drew_below hb).mono (by omega))))
    · -- 6: Op.call { callee := Callee.value (Operand.func 96), args := #[Operand.
      intro a W hold hdep hb
      have e22 : a.tmps[22]?.getD undef = rcV r := Plan.ev (Plan.dep_const (by rfl) (hdep 3 (by kernel_rfl)))
      have e24 : a.tmps[24]?.getD undef = rcV db := Plan.ev (Plan.dep_const (by rfl) (hdep 5 (by kernel_rfl)))
      clear hold hdep
      exact Plan.step_call (f := 96) (args := #[rcV r, rcV db]) rfl rfl (by go_simp) (inter_any _ _ _)
  intro vs W1 lo hi hD
  change wpList _ _ _ _ { tmps := (Array.setIfInBounds (Array.setIfInBounds (Array.setIfInBounds (Array.setIfInBounds (Array.setIfInBounds (Array.setIfInBounds (Array.setIfInBounds _ 19 (vs 0)) 20 (vs 1)) 21 (vs 2)) 22 (vs 3)) 23 (vs 4)) 24 (vs 5)) 25 (vs 6)), defers := _ } _
  simp only [Plan.putAll_zero, List.setIfInBounds_toArray, List.set_cons_zero, List.set_cons_succ, List.drop_succ_cons, List.drop_zero]
  have p0 : vs 0 = .pointer (some ⟨g1, 0, none⟩) := (hD.facts 0 (by omega)).2.2.2
  have p1 : vs 1 = .pointer (some ⟨g1, 0, none⟩) := (hD.facts 1 (by omega)).2.2.2
  have p2 : vs 2 = .pointer (some ⟨g1, 0, none⟩) := (hD.facts 2 (by omega)).2.2.2
  have p3 : vs 3 = rcV r := (hD.facts 3 (by omega)).2.2.2
  have p4 : vs 4 = D := (hD.facts 4 (by omega)).2.2.2
  have p5 : vs 5 = rcV db := (hD.facts 5 (by omega)).2.2.2
  have p6 : vs 6 = rcV (r.common db) := (hD.facts 6 (by omega)).2.2.2
  simp only [p0, p1, p2, p3, p4, p5, p6]
  clear p0 p1 p2 p3 p4 p5 p6
  have hW1 := hD.bel
  clear hD  lo hi vs
  have D1 := ((B1.out).drew.keep hW1).cells4
  rw [← HC1.out]
  go_wp2_with fail
  clear D1
  change Code.wp _ _ _ _ (set4 W1 g1 (iv C1.a) (iv C1.b) (iv C1.c) (iv C1.d))
  have F1 := hid (((B1.out).drew.keep hW1).set4_ (iv C1.a) (iv C1.b) (iv C1.c) (iv C1.d))
  have F2 := hid (((B2.out).drew.keep hW1).far4 (g' := g1) (by omega) (iv C1.a) (iv C1.b) (iv C1.c) (iv C1.d))
  have F3 := hid (((B3.out).drew.keep hW1).far4 (g' := g1) (by omega) (iv C1.a) (iv C1.b) (iv C1.c) (iv C1.d))
  have F4 := hid (((B4.out).drew.keep hW1).far4 (g' := g1) (by omega) (iv C1.a) (iv C1.b) (iv C1.c) (iv C1.d))
  have O2 : Only [g1, g2, g3] w (set4 W1 g1 (iv C1.a) (iv C1.b) (iv C1.c) (iv C1.d)) := (O0.trans (stay_only hW1)).set4_ (.inl (by simp)) _ _ _ _
  generalize set4 W1 g1 (iv C1.a) (iv C1.b) (iv C1.c) (iv C1.d) = W2 at *
  have z2 : w.heap.size < W2.heap.size := F4.out.lt
  obtain ⟨fS, aS, hSb, hSc⟩ := (HS.out.only O2 H1.out H2.out H3.out).call
  have HSb := hid hSb; have HSc := hid hSc
  clear B1 B2 B3 B4 hW1 O0 bW0 z0 HDb HDc hSb hSc
  refine Plan.wp_region_steps 13 [] [.pointer (some ⟨g1, 0, none⟩), .pointer (some ⟨g1, 0, none⟩), .pointer (some ⟨g1, 0, none⟩), rcV C1, S, rcV sb, ptV r.a r.b, .pointer (some ⟨g2, 0, none⟩), .pointer (some ⟨g2, 0, none⟩), ptV sx sy, ptV (r.a - sx) (r.b - sy), rcV (sb.moved (r.a - sx) (r.b - sy)), rcV (C1.common (sb.moved (r.a - sx) (r.b - sy)))] [] (by kernel_rfl) (by kernel_rfl) (fun _ _ _ _ _ h => h) ?_ ?_
  · refine ⟨?_, ?_, ?_, ?_, ?_, ?_, ?_, ?_, ?_, ?_, ?_, ?_, ?_, trivial⟩
    · -- 0: Op.move (Operand.tmp 1)
      intro a W hold hdep hb
      have e1 : a.tmps[1]?.getD undef = .pointer (some ⟨g1, 0, none⟩) := Plan.ev (hold 1 (by kernel_rfl))
      clear hold hdep
      exact Plan.step_const rfl rfl (by go_simp <;> exact IntWalk.i64_in _ (by omega))
    · -- 1: Op.move (Operand.tmp 1)
      intro a W hold hdep hb
      have e1 : a.tmps[1]?.getD undef = .pointer (some ⟨g1, 0, none⟩) := Plan.ev (hold 1 (by kernel_rfl))
      clear hold hdep
      exact Plan.step_const rfl rfl (by go_simp <;> exact IntWalk.i64_in _ (by omega))
    · -- 2: Op.nilCheck (Operand.tmp 28)
      intro a W hold hdep hb
      have e28 : a.tmps[28]?.getD undef = .pointer (some ⟨g1, 0, none⟩) := Plan.ev (Plan.dep_const (by rfl) (hdep 1 (by kernel_rfl)))
      clear hold hdep
      exact Plan.step_const rfl rfl (by go_simp <;> exact IntWalk.i64_in _ (by omega))
    · -- 3: Op.load 73 (Operand.tmp 29)
      intro a W hold hdep hb
      have e29 : a.tmps[29]?.getD undef = .pointer (some ⟨g1, 0, none⟩) := Plan.ev (Plan.dep_const (by rfl) (hdep 2 (by kernel_rfl)))
      have C := ((F1.out).drew.keep hb).cells4.1
      clear hold hdep
      exact Plan.step_const rfl rfl (by go_simp <;> exact IntWalk.i64_in _ (by omega))
    · -- 4: Op.move (Operand.tmp 2)
      intro a W hold hdep hb
      have e2 : a.tmps[2]?.getD undef = S := Plan.ev (hold 2 (by kernel_rfl))
      clear hold hdep
      exact Plan.step_const rfl rfl (by go_simp <;> exact IntWalk.i64_in _ (by omega))
    · -- 5: Op.call { callee := Callee.invoke (Operand.tmp 31) "Bounds", args := #
      intro a W hold hdep hb
      have e31 : a.tmps[31]?.getD undef = S := Plan.ev (Plan.dep_const (by rfl) (hdep 4 (by kernel_rfl)))
      clear hold hdep
      exact Plan.step_call (f := fS) (args := aS) rfl rfl (HSb.out _ _ _ _ _ _ _ _ (Plan.ev' e31)) (HSc.out W (drew_below hb))
    · -- 6: Op.load 71 (Operand.tmp 12)
      intro a W hold hdep hb
      have e12 : a.tmps[12]?.getD undef = .pointer (some ⟨w.heap.size, 0, none⟩) := Plan.ev (hold 12 (by kernel_rfl))
      have C := ((F4.out).drew.keep hb).cells2.1
      clear hold hdep
      exact Plan.step_const rfl rfl (by go_simp <;> exact IntWalk.i64_in _ (by omega))
    · -- 7: Op.move (Operand.tmp 3)
      intro a W hold hdep hb
      have e3 : a.tmps[3]?.getD undef = .pointer (some ⟨g2, 0, none⟩) := Plan.ev (hold 3 (by kernel_rfl))
      clear hold hdep
      exact Plan.step_const rfl rfl (by go_simp <;> exact IntWalk.i64_in _ (by omega))
    · -- 8: Op.nilCheck (Operand.tmp 34)
      intro a W hold hdep hb
      have e34 : a.tmps[34]?.getD undef = .pointer (some ⟨g2, 0, none⟩) := Plan.ev (Plan.dep_const (by rfl) (hdep 7 (by kernel_rfl)))
      clear hold hdep
      exact Plan.step_const rfl rfl (by go_simp <;> exact IntWalk.i64_in _ (by omega))
    · -- 9: Op.load 71 (Operand.tmp 35)
      intro a W hold hdep hb
      have e35 : a.tmps[35]?.getD undef = .pointer (some ⟨g2, 0, none⟩) := Plan.ev (Plan.dep_const (by rfl) (hdep 8 (by kernel_rfl)))
      have C := ((F2.out).drew.keep hb).cells2.1
      clear hold hdep
      exact Plan.step_const rfl rfl (by go_simp <;> exact IntWalk.i64_in _ (by omega))
    · -- 10: Op.call { callee := Callee.value (Operand.func 98), args := #[Operand.
      intro a W hold hdep hb
      have e33 : a.tmps[33]?.getD undef = ptV r.a r.b := Plan.ev (Plan.dep_const (by rfl) (hdep 6 (by kernel_rfl)))
      have e36 : a.tmps[36]?.getD undef = ptV sx sy := Plan.ev (Plan.dep_const (by rfl) (hdep 9 (by kernel_rfl)))
      clear hold hdep
      exact Plan.step_call (f := 98) (args := #[ptV r.a r.b, ptV sx sy]) rfl rfl (by go_simp) (gsub_any _ _ _ _ _ (by omega) (by omega) (by omega) (by omega))
    · -- 11: Op.call { callee := Callee.value (Operand.func 97), args := #[Operand.
      intro a W hold hdep hb
      have e32 : a.tmps[32]?.getD undef = rcV sb := Plan.ev (Plan.dep_const (by rfl) (hdep 5 (by kernel_rfl)))
      have e37 : a.tmps[37]?.getD undef = ptV (r.a - sx) (r.b - sy) := Plan.ev (Plan.dep_const (by rfl) (hdep 10 (by kernel_rfl)))
      clear hold hdep
      exact Plan.step_call (f := 97) (args := #[rcV sb, ptV (r.a - sx) (r.b - sy)]) rfl rfl (by go_simp) (gadd_any _ _ _ _ HSB.out (by omega) (by omega))
    · -- 12: Op.call { callee := Callee.value (Operand.func 96), args := #[Operand.
      intro a W hold hdep hb
      have e30 : a.tmps[30]?.getD undef = rcV C1 := Plan.ev (Plan.dep_const (by rfl) (hdep 3 (by kernel_rfl)))
      have e38 : a.tmps[38]?.getD undef = rcV (sb.moved (r.a - sx) (r.b - sy)) := Plan.ev (Plan.dep_const (by rfl) (hdep 11 (by kernel_rfl)))
      clear hold hdep
      exact Plan.step_call (f := 96) (args := #[rcV C1, rcV (sb.moved (r.a - sx) (r.b - sy))]) rfl rfl (by go_simp) (inter_any _ _ _)
  intro vs W3 lo hi hD
  change wpList _ _ _ _ { tmps := (Array.setIfInBounds (Array.setIfInBounds (Array.setIfInBounds (Array.setIfInBounds (Array.setIfInBounds (Array.setIfInBounds (Array.setIfInBounds (Array.setIfInBounds (Array.setIfInBounds (Array.setIfInBounds (Array.setIfInBounds (Array.setIfInBounds (Array.setIfInBounds _ 27 (vs 0)) 28 (vs 1)) 29 (vs 2)) 30 (vs 3)) 31 (vs 4)) 32 (vs 5)) 33 (vs 6)) 34 (vs 7)) 35 (vs 8)) 36 (vs 9)) 37 (vs 10)) 38 (vs 11)) 39 (vs 12)), defers := _ } _
  simp only [Plan.putAll_zero, List.setIfInBounds_toArray, List.set_cons_zero, List.set_cons_succ, List.drop_succ_cons, List.drop_zero]
  have p0 : vs 0 = .pointer (some ⟨g1, 0, none⟩) := (hD.facts 0 (by omega)).2.2.2
  have p1 : vs 1 = .pointer (some ⟨g1, 0, none⟩) := (hD.facts 1 (by omega)).2.2.2
  have p2 : vs 2 = .pointer (some ⟨g1, 0, none⟩) := (hD.facts 2 (by omega)).2.2.2
  have p3 : vs 3 = rcV C1 := (hD.facts 3 (by omega)).2.2.2
  have p4 : vs 4 = S := (hD.facts 4 (by omega)).2.2.2
  have p5 : vs 5 = rcV sb := (hD.facts 5 (by omega)).2.2.2
  have p6 : vs 6 = ptV r.a r.b := (hD.facts 6 (by omega)).2.2.2
  have p7 : vs 7 = .pointer (some ⟨g2, 0, none⟩) := (hD.facts 7 (by omega)).2.2.2
  have p8 : vs 8 = .pointer (some ⟨g2, 0, none⟩) := (hD.facts 8 (by omega)).2.2.2
  have p9 : vs 9 = ptV sx sy := (hD.facts 9 (by omega)).2.2.2
  have p10 : vs 10 = ptV (r.a - sx) (r.b - sy) := (hD.facts 10 (by omega)).2.2.2
  have p11 : vs 11 = rcV (sb.moved (r.a - sx) (r.b - sy)) := (hD.facts 11 (by omega)).2.2.2
  have p12 : vs 12 = rcV (C1.common (sb.moved (r.a - sx) (r.b - sy))) := (hD.facts 12 (by omega)).2.2.2
  simp only [p0, p1, p2, p3, p4, p5, p6, p7, p8, p9, p10, p11, p12]
  clear p0 p1 p2 p3 p4 p5 p6 p7 p8 p9 p10 p11 p12
  have hW3 := hD.bel
  clear hD  lo hi vs
  have D1 := ((F1.out).drew.keep hW3).cells4
  rw [← HC2.out]
  go_wp2_with fail
  clear D1
  change Code.wp _ _ _ _ (set4 W3 g1 (iv C2.a) (iv C2.b) (iv C2.c) (iv C2.d))
  have K1 := hid (((F1.out).drew.keep hW3).set4_ (iv C2.a) (iv C2.b) (iv C2.c) (iv C2.d))
  have K2 := hid (((F2.out).drew.keep hW3).far4 (g' := g1) (by omega) (iv C2.a) (iv C2.b) (iv C2.c) (iv C2.d))
  have K3 := hid (((F3.out).drew.keep hW3).far4 (g' := g1) (by omega) (iv C2.a) (iv C2.b) (iv C2.c) (iv C2.d))
  have K4 := hid (((F4.out).drew.keep hW3).far4 (g' := g1) (by omega) (iv C2.a) (iv C2.b) (iv C2.c) (iv C2.d))
  have O4 : Only [g1, g2, g3] w (set4 W3 g1 (iv C2.a) (iv C2.b) (iv C2.c) (iv C2.d)) := (O2.trans (stay_only hW3)).set4_ (.inl (by simp)) _ _ _ _
  generalize set4 W3 g1 (iv C2.a) (iv C2.b) (iv C2.c) (iv C2.d) = W4 at *
  have z4 : w.heap.size < W4.heap.size := K4.out.lt
  clear F1 F2 F3 F4 hW3 O2 z2 HSb HSc
  have d1 := K1.out.cells4
  have d2 := K2.out.cells2
  have d3 := K3.out.cells2
  have d4 := K4.out.cells2
  have v1 : IntKind.i64.wrap (C2.a - r.a) = C2.a - r.a := IntWalk.i64_in _ (by omega)
  have v2 : IntKind.i64.wrap (C2.b - r.b) = C2.b - r.b := IntWalk.i64_in _ (by omega)
  go_wp2_with fail
  go_quiet (fail)
  go_wp2_with fail
  go_quiet (fail)
  by_cases m1 : C2.a = r.a
  · have m1' : ((C2.a - r.a) == 0) = true := by simp; omega
    have m2' : ((C2.b - r.b) == 0) = false := by have := HMV.out; simp; omega
    have M1 := hid m1; clear m1
    go_wp2_with fail
    go_end0
    refine ⟨⟨_, rfl⟩, ?_, ?_, ?_, ?_⟩
    · repeat' (first | exact O4 | (refine Only.setCell ?_ (.inl (by simp)) _) | refine Only.drewN ?_ _ | refine Only.drew ?_)
    · repeat' (first | exact K1.out | (refine Blk.far ?_ ?_ _) | assumption | (apply Ne.symm; assumption))
    · refine Blk.far (Blk.far ?_ (by assumption) _) (by assumption) _
      exact (K2.out.set_ 0 _).set_ 1 _
    · refine Blk.set_ (cs := #[_, iv my]) (Blk.set_ (cs := #[iv mx, iv my]) (Blk.far (Blk.far ?_ (Ne.symm n23) _) (Ne.symm n23) _) 0 _) 1 _
      exact K3.out
  · have m1' : ((C2.a - r.a) == 0) = false := by simp; omega
    have M1 := hid m1; clear m1
    go_wp2_with fail
    go_end0
    refine ⟨⟨_, rfl⟩, ?_, ?_, ?_, ?_⟩
    · repeat' (first | exact O4 | (refine Only.setCell ?_ (.inl (by simp)) _) | refine Only.drewN ?_ _ | refine Only.drew ?_)
    · repeat' (first | exact K1.out | (refine Blk.far ?_ ?_ _) | assumption | (apply Ne.symm; assumption))
    · refine Blk.far (Blk.far ?_ (by assumption) _) (by assumption) _
      exact (K2.out.set_ 0 _).set_ 1 _
    · refine Blk.set_ (cs := #[_, iv my]) (Blk.set_ (cs := #[iv mx, iv my]) (Blk.far (Blk.far ?_ (Ne.symm n23) _) (Ne.symm n23) _) 0 _) 1 _
      exact K3.out

end Go.Proofs.Ytlnfcjaempojgaa
