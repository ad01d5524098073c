/- Contract of impl.Clip. Written by mk_E4.py. -/
import Derived.Test.YtlnfcjaempojgaaE3
set_option linter.unusedVariables false
namespace Go.Proofs.Ytlnfcjaempojgaa
open Go.RowKit

/-- A copy of an image, its pixels in a row of their own. -/
def IsCopy (k x0 y0 x1 y1 : Int) (n : Nat) (bs : List Int) (v : Value) (w : World) : Prop := ∃ A c base, v = imgV k x0 y0 x1 y1 (.slice A n c) ∧ w.ownsRow base 5 1 (.slice A n c) n (u8s bs)
theorem isCopy_mono {k x0 y0 x1 y1 : Int} {n : Nat} {bs : List Int} : Plan.Stable (IsCopy k x0 y0 x1 y1 n bs) := fun _ _ _ ⟨A, c, base, h, o⟩ hb => ⟨A, c, base, h, ownsRow_below o hb⟩
theorem bounds_in {k x0 y0 x1 y1 : Int} {n : Nat} {bs : List Int} (h : ValidP k x0 y0 x1 y1 n bs) : (boundsOf k x0 y0 x1 y1).in_ 1000000000 := by
  unfold boundsOf Rc.in_
  by_cases h6 : k = 6
  · rw [if_pos h6]; dsimp only; omega
  · rw [if_neg h6]
    obtain ⟨_, _, _, _, h⟩ := h
    obtain ⟨b1, b2, b3, b4, b5, b6, _⟩ := h h6
    dsimp only
    omega

set_option maxRecDepth 20000 in
set_option maxHeartbeats 2000000 in
theorem implclip_u (dk d1 d2 d3 d4 : Int) (dA : Option Addr) (dn dc : Nat) (ds : List Int) (sk s1 s2 s3 s4 : Int) (sA : Option Addr) (sn sc : Nat) (ss : List Int) (mk m1 m2 m3 m4 : Int) (mA : Option Addr) (mn mc : Nat) (ms : List Int) (r : Rc) (sx sy mx my : Int) (w : World)
    (hdb : ByteSl w dA dn dc ds) (hsb : ByteSl w sA sn sc ss) (hmb : ByteSl w mA mn mc ms) (fd : dn ≤ 2147483647) (fs : sn ≤ 2147483647) (fm : mn ≤ 2147483647)
    (hdv : ValidP dk d1 d2 d3 d4 dn ds) (h6 : dk ≠ 6) (hsv : ValidP sk s1 s2 s3 s4 sn ss) (hmk : mk = -1)
    (hr : r.in_ 1000) (hsx : -1000 ≤ sx ∧ sx ≤ 1000) (hsy : -1000 ≤ sy ∧ sy ≤ 1000) (hmx : -1000 ≤ mx ∧ mx ≤ 1000) (hmy : -1000 ≤ my ∧ my ≤ 1000)
    (C : Rc) (hC : C = ((r.common ⟨d1, d2, d3, d4⟩).common ((boundsOf sk s1 s2 s3 s4).moved (r.a - sx) (r.b - sy)))) :
    Calls Try.prog 21 #[imgV dk d1 d2 d3 d4 (.slice dA dn dc), rcV r, imgV sk s1 s2 s3 s4 (.slice sA sn sc), iv sx, iv sy, imgV mk m1 m2 m3 m4 (.slice mA mn mc), iv mx, iv my] w fun e w' =>
      e = .returned (.tuple #[rcV C, ptV (sx + (C.a - r.a)) (sy + (C.b - r.b)), ptV (mx + (C.a - r.a)) (my + (C.b - r.b))]) ∧ Below w.heap.size w w' := by
  have HC := hid hC
  have HR := hid hr
  have HDB := hid hdb
  have HSB := hid hsb
  have HMB := hid hmb
  have HDV := hid hdv
  have HSV := hid hsv
  have HK := hid hmk
  have H6 := hid h6
  have SR := hid hsb.rng
  have MR := hid hmb.rng
  clear hC hsb hr hdb hmb hdv hsv hmk h6
  go_enter Try.func21, Try.ntmps21
  go_wp2_with fail
  obtain ⟨W0, hW0⟩ : ∃ W : World, W = (((((((w.alloc (.cells #[iv dk, iv d1, iv d2, iv d3, iv d4, .slice dA dn dc] 24)).alloc (.cells #[iv r.a, iv r.b, iv r.c, iv r.d] 25)).alloc (.cells #[iv sk, iv s1, iv s2, iv s3, iv s4, .slice sA sn sc] 24)).alloc (.cells #[iv mk, iv m1, iv m2, iv m3, iv m4, .slice mA mn mc] 24)).alloc (.cells #[iv 0, iv 0, iv 0, iv 0] 25)).alloc (.cells #[iv 0, iv 0] 34)).alloc (.cells #[iv 0, iv 0] 34)) := ⟨_, rfl⟩
  rw [← hW0]
  have B0 : Hid (Blk W0 (w.heap.size) 24 #[iv dk, iv d1, iv d2, iv d3, iv d4, .slice dA dn dc]) := by rw [hW0]; exact Blk.alloc (Blk.alloc (Blk.alloc (Blk.alloc (Blk.alloc (Blk.alloc (Blk.new_at (W := w) (t := 24) (cs := #[iv dk, iv d1, iv d2, iv d3, iv d4, .slice dA dn dc]) (by simp)) _) _) _) _) _) _
  have B1 : Hid (Blk W0 (w.heap.size + 1) 25 #[iv r.a, iv r.b, iv r.c, iv r.d]) := by rw [hW0]; exact Blk.alloc (Blk.alloc (Blk.alloc (Blk.alloc (Blk.alloc (Blk.new_at (W := (w.alloc (.cells #[iv dk, iv d1, iv d2, iv d3, iv d4, .slice dA dn dc] 24))) (t := 25) (cs := #[iv r.a, iv r.b, iv r.c, iv r.d]) (by simp)) _) _) _) _) _
  have B2 : Hid (Blk W0 (w.heap.size + 1 + 1) 24 #[iv sk, iv s1, iv s2, iv s3, iv s4, .slice sA sn sc]) := by rw [hW0]; exact Blk.alloc (Blk.alloc (Blk.alloc (Blk.alloc (Blk.new_at (W := ((w.alloc (.cells #[iv dk, iv d1, iv d2, iv d3, iv d4, .slice dA dn dc] 24)).alloc (.cells #[iv r.a, iv r.b, iv r.c, iv r.d] 25))) (t := 24) (cs := #[iv sk, iv s1, iv s2, iv s3, iv s4, .slice sA sn sc]) (by simp)) _) _) _) _
  have B3 : Hid (Blk W0 (w.heap.size + 1 + 1 + 1) 24 #[iv mk, iv m1, iv m2, iv m3, iv m4, .slice mA mn mc]) := by rw [hW0]; exact Blk.alloc (Blk.alloc (Blk.alloc (Blk.new_at (W := (((w.alloc (.cells #[iv dk, iv d1, iv d2, iv d3, iv d4, .slice dA dn dc] 24)).alloc (.cells #[iv r.a, iv r.b, iv r.c, iv r.d] 25)).alloc (.cells #[iv sk, iv s1, iv s2, iv s3, iv s4, .slice sA sn sc] 24))) (t := 24) (cs := #[iv mk, iv m1, iv m2, iv m3, iv m4, .slice mA mn mc]) (by simp)) _) _) _
  have B4 : Hid (Blk W0 (w.heap.size + 1 + 1 + 1 + 1) 25 #[iv 0, iv 0, iv 0, iv 0]) := by rw [hW0]; exact Blk.alloc (Blk.alloc (Blk.new_at (W := ((((w.alloc (.cells #[iv dk, iv d1, iv d2, iv d3, iv d4, .slice dA dn dc] 24)).alloc (.cells #[iv r.a, iv r.b, iv r.c, iv r.d] 25)).alloc (.cells #[iv sk, iv s1, iv s2, iv s3, iv s4, .slice sA sn sc] 24)).alloc (.cells #[iv mk, iv m1, iv m2, iv m3, iv m4, .slice mA mn mc] 24))) (t := 25) (cs := #[iv 0, iv 0, iv 0, iv 0]) (by simp)) _) _
  have B5 : Hid (Blk W0 (w.heap.size + 1 + 1 + 1 + 1 + 1) 34 #[iv 0, iv 0]) := by rw [hW0]; exact Blk.alloc (Blk.new_at (W := (((((w.alloc (.cells #[iv dk, iv d1, iv d2, iv d3, iv d4, .slice dA dn dc] 24)).alloc (.cells #[iv r.a, iv r.b, iv r.c, iv r.d] 25)).alloc (.cells #[iv sk, iv s1, iv s2, iv s3, iv s4, .slice sA sn sc] 24)).alloc (.cells #[iv mk, iv m1, iv m2, iv m3, iv m4, .slice mA mn mc] 24)).alloc (.cells #[iv 0, iv 0, iv 0, iv 0] 25))) (t := 34) (cs := #[iv 0, iv 0]) (by simp)) _
  have B6 : Hid (Blk W0 (w.heap.size + 1 + 1 + 1 + 1 + 1 + 1) 34 #[iv 0, iv 0]) := by rw [hW0]; exact Blk.new_at (W := ((((((w.alloc (.cells #[iv dk, iv d1, iv d2, iv d3, iv d4, .slice dA dn dc] 24)).alloc (.cells #[iv r.a, iv r.b, iv r.c, iv r.d] 25)).alloc (.cells #[iv sk, iv s1, iv s2, iv s3, iv s4, .slice sA sn sc] 24)).alloc (.cells #[iv mk, iv m1, iv m2, iv m3, iv m4, .slice mA mn mc] 24)).alloc (.cells #[iv 0, iv 0, iv 0, iv 0] 25)).alloc (.cells #[iv 0, iv 0] 34))) (t := 34) (cs := #[iv 0, iv 0]) (by simp)
  have bW0 : Below w.heap.size w W0 := by rw [hW0]; go_grown
  have sW0 : W0.heap.size = w.heap.size + 7 := by rw [hW0]; simp
  have SW0 := hid sW0
  have zW0 : w.heap.size + 7 ≤ W0.heap.size := by omega
  clear sW0 hW0
  have HB := hid bW0
  refine Plan.wp_region_stepsg 15 [] [(fun v _ => v = imgV dk d1 d2 d3 d4 (.slice dA dn dc)), (IsCopy dk d1 d2 d3 d4 dn ds), (fun v _ => v = rcV r), (fun v _ => v = imgV sk s1 s2 s3 s4 (.slice sA sn sc)), (IsCopy sk s1 s2 s3 s4 sn ss), (fun v _ => v = iv sx), (fun v _ => v = iv sy), (fun v _ => v = imgV mk m1 m2 m3 m4 (.slice mA mn mc)), (IsCopy mk m1 m2 m3 m4 mn ms), (fun v _ => v = iv mx), (fun v _ => v = iv my), (fun v _ => v = .tuple #[rcV C, ptV (sx + (C.a - r.a)) (sy + (C.b - r.b)), ptV (mx + (C.a - r.a)) (my + (C.b - r.b))]), (fun v _ => v = rcV C), (fun v _ => v = ptV (sx + (C.a - r.a)) (sy + (C.b - r.b))), (fun v _ => v = ptV (mx + (C.a - r.a)) (my + (C.b - r.b)))] [] ⟨Plan.st_const _, (isCopy_mono), Plan.st_const _, Plan.st_const _, (isCopy_mono), Plan.st_const _, Plan.st_const _, Plan.st_const _, (isCopy_mono), Plan.st_const _, Plan.st_const _, Plan.st_const _, Plan.st_const _, Plan.st_const _, Plan.st_const _, trivial⟩ (by kernel_rfl) (by kernel_rfl) (fun _ _ _ _ _ h => h) ?_ ?_
  · refine ⟨?_, ?_, ?_, ?_, ?_, ?_, ?_, ?_, ?_, ?_, ?_, ?_, ?_, ?_, ?_, trivial⟩
    · -- 0: Op.load 24 (Operand.tmp 8)
      intro a W hold hdep hb
      have e8 : a.tmps[8]?.getD undef = .pointer (some ⟨w.heap.size, 0, none⟩) := Plan.ev (hold 8 (by kernel_rfl))
      have C := ((B0.out).drew.keep hb).cells6
      clear hold hdep
      exact Plan.stepg_pure rfl rfl (imgV dk d1 d2 d3 d4 (.slice dA dn dc)) (by go_simp <;> exact IntWalk.i64_in _ (by omega)) rfl
    · -- 1: Op.call { callee := Callee.value (Operand.func 50), args := #[Operand.
      intro a W hold hdep hb
      have e19 : a.tmps[19]?.getD undef = imgV dk d1 d2 d3 d4 (.slice dA dn dc) := Plan.ev (Plan.dep_g (by rfl) (hdep 0 (by kernel_rfl)))
      clear hold hdep
      exact Plan.stepg_call rfl rfl (f := 50) (args := #[imgV dk d1 d2 d3 d4 (.slice dA dn dc)]) (by go_simp) ((image_any dk d1 d2 d3 d4 dA dn dc ds W (HDB.out.keep (HB.out.trans ((stay_below hb).mono (by omega)))) fd).mono fun _ _ ⟨A, c, he, hb, h⟩ => ⟨_, he, hb, A, c, _, rfl, h⟩)
    · -- 2: Op.load 25 (Operand.tmp 9)
      intro a W hold hdep hb
      have e9 : a.tmps[9]?.getD undef = .pointer (some ⟨w.heap.size + 1, 0, none⟩) := Plan.ev (hold 9 (by kernel_rfl))
      have C := ((B1.out).drew.keep hb).cells4.1
      clear hold hdep
      exact Plan.stepg_pure rfl rfl (rcV r) (by go_simp <;> exact IntWalk.i64_in _ (by omega)) rfl
    · -- 3: Op.load 24 (Operand.tmp 10)
      intro a W hold hdep hb
      have e10 : a.tmps[10]?.getD undef = .pointer (some ⟨w.heap.size + 1 + 1, 0, none⟩) := Plan.ev (hold 10 (by kernel_rfl))
      have C := ((B2.out).drew.keep hb).cells6
      clear hold hdep
      exact Plan.stepg_pure rfl rfl (imgV sk s1 s2 s3 s4 (.slice sA sn sc)) (by go_simp <;> exact IntWalk.i64_in _ (by omega)) rfl
    · -- 4: Op.call { callee := Callee.value (Operand.func 50), args := #[Operand.
      intro a W hold hdep hb
      have e22 : a.tmps[22]?.getD undef = imgV sk s1 s2 s3 s4 (.slice sA sn sc) := Plan.ev (Plan.dep_g (by rfl) (hdep 3 (by kernel_rfl)))
      clear hold hdep
      exact Plan.stepg_call rfl rfl (f := 50) (args := #[imgV sk s1 s2 s3 s4 (.slice sA sn sc)]) (by go_simp) ((image_any sk s1 s2 s3 s4 sA sn sc ss W (HSB.out.keep (HB.out.trans ((stay_below hb).mono (by omega)))) fs).mono fun _ _ ⟨A, c, he, hb, h⟩ => ⟨_, he, hb, A, c, _, rfl, h⟩)
    · -- 5: Op.move (Operand.tmp 3)
      intro a W hold hdep hb
      have e3 : a.tmps[3]?.getD undef = iv sx := Plan.ev (hold 3 (by kernel_rfl))
      clear hold hdep
      exact Plan.stepg_pure rfl rfl (iv sx) (by go_simp <;> exact IntWalk.i64_in _ (by omega)) rfl
    · -- 6: Op.move (Operand.tmp 4)
      intro a W hold hdep hb
      have e4 : a.tmps[4]?.getD undef = iv sy := Plan.ev (hold 4 (by kernel_rfl))
      clear hold hdep
      exact Plan.stepg_pure rfl rfl (iv sy) (by go_simp <;> exact IntWalk.i64_in _ (by omega)) rfl
    · -- 7: Op.load 24 (Operand.tmp 13)
      intro a W hold hdep hb
      have e13 : a.tmps[13]?.getD undef = .pointer (some ⟨w.heap.size + 1 + 1 + 1, 0, none⟩) := Plan.ev (hold 13 (by kernel_rfl))
      have C := ((B3.out).drew.keep hb).cells6
      clear hold hdep
      exact Plan.stepg_pure rfl rfl (imgV mk m1 m2 m3 m4 (.slice mA mn mc)) (by go_simp <;> exact IntWalk.i64_in _ (by omega)) rfl
    · -- 8: Op.call { callee := Callee.value (Operand.func 50), args := #[Operand.
      intro a W hold hdep hb
      have e26 : a.tmps[26]?.getD undef = imgV mk m1 m2 m3 m4 (.slice mA mn mc) := Plan.ev (Plan.dep_g (by rfl) (hdep 7 (by kernel_rfl)))
      clear hold hdep
      exact Plan.stepg_call rfl rfl (f := 50) (args := #[imgV mk m1 m2 m3 m4 (.slice mA mn mc)]) (by go_simp) ((image_any mk m1 m2 m3 m4 mA mn mc ms W (HMB.out.keep (HB.out.trans ((stay_below hb).mono (by omega)))) fm).mono fun _ _ ⟨A, c, he, hb, h⟩ => ⟨_, he, hb, A, c, _, rfl, h⟩)
    · -- 9: Op.move (Operand.tmp 6)
      intro a W hold hdep hb
      have e6 : a.tmps[6]?.getD undef = iv mx := Plan.ev (hold 6 (by kernel_rfl))
      clear hold hdep
      exact Plan.stepg_pure rfl rfl (iv mx) (by go_simp <;> exact IntWalk.i64_in _ (by omega)) rfl
    · -- 10: Op.move (Operand.tmp 7)
      intro a W hold hdep hb
      have e7 : a.tmps[7]?.getD undef = iv my := Plan.ev (hold 7 (by kernel_rfl))
      clear hold hdep
      exact Plan.stepg_pure rfl rfl (iv my) (by go_simp <;> exact IntWalk.i64_in _ (by omega)) rfl
    · -- 11: Op.call { callee := Callee.value (Operand.func 49), args := #[Operand.
      intro a W hold hdep hb
      have p20 : (IsCopy dk d1 d2 d3 d4 dn ds) (a.tmps.getD 20 undef) W := Plan.dep_g (by rfl) (hdep 1 (by kernel_rfl))
      have e21 : a.tmps[21]?.getD undef = rcV r := Plan.ev (Plan.dep_g (by rfl) (hdep 2 (by kernel_rfl)))
      have p23 : (IsCopy sk s1 s2 s3 s4 sn ss) (a.tmps.getD 23 undef) W := Plan.dep_g (by rfl) (hdep 4 (by kernel_rfl))
      have e24 : a.tmps[24]?.getD undef = iv sx := Plan.ev (Plan.dep_g (by rfl) (hdep 5 (by kernel_rfl)))
      have e25 : a.tmps[25]?.getD undef = iv sy := Plan.ev (Plan.dep_g (by rfl) (hdep 6 (by kernel_rfl)))
      have p27 : (IsCopy mk m1 m2 m3 m4 mn ms) (a.tmps.getD 27 undef) W := Plan.dep_g (by rfl) (hdep 8 (by kernel_rfl))
      have e28 : a.tmps[28]?.getD undef = iv mx := Plan.ev (Plan.dep_g (by rfl) (hdep 9 (by kernel_rfl)))
      have e29 : a.tmps[29]?.getD undef = iv my := Plan.ev (Plan.dep_g (by rfl) (hdep 10 (by kernel_rfl)))
      clear hold hdep
      obtain ⟨A1, c1, b1, h1, o1⟩ := p20
      obtain ⟨A2, c2, b2, h2, o2⟩ := p23
      obtain ⟨A3, c3, b3, h3, o3⟩ := p27
      have g1 := Plan.ev h1
      have g2 := Plan.ev h2
      have g3 := Plan.ev h3
      have O1 := hid o1
      have O2 := hid o2
      have O3 := hid o3
      clear h1 h2 h3 o1 o2 o3
      exact Plan.stepg_call rfl rfl (f := 49) (args := #[imgV dk d1 d2 d3 d4 (.slice A1 dn c1), rcV r, imgV sk s1 s2 s3 s4 (.slice A2 sn c2), iv sx, iv sy, imgV mk m1 m2 m3 m4 (.slice A3 mn c3), iv mx, iv my]) (by go_simp) ((zzclip_u dk d1 d2 d3 d4 _ sk s1 s2 s3 s4 _ mk m1 m2 m3 m4 _ ⟨d1, d2, d3, d4⟩ (boundsOf sk s1 s2 s3 s4) r sx sy mx my W (mkD_any HDV.out H6.out O1.out fd) (mkI_any HSV.out SR.out O2.out fs) (by obtain rfl := HK.out; exact mkN O3.out fm) HR.out (bounds_in HSV.out) hsx hsy hmx hmy C HC.out).mono fun _ _ ⟨he, hb⟩ => ⟨_, he, hb, rfl⟩)
    · -- 12: Op.extract (Operand.tmp 30) 0
      intro a W hold hdep hb
      have e30 : a.tmps[30]?.getD undef = .tuple #[rcV C, ptV (sx + (C.a - r.a)) (sy + (C.b - r.b)), ptV (mx + (C.a - r.a)) (my + (C.b - r.b))] := Plan.ev (Plan.dep_g (by rfl) (hdep 11 (by kernel_rfl)))
      clear hold hdep
      exact Plan.stepg_pure rfl rfl (rcV C) (by go_simp <;> exact IntWalk.i64_in _ (by omega)) rfl
    · -- 13: Op.extract (Operand.tmp 30) 1
      intro a W hold hdep hb
      have e30 : a.tmps[30]?.getD undef = .tuple #[rcV C, ptV (sx + (C.a - r.a)) (sy + (C.b - r.b)), ptV (mx + (C.a - r.a)) (my + (C.b - r.b))] := Plan.ev (Plan.dep_g (by rfl) (hdep 11 (by kernel_rfl)))
      clear hold hdep
      exact Plan.stepg_pure rfl rfl (ptV (sx + (C.a - r.a)) (sy + (C.b - r.b))) (by go_simp <;> exact IntWalk.i64_in _ (by omega)) rfl
    · -- 14: Op.extract (Operand.tmp 30) 2
      intro a W hold hdep hb
      have e30 : a.tmps[30]?.getD undef = .tuple #[rcV C, ptV (sx + (C.a - r.a)) (sy + (C.b - r.b)), ptV (mx + (C.a - r.a)) (my + (C.b - r.b))] := Plan.ev (Plan.dep_g (by rfl) (hdep 11 (by kernel_rfl)))
      clear hold hdep
      exact Plan.stepg_pure rfl rfl (ptV (mx + (C.a - r.a)) (my + (C.b - r.b))) (by go_simp <;> exact IntWalk.i64_in _ (by omega)) rfl
  intro vs W1 lo hi hD
  change wpList _ _ _ _ { tmps := (Array.setIfInBounds (Array.setIfInBounds (Array.setIfInBounds (Array.setIfInBounds (Array.setIfInBounds (Array.setIfInBounds (Array.setIfInBounds (Array.setIfInBounds (Array.setIfInBounds (Array.setIfInBounds (Array.setIfInBounds (Array.setIfInBounds (Array.setIfInBounds (Array.setIfInBounds (Array.setIfInBounds _ 19 (vs 0)) 20 (vs 1)) 21 (vs 2)) 22 (vs 3)) 23 (vs 4)) 24 (vs 5)) 25 (vs 6)) 26 (vs 7)) 27 (vs 8)) 28 (vs 9)) 29 (vs 10)) 30 (vs 11)) 31 (vs 12)) 32 (vs 13)) 33 (vs 14)), defers := _ } _
  simp only [Plan.putAll_zero, List.setIfInBounds_toArray, List.set_cons_zero, List.set_cons_succ, List.drop_succ_cons, List.drop_zero]
  have p0 : vs 0 = imgV dk d1 d2 d3 d4 (.slice dA dn dc) := (hD.facts 0 (by omega)).2.2.2
  have u1 : (IsCopy dk d1 d2 d3 d4 dn ds) (vs 1) W1 := (hD.facts 1 (by omega)).2.2.2
  have p2 : vs 2 = rcV r := (hD.facts 2 (by omega)).2.2.2
  have p3 : vs 3 = imgV sk s1 s2 s3 s4 (.slice sA sn sc) := (hD.facts 3 (by omega)).2.2.2
  have u4 : (IsCopy sk s1 s2 s3 s4 sn ss) (vs 4) W1 := (hD.facts 4 (by omega)).2.2.2
  have p5 : vs 5 = iv sx := (hD.facts 5 (by omega)).2.2.2
  have p6 : vs 6 = iv sy := (hD.facts 6 (by omega)).2.2.2
  have p7 : vs 7 = imgV mk m1 m2 m3 m4 (.slice mA mn mc) := (hD.facts 7 (by omega)).2.2.2
  have u8 : (IsCopy mk m1 m2 m3 m4 mn ms) (vs 8) W1 := (hD.facts 8 (by omega)).2.2.2
  have p9 : vs 9 = iv mx := (hD.facts 9 (by omega)).2.2.2
  have p10 : vs 10 = iv my := (hD.facts 10 (by omega)).2.2.2
  have p11 : vs 11 = .tuple #[rcV C, ptV (sx + (C.a - r.a)) (sy + (C.b - r.b)), ptV (mx + (C.a - r.a)) (my + (C.b - r.b))] := (hD.facts 11 (by omega)).2.2.2
  have p12 : vs 12 = rcV C := (hD.facts 12 (by omega)).2.2.2
  have p13 : vs 13 = ptV (sx + (C.a - r.a)) (sy + (C.b - r.b)) := (hD.facts 13 (by omega)).2.2.2
  have p14 : vs 14 = ptV (mx + (C.a - r.a)) (my + (C.b - r.b)) := (hD.facts 14 (by omega)).2.2.2
  simp only [p0, p2, p3, p5, p6, p7, p9, p10, p11, p12, p13, p14]
  clear p0 p2 p3 p5 p6 p7 p9 p10 p11 p12 p13 p14
  have hW1 := hD.bel
  generalize vs 1 = V1 at *
  generalize vs 4 = V4 at *
  generalize vs 8 = V8 at *
  clear hD  lo hi vs
  have c4 := ((B4.out).drew.keep hW1).cells4
  have c5 := ((B5.out).drew.keep hW1).cells2
  have c6 := ((B6.out).drew.keep hW1).cells2
  have z1 : W0.heap.size ≤ W1.heap.size := hW1.size
  have bw1 : Below w.heap.size w W1 := bW0.trans ((stay_below hW1).mono (by omega))
  clear hW1 bW0 B0 B1 B2 B3 B4 B5 B6 u1 u4 u8 HDB HSB HMB
  go_wp2
  refine bodyPost_ret (v := .tuple #[rcV C, ptV (sx + (C.a - r.a)) (sy + (C.b - r.b)), ptV (mx + (C.a - r.a)) (my + (C.b - r.b))]) (by simp [results, Try.results21, go_sem, c4, c5, c6]) rfl ⟨rfl, ?_⟩
  (repeat' (first | (with_reducible exact Below.refl _ _) | (with_reducible assumption) | (with_reducible refine drewN_below ?_ _) | (with_reducible refine Below.drew ?_) | (with_reducible refine Below.alloc ?_ ?_ _) | (with_reducible refine Below.setCell ?_ ?_ _) | (with_reducible refine below_via (by with_reducible assumption) ?_ ?_) | go_size))

set_option maxRecDepth 20000 in
set_option maxHeartbeats 2000000 in
theorem implclip_m (dk d1 d2 d3 d4 : Int) (dA : Option Addr) (dn dc : Nat) (ds : List Int) (sk s1 s2 s3 s4 : Int) (sA : Option Addr) (sn sc : Nat) (ss : List Int) (mk m1 m2 m3 m4 : Int) (mA : Option Addr) (mn mc : Nat) (ms : List Int) (r : Rc) (sx sy mx my : Int) (w : World)
    (hdb : ByteSl w dA dn dc ds) (hsb : ByteSl w sA sn sc ss) (hmb : ByteSl w mA mn mc ms) (fd : dn ≤ 2147483647) (fs : sn ≤ 2147483647) (fm : mn ≤ 2147483647)
    (hdv : ValidP dk d1 d2 d3 d4 dn ds) (h6 : dk ≠ 6) (hsv : ValidP sk s1 s2 s3 s4 sn ss) (hmv : ValidP mk m1 m2 m3 m4 mn ms)
    (hr : r.in_ 1000) (hsx : -1000 ≤ sx ∧ sx ≤ 1000) (hsy : -1000 ≤ sy ∧ sy ≤ 1000) (hmx : -1000 ≤ mx ∧ mx ≤ 1000) (hmy : -1000 ≤ my ∧ my ≤ 1000)
    (C : Rc) (hC : C = (((r.common ⟨d1, d2, d3, d4⟩).common ((boundsOf sk s1 s2 s3 s4).moved (r.a - sx) (r.b - sy))).common ((boundsOf mk m1 m2 m3 m4).moved (r.a - mx) (r.b - my)))) :
    Calls Try.prog 21 #[imgV dk d1 d2 d3 d4 (.slice dA dn dc), rcV r, imgV sk s1 s2 s3 s4 (.slice sA sn sc), iv sx, iv sy, imgV mk m1 m2 m3 m4 (.slice mA mn mc), iv mx, iv my] w fun e w' =>
      e = .returned (.tuple #[rcV C, ptV (sx + (C.a - r.a)) (sy + (C.b - r.b)), ptV (mx + (C.a - r.a)) (my + (C.b - r.b))]) ∧ Below w.heap.size w w' := by
  have HC := hid hC
  have HR := hid hr
  have HDB := hid hdb
  have HSB := hid hsb
  have HMB := hid hmb
  have HDV := hid hdv
  have HSV := hid hsv
  have HK := hid hmv
  have H6 := hid h6
  have SR := hid hsb.rng
  have MR := hid hmb.rng
  clear hC hsb hr hdb hmb hdv hsv hmv h6
  go_enter Try.func21, Try.ntmps21
  go_wp2_with fail
  obtain ⟨W0, hW0⟩ : ∃ W : World, W = (((((((w.alloc (.cells #[iv dk, iv d1, iv d2, iv d3, iv d4, .slice dA dn dc] 24)).alloc (.cells #[iv r.a, iv r.b, iv r.c, iv r.d] 25)).alloc (.cells #[iv sk, iv s1, iv s2, iv s3, iv s4, .slice sA sn sc] 24)).alloc (.cells #[iv mk, iv m1, iv m2, iv m3, iv m4, .slice mA mn mc] 24)).alloc (.cells #[iv 0, iv 0, iv 0, iv 0] 25)).alloc (.cells #[iv 0, iv 0] 34)).alloc (.cells #[iv 0, iv 0] 34)) := ⟨_, rfl⟩
  rw [← hW0]
  have B0 : Hid (Blk W0 (w.heap.size) 24 #[iv dk, iv d1, iv d2, iv d3, iv d4, .slice dA dn dc]) := by rw [hW0]; exact Blk.alloc (Blk.alloc (Blk.alloc (Blk.alloc (Blk.alloc (Blk.alloc (Blk.new_at (W := w) (t := 24) (cs := #[iv dk, iv d1, iv d2, iv d3, iv d4, .slice dA dn dc]) (by simp)) _) _) _) _) _) _
  have B1 : Hid (Blk W0 (w.heap.size + 1) 25 #[iv r.a, iv r.b, iv r.c, iv r.d]) := by rw [hW0]; exact Blk.alloc (Blk.alloc (Blk.alloc (Blk.alloc (Blk.alloc (Blk.new_at (W := (w.alloc (.cells #[iv dk, iv d1, iv d2, iv d3, iv d4, .slice dA dn dc] 24))) (t := 25) (cs := #[iv r.a, iv r.b, iv r.c, iv r.d]) (by simp)) _) _) _) _) _
  have B2 : Hid (Blk W0 (w.heap.size + 1 + 1) 24 #[iv sk, iv s1, iv s2, iv s3, iv s4, .slice sA sn sc]) := by rw [hW0]; exact Blk.alloc (Blk.alloc (Blk.alloc (Blk.alloc (Blk.new_at (W := ((w.alloc (.cells #[iv dk, iv d1, iv d2, iv d3, iv d4, .slice dA dn dc] 24)).alloc (.cells #[iv r.a, iv r.b, iv r.c, iv r.d] 25))) (t := 24) (cs := #[iv sk, iv s1, iv s2, iv s3, iv s4, .slice sA sn sc]) (by simp)) _) _) _) _
  have B3 : Hid (Blk W0 (w.heap.size + 1 + 1 + 1) 24 #[iv mk, iv m1, iv m2, iv m3, iv m4, .slice mA mn mc]) := by rw [hW0]; exact Blk.alloc (Blk.alloc (Blk.alloc (Blk.new_at (W := (((w.alloc (.cells #[iv dk, iv d1, iv d2, iv d3, iv d4, .slice dA dn dc] 24)).alloc (.cells #[iv r.a, iv r.b, iv r.c, iv r.d] 25)).alloc (.cells #[iv sk, iv s1, iv s2, iv s3, iv s4, .slice sA sn sc] 24))) (t := 24) (cs := #[iv mk, iv m1, iv m2, iv m3, iv m4, .slice mA mn mc]) (by simp)) _) _) _
  have B4 : Hid (Blk W0 (w.heap.size + 1 + 1 + 1 + 1) 25 #[iv 0, iv 0, iv 0, iv 0]) := by rw [hW0]; exact Blk.alloc (Blk.alloc (Blk.new_at (W := ((((w.alloc (.cells #[iv dk, iv d1, iv d2, iv d3, iv d4, .slice dA dn dc] 24)).alloc (.cells #[iv r.a, iv r.b, iv r.c, iv r.d] 25)).alloc (.cells #[iv sk, iv s1, iv s2, iv s3, iv s4, .slice sA sn sc] 24)).alloc (.cells #[iv mk, iv m1, iv m2, iv m3, iv m4, .slice mA mn mc] 24))) (t := 25) (cs := #[iv 0, iv 0, iv 0, iv 0]) (by simp)) _) _
  have B5 : Hid (Blk W0 (w.heap.size + 1 + 1 + 1 + 1 + 1) 34 #[iv 0, iv 0]) := by rw [hW0]; exact Blk.alloc (Blk.new_at (W := (((((w.alloc (.cells #[iv dk, iv d1, iv d2, iv d3, iv d4, .slice dA dn dc] 24)).alloc (.cells #[iv r.a, iv r.b, iv r.c, iv r.d] 25)).alloc (.cells #[iv sk, iv s1, iv s2, iv s3, iv s4, .slice sA sn sc] 24)).alloc (.cells #[iv mk, iv m1, iv m2, iv m3, iv m4, .slice mA mn mc] 24)).alloc (.cells #[iv 0, iv 0, iv 0, iv 0] 25))) (t := 34) (cs := #[iv 0, iv 0]) (by simp)) _
  have B6 : Hid (Blk W0 (w.heap.size + 1 + 1 + 1 + 1 + 1 + 1) 34 #[iv 0, iv 0]) := by rw [hW0]; exact Blk.new_at (W := ((((((w.alloc (.cells #[iv dk, iv d1, iv d2, iv d3, iv d4, .slice dA dn dc] 24)).alloc (.cells #[iv r.a, iv r.b, iv r.c, iv r.d] 25)).alloc (.cells #[iv sk, iv s1, iv s2, iv s3, iv s4, .slice sA sn sc] 24)).alloc (.cells #[iv mk, iv m1, iv m2, iv m3, iv m4, .slice mA mn mc] 24)).alloc (.cells #[iv 0, iv 0, iv 0, iv 0] 25)).alloc (.cells #[iv 0, iv 0] 34))) (t := 34) (cs := #[iv 0, iv 0]) (by simp)
  have bW0 : Below w.heap.size w W0 := by rw [hW0]; go_grown
  have sW0 : W0.heap.size = w.heap.size + 7 := by rw [hW0]; simp
  have SW0 := hid sW0
  have zW0 : w.heap.size + 7 ≤ W0.heap.size := by omega
  clear sW0 hW0
  have HB := hid bW0
  refine Plan.wp_region_stepsg 15 [] [(fun v _ => v = imgV dk d1 d2 d3 d4 (.slice dA dn dc)), (IsCopy dk d1 d2 d3 d4 dn ds), (fun v _ => v = rcV r), (fun v _ => v = imgV sk s1 s2 s3 s4 (.slice sA sn sc)), (IsCopy sk s1 s2 s3 s4 sn ss), (fun v _ => v = iv sx), (fun v _ => v = iv sy), (fun v _ => v = imgV mk m1 m2 m3 m4 (.slice mA mn mc)), (IsCopy mk m1 m2 m3 m4 mn ms), (fun v _ => v = iv mx), (fun v _ => v = iv my), (fun v _ => v = .tuple #[rcV C, ptV (sx + (C.a - r.a)) (sy + (C.b - r.b)), ptV (mx + (C.a - r.a)) (my + (C.b - r.b))]), (fun v _ => v = rcV C), (fun v _ => v = ptV (sx + (C.a - r.a)) (sy + (C.b - r.b))), (fun v _ => v = ptV (mx + (C.a - r.a)) (my + (C.b - r.b)))] [] ⟨Plan.st_const _, (isCopy_mono), Plan.st_const _, Plan.st_const _, (isCopy_mono), Plan.st_const _, Plan.st_const _, Plan.st_const _, (isCopy_mono), Plan.st_const _, Plan.st_const _, Plan.st_const _, Plan.st_const _, Plan.st_const _, Plan.st_const _, trivial⟩ (by kernel_rfl) (by kernel_rfl) (fun _ _ _ _ _ h => h) ?_ ?_
  · refine ⟨?_, ?_, ?_, ?_, ?_, ?_, ?_, ?_, ?_, ?_, ?_, ?_, ?_, ?_, ?_, trivial⟩
    · -- 0: Op.load 24 (Operand.tmp 8)
      intro a W hold hdep hb
      have e8 : a.tmps[8]?.getD undef = .pointer (some ⟨w.heap.size, 0, none⟩) := Plan.ev (hold 8 (by kernel_rfl))
      have C := ((B0.out).drew.keep hb).cells6
      clear hold hdep
      exact Plan.stepg_pure rfl rfl (imgV dk d1 d2 d3 d4 (.slice dA dn dc)) (by go_simp <;> exact IntWalk.i64_in _ (by omega)) rfl
    · -- 1: Op.call { callee := Callee.value (Operand.func 50), args := #[Operand.
      intro a W hold hdep hb
      have e19 : a.tmps[19]?.getD undef = imgV dk d1 d2 d3 d4 (.slice dA dn dc) := Plan.ev (Plan.dep_g (by rfl) (hdep 0 (by kernel_rfl)))
      clear hold hdep
      exact Plan.stepg_call rfl rfl (f := 50) (args := #[imgV dk d1 d2 d3 d4 (.slice dA dn dc)]) (by go_simp) ((image_any dk d1 d2 d3 d4 dA dn dc ds W (HDB.out.keep (HB.out.trans ((stay_below hb).mono (by omega)))) fd).mono fun _ _ ⟨A, c, he, hb, h⟩ => ⟨_, he, hb, A, c, _, rfl, h⟩)
    · -- 2: Op.load 25 (Operand.tmp 9)
      intro a W hold hdep hb
      have e9 : a.tmps[9]?.getD undef = .pointer (some ⟨w.heap.size + 1, 0, none⟩) := Plan.ev (hold 9 (by kernel_rfl))
      have C := ((B1.out).drew.keep hb).cells4.1
      clear hold hdep
      exact Plan.stepg_pure rfl rfl (rcV r) (by go_simp <;> exact IntWalk.i64_in _ (by omega)) rfl
    · -- 3: Op.load 24 (Operand.tmp 10)
      intro a W hold hdep hb
      have e10 : a.tmps[10]?.getD undef = .pointer (some ⟨w.heap.size + 1 + 1, 0, none⟩) := Plan.ev (hold 10 (by kernel_rfl))
      have C := ((B2.out).drew.keep hb).cells6
      clear hold hdep
      exact Plan.stepg_pure rfl rfl (imgV sk s1 s2 s3 s4 (.slice sA sn sc)) (by go_simp <;> exact IntWalk.i64_in _ (by omega)) rfl
    · -- 4: Op.call { callee := Callee.value (Operand.func 50), args := #[Operand.
      intro a W hold hdep hb
      have e22 : a.tmps[22]?.getD undef = imgV sk s1 s2 s3 s4 (.slice sA sn sc) := Plan.ev (Plan.dep_g (by rfl) (hdep 3 (by kernel_rfl)))
      clear hold hdep
      exact Plan.stepg_call rfl rfl (f := 50) (args := #[imgV sk s1 s2 s3 s4 (.slice sA sn sc)]) (by go_simp) ((image_any sk s1 s2 s3 s4 sA sn sc ss W (HSB.out.keep (HB.out.trans ((stay_below hb).mono (by omega)))) fs).mono fun _ _ ⟨A, c, he, hb, h⟩ => ⟨_, he, hb, A, c, _, rfl, h⟩)
    · -- 5: Op.move (Operand.tmp 3)
      intro a W hold hdep hb
      have e3 : a.tmps[3]?.getD undef = iv sx := Plan.ev (hold 3 (by kernel_rfl))
      clear hold hdep
      exact Plan.stepg_pure rfl rfl (iv sx) (by go_simp <;> exact IntWalk.i64_in _ (by omega)) rfl
    · -- 6: Op.move (Operand.tmp 4)
      intro a W hold hdep hb
      have e4 : a.tmps[4]?.getD undef = iv sy := Plan.ev (hold 4 (by kernel_rfl))
      clear hold hdep
      exact Plan.stepg_pure rfl rfl (iv sy) (by go_simp <;> exact IntWalk.i64_in _ (by omega)) rfl
    · -- 7: Op.load 24 (Operand.tmp 13)
      intro a W hold hdep hb
      have e13 : a.tmps[13]?.getD undef = .pointer (some ⟨w.heap.size + 1 + 1 + 1, 0, none⟩) := Plan.ev (hold 13 (by kernel_rfl))
      have C := ((B3.out).drew.keep hb).cells6
      clear hold hdep
      exact Plan.stepg_pure rfl rfl (imgV mk m1 m2 m3 m4 (.slice mA mn mc)) (by go_simp <;> exact IntWalk.i64_in _ (by omega)) rfl
    · -- 8: Op.call { callee := Callee.value (Operand.func 50), args := #[Operand.
      intro a W hold hdep hb
      have e26 : a.tmps[26]?.getD undef = imgV mk m1 m2 m3 m4 (.slice mA mn mc) := Plan.ev (Plan.dep_g (by rfl) (hdep 7 (by kernel_rfl)))
      clear hold hdep
      exact Plan.stepg_call rfl rfl (f := 50) (args := #[imgV mk m1 m2 m3 m4 (.slice mA mn mc)]) (by go_simp) ((image_any mk m1 m2 m3 m4 mA mn mc ms W (HMB.out.keep (HB.out.trans ((stay_below hb).mono (by omega)))) fm).mono fun _ _ ⟨A, c, he, hb, h⟩ => ⟨_, he, hb, A, c, _, rfl, h⟩)
    · -- 9: Op.move (Operand.tmp 6)
      intro a W hold hdep hb
      have e6 : a.tmps[6]?.getD undef = iv mx := Plan.ev (hold 6 (by kernel_rfl))
      clear hold hdep
      exact Plan.stepg_pure rfl rfl (iv mx) (by go_simp <;> exact IntWalk.i64_in _ (by omega)) rfl
    · -- 10: Op.move (Operand.tmp 7)
      intro a W hold hdep hb
      have e7 : a.tmps[7]?.getD undef = iv my := Plan.ev (hold 7 (by kernel_rfl))
      clear hold hdep
      exact Plan.stepg_pure rfl rfl (iv my) (by go_simp <;> exact IntWalk.i64_in _ (by omega)) rfl
    · -- 11: Op.call { callee := Callee.value (Operand.func 49), args := #[Operand.
      intro a W hold hdep hb
      have p20 : (IsCopy dk d1 d2 d3 d4 dn ds) (a.tmps.getD 20 undef) W := Plan.dep_g (by rfl) (hdep 1 (by kernel_rfl))
      have e21 : a.tmps[21]?.getD undef = rcV r := Plan.ev (Plan.dep_g (by rfl) (hdep 2 (by kernel_rfl)))
      have p23 : (IsCopy sk s1 s2 s3 s4 sn ss) (a.tmps.getD 23 undef) W := Plan.dep_g (by rfl) (hdep 4 (by kernel_rfl))
      have e24 : a.tmps[24]?.getD undef = iv sx := Plan.ev (Plan.dep_g (by rfl) (hdep 5 (by kernel_rfl)))
      have e25 : a.tmps[25]?.getD undef = iv sy := Plan.ev (Plan.dep_g (by rfl) (hdep 6 (by kernel_rfl)))
      have p27 : (IsCopy mk m1 m2 m3 m4 mn ms) (a.tmps.getD 27 undef) W := Plan.dep_g (by rfl) (hdep 8 (by kernel_rfl))
      have e28 : a.tmps[28]?.getD undef = iv mx := Plan.ev (Plan.dep_g (by rfl) (hdep 9 (by kernel_rfl)))
      have e29 : a.tmps[29]?.getD undef = iv my := Plan.ev (Plan.dep_g (by rfl) (hdep 10 (by kernel_rfl)))
      clear hold hdep
      obtain ⟨A1, c1, b1, h1, o1⟩ := p20
      obtain ⟨A2, c2, b2, h2, o2⟩ := p23
      obtain ⟨A3, c3, b3, h3, o3⟩ := p27
      have g1 := Plan.ev h1
      have g2 := Plan.ev h2
      have g3 := Plan.ev h3
      have O1 := hid o1
      have O2 := hid o2
      have O3 := hid o3
      clear h1 h2 h3 o1 o2 o3
      exact Plan.stepg_call rfl rfl (f := 49) (args := #[imgV dk d1 d2 d3 d4 (.slice A1 dn c1), rcV r, imgV sk s1 s2 s3 s4 (.slice A2 sn c2), iv sx, iv sy, imgV mk m1 m2 m3 m4 (.slice A3 mn c3), iv mx, iv my]) (by go_simp) ((zzclip_m dk d1 d2 d3 d4 _ sk s1 s2 s3 s4 _ mk m1 m2 m3 m4 _ ⟨d1, d2, d3, d4⟩ (boundsOf sk s1 s2 s3 s4) (boundsOf mk m1 m2 m3 m4) r sx sy mx my W (mkD_any HDV.out H6.out O1.out fd) (mkI_any HSV.out SR.out O2.out fs) (mkI_any HK.out MR.out O3.out fm) HR.out (bounds_in HSV.out) (bounds_in HK.out) hsx hsy hmx hmy C HC.out).mono fun _ _ ⟨he, hb⟩ => ⟨_, he, hb, rfl⟩)
    · -- 12: Op.extract (Operand.tmp 30) 0
      intro a W hold hdep hb
      have e30 : a.tmps[30]?.getD undef = .tuple #[rcV C, ptV (sx + (C.a - r.a)) (sy + (C.b - r.b)), ptV (mx + (C.a - r.a)) (my + (C.b - r.b))] := Plan.ev (Plan.dep_g (by rfl) (hdep 11 (by kernel_rfl)))
      clear hold hdep
      exact Plan.stepg_pure rfl rfl (rcV C) (by go_simp <;> exact IntWalk.i64_in _ (by omega)) rfl
    · -- 13: Op.extract (Operand.tmp 30) 1
      intro a W hold hdep hb
      have e30 : a.tmps[30]?.getD undef = .tuple #[rcV C, ptV (sx + (C.a - r.a)) (sy + (C.b - r.b)), ptV (mx + (C.a - r.a)) (my + (C.b - r.b))] := Plan.ev (Plan.dep_g (by rfl) (hdep 11 (by kernel_rfl)))
      clear hold hdep
      exact Plan.stepg_pure rfl rfl (ptV (sx + (C.a - r.a)) (sy + (C.b - r.b))) (by go_simp <;> exact IntWalk.i64_in _ (by omega)) rfl
    · -- 14: Op.extract (Operand.tmp 30) 2
      intro a W hold hdep hb
      have e30 : a.tmps[30]?.getD undef = .tuple #[rcV C, ptV (sx + (C.a - r.a)) (sy + (C.b - r.b)), ptV (mx + (C.a - r.a)) (my + (C.b - r.b))] := Plan.ev (Plan.dep_g (by rfl) (hdep 11 (by kernel_rfl)))
      clear hold hdep
      exact Plan.stepg_pure rfl rfl (ptV (mx + (C.a - r.a)) (my + (C.b - r.b))) (by go_simp <;> exact IntWalk.i64_in _ (by omega)) rfl
  intro vs W1 lo hi hD
  change wpList _ _ _ _ { tmps := (Array.setIfInBounds (Array.setIfInBounds (Array.setIfInBounds (Array.setIfInBounds (Array.setIfInBounds (Array.setIfInBounds (Array.setIfInBounds (Array.setIfInBounds (Array.setIfInBounds (Array.setIfInBounds (Array.setIfInBounds (Array.setIfInBounds (Array.setIfInBounds (Array.setIfInBounds (Array.setIfInBounds _ 19 (vs 0)) 20 (vs 1)) 21 (vs 2)) 22 (vs 3)) 23 (vs 4)) 24 (vs 5)) 25 (vs 6)) 26 (vs 7)) 27 (vs 8)) 28 (vs 9)) 29 (vs 10)) 30 (vs 11)) 31 (vs 12)) 32 (vs 13)) 33 (vs 14)), defers := _ } _
  simp only [Plan.putAll_zero, List.setIfInBounds_toArray, List.set_cons_zero, List.set_cons_succ, List.drop_succ_cons, List.drop_zero]
  have p0 : vs 0 = imgV dk d1 d2 d3 d4 (.slice dA dn dc) := (hD.facts 0 (by omega)).2.2.2
  have u1 : (IsCopy dk d1 d2 d3 d4 dn ds) (vs 1) W1 := (hD.facts 1 (by omega)).2.2.2
  have p2 : vs 2 = rcV r := (hD.facts 2 (by omega)).2.2.2
  have p3 : vs 3 = imgV sk s1 s2 s3 s4 (.slice sA sn sc) := (hD.facts 3 (by omega)).2.2.2
  have u4 : (IsCopy sk s1 s2 s3 s4 sn ss) (vs 4) W1 := (hD.facts 4 (by omega)).2.2.2
  have p5 : vs 5 = iv sx := (hD.facts 5 (by omega)).2.2.2
  have p6 : vs 6 = iv sy := (hD.facts 6 (by omega)).2.2.2
  have p7 : vs 7 = imgV mk m1 m2 m3 m4 (.slice mA mn mc) := (hD.facts 7 (by omega)).2.2.2
  have u8 : (IsCopy mk m1 m2 m3 m4 mn ms) (vs 8) W1 := (hD.facts 8 (by omega)).2.2.2
  have p9 : vs 9 = iv mx := (hD.facts 9 (by omega)).2.2.2
  have p10 : vs 10 = iv my := (hD.facts 10 (by omega)).2.2.2
  have p11 : vs 11 = .tuple #[rcV C, ptV (sx + (C.a - r.a)) (sy + (C.b - r.b)), ptV (mx + (C.a - r.a)) (my + (C.b - r.b))] := (hD.facts 11 (by omega)).2.2.2
  have p12 : vs 12 = rcV C := (hD.facts 12 (by omega)).2.2.2
  have p13 : vs 13 = ptV (sx + (C.a - r.a)) (sy + (C.b - r.b)) := (hD.facts 13 (by omega)).2.2.2
  have p14 : vs 14 = ptV (mx + (C.a - r.a)) (my + (C.b - r.b)) := (hD.facts 14 (by omega)).2.2.2
  simp only [p0, p2, p3, p5, p6, p7, p9, p10, p11, p12, p13, p14]
  clear p0 p2 p3 p5 p6 p7 p9 p10 p11 p12 p13 p14
  have hW1 := hD.bel
  generalize vs 1 = V1 at *
  generalize vs 4 = V4 at *
  generalize vs 8 = V8 at *
  clear hD  lo hi vs
  have c4 := ((B4.out).drew.keep hW1).cells4
  have c5 := ((B5.out).drew.keep hW1).cells2
  have c6 := ((B6.out).drew.keep hW1).cells2
  have z1 : W0.heap.size ≤ W1.heap.size := hW1.size
  have bw1 : Below w.heap.size w W1 := bW0.trans ((stay_below hW1).mono (by omega))
  clear hW1 bW0 B0 B1 B2 B3 B4 B5 B6 u1 u4 u8 HDB HSB HMB
  go_wp2
  refine bodyPost_ret (v := .tuple #[rcV C, ptV (sx + (C.a - r.a)) (sy + (C.b - r.b)), ptV (mx + (C.a - r.a)) (my + (C.b - r.b))]) (by simp [results, Try.results21, go_sem, c4, c5, c6]) rfl ⟨rfl, ?_⟩
  (repeat' (first | (with_reducible exact Below.refl _ _) | (with_reducible assumption) | (with_reducible refine drewN_below ?_ _) | (with_reducible refine Below.drew ?_) | (with_reducible refine Below.alloc ?_ ?_ _) | (with_reducible refine Below.setCell ?_ ?_ _) | (with_reducible refine below_via (by with_reducible assumption) ?_ ?_) | go_size))

end Go.Proofs.Ytlnfcjaempojgaa
