/- Contract of ZZClip. -/
import Derived.Test.YtlnfcjaempojgaaE1
set_option linter.unusedVariables false
namespace Go.Proofs.Ytlnfcjaempojgaa
open Go.RowKit

theorem isImg_mono {b : Rc} : Plan.Stable (fun v w => IsImg v ∧ HasB w v b) := fun _ _ _ h hb => ⟨h.1, h.2.keep hb⟩
theorem isDst_mono {b : Rc} : Plan.Stable (fun v w => IsDst v ∧ HasB w v b) := fun _ _ _ h hb => ⟨h.1, h.2.keep hb⟩
theorem stay_below {w W : World} (h : Below w.heap.size w.drew W) : Below w.heap.size w W := ⟨h.os, h.tape, h.output, h.size, h.block⟩

set_option maxRecDepth 20000 in
set_option maxHeartbeats 2000000 in
theorem zzclip_u (dk d1 d2 d3 d4 : Int) (ds : Value) (sk s1 s2 s3 s4 : Int) (ss : Value) (mk m1 m2 m3 m4 : Int) (ms : Value) (db sb : Rc) (r : Rc) (sx sy mx my : Int) (w : World)
    (hD : MkD (imgV dk d1 d2 d3 d4 ds) w db) (hS : MkI (imgV sk s1 s2 s3 s4 ss) w sb) (hM : MkN (imgV mk m1 m2 m3 m4 ms) w)
    (hr : r.in_ 1000) (hsb : sb.in_ 1000000000) (hsx : -1000 ≤ sx ∧ sx ≤ 1000) (hsy : -1000 ≤ sy ∧ sy ≤ 1000) (hmx : -1000 ≤ mx ∧ mx ≤ 1000) (hmy : -1000 ≤ my ∧ my ≤ 1000)
    (C : Rc) (hC : C = (r.common db).common (sb.moved (r.a - sx) (r.b - sy))) :
    Calls Try.prog 49 #[imgV dk d1 d2 d3 d4 ds, rcV r, imgV sk s1 s2 s3 s4 ss, iv sx, iv sy, imgV mk m1 m2 m3 m4 ms, iv mx, iv my] w fun e w' =>
      e = .returned (.tuple #[rcV C, ptV (sx + (C.a - r.a)) (sy + (C.b - r.b)), ptV (mx + (C.a - r.a)) (my + (C.b - r.b))]) ∧ Below w.heap.size w w' := by
  have HC := hid hC
  have HR := hid hr
  have HSB := hid hsb
  clear hC hsb hr
  go_enter Try.func49, Try.ntmps49
  go_wp2_with fail
  obtain ⟨W0, hW0⟩ : ∃ W : World, W = (((((((w.alloc (.cells #[iv dk, iv d1, iv d2, iv d3, iv d4, ds] 59)).alloc (.cells #[iv r.a, iv r.b, iv r.c, iv r.d] 25)).alloc (.cells #[iv sk, iv s1, iv s2, iv s3, iv s4, ss] 59)).alloc (.cells #[iv mk, iv m1, iv m2, iv m3, iv m4, ms] 59)).alloc (.cells #[iv 0, iv 0, iv 0, iv 0] 25)).alloc (.cells #[iv 0, iv 0] 34)).alloc (.cells #[iv 0, iv 0] 34)) := ⟨_, rfl⟩
  rw [← hW0]
  have B0 : Hid (Blk W0 (w.heap.size) 59 #[iv dk, iv d1, iv d2, iv d3, iv d4, ds]) := by rw [hW0]; exact Blk.alloc (Blk.alloc (Blk.alloc (Blk.alloc (Blk.alloc (Blk.alloc (Blk.new_at (W := w) (t := 59) (cs := #[iv dk, iv d1, iv d2, iv d3, iv d4, ds]) (by simp)) _) _) _) _) _) _
  have B1 : Hid (Blk W0 (w.heap.size + 1) 25 #[iv r.a, iv r.b, iv r.c, iv r.d]) := by rw [hW0]; exact Blk.alloc (Blk.alloc (Blk.alloc (Blk.alloc (Blk.alloc (Blk.new_at (W := (w.alloc (.cells #[iv dk, iv d1, iv d2, iv d3, iv d4, ds] 59))) (t := 25) (cs := #[iv r.a, iv r.b, iv r.c, iv r.d]) (by simp)) _) _) _) _) _
  have B2 : Hid (Blk W0 (w.heap.size + 1 + 1) 59 #[iv sk, iv s1, iv s2, iv s3, iv s4, ss]) := by rw [hW0]; exact Blk.alloc (Blk.alloc (Blk.alloc (Blk.alloc (Blk.new_at (W := ((w.alloc (.cells #[iv dk, iv d1, iv d2, iv d3, iv d4, ds] 59)).alloc (.cells #[iv r.a, iv r.b, iv r.c, iv r.d] 25))) (t := 59) (cs := #[iv sk, iv s1, iv s2, iv s3, iv s4, ss]) (by simp)) _) _) _) _
  have B3 : Hid (Blk W0 (w.heap.size + 1 + 1 + 1) 59 #[iv mk, iv m1, iv m2, iv m3, iv m4, ms]) := by rw [hW0]; exact Blk.alloc (Blk.alloc (Blk.alloc (Blk.new_at (W := (((w.alloc (.cells #[iv dk, iv d1, iv d2, iv d3, iv d4, ds] 59)).alloc (.cells #[iv r.a, iv r.b, iv r.c, iv r.d] 25)).alloc (.cells #[iv sk, iv s1, iv s2, iv s3, iv s4, ss] 59))) (t := 59) (cs := #[iv mk, iv m1, iv m2, iv m3, iv m4, ms]) (by simp)) _) _) _
  have B4 : Hid (Blk W0 (w.heap.size + 1 + 1 + 1 + 1) 25 #[iv 0, iv 0, iv 0, iv 0]) := by rw [hW0]; exact Blk.alloc (Blk.alloc (Blk.new_at (W := ((((w.alloc (.cells #[iv dk, iv d1, iv d2, iv d3, iv d4, ds] 59)).alloc (.cells #[iv r.a, iv r.b, iv r.c, iv r.d] 25)).alloc (.cells #[iv sk, iv s1, iv s2, iv s3, iv s4, ss] 59)).alloc (.cells #[iv mk, iv m1, iv m2, iv m3, iv m4, ms] 59))) (t := 25) (cs := #[iv 0, iv 0, iv 0, iv 0]) (by simp)) _) _
  have B5 : Hid (Blk W0 (w.heap.size + 1 + 1 + 1 + 1 + 1) 34 #[iv 0, iv 0]) := by rw [hW0]; exact Blk.alloc (Blk.new_at (W := (((((w.alloc (.cells #[iv dk, iv d1, iv d2, iv d3, iv d4, ds] 59)).alloc (.cells #[iv r.a, iv r.b, iv r.c, iv r.d] 25)).alloc (.cells #[iv sk, iv s1, iv s2, iv s3, iv s4, ss] 59)).alloc (.cells #[iv mk, iv m1, iv m2, iv m3, iv m4, ms] 59)).alloc (.cells #[iv 0, iv 0, iv 0, iv 0] 25))) (t := 34) (cs := #[iv 0, iv 0]) (by simp)) _
  have B6 : Hid (Blk W0 (w.heap.size + 1 + 1 + 1 + 1 + 1 + 1) 34 #[iv 0, iv 0]) := by rw [hW0]; exact Blk.new_at (W := ((((((w.alloc (.cells #[iv dk, iv d1, iv d2, iv d3, iv d4, ds] 59)).alloc (.cells #[iv r.a, iv r.b, iv r.c, iv r.d] 25)).alloc (.cells #[iv sk, iv s1, iv s2, iv s3, iv s4, ss] 59)).alloc (.cells #[iv mk, iv m1, iv m2, iv m3, iv m4, ms] 59)).alloc (.cells #[iv 0, iv 0, iv 0, iv 0] 25)).alloc (.cells #[iv 0, iv 0] 34))) (t := 34) (cs := #[iv 0, iv 0]) (by simp)
  have bW0 : Below w.heap.size w W0 := by rw [hW0]; go_grown
  have sW0 : W0.heap.size = w.heap.size + 7 := by rw [hW0]; simp
  have SW0 := hid sW0
  have zW0 : w.heap.size + 7 ≤ W0.heap.size := by omega
  clear sW0 hW0
  refine (grect_any _ _ _ _ _).mono ?_
  rintro e w1 ⟨rfl, hb1⟩
  have zb := hb1.size
  go_wp2_with fail
  obtain ⟨W1, hW1⟩ : ∃ W : World, W = (((w1.alloc (.cells #[iv r.a, iv r.b, iv r.c, iv r.d] 73)).alloc (.cells #[iv sx, iv sy] 71)).alloc (.cells #[iv mx, iv my] 71)) := ⟨_, rfl⟩
  rw [← hW1]
  have N0 : Hid (Blk W1 (w1.heap.size) 73 #[iv r.a, iv r.b, iv r.c, iv r.d]) := by rw [hW1]; exact Blk.alloc (Blk.alloc (Blk.new_at (W := w1) (t := 73) (cs := #[iv r.a, iv r.b, iv r.c, iv r.d]) (by simp)) _) _
  have N1 : Hid (Blk W1 (w1.heap.size + 1) 71 #[iv sx, iv sy]) := by rw [hW1]; exact Blk.alloc (Blk.new_at (W := (w1.alloc (.cells #[iv r.a, iv r.b, iv r.c, iv r.d] 73))) (t := 71) (cs := #[iv sx, iv sy]) (by simp)) _
  have N2 : Hid (Blk W1 (w1.heap.size + 1 + 1) 71 #[iv mx, iv my]) := by rw [hW1]; exact Blk.new_at (W := ((w1.alloc (.cells #[iv r.a, iv r.b, iv r.c, iv r.d] 73)).alloc (.cells #[iv sx, iv sy] 71))) (t := 71) (cs := #[iv mx, iv my]) (by simp)
  have bW1 : Below w1.heap.size w1 W1 := by rw [hW1]; go_grown
  have sW1 : W1.heap.size = w1.heap.size + 3 := by rw [hW1]; simp
  have SW1 := hid sW1
  have zW1 : w1.heap.size + 3 ≤ W1.heap.size := by omega
  clear sW1 hW1
  have bb : Below W0.heap.size W0 W1 := hb1.trans (bW1.mono zb)
  have E0 := hid (B0.out.keep bb)
  have E2 := hid (B2.out.keep bb)
  have E3 := hid (B3.out.keep bb)
  have E4 := hid (B4.out.keep bb)
  have E5 := hid (B5.out.keep bb)
  have E6 := hid (B6.out.keep bb)
  have bw : Below w.heap.size w W1 := bW0.trans (bb.mono (by omega))
  have HDm := hid (hD.keep bw)
  have HSm := hid (hS.keep bw)
  have HMm := hid (hM.keep bw)
  clear hD hS hM B0 B1 B2 B3 B4 B5 B6 hb1
  refine Plan.wp_region_stepsg 7 [] [(fun v _ => v = imgV dk d1 d2 d3 d4 ds), (fun v w => IsDst v ∧ HasB w v db), (fun v w => IsDst v ∧ HasB w v db), (fun v _ => v = imgV sk s1 s2 s3 s4 ss), (fun v w => IsImg v ∧ HasB w v sb), (fun v _ => v = imgV mk m1 m2 m3 m4 ms), (fun v _ => v = .nilIface)] [] ⟨Plan.st_const _, (isDst_mono), (isDst_mono), Plan.st_const _, (isImg_mono), Plan.st_const _, Plan.st_const _, trivial⟩ (by kernel_rfl) (by kernel_rfl) (fun _ _ _ _ _ h => h) ?_ ?_
  · refine ⟨?_, ?_, ?_, ?_, ?_, ?_, ?_, trivial⟩
    · -- 0: Op.load 59 (Operand.tmp 8)
      intro a W hold hdep hb
      have e8 : a.tmps[8]?.getD undef = .pointer (some ⟨w.heap.size, 0, none⟩) := Plan.ev (hold 8 (by kernel_rfl))
      have C := ((E0.out).drew.keep hb).cells6
      clear hold hdep
      exact Plan.stepg_pure rfl rfl (imgV dk d1 d2 d3 d4 ds) (by go_simp <;> exact IntWalk.i64_in _ (by omega)) rfl
    · -- 1: Op.call { callee := Callee.value (Operand.func 69), args := #[Operand.
      intro a W hold hdep hb
      have e30 : a.tmps[30]?.getD undef = imgV dk d1 d2 d3 d4 ds := Plan.ev (Plan.dep_g (by rfl) (hdep 0 (by kernel_rfl)))
      clear hold hdep
      exact Plan.stepg_call rfl rfl (f := 69) (args := #[imgV dk d1 d2 d3 d4 ds]) (by go_simp) ((HDm.out W (stay_below hb)).mono fun _ _ ⟨V, he, hb, h⟩ => ⟨V, he, hb, h⟩)
    · -- 2: Op.typeAssert (Operand.tmp 31) 79 77 false
      intro a W hold hdep hb
      have p31 : (fun v w => IsDst v ∧ HasB w v db) (a.tmps.getD 31 undef) W := Plan.dep_g (by rfl) (hdep 1 (by kernel_rfl))
      clear hold hdep
      exact Plan.stepg_pure rfl rfl (a.tmps.getD 31 undef) (exec_assert rfl (assert_dst p31.1 W)) p31
    · -- 3: Op.load 59 (Operand.tmp 10)
      intro a W hold hdep hb
      have e10 : a.tmps[10]?.getD undef = .pointer (some ⟨w.heap.size + 1 + 1, 0, none⟩) := Plan.ev (hold 10 (by kernel_rfl))
      have C := ((E2.out).drew.keep hb).cells6
      clear hold hdep
      exact Plan.stepg_pure rfl rfl (imgV sk s1 s2 s3 s4 ss) (by go_simp <;> exact IntWalk.i64_in _ (by omega)) rfl
    · -- 4: Op.call { callee := Callee.value (Operand.func 69), args := #[Operand.
      intro a W hold hdep hb
      have e33 : a.tmps[33]?.getD undef = imgV sk s1 s2 s3 s4 ss := Plan.ev (Plan.dep_g (by rfl) (hdep 3 (by kernel_rfl)))
      clear hold hdep
      exact Plan.stepg_call rfl rfl (f := 69) (args := #[imgV sk s1 s2 s3 s4 ss]) (by go_simp) ((HSm.out W (stay_below hb)).mono fun _ _ ⟨V, he, hb, h⟩ => ⟨V, he, hb, h⟩)
    · -- 5: Op.load 59 (Operand.tmp 13)
      intro a W hold hdep hb
      have e13 : a.tmps[13]?.getD undef = .pointer (some ⟨w.heap.size + 1 + 1 + 1, 0, none⟩) := Plan.ev (hold 13 (by kernel_rfl))
      have C := ((E3.out).drew.keep hb).cells6
      clear hold hdep
      exact Plan.stepg_pure rfl rfl (imgV mk m1 m2 m3 m4 ms) (by go_simp <;> exact IntWalk.i64_in _ (by omega)) rfl
    · -- 6: Op.call { callee := Callee.value (Operand.func 69), args := #[Operand.
      intro a W hold hdep hb
      have e35 : a.tmps[35]?.getD undef = imgV mk m1 m2 m3 m4 ms := Plan.ev (Plan.dep_g (by rfl) (hdep 5 (by kernel_rfl)))
      clear hold hdep
      exact Plan.stepg_call rfl rfl (f := 69) (args := #[imgV mk m1 m2 m3 m4 ms]) (by go_simp) ((HMm.out W (stay_below hb)).mono fun _ _ ⟨V, he, hb, h⟩ => ⟨V, he, hb, h⟩)
  intro vs W2 lo hi hD
  change wpList _ _ _ _ { tmps := (Array.setIfInBounds (Array.setIfInBounds (Array.setIfInBounds (Array.setIfInBounds (Array.setIfInBounds (Array.setIfInBounds (Array.setIfInBounds _ 30 (vs 0)) 31 (vs 1)) 32 (vs 2)) 33 (vs 3)) 34 (vs 4)) 35 (vs 5)) 36 (vs 6)), defers := _ } _
  simp only [Plan.putAll_zero, List.setIfInBounds_toArray, List.set_cons_zero, List.set_cons_succ, List.drop_succ_cons, List.drop_zero]
  have p0 : vs 0 = imgV dk d1 d2 d3 d4 ds := (hD.facts 0 (by omega)).2.2.2
  have u1 : (fun v w => IsDst v ∧ HasB w v db) (vs 1) W2 := (hD.facts 1 (by omega)).2.2.2
  have u2 : (fun v w => IsDst v ∧ HasB w v db) (vs 2) W2 := (hD.facts 2 (by omega)).2.2.2
  have p3 : vs 3 = imgV sk s1 s2 s3 s4 ss := (hD.facts 3 (by omega)).2.2.2
  have u4 : (fun v w => IsImg v ∧ HasB w v sb) (vs 4) W2 := (hD.facts 4 (by omega)).2.2.2
  have p5 : vs 5 = imgV mk m1 m2 m3 m4 ms := (hD.facts 5 (by omega)).2.2.2
  have p6 : vs 6 = .nilIface := (hD.facts 6 (by omega)).2.2.2
  simp only [p0, p3, p5, p6]
  clear p0 p3 p5 p6
  have hW2 := hD.bel
  generalize vs 1 = V1 at *
  generalize vs 2 = V2 at *
  generalize vs 4 = V4 at *
  clear hD  lo hi vs
  have n0 := hid ((N0.out).drew.keep hW2)
  have n1 := hid ((N1.out).drew.keep hW2)
  have n2 := hid ((N2.out).drew.keep hW2)
  have x4 := hid ((E4.out).drew.keep hW2)
  have x5 := hid ((E5.out).drew.keep hW2)
  have x6 := hid ((E6.out).drew.keep hW2)
  have bw2 : Below w.heap.size w W2 := bw.trans ((stay_below hW2).mono (by omega))
  have z2 : W1.heap.size ≤ W2.heap.size := hW2.size
  go_wp2_with fail
  refine (clip_u V2 V4 db sb _ _ _ r sx sy mx my W2 u2.2 u4.2 n0.out n1.out n2.out (by omega) (by omega) (by omega) HR.out HSB.out hsx hsy hmx hmy C HC.out).mono ?_
  rintro e W3 ⟨⟨v, rfl⟩, hO, f1, f2, f3⟩
  have y4 := hid (hO.blk x4.out (by simp; omega))
  have y5 := hid (hO.blk x5.out (by simp; omega))
  have y6 := hid (hO.blk x6.out (by simp; omega))
  have bw3 : Below w.heap.size w W3 := bw2.trans (hO.below (by omega) (fun g hg => by simp only [List.mem_cons, List.not_mem_nil, or_false] at hg; omega))
  have c1 := f1.cells4.1
  have c2 := f2.cells2.1
  have c3 := f3.cells2.1
  have c4 := y4.out.cells4
  have c5 := y5.out.cells2
  have c6 := y6.out.cells2
  clear f1 f2 f3 hO n0 n1 n2 x4 x5 x6 y4 y5 y6 bw2 hW2 u2 u4 N0 N1 N2 E0 E2 E3 E4 E5 E6 HDm HSm HMm SW0 SW1 HC HR HSB bb bw bW0 bW1
  generalize w1.heap.size = q at *
  go_wp2_with fail
  go_region_held3 (fun w' => (w'.cell? ⟨q, 0, none⟩ = some (iv C.a) ∧ w'.cell? ⟨q, 1, none⟩ = some (iv C.b) ∧ w'.cell? ⟨q, 2, none⟩ = some (iv C.c) ∧ w'.cell? ⟨q, 3, none⟩ = some (iv C.d)) ∧ (w'.cell? ⟨q + 1, 0, none⟩ = some (iv (sx + (C.a - r.a))) ∧ w'.cell? ⟨q + 1, 1, none⟩ = some (iv (sy + (C.b - r.b)))) ∧ (w'.cell? ⟨q + 1 + 1, 0, none⟩ = some (iv (mx + (C.a - r.a))) ∧ w'.cell? ⟨q + 1 + 1, 1, none⟩ = some (iv (my + (C.b - r.b))))) (first | (go_keep; done) | (simp (disch := omega) only [cell_drew, cell_far, *]; done) | (simp (disch := omega) only [cell_drew, cell_far, *]; trivial)) (first | fail)
  go_wp2
  refine bodyPost_ret (v := .tuple #[rcV C, ptV (sx + (C.a - r.a)) (sy + (C.b - r.b)), ptV (mx + (C.a - r.a)) (my + (C.b - r.b))]) (by simp [results, Try.results49, go_sem, c4, c5, c6]) rfl ⟨rfl, ?_⟩
  (repeat' (first | (with_reducible exact Below.refl _ _) | (with_reducible assumption) | (with_reducible refine drewN_below ?_ _) | (with_reducible refine Below.drew ?_) | (with_reducible refine Below.alloc ?_ ?_ _) | (with_reducible refine Below.setCell ?_ ?_ _) | (with_reducible refine below_via (by with_reducible assumption) ?_ ?_) | go_size))

end Go.Proofs.Ytlnfcjaempojgaa
