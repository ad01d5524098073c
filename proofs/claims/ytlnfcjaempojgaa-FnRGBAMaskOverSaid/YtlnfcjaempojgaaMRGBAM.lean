/- Contracts of ZZDrawRGBAMaskOver and impl.RGBAMaskOver (the functions 62, 39). Written by mk_XM.py. -/
import Derived.Test.YtlnfcjaempojgaaL1
set_option linter.unusedVariables false
namespace Go.Proofs.Ytlnfcjaempojgaa
open Go.RowKit

set_option maxRecDepth 20000 in
set_option maxHeartbeats 2000000 in
theorem zz62_any (d1 d2 d3 d4 : Int) (dsl : Value) (n Wd H : Nat) (f : Nat → Int) (r : Rc) (sk s1 s2 s3 s4 : Int) (ss : Value) (sx sy : Int) (mk k1 k2 k3 k4 : Int) (ms : Value) (mx my : Int) (SP MP : Value → Nat → Nat → World → Prop) (C : Rc) (Res : (Nat → Int) → Prop) (w : World)
    (hD : Makes (imgV 0 d1 d2 d3 d4 dsl) w (NewDst n d1 d2 d3 d4 Wd H f)) (hS : Makes (imgV sk s1 s2 s3 s4 ss) w SP) (hM : Makes (imgV mk k1 k2 k3 k4 ms) w MP) (sS : Plan.StableL SP) (sM : Plan.StableL MP) (hcl : Clips d1 d2 d3 d4 r sx sy mx my SP MP C) (hE : C.emp = false) (hf : Draws 87 n d1 d2 d3 d4 Wd H f SP MP C (sx + (C.a - r.a)) (sy + (C.b - r.b)) (mx + (C.a - r.a)) (my + (C.b - r.b)) Res) :
    Calls Try.prog 62 #[imgV 0 d1 d2 d3 d4 dsl, fourV r.a r.b r.c r.d, imgV sk s1 s2 s3 s4 ss, iv sx, iv sy, imgV mk k1 k2 k3 k4 ms, iv mx, iv my] w (Drew n Res w) := by
  have HD := hid hD; have HS := hid hS; have HM := hid hM; have SS := hid sS; have SM := hid sM; have HCL := hid hcl; have HE := hid hE; have HF := hid hf
  clear hD hS hM sS sM hcl hE hf
  go_enter Try.func62, Try.ntmps62
  go_wp2_with fail
  obtain ⟨W0, hW0⟩ : ∃ W : World, W = ((((w.alloc (.cells #[iv 0, iv d1, iv d2, iv d3, iv d4, dsl] 59)).alloc (.cells #[iv r.a, iv r.b, iv r.c, iv r.d] 25)).alloc (.cells #[iv sk, iv s1, iv s2, iv s3, iv s4, ss] 59)).alloc (.cells #[iv mk, iv k1, iv k2, iv k3, iv k4, ms] 59)) := ⟨_, rfl⟩
  rw [← hW0]
  have B0 : Hid (Blk W0 (w.heap.size) 59 #[iv 0, iv d1, iv d2, iv d3, iv d4, dsl]) := by rw [hW0]; exact Blk.alloc (Blk.alloc (Blk.alloc (Blk.new_at (W := w) (t := 59) (cs := #[iv 0, iv d1, iv d2, iv d3, iv d4, dsl]) (by simp)) _) _) _
  have B1 : Hid (Blk W0 (w.heap.size + 1) 25 #[iv r.a, iv r.b, iv r.c, iv r.d]) := by rw [hW0]; exact Blk.alloc (Blk.alloc (Blk.new_at (W := (w.alloc (.cells #[iv 0, iv d1, iv d2, iv d3, iv d4, dsl] 59))) (t := 25) (cs := #[iv r.a, iv r.b, iv r.c, iv r.d]) (by simp)) _) _
  have B2 : Hid (Blk W0 (w.heap.size + 1 + 1) 59 #[iv sk, iv s1, iv s2, iv s3, iv s4, ss]) := by rw [hW0]; exact Blk.alloc (Blk.new_at (W := ((w.alloc (.cells #[iv 0, iv d1, iv d2, iv d3, iv d4, dsl] 59)).alloc (.cells #[iv r.a, iv r.b, iv r.c, iv r.d] 25))) (t := 59) (cs := #[iv sk, iv s1, iv s2, iv s3, iv s4, ss]) (by simp)) _
  have B3 : Hid (Blk W0 (w.heap.size + 1 + 1 + 1) 59 #[iv mk, iv k1, iv k2, iv k3, iv k4, ms]) := by rw [hW0]; exact Blk.new_at (W := (((w.alloc (.cells #[iv 0, iv d1, iv d2, iv d3, iv d4, dsl] 59)).alloc (.cells #[iv r.a, iv r.b, iv r.c, iv r.d] 25)).alloc (.cells #[iv sk, iv s1, iv s2, iv s3, iv s4, ss] 59))) (t := 59) (cs := #[iv mk, iv k1, iv k2, iv k3, iv k4, ms]) (by simp)
  have bW0 : Below w.heap.size w W0 := by rw [hW0]; go_grown
  have sW0 : W0.heap.size = w.heap.size + 4 := by rw [hW0]; simp
  have SW0 := hid sW0
  have zW0 : w.heap.size + 4 ≤ W0.heap.size := by omega
  clear sW0 hW0
  refine (inner_any d1 d2 d3 d4 dsl n Wd H f r sk s1 s2 s3 s4 ss sx sy mk k1 k2 k3 k4 ms mx my 87 SP MP C Res W0 (HD.out.keep bW0) (HS.out.keep bW0) (HM.out.keep bW0) SS.out SM.out HCL.out HE.out (by intros; kernel_rfl) HF.out).mono ?_
  rintro e w1 ⟨v, rfl, hb1, hv⟩
  have HV := hid hv
  have bw1 := bW0.trans (hb1.mono (by omega))
  clear hv hb1 B0 B1 B2 B3
  go_wp2_with fail
  go_returns
  exact ⟨v, rfl, bw1, HV.out⟩

set_option maxRecDepth 20000 in
set_option maxHeartbeats 2000000 in
theorem impl39_any (d1 d2 d3 d4 : Int) (dA : Option Addr) (n dc : Nat) (ds : List Int) (Wd H : Nat) (f : Nat → Int) (r : Rc) (sk s1 s2 s3 s4 : Int) (sA : Option Addr) (sn sc : Nat) (ss : List Int) (sx sy : Int) (mk k1 k2 k3 k4 : Int) (mA : Option Addr) (mn mc : Nat) (ms : List Int) (mx my : Int) (SP MP : Value → Nat → Nat → World → Prop) (C : Rc) (Res : (Nat → Int) → Prop) (w : World)
    (hdb : ByteSl w dA n dc ds) (hsb : ByteSl w sA sn sc ss) (hmb : ByteSl w mA mn mc ms) (fd : n ≤ 2147483647) (fs : sn ≤ 2147483647) (fm : mn ≤ 2147483647)
    (hD : ∀ A c base W, W.ownsRow base 5 1 (.slice A n c) n (u8s ds) → Makes (imgV 0 d1 d2 d3 d4 (.slice A n c)) W (NewDst n d1 d2 d3 d4 Wd H f)) (hS : ∀ A c base W, W.ownsRow base 5 1 (.slice A sn c) sn (u8s ss) → Makes (imgV sk s1 s2 s3 s4 (.slice A sn c)) W SP) (hM : ∀ A c base W, W.ownsRow base 5 1 (.slice A mn c) mn (u8s ms) → Makes (imgV mk k1 k2 k3 k4 (.slice A mn c)) W MP)
    (sS : Plan.StableL SP) (sM : Plan.StableL MP) (hcl : Clips d1 d2 d3 d4 r sx sy mx my SP MP C) (hE : C.emp = false) (hf : Draws 87 n d1 d2 d3 d4 Wd H f SP MP C (sx + (C.a - r.a)) (sy + (C.b - r.b)) (mx + (C.a - r.a)) (my + (C.b - r.b)) Res) :
    Calls Try.prog 39 #[imgV 0 d1 d2 d3 d4 (.slice dA n dc), fourV r.a r.b r.c r.d, imgV sk s1 s2 s3 s4 (.slice sA sn sc), iv sx, iv sy, imgV mk k1 k2 k3 k4 (.slice mA mn mc), iv mx, iv my] w (Drew n Res w) := by
  have HDB := hid hdb; have HSB := hid hsb; have HMB := hid hmb; have HD := hid hD; have HS := hid hS; have HM := hid hM; have SS := hid sS; have SM := hid sM; have HCL := hid hcl; have HE := hid hE; have HF := hid hf
  clear hdb hsb hmb hD hS hM sS sM hcl hE hf
  go_enter Try.func39, Try.ntmps39
  go_wp2_with fail
  obtain ⟨W0, hW0⟩ : ∃ W : World, W = ((((w.alloc (.cells #[iv 0, iv d1, iv d2, iv d3, iv d4, .slice dA n dc] 24)).alloc (.cells #[iv r.a, iv r.b, iv r.c, iv r.d] 25)).alloc (.cells #[iv sk, iv s1, iv s2, iv s3, iv s4, .slice sA sn sc] 24)).alloc (.cells #[iv mk, iv k1, iv k2, iv k3, iv k4, .slice mA mn mc] 24)) := ⟨_, rfl⟩
  rw [← hW0]
  have B0 : Hid (Blk W0 (w.heap.size) 24 #[iv 0, iv d1, iv d2, iv d3, iv d4, .slice dA n dc]) := by rw [hW0]; exact Blk.alloc (Blk.alloc (Blk.alloc (Blk.new_at (W := w) (t := 24) (cs := #[iv 0, iv d1, iv d2, iv d3, iv d4, .slice dA n dc]) (by simp)) _) _) _
  have B1 : Hid (Blk W0 (w.heap.size + 1) 25 #[iv r.a, iv r.b, iv r.c, iv r.d]) := by rw [hW0]; exact Blk.alloc (Blk.alloc (Blk.new_at (W := (w.alloc (.cells #[iv 0, iv d1, iv d2, iv d3, iv d4, .slice dA n dc] 24))) (t := 25) (cs := #[iv r.a, iv r.b, iv r.c, iv r.d]) (by simp)) _) _
  have B2 : Hid (Blk W0 (w.heap.size + 1 + 1) 24 #[iv sk, iv s1, iv s2, iv s3, iv s4, .slice sA sn sc]) := by rw [hW0]; exact Blk.alloc (Blk.new_at (W := ((w.alloc (.cells #[iv 0, iv d1, iv d2, iv d3, iv d4, .slice dA n dc] 24)).alloc (.cells #[iv r.a, iv r.b, iv r.c, iv r.d] 25))) (t := 24) (cs := #[iv sk, iv s1, iv s2, iv s3, iv s4, .slice sA sn sc]) (by simp)) _
  have B3 : Hid (Blk W0 (w.heap.size + 1 + 1 + 1) 24 #[iv mk, iv k1, iv k2, iv k3, iv k4, .slice mA mn mc]) := by rw [hW0]; exact Blk.new_at (W := (((w.alloc (.cells #[iv 0, iv d1, iv d2, iv d3, iv d4, .slice dA n dc] 24)).alloc (.cells #[iv r.a, iv r.b, iv r.c, iv r.d] 25)).alloc (.cells #[iv sk, iv s1, iv s2, iv s3, iv s4, .slice sA sn sc] 24))) (t := 24) (cs := #[iv mk, iv k1, iv k2, iv k3, iv k4, .slice mA mn mc]) (by simp)
  have bW0 : Below w.heap.size w W0 := by rw [hW0]; go_grown
  have sW0 : W0.heap.size = w.heap.size + 4 := by rw [hW0]; simp
  have SW0 := hid sW0
  have zW0 : w.heap.size + 4 ≤ W0.heap.size := by omega
  clear sW0 hW0
  have HB := hid bW0
  refine Plan.wp_region_stepsg 12 [] [(fun v _ => v = imgV 0 d1 d2 d3 d4 (.slice dA n dc)), (IsCopy 0 d1 d2 d3 d4 n ds), (fun v _ => v = fourV r.a r.b r.c r.d), (fun v _ => v = imgV sk s1 s2 s3 s4 (.slice sA sn sc)), (IsCopy sk s1 s2 s3 s4 sn ss), (fun v _ => v = iv sx), (fun v _ => v = iv sy), (fun v _ => v = imgV mk k1 k2 k3 k4 (.slice mA mn mc)), (IsCopy mk k1 k2 k3 k4 mn ms), (fun v _ => v = iv mx), (fun v _ => v = iv my), (DrewV n Res)] [] ⟨Plan.st_const _, (isCopy_mono), Plan.st_const _, Plan.st_const _, (isCopy_mono), Plan.st_const _, Plan.st_const _, Plan.st_const _, (isCopy_mono), Plan.st_const _, Plan.st_const _, (drewV_st), trivial⟩ (by kernel_rfl) (by kernel_rfl) (fun _ _ _ _ _ h => h) ?_ ?_
  · refine ⟨?_, ?_, ?_, ?_, ?_, ?_, ?_, ?_, ?_, ?_, ?_, ?_, trivial⟩
    · -- 0: Op.load 24 (Operand.tmp 8)
      intro a W hold hdep hb
      have e8 : a.tmps[8]?.getD undef = .pointer (some ⟨w.heap.size, 0, none⟩) := Plan.ev (hold 8 (by kernel_rfl))
      have CC := ((B0.out).drew.keep hb).cells6
      clear hold hdep
      exact Plan.stepg_pure rfl rfl (imgV 0 d1 d2 d3 d4 (.slice dA n dc)) (by go_simp <;> exact IntWalk.i64_in _ (by omega)) rfl
    · -- 1: Op.call { callee := Callee.value (Operand.func 50), args := #[Operand.
      intro a W hold hdep hb
      have e17 : a.tmps[17]?.getD undef = imgV 0 d1 d2 d3 d4 (.slice dA n dc) := Plan.ev (Plan.dep_g (by rfl) (hdep 0 (by kernel_rfl)))
      clear hold hdep
      exact Plan.stepg_call rfl rfl (f := 50) (args := #[imgV 0 d1 d2 d3 d4 (.slice dA n dc)]) (by go_simp) ((image_any 0 d1 d2 d3 d4 dA n dc ds W (HDB.out.keep (HB.out.trans ((stay_below hb).mono (by omega)))) fd).mono fun _ _ ⟨A, c, he, hb, h⟩ => ⟨_, he, hb, A, c, _, rfl, h⟩)
    · -- 2: Op.load 25 (Operand.tmp 9)
      intro a W hold hdep hb
      have e9 : a.tmps[9]?.getD undef = .pointer (some ⟨w.heap.size + 1, 0, none⟩) := Plan.ev (hold 9 (by kernel_rfl))
      have CC := ((B1.out).drew.keep hb).cells4.1
      clear hold hdep
      exact Plan.stepg_pure rfl rfl (fourV r.a r.b r.c r.d) (by go_simp <;> exact IntWalk.i64_in _ (by omega)) rfl
    · -- 3: Op.load 24 (Operand.tmp 10)
      intro a W hold hdep hb
      have e10 : a.tmps[10]?.getD undef = .pointer (some ⟨w.heap.size + 1 + 1, 0, none⟩) := Plan.ev (hold 10 (by kernel_rfl))
      have CC := ((B2.out).drew.keep hb).cells6
      clear hold hdep
      exact Plan.stepg_pure rfl rfl (imgV sk s1 s2 s3 s4 (.slice sA sn sc)) (by go_simp <;> exact IntWalk.i64_in _ (by omega)) rfl
    · -- 4: Op.call { callee := Callee.value (Operand.func 50), args := #[Operand.
      intro a W hold hdep hb
      have e20 : a.tmps[20]?.getD undef = imgV sk s1 s2 s3 s4 (.slice sA sn sc) := Plan.ev (Plan.dep_g (by rfl) (hdep 3 (by kernel_rfl)))
      clear hold hdep
      exact Plan.stepg_call rfl rfl (f := 50) (args := #[imgV sk s1 s2 s3 s4 (.slice sA sn sc)]) (by go_simp) ((image_any sk s1 s2 s3 s4 sA sn sc ss W (HSB.out.keep (HB.out.trans ((stay_below hb).mono (by omega)))) fs).mono fun _ _ ⟨A, c, he, hb, h⟩ => ⟨_, he, hb, A, c, _, rfl, h⟩)
    · -- 5: Op.move (Operand.tmp 3)
      intro a W hold hdep hb
      have e3 : a.tmps[3]?.getD undef = iv sx := Plan.ev (hold 3 (by kernel_rfl))
      clear hold hdep
      exact Plan.stepg_pure rfl rfl (iv sx) (by go_simp <;> exact IntWalk.i64_in _ (by omega)) rfl
    · -- 6: Op.move (Operand.tmp 4)
      intro a W hold hdep hb
      have e4 : a.tmps[4]?.getD undef = iv sy := Plan.ev (hold 4 (by kernel_rfl))
      clear hold hdep
      exact Plan.stepg_pure rfl rfl (iv sy) (by go_simp <;> exact IntWalk.i64_in _ (by omega)) rfl
    · -- 7: Op.load 24 (Operand.tmp 13)
      intro a W hold hdep hb
      have e13 : a.tmps[13]?.getD undef = .pointer (some ⟨w.heap.size + 1 + 1 + 1, 0, none⟩) := Plan.ev (hold 13 (by kernel_rfl))
      have CC := ((B3.out).drew.keep hb).cells6
      clear hold hdep
      exact Plan.stepg_pure rfl rfl (imgV mk k1 k2 k3 k4 (.slice mA mn mc)) (by go_simp <;> exact IntWalk.i64_in _ (by omega)) rfl
    · -- 8: Op.call { callee := Callee.value (Operand.func 50), args := #[Operand.
      intro a W hold hdep hb
      have e24 : a.tmps[24]?.getD undef = imgV mk k1 k2 k3 k4 (.slice mA mn mc) := Plan.ev (Plan.dep_g (by rfl) (hdep 7 (by kernel_rfl)))
      clear hold hdep
      exact Plan.stepg_call rfl rfl (f := 50) (args := #[imgV mk k1 k2 k3 k4 (.slice mA mn mc)]) (by go_simp) ((image_any mk k1 k2 k3 k4 mA mn mc ms W (HMB.out.keep (HB.out.trans ((stay_below hb).mono (by omega)))) fm).mono fun _ _ ⟨A, c, he, hb, h⟩ => ⟨_, he, hb, A, c, _, rfl, h⟩)
    · -- 9: Op.move (Operand.tmp 6)
      intro a W hold hdep hb
      have e6 : a.tmps[6]?.getD undef = iv mx := Plan.ev (hold 6 (by kernel_rfl))
      clear hold hdep
      exact Plan.stepg_pure rfl rfl (iv mx) (by go_simp <;> exact IntWalk.i64_in _ (by omega)) rfl
    · -- 10: Op.move (Operand.tmp 7)
      intro a W hold hdep hb
      have e7 : a.tmps[7]?.getD undef = iv my := Plan.ev (hold 7 (by kernel_rfl))
      clear hold hdep
      exact Plan.stepg_pure rfl rfl (iv my) (by go_simp <;> exact IntWalk.i64_in _ (by omega)) rfl
    · -- 11: Op.call { callee := Callee.value (Operand.func 62), args := #[Operand.
      intro a W hold hdep hb
      have p18 : (IsCopy 0 d1 d2 d3 d4 n ds) (a.tmps.getD 18 undef) W := Plan.dep_g (by rfl) (hdep 1 (by kernel_rfl))
      have e19 : a.tmps[19]?.getD undef = fourV r.a r.b r.c r.d := Plan.ev (Plan.dep_g (by rfl) (hdep 2 (by kernel_rfl)))
      have p21 : (IsCopy sk s1 s2 s3 s4 sn ss) (a.tmps.getD 21 undef) W := Plan.dep_g (by rfl) (hdep 4 (by kernel_rfl))
      have e22 : a.tmps[22]?.getD undef = iv sx := Plan.ev (Plan.dep_g (by rfl) (hdep 5 (by kernel_rfl)))
      have e23 : a.tmps[23]?.getD undef = iv sy := Plan.ev (Plan.dep_g (by rfl) (hdep 6 (by kernel_rfl)))
      have p25 : (IsCopy mk k1 k2 k3 k4 mn ms) (a.tmps.getD 25 undef) W := Plan.dep_g (by rfl) (hdep 8 (by kernel_rfl))
      have e26 : a.tmps[26]?.getD undef = iv mx := Plan.ev (Plan.dep_g (by rfl) (hdep 9 (by kernel_rfl)))
      have e27 : a.tmps[27]?.getD undef = iv my := Plan.ev (Plan.dep_g (by rfl) (hdep 10 (by kernel_rfl)))
      clear hold hdep
      obtain ⟨A1, c1, b1, h1, o1⟩ := p18
      obtain ⟨A2, c2, b2, h2, o2⟩ := p21
      obtain ⟨A3, c3, b3, h3, o3⟩ := p25
      have g1 := Plan.ev h1
      have g2 := Plan.ev h2
      have g3 := Plan.ev h3
      have O1 := hid o1
      have O2 := hid o2
      have O3 := hid o3
      clear h1 h2 h3 o1 o2 o3
      exact Plan.stepg_call rfl rfl (f := 62) (args := #[imgV 0 d1 d2 d3 d4 (.slice A1 n c1), fourV r.a r.b r.c r.d, imgV sk s1 s2 s3 s4 (.slice A2 sn c2), iv sx, iv sy, imgV mk k1 k2 k3 k4 (.slice A3 mn c3), iv mx, iv my]) (by go_simp) ((zz62_any d1 d2 d3 d4 _ n Wd H f r sk s1 s2 s3 s4 _ sx sy mk k1 k2 k3 k4 _ mx my SP MP C Res W (HD.out _ _ _ _ O1.out) (HS.out _ _ _ _ O2.out) (HM.out _ _ _ _ O3.out) SS.out SM.out HCL.out HE.out HF.out).mono fun _ _ ⟨v, he, hb, h⟩ => ⟨v, he, hb, h⟩)
  intro vs W1 lo hi hD
  change wpList _ _ _ _ { tmps := (Array.setIfInBounds (Array.setIfInBounds (Array.setIfInBounds (Array.setIfInBounds (Array.setIfInBounds (Array.setIfInBounds (Array.setIfInBounds (Array.setIfInBounds (Array.setIfInBounds (Array.setIfInBounds (Array.setIfInBounds (Array.setIfInBounds _ 17 (vs 0)) 18 (vs 1)) 19 (vs 2)) 20 (vs 3)) 21 (vs 4)) 22 (vs 5)) 23 (vs 6)) 24 (vs 7)) 25 (vs 8)) 26 (vs 9)) 27 (vs 10)) 28 (vs 11)), defers := _ } _
  simp only [Plan.putAll_zero, List.setIfInBounds_toArray, List.set_cons_zero, List.set_cons_succ, List.drop_succ_cons, List.drop_zero]
  have p0 : vs 0 = imgV 0 d1 d2 d3 d4 (.slice dA n dc) := (hD.facts 0 (by omega)).2.2.2
  have u1 : (IsCopy 0 d1 d2 d3 d4 n ds) (vs 1) W1 := (hD.facts 1 (by omega)).2.2.2
  have p2 : vs 2 = fourV r.a r.b r.c r.d := (hD.facts 2 (by omega)).2.2.2
  have p3 : vs 3 = imgV sk s1 s2 s3 s4 (.slice sA sn sc) := (hD.facts 3 (by omega)).2.2.2
  have u4 : (IsCopy sk s1 s2 s3 s4 sn ss) (vs 4) W1 := (hD.facts 4 (by omega)).2.2.2
  have p5 : vs 5 = iv sx := (hD.facts 5 (by omega)).2.2.2
  have p6 : vs 6 = iv sy := (hD.facts 6 (by omega)).2.2.2
  have p7 : vs 7 = imgV mk k1 k2 k3 k4 (.slice mA mn mc) := (hD.facts 7 (by omega)).2.2.2
  have u8 : (IsCopy mk k1 k2 k3 k4 mn ms) (vs 8) W1 := (hD.facts 8 (by omega)).2.2.2
  have p9 : vs 9 = iv mx := (hD.facts 9 (by omega)).2.2.2
  have p10 : vs 10 = iv my := (hD.facts 10 (by omega)).2.2.2
  have u11 : (DrewV n Res) (vs 11) W1 := (hD.facts 11 (by omega)).2.2.2
  simp only [p0, p2, p3, p5, p6, p7, p9, p10]
  clear p0 p2 p3 p5 p6 p7 p9 p10
  have hW1 := hD.bel
  generalize vs 1 = V1 at *
  generalize vs 4 = V4 at *
  generalize vs 8 = V8 at *
  generalize vs 11 = V11 at *
  clear hD  lo hi vs
  have bw1 : Below w.heap.size w W1 := bW0.trans ((stay_below hW1).mono (by omega))
  have HV := hid u11
  clear hW1 bW0 B0 B1 B2 B3 u1 u4 u8 u11 HDB HSB HMB
  go_wp2_with fail
  go_returns
  exact ⟨V11, rfl, bw1, HV.out⟩
end Go.Proofs.Ytlnfcjaempojgaa
