/- Contracts of ZZDrawFSrc, impl.FSrc and the closure in laws.FnFSrc (the functions 64, 43, 42). Written by mk_X.py. -/
import Derived.Test.YtlnfcjaempojgaaL1
set_option linter.unusedVariables false
namespace Go.Proofs.Ytlnfcjaempojgaa
open Go.RowKit

set_option maxRecDepth 20000 in
set_option maxHeartbeats 2000000 in
theorem zz64_any (d1 d2 d3 d4 : Int) (dsl : Value) (n Wd H : Nat) (f : Nat → Int) (r : Rc) (sk s1 s2 s3 s4 : Int) (ss : Value) (SP : Value → Nat → Nat → World → Prop) (C : Rc) (Res : (Nat → Int) → Prop) (w : World)
    (hD : Makes (imgV 0 d1 d2 d3 d4 dsl) w (NewDst n d1 d2 d3 d4 Wd H f)) (hS : Makes (imgV sk s1 s2 s3 s4 ss) w SP) (sS : Plan.StableL SP) (hcl : Clips d1 d2 d3 d4 r 0 0 0 0 SP NoMask C) (hE : C.emp = false) (hf : Draws 92 n d1 d2 d3 d4 Wd H f SP NoMask C (0 + (C.a - r.a)) (0 + (C.b - r.b)) (0 + (C.a - r.a)) (0 + (C.b - r.b)) Res) :
    Calls Try.prog 64 #[imgV 0 d1 d2 d3 d4 dsl, fourV r.a r.b r.c r.d, imgV sk s1 s2 s3 s4 ss] w (Drew n Res w) := by
  have HD := hid hD; have HS := hid hS; have SS := hid sS; have HCL := hid hcl; have HE := hid hE; have HF := hid hf
  clear hD hS sS hcl hE hf
  go_enter Try.func64, Try.ntmps64
  go_wp2_with fail
  obtain ⟨W0, hW0⟩ : ∃ W : World, W = (((w.alloc (.cells #[iv 0, iv d1, iv d2, iv d3, iv d4, dsl] 59)).alloc (.cells #[iv r.a, iv r.b, iv r.c, iv r.d] 25)).alloc (.cells #[iv sk, iv s1, iv s2, iv s3, iv s4, ss] 59)) := ⟨_, rfl⟩
  rw [← hW0]
  have B0 : Hid (Blk W0 (w.heap.size) 59 #[iv 0, iv d1, iv d2, iv d3, iv d4, dsl]) := by rw [hW0]; exact Blk.alloc (Blk.alloc (Blk.new_at (W := w) (t := 59) (cs := #[iv 0, iv d1, iv d2, iv d3, iv d4, dsl]) (by simp)) _) _
  have B1 : Hid (Blk W0 (w.heap.size + 1) 25 #[iv r.a, iv r.b, iv r.c, iv r.d]) := by rw [hW0]; exact Blk.alloc (Blk.new_at (W := (w.alloc (.cells #[iv 0, iv d1, iv d2, iv d3, iv d4, dsl] 59))) (t := 25) (cs := #[iv r.a, iv r.b, iv r.c, iv r.d]) (by simp)) _
  have B2 : Hid (Blk W0 (w.heap.size + 1 + 1) 59 #[iv sk, iv s1, iv s2, iv s3, iv s4, ss]) := by rw [hW0]; exact Blk.new_at (W := ((w.alloc (.cells #[iv 0, iv d1, iv d2, iv d3, iv d4, dsl] 59)).alloc (.cells #[iv r.a, iv r.b, iv r.c, iv r.d] 25))) (t := 59) (cs := #[iv sk, iv s1, iv s2, iv s3, iv s4, ss]) (by simp)
  have bW0 : Below w.heap.size w W0 := by rw [hW0]; go_grown
  have sW0 : W0.heap.size = w.heap.size + 3 := by rw [hW0]; simp
  have SW0 := hid sW0
  have zW0 : w.heap.size + 3 ≤ W0.heap.size := by omega
  clear sW0 hW0
  refine (inner_any d1 d2 d3 d4 dsl n Wd H f r sk s1 s2 s3 s4 ss 0 0 (-1) 0 0 0 0 (.slice none 0 0) 0 0 92 SP NoMask C Res W0 (HD.out.keep bW0) (HS.out.keep bW0) makes_none SS.out noMask_st HCL.out HE.out (by intros; kernel_rfl) HF.out).mono ?_
  rintro e w1 ⟨v, rfl, hb1, hv⟩
  have HV := hid hv
  have bw1 := bW0.trans (hb1.mono (by omega))
  clear hv hb1 B0 B1 B2
  go_wp2_with fail
  go_returns
  exact ⟨v, rfl, bw1, HV.out⟩

set_option maxRecDepth 20000 in
set_option maxHeartbeats 2000000 in
theorem impl43_any (d1 d2 d3 d4 : Int) (dA : Option Addr) (n dc : Nat) (ds : List Int) (Wd H : Nat) (f : Nat → Int) (r : Rc) (sk s1 s2 s3 s4 : Int) (sA : Option Addr) (sn sc : Nat) (ss : List Int) (SP : Value → Nat → Nat → World → Prop) (C : Rc) (Res : (Nat → Int) → Prop) (w : World)
    (hdb : ByteSl w dA n dc ds) (hsb : ByteSl w sA sn sc ss) (fd : n ≤ 2147483647) (fs : sn ≤ 2147483647)
    (hD : ∀ A c base W, W.ownsRow base 5 1 (.slice A n c) n (u8s ds) → Makes (imgV 0 d1 d2 d3 d4 (.slice A n c)) W (NewDst n d1 d2 d3 d4 Wd H f)) (hS : ∀ A c base W, W.ownsRow base 5 1 (.slice A sn c) sn (u8s ss) → Makes (imgV sk s1 s2 s3 s4 (.slice A sn c)) W SP)
    (sS : Plan.StableL SP) (hcl : Clips d1 d2 d3 d4 r 0 0 0 0 SP NoMask C) (hE : C.emp = false) (hf : Draws 92 n d1 d2 d3 d4 Wd H f SP NoMask C (0 + (C.a - r.a)) (0 + (C.b - r.b)) (0 + (C.a - r.a)) (0 + (C.b - r.b)) Res) :
    Calls Try.prog 43 #[imgV 0 d1 d2 d3 d4 (.slice dA n dc), fourV r.a r.b r.c r.d, imgV sk s1 s2 s3 s4 (.slice sA sn sc)] w (Drew n Res w) := by
  have HDB := hid hdb; have HSB := hid hsb; have HD := hid hD; have HS := hid hS; have SS := hid sS; have HCL := hid hcl; have HE := hid hE; have HF := hid hf
  clear hdb hsb hD hS sS hcl hE hf
  go_enter Try.func43, Try.ntmps43
  go_wp2_with fail
  obtain ⟨W0, hW0⟩ : ∃ W : World, W = (((w.alloc (.cells #[iv 0, iv d1, iv d2, iv d3, iv d4, .slice dA n dc] 24)).alloc (.cells #[iv r.a, iv r.b, iv r.c, iv r.d] 25)).alloc (.cells #[iv sk, iv s1, iv s2, iv s3, iv s4, .slice sA sn sc] 24)) := ⟨_, rfl⟩
  rw [← hW0]
  have B0 : Hid (Blk W0 (w.heap.size) 24 #[iv 0, iv d1, iv d2, iv d3, iv d4, .slice dA n dc]) := by rw [hW0]; exact Blk.alloc (Blk.alloc (Blk.new_at (W := w) (t := 24) (cs := #[iv 0, iv d1, iv d2, iv d3, iv d4, .slice dA n dc]) (by simp)) _) _
  have B1 : Hid (Blk W0 (w.heap.size + 1) 25 #[iv r.a, iv r.b, iv r.c, iv r.d]) := by rw [hW0]; exact Blk.alloc (Blk.new_at (W := (w.alloc (.cells #[iv 0, iv d1, iv d2, iv d3, iv d4, .slice dA n dc] 24))) (t := 25) (cs := #[iv r.a, iv r.b, iv r.c, iv r.d]) (by simp)) _
  have B2 : Hid (Blk W0 (w.heap.size + 1 + 1) 24 #[iv sk, iv s1, iv s2, iv s3, iv s4, .slice sA sn sc]) := by rw [hW0]; exact Blk.new_at (W := ((w.alloc (.cells #[iv 0, iv d1, iv d2, iv d3, iv d4, .slice dA n dc] 24)).alloc (.cells #[iv r.a, iv r.b, iv r.c, iv r.d] 25))) (t := 24) (cs := #[iv sk, iv s1, iv s2, iv s3, iv s4, .slice sA sn sc]) (by simp)
  have bW0 : Below w.heap.size w W0 := by rw [hW0]; go_grown
  have sW0 : W0.heap.size = w.heap.size + 3 := by rw [hW0]; simp
  have SW0 := hid sW0
  have zW0 : w.heap.size + 3 ≤ W0.heap.size := by omega
  clear sW0 hW0
  have HB := hid bW0
  refine Plan.wp_region_stepsg 6 [] [(fun v _ => v = imgV 0 d1 d2 d3 d4 (.slice dA n dc)), (IsCopy 0 d1 d2 d3 d4 n ds), (fun v _ => v = fourV r.a r.b r.c r.d), (fun v _ => v = imgV sk s1 s2 s3 s4 (.slice sA sn sc)), (IsCopy sk s1 s2 s3 s4 sn ss), (DrewV n Res)] [] ⟨Plan.st_const _, (isCopy_mono), Plan.st_const _, Plan.st_const _, (isCopy_mono), (drewV_st), trivial⟩ (by kernel_rfl) (by kernel_rfl) (fun _ _ _ _ _ h => h) ?_ ?_
  · refine ⟨?_, ?_, ?_, ?_, ?_, ?_, trivial⟩
    · -- 0: Op.load 24 (Operand.tmp 3)
      intro a W hold hdep hb
      have e3 : a.tmps[3]?.getD undef = .pointer (some ⟨w.heap.size, 0, none⟩) := Plan.ev (hold 3 (by kernel_rfl))
      have CC := ((B0.out).drew.keep hb).cells6
      clear hold hdep
      exact Plan.stepg_pure rfl rfl (imgV 0 d1 d2 d3 d4 (.slice dA n dc)) (by go_simp <;> exact IntWalk.i64_in _ (by omega)) rfl
    · -- 1: Op.call { callee := Callee.value (Operand.func 50), args := #[Operand.
      intro a W hold hdep hb
      have e7 : a.tmps[7]?.getD undef = imgV 0 d1 d2 d3 d4 (.slice dA n dc) := Plan.ev (Plan.dep_g (by rfl) (hdep 0 (by kernel_rfl)))
      clear hold hdep
      exact Plan.stepg_call rfl rfl (f := 50) (args := #[imgV 0 d1 d2 d3 d4 (.slice dA n dc)]) (by go_simp) ((image_any 0 d1 d2 d3 d4 dA n dc ds W (HDB.out.keep (HB.out.trans ((stay_below hb).mono (by omega)))) fd).mono fun _ _ ⟨A, c, he, hb, h⟩ => ⟨_, he, hb, A, c, _, rfl, h⟩)
    · -- 2: Op.load 25 (Operand.tmp 4)
      intro a W hold hdep hb
      have e4 : a.tmps[4]?.getD undef = .pointer (some ⟨w.heap.size + 1, 0, none⟩) := Plan.ev (hold 4 (by kernel_rfl))
      have CC := ((B1.out).drew.keep hb).cells4.1
      clear hold hdep
      exact Plan.stepg_pure rfl rfl (fourV r.a r.b r.c r.d) (by go_simp <;> exact IntWalk.i64_in _ (by omega)) rfl
    · -- 3: Op.load 24 (Operand.tmp 5)
      intro a W hold hdep hb
      have e5 : a.tmps[5]?.getD undef = .pointer (some ⟨w.heap.size + 1 + 1, 0, none⟩) := Plan.ev (hold 5 (by kernel_rfl))
      have CC := ((B2.out).drew.keep hb).cells6
      clear hold hdep
      exact Plan.stepg_pure rfl rfl (imgV sk s1 s2 s3 s4 (.slice sA sn sc)) (by go_simp <;> exact IntWalk.i64_in _ (by omega)) rfl
    · -- 4: Op.call { callee := Callee.value (Operand.func 50), args := #[Operand.
      intro a W hold hdep hb
      have e10 : a.tmps[10]?.getD undef = imgV sk s1 s2 s3 s4 (.slice sA sn sc) := Plan.ev (Plan.dep_g (by rfl) (hdep 3 (by kernel_rfl)))
      clear hold hdep
      exact Plan.stepg_call rfl rfl (f := 50) (args := #[imgV sk s1 s2 s3 s4 (.slice sA sn sc)]) (by go_simp) ((image_any sk s1 s2 s3 s4 sA sn sc ss W (HSB.out.keep (HB.out.trans ((stay_below hb).mono (by omega)))) fs).mono fun _ _ ⟨A, c, he, hb, h⟩ => ⟨_, he, hb, A, c, _, rfl, h⟩)
    · -- 5: Op.call { callee := Callee.value (Operand.func 64), args := #[Operand.
      intro a W hold hdep hb
      have p8 : (IsCopy 0 d1 d2 d3 d4 n ds) (a.tmps.getD 8 undef) W := Plan.dep_g (by rfl) (hdep 1 (by kernel_rfl))
      have e9 : a.tmps[9]?.getD undef = fourV r.a r.b r.c r.d := Plan.ev (Plan.dep_g (by rfl) (hdep 2 (by kernel_rfl)))
      have p11 : (IsCopy sk s1 s2 s3 s4 sn ss) (a.tmps.getD 11 undef) W := Plan.dep_g (by rfl) (hdep 4 (by kernel_rfl))
      clear hold hdep
      obtain ⟨A1, c1, b1, h1, o1⟩ := p8
      obtain ⟨A2, c2, b2, h2, o2⟩ := p11
      have g1 := Plan.ev h1
      have g2 := Plan.ev h2
      have O1 := hid o1
      have O2 := hid o2
      clear h1 h2 o1 o2
      exact Plan.stepg_call rfl rfl (f := 64) (args := #[imgV 0 d1 d2 d3 d4 (.slice A1 n c1), fourV r.a r.b r.c r.d, imgV sk s1 s2 s3 s4 (.slice A2 sn c2)]) (by go_simp) ((zz64_any d1 d2 d3 d4 _ n Wd H f r sk s1 s2 s3 s4 _ SP C Res W (HD.out _ _ _ _ O1.out) (HS.out _ _ _ _ O2.out) SS.out HCL.out HE.out HF.out).mono fun _ _ ⟨v, he, hb, h⟩ => ⟨v, he, hb, h⟩)
  intro vs W1 lo hi hD
  change wpList _ _ _ _ { tmps := (Array.setIfInBounds (Array.setIfInBounds (Array.setIfInBounds (Array.setIfInBounds (Array.setIfInBounds (Array.setIfInBounds _ 7 (vs 0)) 8 (vs 1)) 9 (vs 2)) 10 (vs 3)) 11 (vs 4)) 12 (vs 5)), defers := _ } _
  simp only [Plan.putAll_zero, List.setIfInBounds_toArray, List.set_cons_zero, List.set_cons_succ, List.drop_succ_cons, List.drop_zero]
  have p0 : vs 0 = imgV 0 d1 d2 d3 d4 (.slice dA n dc) := (hD.facts 0 (by omega)).2.2.2
  have u1 : (IsCopy 0 d1 d2 d3 d4 n ds) (vs 1) W1 := (hD.facts 1 (by omega)).2.2.2
  have p2 : vs 2 = fourV r.a r.b r.c r.d := (hD.facts 2 (by omega)).2.2.2
  have p3 : vs 3 = imgV sk s1 s2 s3 s4 (.slice sA sn sc) := (hD.facts 3 (by omega)).2.2.2
  have u4 : (IsCopy sk s1 s2 s3 s4 sn ss) (vs 4) W1 := (hD.facts 4 (by omega)).2.2.2
  have u5 : (DrewV n Res) (vs 5) W1 := (hD.facts 5 (by omega)).2.2.2
  simp only [p0, p2, p3]
  clear p0 p2 p3
  have hW1 := hD.bel
  generalize vs 1 = V1 at *
  generalize vs 4 = V4 at *
  generalize vs 5 = V5 at *
  clear hD  lo hi vs
  have bw1 : Below w.heap.size w W1 := bW0.trans ((stay_below hW1).mono (by omega))
  have HV := hid u5
  clear hW1 bW0 B0 B1 B2 u1 u4 u5 HDB HSB
  go_wp2_with fail
  go_returns
  exact ⟨V5, rfl, bw1, HV.out⟩

set_option maxRecDepth 20000 in
set_option maxHeartbeats 2000000 in
theorem clo42_any (g0 g1 g2 g3 g4 : Nat) (d1 d2 d3 d4 : Int) (dsl : Value) (n : Nat) (ra rb rc rd : Int) (sk s1 s2 s3 s4 : Int) (ss : Value) (Res : (Nat → Int) → Prop) (w : World)
    (b0 : Blk w g0 24 #[iv 0, iv d1, iv d2, iv d3, iv d4, dsl]) (b1 : Blk w g1 25 #[iv ra, iv rb, iv rc, iv rd]) (b2 : Blk w g2 24 #[iv sk, iv s1, iv s2, iv s3, iv s4, ss])
    (hI : ∀ W, Below w.heap.size w W → Calls Try.prog 43 #[imgV 0 d1 d2 d3 d4 dsl, fourV ra rb rc rd, imgV sk s1 s2 s3 s4 ss] W (Drew n Res W)) :
    Calls Try.prog 42 #[.pointer (some ⟨g0, 0, none⟩), .pointer (some ⟨g1, 0, none⟩), .pointer (some ⟨g2, 0, none⟩)] w (Drew n Res w) := by
  have HI := hid hI
  have c0 := b0.cells6
  have c1 := b1.cells4.1
  have c2 := b2.cells6
  clear hI b0 b1 b2
  go_enter Try.func42, Try.ntmps42
  go_wp2_with fail
  refine (HI.out _ (Below.refl _ _)).mono ?_
  rintro e w1 ⟨v, rfl, hb1, hv⟩
  have HV := hid hv
  clear hv c0 c1 c2
  go_wp2_with fail
  go_returns
  exact ⟨v, rfl, hb1, HV.out⟩
end Go.Proofs.Ytlnfcjaempojgaa
