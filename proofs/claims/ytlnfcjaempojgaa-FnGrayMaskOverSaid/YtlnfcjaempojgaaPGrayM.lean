/- The statement on laws.FnGrayMaskOver: the contract of the law, and the frame. Written by mk_lawM.py. -/
import Derived.Test.YtlnfcjaempojgaaRGrayMA
import Derived.Test.YtlnfcjaempojgaaRGrayMB
import Derived.Test.YtlnfcjaempojgaaRGrayMC
import Derived.Test.YtlnfcjaempojgaaL1
import Derived.Test.YtlnfcjaempojgaaL6
import Derived.Test.YtlnfcjaempojgaaL4
import Derived.Test.YtlnfcjaempojgaaG1
set_option linter.unusedVariables false
namespace Go.Proofs.Ytlnfcjaempojgaa
open Go.RowKit

theorem drawGrayMaskOver_any (gD gp cap n : Nat) (d1 d2 d3 d4 : Int) (Wd H : Nat) (f : Nat → Int) (gS gq scap m : Nat) (s1 s2 s3 s4 : Int) (Ws Hs : Nat) (fs : Nat → Int) (gM gr mcap l : Nat) (m1 m2 m3 m4 : Int) (Wm Hm : Nat) (fm : Nat → Int) (ca ra ce re ua va um vm : Nat) (w : World)
    (hD : DstAt w gD gp cap n d1 d2 d3 d4 Wd H f) (hS : SrcAt 114 1 w gS gq scap m (s3 - s1) s1 s2 s3 s4 Ws Hs fs) (hM : SrcAt 113 1 w gM gr mcap l (m3 - m1) m1 m2 m3 m4 Wm Hm fm) (hne : gp ≠ gq) (hnm : gp ≠ gr)
    (h0 : ca < ce ∧ ra < re) (h1 : ce ≤ Wd) (h2 : re ≤ H) (h3 : ua + (ce - ca) ≤ Ws) (h4 : va + (re - ra) ≤ Hs) (h5 : um + (ce - ca) ≤ Wm) (h6 : vm + (re - ra) ≤ Hm)
    (rf : ∀ j, 0 ≤ f j ∧ f j ≤ 255) (rs : ∀ j, 0 ≤ fs j ∧ fs j ≤ 255) (rm : ∀ j, 0 ≤ fm j ∧ fm j ≤ 255) :
    Calls Try.prog 86 #[.pointer (some ⟨gD, 0, none⟩), rcV ⟨d1 + ca, d2 + ra, d1 + ce, d2 + re⟩, .pointer (some ⟨gS, 0, none⟩), ptV (s1 + ua) (s2 + va), .pointer (some ⟨gM, 0, none⟩), ptV (m1 + um) (m2 + vm)] w fun e w' =>
      (∃ v, e = .returned v) ∧ Only [gp] w w' ∧ ∃ f', PixRow w' gp cap n f' ∧ Painted Wd f (fun r c k => maskB (f (pos Wd r c k)) (if k = 3 then 65535 else fs ((va + (r - ra)) * Ws + (ua + (c - ca))) * 257) 65535 (fm ((vm + (r - ra)) * Wm + (um + (c - ca))))) (inPart ca ra ce re) f' := by
  cases hb : oB d1 d2 s1 s2 ca ra ce re ua va with
  | false => exact gm_A gD gp cap n d1 d2 d3 d4 Wd H f gS gq scap m s1 s2 s3 s4 Ws Hs fs gM gr mcap l m1 m2 m3 m4 Wm Hm fm ca ra ce re ua va um vm w hD hS hM hne hnm h0 h1 h2 h3 h4 h5 h6 rf rs rm false hb rfl
  | true =>
    by_cases hc : s2 + (va : Int) < d2 + ra ∨ (s2 + (va : Int) = d2 + ra ∧ s1 + (ua : Int) < d1 + ca)
    · exact gm_C gD gp cap n d1 d2 d3 d4 Wd H f gS gq scap m s1 s2 s3 s4 Ws Hs fs gM gr mcap l m1 m2 m3 m4 Wm Hm fm ca ra ce re ua va um vm w hD hS hM hne hnm h0 h1 h2 h3 h4 h5 h6 rf rs rm true hb rfl hc
    · exact gm_B gD gp cap n d1 d2 d3 d4 Wd H f gS gq scap m s1 s2 s3 s4 Ws Hs fs gM gr mcap l m1 m2 m3 m4 Wm Hm fm ca ra ce re ua va um vm w hD hS hM hne hnm h0 h1 h2 h3 h4 h5 h6 rf rs rm true hb rfl ⟨fun h => hc (Or.inl h), fun h => hc (Or.inr h)⟩
end Go.Proofs.Ytlnfcjaempojgaa

namespace Go.Proofs.Ytlnfcjaempojgaa
open Go.RowKit

set_option maxRecDepth 20000 in
set_option maxHeartbeats 2000000 in
theorem zz61_any (d1 d2 d3 d4 : Int) (dsl : Value) (n Wd H : Nat) (f : Nat → Int) (r : Rc) (sk s1 s2 s3 s4 : Int) (ss : Value) (sx sy : Int) (mk k1 k2 k3 k4 : Int) (ms : Value) (mx my : Int) (SP MP : Value → Nat → Nat → World → Prop) (C : Rc) (Res : (Nat → Int) → Prop) (w : World)
    (hD : Makes (imgV 0 d1 d2 d3 d4 dsl) w (NewDst n d1 d2 d3 d4 Wd H f)) (hS : Makes (imgV sk s1 s2 s3 s4 ss) w SP) (hM : Makes (imgV mk k1 k2 k3 k4 ms) w MP) (sS : Plan.StableL SP) (sM : Plan.StableL MP) (hcl : Clips d1 d2 d3 d4 r sx sy mx my SP MP C) (hE : C.emp = false) (hf : Draws 85 n d1 d2 d3 d4 Wd H f SP MP C (sx + (C.a - r.a)) (sy + (C.b - r.b)) (mx + (C.a - r.a)) (my + (C.b - r.b)) Res) :
    Calls Try.prog 61 #[imgV 0 d1 d2 d3 d4 dsl, fourV r.a r.b r.c r.d, imgV sk s1 s2 s3 s4 ss, iv sx, iv sy, imgV mk k1 k2 k3 k4 ms, iv mx, iv my] w (Drew n Res w) := by
  have HD := hid hD; have HS := hid hS; have HM := hid hM; have SS := hid sS; have SM := hid sM; have HCL := hid hcl; have HE := hid hE; have HF := hid hf
  clear hD hS hM sS sM hcl hE hf
  go_enter Try.func61, Try.ntmps61
  go_wp2_with fail
  obtain ⟨W0, hW0⟩ : ∃ W : World, W = ((((w.alloc (.cells #[iv 0, iv d1, iv d2, iv d3, iv d4, dsl] 59)).alloc (.cells #[iv r.a, iv r.b, iv r.c, iv r.d] 25)).alloc (.cells #[iv sk, iv s1, iv s2, iv s3, iv s4, ss] 59)).alloc (.cells #[iv mk, iv k1, iv k2, iv k3, iv k4, ms] 59)) := ⟨_, rfl⟩
  rw [← hW0]
  have B0 : Hid (Blk W0 (w.heap.size) 59 #[iv 0, iv d1, iv d2, iv d3, iv d4, dsl]) := by rw [hW0]; exact Blk.alloc (Blk.alloc (Blk.alloc (Blk.new_at (W := w) (t := 59) (cs := #[iv 0, iv d1, iv d2, iv d3, iv d4, dsl]) (by simp)) _) _) _
  have B1 : Hid (Blk W0 (w.heap.size + 1) 25 #[iv r.a, iv r.b, iv r.c, iv r.d]) := by rw [hW0]; exact Blk.alloc (Blk.alloc (Blk.new_at (W := (w.alloc (.cells #[iv 0, iv d1, iv d2, iv d3, iv d4, dsl] 59))) (t := 25) (cs := #[iv r.a, iv r.b, iv r.c, iv r.d]) (by simp)) _) _
  have B2 : Hid (Blk W0 (w.heap.size + 1 + 1) 59 #[iv sk, iv s1, iv s2, iv s3, iv s4, ss]) := by rw [hW0]; exact Blk.alloc (Blk.new_at (W := ((w.alloc (.cells #[iv 0, iv d1, iv d2, iv d3, iv d4, dsl] 59)).alloc (.cells #[iv r.a, iv r.b, iv r.c, iv r.d] 25))) (t := 59) (cs := #[iv sk, iv s1, iv s2, iv s3, iv s4, ss]) (by simp)) _
  have B3 : Hid (Blk W0 (w.heap.size + 1 + 1 + 1) 59 #[iv mk, iv k1, iv k2, iv k3, iv k4, ms]) := by rw [hW0]; exact Blk.new_at (W := (((w.alloc (.cells #[iv 0, iv d1, iv d2, iv d3, iv d4, dsl] 59)).alloc (.cells #[iv r.a, iv r.b, iv r.c, iv r.d] 25)).alloc (.cells #[iv sk, iv s1, iv s2, iv s3, iv s4, ss] 59))) (t := 59) (cs := #[iv mk, iv k1, iv k2, iv k3, iv k4, ms]) (by simp)
  have bW0 : Below w.heap.size w W0 := by rw [hW0]; go_grown
  have sW0 : W0.heap.size = w.heap.size + 4 := by rw [hW0]; simp
  have SW0 := hid sW0
  have zW0 : w.heap.size + 4 ≤ W0.heap.size := by omega
  clear sW0 hW0
  refine (inner_any d1 d2 d3 d4 dsl n Wd H f r sk s1 s2 s3 s4 ss sx sy mk k1 k2 k3 k4 ms mx my 85 SP MP C Res W0 (HD.out.keep bW0) (HS.out.keep bW0) (HM.out.keep bW0) SS.out SM.out HCL.out HE.out (by intros; kernel_rfl) HF.out).mono ?_
  rintro e w1 ⟨v, rfl, hb1, hv⟩
  have HV := hid hv
  have bw1 := bW0.trans (hb1.mono (by omega))
  clear hv hb1 B0 B1 B2 B3
  go_wp2_with fail
  go_returns
  exact ⟨v, rfl, bw1, HV.out⟩

set_option maxRecDepth 20000 in
set_option maxHeartbeats 2000000 in
theorem impl38_any (d1 d2 d3 d4 : Int) (dA : Option Addr) (n dc : Nat) (ds : List Int) (Wd H : Nat) (f : Nat → Int) (r : Rc) (sk s1 s2 s3 s4 : Int) (sA : Option Addr) (sn sc : Nat) (ss : List Int) (sx sy : Int) (mk k1 k2 k3 k4 : Int) (mA : Option Addr) (mn mc : Nat) (ms : List Int) (mx my : Int) (SP MP : Value → Nat → Nat → World → Prop) (C : Rc) (Res : (Nat → Int) → Prop) (w : World)
    (hdb : ByteSl w dA n dc ds) (hsb : ByteSl w sA sn sc ss) (hmb : ByteSl w mA mn mc ms) (fd : n ≤ 2147483647) (fs : sn ≤ 2147483647) (fm : mn ≤ 2147483647)
    (hD : ∀ A c base W, W.ownsRow base 5 1 (.slice A n c) n (u8s ds) → Makes (imgV 0 d1 d2 d3 d4 (.slice A n c)) W (NewDst n d1 d2 d3 d4 Wd H f)) (hS : ∀ A c base W, W.ownsRow base 5 1 (.slice A sn c) sn (u8s ss) → Makes (imgV sk s1 s2 s3 s4 (.slice A sn c)) W SP) (hM : ∀ A c base W, W.ownsRow base 5 1 (.slice A mn c) mn (u8s ms) → Makes (imgV mk k1 k2 k3 k4 (.slice A mn c)) W MP)
    (sS : Plan.StableL SP) (sM : Plan.StableL MP) (hcl : Clips d1 d2 d3 d4 r sx sy mx my SP MP C) (hE : C.emp = false) (hf : Draws 85 n d1 d2 d3 d4 Wd H f SP MP C (sx + (C.a - r.a)) (sy + (C.b - r.b)) (mx + (C.a - r.a)) (my + (C.b - r.b)) Res) :
    Calls Try.prog 38 #[imgV 0 d1 d2 d3 d4 (.slice dA n dc), fourV r.a r.b r.c r.d, imgV sk s1 s2 s3 s4 (.slice sA sn sc), iv sx, iv sy, imgV mk k1 k2 k3 k4 (.slice mA mn mc), iv mx, iv my] w (Drew n Res w) := by
  have HDB := hid hdb; have HSB := hid hsb; have HMB := hid hmb; have HD := hid hD; have HS := hid hS; have HM := hid hM; have SS := hid sS; have SM := hid sM; have HCL := hid hcl; have HE := hid hE; have HF := hid hf
  clear hdb hsb hmb hD hS hM sS sM hcl hE hf
  go_enter Try.func38, Try.ntmps38
  go_wp2_with fail
  obtain ⟨W0, hW0⟩ : ∃ W : World, W = ((((w.alloc (.cells #[iv 0, iv d1, iv d2, iv d3, iv d4, .slice dA n dc] 24)).alloc (.cells #[iv r.a, iv r.b, iv r.c, iv r.d] 25)).alloc (.cells #[iv sk, iv s1, iv s2, iv s3, iv s4, .slice sA sn sc] 24)).alloc (.cells #[iv mk, iv k1, iv k2, iv k3, iv k4, .slice mA mn mc] 24)) := ⟨_, rfl⟩
  rw [← hW0]
  have B0 : Hid (Blk W0 (w.heap.size) 24 #[iv 0, iv d1, iv d2, iv d3, iv d4, .slice dA n dc]) := by rw [hW0]; exact Blk.alloc (Blk.alloc (Blk.alloc (Blk.new_at (W := w) (t := 24) (cs := #[iv 0, iv d1, iv d2, iv d3, iv d4, .slice dA n dc]) (by simp)) _) _) _
  have B1 : Hid (Blk W0 (w.heap.size + 1) 25 #[iv r.a, iv r.b, iv r.c, iv r.d]) := by rw [hW0]; exact Blk.alloc (Blk.alloc (Blk.new_at (W := (w.alloc (.cells #[iv 0, iv d1, iv d2, iv d3, iv d4, .slice dA n dc] 24))) (t := 25) (cs := #[iv r.a, iv r.b, iv r.c, iv r.d]) (by simp)) _) _
  have B2 : Hid (Blk W0 (w.heap.size + 1 + 1) 24 #[iv sk, iv s1, iv s2, iv s3, iv s4, .slice sA sn sc]) := by rw [hW0]; exact Blk.alloc (Blk.new_at (W := ((w.alloc (.cells #[iv 0, iv d1, iv d2, iv d3, iv d4, .slice dA n dc] 24)).alloc (.cells #[iv r.a, iv r.b, iv r.c, iv r.d] 25))) (t := 24) (cs := #[iv sk, iv s1, iv s2, iv s3, iv s4, .slice sA sn sc]) (by simp)) _
  have B3 : Hid (Blk W0 (w.heap.size + 1 + 1 + 1) 24 #[iv mk, iv k1, iv k2, iv k3, iv k4, .slice mA mn mc]) := by rw [hW0]; exact Blk.new_at (W := (((w.alloc (.cells #[iv 0, iv d1, iv d2, iv d3, iv d4, .slice dA n dc] 24)).alloc (.cells #[iv r.a, iv r.b, iv r.c, iv r.d] 25)).alloc (.cells #[iv sk, iv s1, iv s2, iv s3, iv s4, .slice sA sn sc] 24))) (t := 24) (cs := #[iv mk, iv k1, iv k2, iv k3, iv k4, .slice mA mn mc]) (by simp)
  have bW0 : Below w.heap.size w W0 := by rw [hW0]; go_grown
  have sW0 : W0.heap.size = w.heap.size + 4 := by rw [hW0]; simp
  have SW0 := hid sW0
  have zW0 : w.heap.size + 4 ≤ W0.heap.size := by omega
  clear sW0 hW0
  have HB := hid bW0
  refine Plan.wp_region_stepsg 12 [] [(fun v _ => v = imgV 0 d1 d2 d3 d4 (.slice dA n dc)), (IsCopy 0 d1 d2 d3 d4 n ds), (fun v _ => v = fourV r.a r.b r.c r.d), (fun v _ => v = imgV sk s1 s2 s3 s4 (.slice sA sn sc)), (IsCopy sk s1 s2 s3 s4 sn ss), (fun v _ => v = iv sx), (fun v _ => v = iv sy), (fun v _ => v = imgV mk k1 k2 k3 k4 (.slice mA mn mc)), (IsCopy mk k1 k2 k3 k4 mn ms), (fun v _ => v = iv mx), (fun v _ => v = iv my), (DrewV n Res)] [] ⟨Plan.st_const _, (isCopy_mono), Plan.st_const _, Plan.st_const _, (isCopy_mono), Plan.st_const _, Plan.st_const _, Plan.st_const _, (isCopy_mono), Plan.st_const _, Plan.st_const _, (drewV_st), trivial⟩ (by kernel_rfl) (by kernel_rfl) (fun _ _ _ _ _ h => h) ?_ ?_
  · refine ⟨?_, ?_, ?_, ?_, ?_, ?_, ?_, ?_, ?_, ?_, ?_, ?_, trivial⟩
    · -- 0: Op.load 24 (Operand.tmp 8)
      intro a W hold hdep hb
      have e8 : a.tmps[8]?.getD undef = .pointer (some ⟨w.heap.size, 0, none⟩) := Plan.ev (hold 8 (by kernel_rfl))
      have CC := ((B0.out).drew.keep hb).cells6
      clear hold hdep
      exact Plan.stepg_pure rfl rfl (imgV 0 d1 d2 d3 d4 (.slice dA n dc)) (by go_simp <;> exact IntWalk.i64_in _ (by omega)) rfl
    · -- 1: Op.call { callee := Callee.value (Operand.func 50), args := #[Operand.
      intro a W hold hdep hb
      have e17 : a.tmps[17]?.getD undef = imgV 0 d1 d2 d3 d4 (.slice dA n dc) := Plan.ev (Plan.dep_g (by rfl) (hdep 0 (by kernel_rfl)))
      clear hold hdep
      exact Plan.stepg_call rfl rfl (f := 50) (args := #[imgV 0 d1 d2 d3 d4 (.slice dA n dc)]) (by go_simp) ((image_any 0 d1 d2 d3 d4 dA n dc ds W (HDB.out.keep (HB.out.trans ((stay_below hb).mono (by omega)))) fd).mono fun _ _ ⟨A, c, he, hb, h⟩ => ⟨_, he, hb, A, c, _, rfl, h⟩)
    · -- 2: Op.load 25 (Operand.tmp 9)
      intro a W hold hdep hb
      have e9 : a.tmps[9]?.getD undef = .pointer (some ⟨w.heap.size + 1, 0, none⟩) := Plan.ev (hold 9 (by kernel_rfl))
      have CC := ((B1.out).drew.keep hb).cells4.1
      clear hold hdep
      exact Plan.stepg_pure rfl rfl (fourV r.a r.b r.c r.d) (by go_simp <;> exact IntWalk.i64_in _ (by omega)) rfl
    · -- 3: Op.load 24 (Operand.tmp 10)
      intro a W hold hdep hb
      have e10 : a.tmps[10]?.getD undef = .pointer (some ⟨w.heap.size + 1 + 1, 0, none⟩) := Plan.ev (hold 10 (by kernel_rfl))
      have CC := ((B2.out).drew.keep hb).cells6
      clear hold hdep
      exact Plan.stepg_pure rfl rfl (imgV sk s1 s2 s3 s4 (.slice sA sn sc)) (by go_simp <;> exact IntWalk.i64_in _ (by omega)) rfl
    · -- 4: Op.call { callee := Callee.value (Operand.func 50), args := #[Operand.
      intro a W hold hdep hb
      have e20 : a.tmps[20]?.getD undef = imgV sk s1 s2 s3 s4 (.slice sA sn sc) := Plan.ev (Plan.dep_g (by rfl) (hdep 3 (by kernel_rfl)))
      clear hold hdep
      exact Plan.stepg_call rfl rfl (f := 50) (args := #[imgV sk s1 s2 s3 s4 (.slice sA sn sc)]) (by go_simp) ((image_any sk s1 s2 s3 s4 sA sn sc ss W (HSB.out.keep (HB.out.trans ((stay_below hb).mono (by omega)))) fs).mono fun _ _ ⟨A, c, he, hb, h⟩ => ⟨_, he, hb, A, c, _, rfl, h⟩)
    · -- 5: Op.move (Operand.tmp 3)
      intro a W hold hdep hb
      have e3 : a.tmps[3]?.getD undef = iv sx := Plan.ev (hold 3 (by kernel_rfl))
      clear hold hdep
      exact Plan.stepg_pure rfl rfl (iv sx) (by go_simp <;> exact IntWalk.i64_in _ (by omega)) rfl
    · -- 6: Op.move (Operand.tmp 4)
      intro a W hold hdep hb
      have e4 : a.tmps[4]?.getD undef = iv sy := Plan.ev (hold 4 (by kernel_rfl))
      clear hold hdep
      exact Plan.stepg_pure rfl rfl (iv sy) (by go_simp <;> exact IntWalk.i64_in _ (by omega)) rfl
    · -- 7: Op.load 24 (Operand.tmp 13)
      intro a W hold hdep hb
      have e13 : a.tmps[13]?.getD undef = .pointer (some ⟨w.heap.size + 1 + 1 + 1, 0, none⟩) := Plan.ev (hold 13 (by kernel_rfl))
      have CC := ((B3.out).drew.keep hb).cells6
      clear hold hdep
      exact Plan.stepg_pure rfl rfl (imgV mk k1 k2 k3 k4 (.slice mA mn mc)) (by go_simp <;> exact IntWalk.i64_in _ (by omega)) rfl
    · -- 8: Op.call { callee := Callee.value (Operand.func 50), args := #[Operand.
      intro a W hold hdep hb
      have e24 : a.tmps[24]?.getD undef = imgV mk k1 k2 k3 k4 (.slice mA mn mc) := Plan.ev (Plan.dep_g (by rfl) (hdep 7 (by kernel_rfl)))
      clear hold hdep
      exact Plan.stepg_call rfl rfl (f := 50) (args := #[imgV mk k1 k2 k3 k4 (.slice mA mn mc)]) (by go_simp) ((image_any mk k1 k2 k3 k4 mA mn mc ms W (HMB.out.keep (HB.out.trans ((stay_below hb).mono (by omega)))) fm).mono fun _ _ ⟨A, c, he, hb, h⟩ => ⟨_, he, hb, A, c, _, rfl, h⟩)
    · -- 9: Op.move (Operand.tmp 6)
      intro a W hold hdep hb
      have e6 : a.tmps[6]?.getD undef = iv mx := Plan.ev (hold 6 (by kernel_rfl))
      clear hold hdep
      exact Plan.stepg_pure rfl rfl (iv mx) (by go_simp <;> exact IntWalk.i64_in _ (by omega)) rfl
    · -- 10: Op.move (Operand.tmp 7)
      intro a W hold hdep hb
      have e7 : a.tmps[7]?.getD undef = iv my := Plan.ev (hold 7 (by kernel_rfl))
      clear hold hdep
      exact Plan.stepg_pure rfl rfl (iv my) (by go_simp <;> exact IntWalk.i64_in _ (by omega)) rfl
    · -- 11: Op.call { callee := Callee.value (Operand.func 61), args := #[Operand.
      intro a W hold hdep hb
      have p18 : (IsCopy 0 d1 d2 d3 d4 n ds) (a.tmps.getD 18 undef) W := Plan.dep_g (by rfl) (hdep 1 (by kernel_rfl))
      have e19 : a.tmps[19]?.getD undef = fourV r.a r.b r.c r.d := Plan.ev (Plan.dep_g (by rfl) (hdep 2 (by kernel_rfl)))
      have p21 : (IsCopy sk s1 s2 s3 s4 sn ss) (a.tmps.getD 21 undef) W := Plan.dep_g (by rfl) (hdep 4 (by kernel_rfl))
      have e22 : a.tmps[22]?.getD undef = iv sx := Plan.ev (Plan.dep_g (by rfl) (hdep 5 (by kernel_rfl)))
      have e23 : a.tmps[23]?.getD undef = iv sy := Plan.ev (Plan.dep_g (by rfl) (hdep 6 (by kernel_rfl)))
      have p25 : (IsCopy mk k1 k2 k3 k4 mn ms) (a.tmps.getD 25 undef) W := Plan.dep_g (by rfl) (hdep 8 (by kernel_rfl))
      have e26 : a.tmps[26]?.getD undef = iv mx := Plan.ev (Plan.dep_g (by rfl) (hdep 9 (by kernel_rfl)))
      have e27 : a.tmps[27]?.getD undef = iv my := Plan.ev (Plan.dep_g (by rfl) (hdep 10 (by kernel_rfl)))
      clear hold hdep
      obtain ⟨A1, c1, b1, h1, o1⟩ := p18
      obtain ⟨A2, c2, b2, h2, o2⟩ := p21
      obtain ⟨A3, c3, b3, h3, o3⟩ := p25
      have g1 := Plan.ev h1
      have g2 := Plan.ev h2
      have g3 := Plan.ev h3
      have O1 := hid o1
      have O2 := hid o2
      have O3 := hid o3
      clear h1 h2 h3 o1 o2 o3
      exact Plan.stepg_call rfl rfl (f := 61) (args := #[imgV 0 d1 d2 d3 d4 (.slice A1 n c1), fourV r.a r.b r.c r.d, imgV sk s1 s2 s3 s4 (.slice A2 sn c2), iv sx, iv sy, imgV mk k1 k2 k3 k4 (.slice A3 mn c3), iv mx, iv my]) (by go_simp) ((zz61_any d1 d2 d3 d4 _ n Wd H f r sk s1 s2 s3 s4 _ sx sy mk k1 k2 k3 k4 _ mx my SP MP C Res W (HD.out _ _ _ _ O1.out) (HS.out _ _ _ _ O2.out) (HM.out _ _ _ _ O3.out) SS.out SM.out HCL.out HE.out HF.out).mono fun _ _ ⟨v, he, hb, h⟩ => ⟨v, he, hb, h⟩)
  intro vs W1 lo hi hD
  change wpList _ _ _ _ { tmps := (Array.setIfInBounds (Array.setIfInBounds (Array.setIfInBounds (Array.setIfInBounds (Array.setIfInBounds (Array.setIfInBounds (Array.setIfInBounds (Array.setIfInBounds (Array.setIfInBounds (Array.setIfInBounds (Array.setIfInBounds (Array.setIfInBounds _ 17 (vs 0)) 18 (vs 1)) 19 (vs 2)) 20 (vs 3)) 21 (vs 4)) 22 (vs 5)) 23 (vs 6)) 24 (vs 7)) 25 (vs 8)) 26 (vs 9)) 27 (vs 10)) 28 (vs 11)), defers := _ } _
  simp only [Plan.putAll_zero, List.setIfInBounds_toArray, List.set_cons_zero, List.set_cons_succ, List.drop_succ_cons, List.drop_zero]
  have p0 : vs 0 = imgV 0 d1 d2 d3 d4 (.slice dA n dc) := (hD.facts 0 (by omega)).2.2.2
  have u1 : (IsCopy 0 d1 d2 d3 d4 n ds) (vs 1) W1 := (hD.facts 1 (by omega)).2.2.2
  have p2 : vs 2 = fourV r.a r.b r.c r.d := (hD.facts 2 (by omega)).2.2.2
  have p3 : vs 3 = imgV sk s1 s2 s3 s4 (.slice sA sn sc) := (hD.facts 3 (by omega)).2.2.2
  have u4 : (IsCopy sk s1 s2 s3 s4 sn ss) (vs 4) W1 := (hD.facts 4 (by omega)).2.2.2
  have p5 : vs 5 = iv sx := (hD.facts 5 (by omega)).2.2.2
  have p6 : vs 6 = iv sy := (hD.facts 6 (by omega)).2.2.2
  have p7 : vs 7 = imgV mk k1 k2 k3 k4 (.slice mA mn mc) := (hD.facts 7 (by omega)).2.2.2
  have u8 : (IsCopy mk k1 k2 k3 k4 mn ms) (vs 8) W1 := (hD.facts 8 (by omega)).2.2.2
  have p9 : vs 9 = iv mx := (hD.facts 9 (by omega)).2.2.2
  have p10 : vs 10 = iv my := (hD.facts 10 (by omega)).2.2.2
  have u11 : (DrewV n Res) (vs 11) W1 := (hD.facts 11 (by omega)).2.2.2
  simp only [p0, p2, p3, p5, p6, p7, p9, p10]
  clear p0 p2 p3 p5 p6 p7 p9 p10
  have hW1 := hD.bel
  generalize vs 1 = V1 at *
  generalize vs 4 = V4 at *
  generalize vs 8 = V8 at *
  generalize vs 11 = V11 at *
  clear hD  lo hi vs
  have bw1 : Below w.heap.size w W1 := bW0.trans ((stay_below hW1).mono (by omega))
  have HV := hid u11
  clear hW1 bW0 B0 B1 B2 B3 u1 u4 u8 u11 HDB HSB HMB
  go_wp2_with fail
  go_returns
  exact ⟨V11, rfl, bw1, HV.out⟩
end Go.Proofs.Ytlnfcjaempojgaa

namespace Go.Proofs.Ytlnfcjaempojgaa
open Go.RowKit

theorem assertS85 (g : Nat) (w : World) : (Instr.typeAssert (.iface 86 (.pointer (some ⟨g, 0, none⟩))) 79 86 false).run Try.prog w = .ok (.pointer (some ⟨g, 0, none⟩)) w := by kernel_rfl
theorem assertM85 (g : Nat) (w : World) : (Instr.typeAssert (.iface 99 (.pointer (some ⟨g, 0, none⟩))) 79 99 false).run Try.prog w = .ok (.pointer (some ⟨g, 0, none⟩)) w := by kernel_rfl

set_option maxRecDepth 20000 in
set_option maxHeartbeats 2000000 in
theorem fn85_any (gD gp cap n : Nat) (d1 d2 d3 d4 : Int) (Wd H : Nat) (f : Nat → Int) (gS gq scap m : Nat) (s1 s2 s3 s4 : Int) (Ws Hs : Nat) (fs : Nat → Int) (gM gr mcap l : Nat) (m1 m2 m3 m4 : Int) (Wm Hm : Nat) (fm : Nat → Int) (ca ra ce re ua va um vm : Nat) (w : World)
    (hD : DstAt w gD gp cap n d1 d2 d3 d4 Wd H f) (hS : SrcAt 114 1 w gS gq scap m (s3 - s1) s1 s2 s3 s4 Ws Hs fs) (hM : SrcAt 113 1 w gM gr mcap l (m3 - m1) m1 m2 m3 m4 Wm Hm fm) (hne : gp ≠ gq) (hnm : gp ≠ gr)
    (h0 : ca < ce ∧ ra < re) (h1 : ce ≤ Wd) (h2 : re ≤ H) (h3 : ua + (ce - ca) ≤ Ws) (h4 : va + (re - ra) ≤ Hs) (h5 : um + (ce - ca) ≤ Wm) (h6 : vm + (re - ra) ≤ Hm)
    (rf : ∀ j, 0 ≤ f j ∧ f j ≤ 255) (rs : ∀ j, 0 ≤ fs j ∧ fs j ≤ 255) (rm : ∀ j, 0 ≤ fm j ∧ fm j ≤ 255) :
    Calls Try.prog 85 #[.pointer (some ⟨gD, 0, none⟩), rcV ⟨d1 + ca, d2 + ra, d1 + ce, d2 + re⟩, .iface 86 (.pointer (some ⟨gS, 0, none⟩)), ptV (s1 + ua) (s2 + va), .iface 99 (.pointer (some ⟨gM, 0, none⟩)), ptV (m1 + um) (m2 + vm)] w fun e w' =>
      (∃ v, e = .returned v) ∧ Only [gp] w w' ∧ ∃ f', PixRow w' gp cap n f' ∧ Painted Wd f (fun r c k => maskB (f (pos Wd r c k)) (if k = 3 then 65535 else fs ((va + (r - ra)) * Ws + (ua + (c - ca))) * 257) (65535) (fm ((vm + (r - ra)) * Wm + (um + (c - ca))))) (inPart ca ra ce re) f' := by
  have HR : Hid (∀ W, Below w.heap.size w W → Calls Try.prog 86 #[.pointer (some ⟨gD, 0, none⟩), rcV ⟨d1 + ca, d2 + ra, d1 + ce, d2 + re⟩, .pointer (some ⟨gS, 0, none⟩), ptV (s1 + ua) (s2 + va), .pointer (some ⟨gM, 0, none⟩), ptV (m1 + um) (m2 + vm)] W fun e w' =>
      (∃ v, e = .returned v) ∧ Only [gp] W w' ∧ ∃ f', PixRow w' gp cap n f' ∧ Painted Wd f (fun r c k => maskB (f (pos Wd r c k)) (if k = 3 then 65535 else fs ((va + (r - ra)) * Ws + (ua + (c - ca))) * 257) (65535) (fm ((vm + (r - ra)) * Wm + (um + (c - ca))))) (inPart ca ra ce re) f') := fun W hb =>
    drawGrayMaskOver_any gD gp cap n d1 d2 d3 d4 Wd H f gS gq scap m s1 s2 s3 s4 Ws Hs fs gM gr mcap l m1 m2 m3 m4 Wm Hm fm ca ra ce re ua va um vm W (hD.keep hb) (hS.keep hb) (hM.keep hb) hne hnm h0 h1 h2 h3 h4 h5 h6 rf rs rm
  clear hD hS hM rf rs rm
  generalize (fun r c k => maskB (f (pos Wd r c k)) (if k = 3 then 65535 else fs ((va + (r - ra)) * Ws + (ua + (c - ca))) * 257) (65535) (fm ((vm + (r - ra)) * Wm + (um + (c - ca))))) = nw at *
  go_enter Try.func85, Try.ntmps85
  go_wp2_with fail
  obtain ⟨W0, hW0⟩ : ∃ W : World, W = (((w.alloc (.cells #[iv (d1 + ca), iv (d2 + ra), iv (d1 + ce), iv (d2 + re)] 73)).alloc (.cells #[iv (s1 + ua), iv (s2 + va)] 71)).alloc (.cells #[iv (m1 + um), iv (m2 + vm)] 71)) := ⟨_, rfl⟩
  rw [← hW0]
  have B0 : Hid (Blk W0 (w.heap.size) 73 #[iv (d1 + ca), iv (d2 + ra), iv (d1 + ce), iv (d2 + re)]) := by rw [hW0]; exact Blk.alloc (Blk.alloc (Blk.new_at (W := w) (t := 73) (cs := #[iv (d1 + ca), iv (d2 + ra), iv (d1 + ce), iv (d2 + re)]) (by simp)) _) _
  have B1 : Hid (Blk W0 (w.heap.size + 1) 71 #[iv (s1 + ua), iv (s2 + va)]) := by rw [hW0]; exact Blk.alloc (Blk.new_at (W := (w.alloc (.cells #[iv (d1 + ca), iv (d2 + ra), iv (d1 + ce), iv (d2 + re)] 73))) (t := 71) (cs := #[iv (s1 + ua), iv (s2 + va)]) (by simp)) _
  have B2 : Hid (Blk W0 (w.heap.size + 1 + 1) 71 #[iv (m1 + um), iv (m2 + vm)]) := by rw [hW0]; exact Blk.new_at (W := ((w.alloc (.cells #[iv (d1 + ca), iv (d2 + ra), iv (d1 + ce), iv (d2 + re)] 73)).alloc (.cells #[iv (s1 + ua), iv (s2 + va)] 71))) (t := 71) (cs := #[iv (m1 + um), iv (m2 + vm)]) (by simp)
  have bW0 : Below w.heap.size w W0 := by rw [hW0]; go_grown
  have sW0 : W0.heap.size = w.heap.size + 3 := by rw [hW0]; simp
  have SW0 := hid sW0
  have zW0 : w.heap.size + 3 ≤ W0.heap.size := by omega
  clear sW0 hW0
  have HB := hid bW0
  refine Plan.wp_region_stepsg 8 [] [(fun v _ => v = .pointer (some ⟨gD, 0, none⟩)), (fun v _ => v = rcV ⟨d1 + ca, d2 + ra, d1 + ce, d2 + re⟩), (fun v _ => v = .iface 86 (.pointer (some ⟨gS, 0, none⟩))), (fun v _ => v = .pointer (some ⟨gS, 0, none⟩)), (fun v _ => v = ptV (s1 + ua) (s2 + va)), (fun v _ => v = .iface 99 (.pointer (some ⟨gM, 0, none⟩))), (fun v _ => v = .pointer (some ⟨gM, 0, none⟩)), (fun v _ => v = ptV (m1 + um) (m2 + vm))] [] ⟨Plan.st_const _, Plan.st_const _, Plan.st_const _, Plan.st_const _, Plan.st_const _, Plan.st_const _, Plan.st_const _, Plan.st_const _, trivial⟩ (by kernel_rfl) (by kernel_rfl) (fun _ _ _ _ _ h => h) ?_ ?_
  · refine ⟨?_, ?_, ?_, ?_, ?_, ?_, ?_, ?_, trivial⟩
    · -- 0: Op.move (Operand.tmp 0)
      intro a W hold hdep hb
      have e0 : a.tmps[0]?.getD undef = .pointer (some ⟨gD, 0, none⟩) := Plan.ev (hold 0 (by kernel_rfl))
      clear hold hdep
      exact Plan.stepg_pure rfl rfl (.pointer (some ⟨gD, 0, none⟩)) (by go_simp <;> exact IntWalk.i64_in _ (by omega)) rfl
    · -- 1: Op.load 73 (Operand.tmp 7)
      intro a W hold hdep hb
      have e7 : a.tmps[7]?.getD undef = .pointer (some ⟨w.heap.size, 0, none⟩) := Plan.ev (hold 7 (by kernel_rfl))
      have CC := ((B0.out).drew.keep hb).cells4.1
      clear hold hdep
      exact Plan.stepg_pure rfl rfl (rcV ⟨d1 + ca, d2 + ra, d1 + ce, d2 + re⟩) (by go_simp <;> exact IntWalk.i64_in _ (by omega)) rfl
    · -- 2: Op.move (Operand.tmp 2)
      intro a W hold hdep hb
      have e2 : a.tmps[2]?.getD undef = .iface 86 (.pointer (some ⟨gS, 0, none⟩)) := Plan.ev (hold 2 (by kernel_rfl))
      clear hold hdep
      exact Plan.stepg_pure rfl rfl (.iface 86 (.pointer (some ⟨gS, 0, none⟩))) (by go_simp <;> exact IntWalk.i64_in _ (by omega)) rfl
    · -- 3: Op.typeAssert (Operand.tmp 14) 79 86 false
      intro a W hold hdep hb
      have e14 : a.tmps[14]?.getD undef = .iface 86 (.pointer (some ⟨gS, 0, none⟩)) := Plan.ev (Plan.dep_g (by rfl) (hdep 2 (by kernel_rfl)))
      clear hold hdep
      exact Plan.stepg_pure rfl rfl (.pointer (some ⟨gS, 0, none⟩)) (exec_assert (Plan.ev_ e14) (assertS85 gS W)) rfl
    · -- 4: Op.load 71 (Operand.tmp 9)
      intro a W hold hdep hb
      have e9 : a.tmps[9]?.getD undef = .pointer (some ⟨w.heap.size + 1, 0, none⟩) := Plan.ev (hold 9 (by kernel_rfl))
      have CC := ((B1.out).drew.keep hb).cells2
      clear hold hdep
      exact Plan.stepg_pure rfl rfl (ptV (s1 + ua) (s2 + va)) (by go_simp <;> exact IntWalk.i64_in _ (by omega)) rfl
    · -- 5: Op.move (Operand.tmp 4)
      intro a W hold hdep hb
      have e4 : a.tmps[4]?.getD undef = .iface 99 (.pointer (some ⟨gM, 0, none⟩)) := Plan.ev (hold 4 (by kernel_rfl))
      clear hold hdep
      exact Plan.stepg_pure rfl rfl (.iface 99 (.pointer (some ⟨gM, 0, none⟩))) (by go_simp <;> exact IntWalk.i64_in _ (by omega)) rfl
    · -- 6: Op.typeAssert (Operand.tmp 17) 79 99 false
      intro a W hold hdep hb
      have e17 : a.tmps[17]?.getD undef = .iface 99 (.pointer (some ⟨gM, 0, none⟩)) := Plan.ev (Plan.dep_g (by rfl) (hdep 5 (by kernel_rfl)))
      clear hold hdep
      exact Plan.stepg_pure rfl rfl (.pointer (some ⟨gM, 0, none⟩)) (exec_assert (Plan.ev_ e17) (assertM85 gM W)) rfl
    · -- 7: Op.load 71 (Operand.tmp 11)
      intro a W hold hdep hb
      have e11 : a.tmps[11]?.getD undef = .pointer (some ⟨w.heap.size + 1 + 1, 0, none⟩) := Plan.ev (hold 11 (by kernel_rfl))
      have CC := ((B2.out).drew.keep hb).cells2
      clear hold hdep
      exact Plan.stepg_pure rfl rfl (ptV (m1 + um) (m2 + vm)) (by go_simp <;> exact IntWalk.i64_in _ (by omega)) rfl
  intro vs W1 lo hi hD
  change wpList _ _ _ _ { tmps := (Array.setIfInBounds (Array.setIfInBounds (Array.setIfInBounds (Array.setIfInBounds (Array.setIfInBounds (Array.setIfInBounds (Array.setIfInBounds (Array.setIfInBounds _ 12 (vs 0)) 13 (vs 1)) 14 (vs 2)) 15 (vs 3)) 16 (vs 4)) 17 (vs 5)) 18 (vs 6)) 19 (vs 7)), defers := _ } _
  simp only [Plan.putAll_zero, List.setIfInBounds_toArray, List.set_cons_zero, List.set_cons_succ, List.drop_succ_cons, List.drop_zero]
  have p0 : vs 0 = .pointer (some ⟨gD, 0, none⟩) := (hD.facts 0 (by omega)).2.2.2
  have p1 : vs 1 = rcV ⟨d1 + ca, d2 + ra, d1 + ce, d2 + re⟩ := (hD.facts 1 (by omega)).2.2.2
  have p2 : vs 2 = .iface 86 (.pointer (some ⟨gS, 0, none⟩)) := (hD.facts 2 (by omega)).2.2.2
  have p3 : vs 3 = .pointer (some ⟨gS, 0, none⟩) := (hD.facts 3 (by omega)).2.2.2
  have p4 : vs 4 = ptV (s1 + ua) (s2 + va) := (hD.facts 4 (by omega)).2.2.2
  have p5 : vs 5 = .iface 99 (.pointer (some ⟨gM, 0, none⟩)) := (hD.facts 5 (by omega)).2.2.2
  have p6 : vs 6 = .pointer (some ⟨gM, 0, none⟩) := (hD.facts 6 (by omega)).2.2.2
  have p7 : vs 7 = ptV (m1 + um) (m2 + vm) := (hD.facts 7 (by omega)).2.2.2
  simp only [p0, p1, p2, p3, p4, p5, p6, p7]
  clear p0 p1 p2 p3 p4 p5 p6 p7
  have hW1 := hD.bel
  clear hD  lo hi vs
  have bw1 : Below w.heap.size w W1 := HB.out.trans ((stay_below hW1).mono (by omega))
  clear hW1 B0 B1 B2 bW0
  go_wp2_with fail
  refine (HR.out W1 bw1).mono ?_
  rintro e w2 ⟨⟨v, rfl⟩, hon, hf⟩
  have HF := hid hf
  have HON := hid ((Only.of_below bw1).trans hon)
  clear hf hon
  go_wp2_with fail
  go_end0
  exact ⟨⟨_, rfl⟩, HON.out, HF.out⟩

def grayC2 (S : Nat → Int) (k : Nat) : Int := if k = 3 then 65535 else S 0 * 257

theorem coreGrayM (d1 d2 d3 d4 : Int) (dA : Option Addr) (n dc : Nat) (ds : List Int) (ra rb rc rd s1 s2 s3 s4 : Int) (sA : Option Addr) (sn sc : Nat) (ss : List Int) (sx sy : Int) (m1 m2 m3 m4 : Int) (mA : Option Addr) (mn mc : Nat) (ms : List Int) (mx my : Int) (w : World)
    (hdb : ByteSl w dA n dc ds) (hsb : ByteSl w sA sn sc ss) (hmb : ByteSl w mA mn mc ms) (fd : n ≤ 2147483647) (fs : sn ≤ 2147483647) (fm : mn ≤ 2147483647) (hdv : ValidP 0 d1 d2 d3 d4 n ds) (hsv : ValidP 3 s1 s2 s3 s4 sn ss) (hmv : ValidP 2 m1 m2 m3 m4 mn ms) (hin : in4 ra rb rc rd) (hsx : -1000 ≤ sx ∧ sx ≤ 1000) (hsy : -1000 ≤ sy ∧ sy ≤ 1000) (hmx : -1000 ≤ mx ∧ mx ≤ 1000) (hmy : -1000 ≤ my ∧ my ≤ 1000)
    (C : Rc) (hC : C = (((⟨ra, rb, rc, rd⟩ : Rc).common ⟨d1, d2, d3, d4⟩).common ((boundsOf 3 s1 s2 s3 s4).moved (ra - sx) (rb - sy))).common ((boundsOf 2 m1 m2 m3 m4).moved (ra - mx) (rb - my))) (hE : C.emp = false) (Wd H : Nat) (hW : d3 = d1 + Wd) (hH : d4 = d2 + H) :
    CoreM 85 3 d1 d2 d3 d4 n ds ra rb rc rd s1 s2 s3 s4 sA sn sc ss sx sy m1 m2 m3 m4 mA mn mc ms mx my C Wd H w := by
  refine core_mask_src (T := 86) (BT := 114) (z := 1) (st := s3 - s1) grayC2 (by omega) rfl (by omega) hdb hsb hmb fd fs fm hdv hsv hmv hin hsx hsy hmx hmy hC hE hW hH (fun Ws Hs A c base W hG hn hown => makes3 hG hn fs hown) (fun _ _ _ _ _ _ _ h => hasb3 h) ?_ ?_ ?_ ?_
  · intro x y i g o W hF hi hA hg hcell
    subst hA
    have := at_gray s1 s2 s3 s4 x y g o sn sc i (ss.getD i 0) W hF hi hsb.le hsb.cap hg (hcell 0 (by omega)) (hsb.rng i)
    exact this
  · intro q k hq
    have := hsb.rng (1 * q + 0)
    unfold C16 grayC2
    dsimp only
    split <;> omega
  · intro q k hq hk
    have := hsb.rng (1 * q + 0)
    unfold grayC2
    rw [if_pos rfl]
    dsimp only
    split <;> omega
  · intro Ws Hs Wm Hm ca ra' ce re ua va um vm gD gp cap gS gq scap gM gr mcap W hD hS hM hne hnm h0 h1 h2 h3 h4 h5 h6
    have ef : (fun (r c k : Nat) => maskB (ds.getD (pos Wd r c k) 0) (grayC2 (fun j => ss.getD (1 * ((va + (r - ra')) * Ws + (ua + (c - ca))) + j) 0) k) (grayC2 (fun j => ss.getD (1 * ((va + (r - ra')) * Ws + (ua + (c - ca))) + j) 0) 3) (ms.getD ((vm + (r - ra')) * Wm + (um + (c - ca))) 0)) = fun r c k => maskB (ds.getD (pos Wd r c k) 0) (if k = 3 then 65535 else ss.getD ((va + (r - ra')) * Ws + (ua + (c - ca))) 0 * 257) 65535 (ms.getD ((vm + (r - ra')) * Wm + (um + (c - ca))) 0) := by
      funext r c k
      unfold grayC2
      simp only [Nat.one_mul, Nat.add_zero, if_pos]
    rw [ef]
    exact fn85_any gD gp cap n d1 d2 d3 d4 Wd H (fun j => ds.getD j 0) gS gq scap sn s1 s2 s3 s4 Ws Hs (fun j => ss.getD j 0) gM gr mcap mn m1 m2 m3 m4 Wm Hm (fun j => ms.getD j 0) ca ra' ce re ua va um vm W hD hS hM hne hnm h0 h1 h2 h3 h4 h5 h6 (fun j => hdb.rng j) (fun j => hsb.rng j) (fun j => hmb.rng j)
end Go.Proofs.Ytlnfcjaempojgaa

namespace Go.Proofs.Ytlnfcjaempojgaa
open Go.ChangeShapes Go.WideShapes Go.ChangeAt Go.RowKit

set_option maxRecDepth 20000 in
set_option maxHeartbeats 1000000 in
theorem unfit10 (dk d1 d2 d3 d4 : Int) (dA : Option Addr) (dn dc : Nat) (ds : List Int) (ra rb rc rd : Int) (sk s1 s2 s3 s4 : Int) (sA : Option Addr) (sn sc : Nat) (ss : List Int) (sx sy : Int) (mk m1 m2 m3 m4 : Int) (mA : Option Addr) (mn mc : Nat) (ms : List Int) (mx my : Int) (w : World)
    (hdb : ByteSl w dA dn dc ds) (hsb : ByteSl w sA sn sc ss) (hmb : ByteSl w mA mn mc ms) (h : ¬ (dn ≤ 2147483647 ∧ sn ≤ 2147483647 ∧ mn ≤ 2147483647)) :
    Calls Try.prog 10 #[imgV dk d1 d2 d3 d4 (.slice dA dn dc), fourV ra rb rc rd, imgV sk s1 s2 s3 s4 (.slice sA sn sc), iv sx, iv sy, imgV mk m1 m2 m3 m4 (.slice mA mn mc), iv mx, iv my] w fun e w' => e = .returned (.bool true) ∧ Below w.heap.size w w' := by
  by_cases h1 : dn ≤ 2147483647
  · by_cases h2 : sn ≤ 2147483647
    · have h3 : ¬ mn ≤ 2147483647 := fun h3 => h ⟨h1, h2, h3⟩
      clear h hdb hsb hmb
      go_enter Try.func10, Try.ntmps10
      go_wp2_with fail
      refine (fits_yes _ _ _ _ _ _ _ _ _ h1).mono ?_
      rintro e w' ⟨rfl, rfl⟩
      go_wp2_with fail
      refine (fits_yes _ _ _ _ _ _ _ _ _ h2).mono ?_
      rintro e w' ⟨rfl, rfl⟩
      go_wp2_with fail
      refine (fits_no _ _ _ _ _ _ _ _ _ h3).mono ?_
      rintro e w' ⟨rfl, rfl⟩
      go_wp2_with fail
      go_returns; exact ⟨rfl, by (repeat' (first | (with_reducible exact Below.refl _ _) | (with_reducible assumption) | (with_reducible refine drewN_below ?_ _) | (with_reducible refine Below.drew ?_) | (with_reducible refine Below.alloc ?_ ?_ _) | (with_reducible refine Below.setCell ?_ ?_ _) | (with_reducible refine below_via (by with_reducible assumption) ?_ ?_) | go_size))⟩
    · clear h hdb hsb hmb
      go_enter Try.func10, Try.ntmps10
      go_wp2_with fail
      refine (fits_yes _ _ _ _ _ _ _ _ _ h1).mono ?_
      rintro e w' ⟨rfl, rfl⟩
      go_wp2_with fail
      refine (fits_no _ _ _ _ _ _ _ _ _ h2).mono ?_
      rintro e w' ⟨rfl, rfl⟩
      go_wp2_with fail
      go_returns; exact ⟨rfl, by (repeat' (first | (with_reducible exact Below.refl _ _) | (with_reducible assumption) | (with_reducible refine drewN_below ?_ _) | (with_reducible refine Below.drew ?_) | (with_reducible refine Below.alloc ?_ ?_ _) | (with_reducible refine Below.setCell ?_ ?_ _) | (with_reducible refine below_via (by with_reducible assumption) ?_ ?_) | go_size))⟩
  · clear h hdb hsb hmb
    go_enter Try.func10, Try.ntmps10
    go_wp2_with fail
    refine (fits_no _ _ _ _ _ _ _ _ _ h1).mono ?_
    rintro e w' ⟨rfl, rfl⟩
    go_wp2_with fail
    go_returns; exact ⟨rfl, by (repeat' (first | (with_reducible exact Below.refl _ _) | (with_reducible assumption) | (with_reducible refine drewN_below ?_ _) | (with_reducible refine Below.drew ?_) | (with_reducible refine Below.alloc ?_ ?_ _) | (with_reducible refine Below.setCell ?_ ?_ _) | (with_reducible refine below_via (by with_reducible assumption) ?_ ?_) | go_size))⟩

set_option maxRecDepth 20000 in
set_option maxHeartbeats 4000000 in
theorem fit10 (dk d1 d2 d3 d4 : Int) (dA : Option Addr) (dn dc : Nat) (ds : List Int) (ra rb rc rd : Int) (sk s1 s2 s3 s4 : Int) (sA : Option Addr) (sn sc : Nat) (ss : List Int) (sx sy : Int) (mk m1 m2 m3 m4 : Int) (mA : Option Addr) (mn mc : Nat) (ms : List Int) (mx my : Int) (w : World)
    (hdb : ByteSl w dA dn dc ds) (hsb : ByteSl w sA sn sc ss) (hmb : ByteSl w mA mn mc ms) (h1 : dn ≤ 2147483647) (h2 : sn ≤ 2147483647) (h3 : mn ≤ 2147483647) :
    Calls Try.prog 10 #[imgV dk d1 d2 d3 d4 (.slice dA dn dc), fourV ra rb rc rd, imgV sk s1 s2 s3 s4 (.slice sA sn sc), iv sx, iv sy, imgV mk m1 m2 m3 m4 (.slice mA mn mc), iv mx, iv my] w fun e w' => e = .returned (.bool true) ∧ Below w.heap.size w w' := by
  have HDB := hid hdb; have HSB := hid hsb; have HMB := hid hmb
  obtain ⟨C, hC⟩ : ∃ C, C = (((⟨ra, rb, rc, rd⟩ : Rc).common ⟨d1, d2, d3, d4⟩).common ((boundsOf sk s1 s2 s3 s4).moved (ra - sx) (rb - sy))).common ((boundsOf mk m1 m2 m3 m4).moved (ra - mx) (rb - my)) := ⟨_, rfl⟩
  obtain ⟨px, hpx⟩ : ∃ x, x = sx + C.a - ra := ⟨_, rfl⟩
  obtain ⟨py, hpy⟩ : ∃ x, x = sy + C.b - rb := ⟨_, rfl⟩
  obtain ⟨qx, hqx⟩ : ∃ x, x = mx + C.a - ra := ⟨_, rfl⟩
  obtain ⟨qy, hqy⟩ : ∃ x, x = my + C.b - rb := ⟨_, rfl⟩
  have HC := hid hC; have HPX := hid hpx; have HPY := hid hpy; have HQX := hid hqx; have HQY := hid hqy
  clear hdb hsb hmb hC hpx hpy hqx hqy
  go_enter Try.func10, Try.ntmps10
  go_wp2_with fail
  refine (fits_yes _ _ _ _ _ _ _ _ _ h1).mono ?_
  rintro e w' ⟨rfl, rfl⟩
  go_wp2_with fail
  refine (fits_yes _ _ _ _ _ _ _ _ _ h2).mono ?_
  rintro e w' ⟨rfl, rfl⟩
  go_wp2_with fail
  refine (fits_yes _ _ _ _ _ _ _ _ _ h3).mono ?_
  rintro e w' ⟨rfl, rfl⟩
  go_wp2_with fail
  obtain ⟨W0, hW0⟩ : ∃ W : World, W = (((((((w.alloc (.cells #[iv dk, iv d1, iv d2, iv d3, iv d4, .slice dA dn dc] 24)).alloc (.cells #[iv ra, iv rb, iv rc, iv rd] 25)).alloc (.cells #[iv sk, iv s1, iv s2, iv s3, iv s4, .slice sA sn sc] 24)).alloc (.cells #[iv mk, iv m1, iv m2, iv m3, iv m4, .slice mA mn mc] 24)).alloc (.cells #[iv dk, iv d1, iv d2, iv d3, iv d4, .slice dA dn dc] 24)).alloc (.cells #[iv sk, iv s1, iv s2, iv s3, iv s4, .slice sA sn sc] 24)).alloc (.cells #[iv mk, iv m1, iv m2, iv m3, iv m4, .slice mA mn mc] 24)) := ⟨_, rfl⟩
  rw [← hW0]
  have B0 : Hid (Blk W0 (w.heap.size) 24 #[iv dk, iv d1, iv d2, iv d3, iv d4, .slice dA dn dc]) := by rw [hW0]; exact Blk.alloc (Blk.alloc (Blk.alloc (Blk.alloc (Blk.alloc (Blk.alloc (Blk.new_at (W := w) (t := 24) (cs := #[iv dk, iv d1, iv d2, iv d3, iv d4, .slice dA dn dc]) (by simp)) _) _) _) _) _) _
  have B1 : Hid (Blk W0 (w.heap.size + 1) 25 #[iv ra, iv rb, iv rc, iv rd]) := by rw [hW0]; exact Blk.alloc (Blk.alloc (Blk.alloc (Blk.alloc (Blk.alloc (Blk.new_at (W := (w.alloc (.cells #[iv dk, iv d1, iv d2, iv d3, iv d4, .slice dA dn dc] 24))) (t := 25) (cs := #[iv ra, iv rb, iv rc, iv rd]) (by simp)) _) _) _) _) _
  have B2 : Hid (Blk W0 (w.heap.size + 1 + 1) 24 #[iv sk, iv s1, iv s2, iv s3, iv s4, .slice sA sn sc]) := by rw [hW0]; exact Blk.alloc (Blk.alloc (Blk.alloc (Blk.alloc (Blk.new_at (W := ((w.alloc (.cells #[iv dk, iv d1, iv d2, iv d3, iv d4, .slice dA dn dc] 24)).alloc (.cells #[iv ra, iv rb, iv rc, iv rd] 25))) (t := 24) (cs := #[iv sk, iv s1, iv s2, iv s3, iv s4, .slice sA sn sc]) (by simp)) _) _) _) _
  have B3 : Hid (Blk W0 (w.heap.size + 1 + 1 + 1) 24 #[iv mk, iv m1, iv m2, iv m3, iv m4, .slice mA mn mc]) := by rw [hW0]; exact Blk.alloc (Blk.alloc (Blk.alloc (Blk.new_at (W := (((w.alloc (.cells #[iv dk, iv d1, iv d2, iv d3, iv d4, .slice dA dn dc] 24)).alloc (.cells #[iv ra, iv rb, iv rc, iv rd] 25)).alloc (.cells #[iv sk, iv s1, iv s2, iv s3, iv s4, .slice sA sn sc] 24))) (t := 24) (cs := #[iv mk, iv m1, iv m2, iv m3, iv m4, .slice mA mn mc]) (by simp)) _) _) _
  have B4 : Hid (Blk W0 (w.heap.size + 1 + 1 + 1 + 1) 24 #[iv dk, iv d1, iv d2, iv d3, iv d4, .slice dA dn dc]) := by rw [hW0]; exact Blk.alloc (Blk.alloc (Blk.new_at (W := ((((w.alloc (.cells #[iv dk, iv d1, iv d2, iv d3, iv d4, .slice dA dn dc] 24)).alloc (.cells #[iv ra, iv rb, iv rc, iv rd] 25)).alloc (.cells #[iv sk, iv s1, iv s2, iv s3, iv s4, .slice sA sn sc] 24)).alloc (.cells #[iv mk, iv m1, iv m2, iv m3, iv m4, .slice mA mn mc] 24))) (t := 24) (cs := #[iv dk, iv d1, iv d2, iv d3, iv d4, .slice dA dn dc]) (by simp)) _) _
  have B5 : Hid (Blk W0 (w.heap.size + 1 + 1 + 1 + 1 + 1) 24 #[iv sk, iv s1, iv s2, iv s3, iv s4, .slice sA sn sc]) := by rw [hW0]; exact Blk.alloc (Blk.new_at (W := (((((w.alloc (.cells #[iv dk, iv d1, iv d2, iv d3, iv d4, .slice dA dn dc] 24)).alloc (.cells #[iv ra, iv rb, iv rc, iv rd] 25)).alloc (.cells #[iv sk, iv s1, iv s2, iv s3, iv s4, .slice sA sn sc] 24)).alloc (.cells #[iv mk, iv m1, iv m2, iv m3, iv m4, .slice mA mn mc] 24)).alloc (.cells #[iv dk, iv d1, iv d2, iv d3, iv d4, .slice dA dn dc] 24))) (t := 24) (cs := #[iv sk, iv s1, iv s2, iv s3, iv s4, .slice sA sn sc]) (by simp)) _
  have B6 : Hid (Blk W0 (w.heap.size + 1 + 1 + 1 + 1 + 1 + 1) 24 #[iv mk, iv m1, iv m2, iv m3, iv m4, .slice mA mn mc]) := by rw [hW0]; exact Blk.new_at (W := ((((((w.alloc (.cells #[iv dk, iv d1, iv d2, iv d3, iv d4, .slice dA dn dc] 24)).alloc (.cells #[iv ra, iv rb, iv rc, iv rd] 25)).alloc (.cells #[iv sk, iv s1, iv s2, iv s3, iv s4, .slice sA sn sc] 24)).alloc (.cells #[iv mk, iv m1, iv m2, iv m3, iv m4, .slice mA mn mc] 24)).alloc (.cells #[iv dk, iv d1, iv d2, iv d3, iv d4, .slice dA dn dc] 24)).alloc (.cells #[iv sk, iv s1, iv s2, iv s3, iv s4, .slice sA sn sc] 24))) (t := 24) (cs := #[iv mk, iv m1, iv m2, iv m3, iv m4, .slice mA mn mc]) (by simp)
  have bW0 : Below w.heap.size w W0 := by rw [hW0]; go_grown
  have sW0 : W0.heap.size = w.heap.size + 7 := by rw [hW0]; simp
  have SW0 := hid sW0
  have zW0 : w.heap.size + 7 ≤ W0.heap.size := by omega
  clear sW0 hW0
  by_cases hin : in4 ra rb rc rd
  case neg =>
    refine (rect_bad _ _ _ _ _ hin).mono ?_
    rintro e w1 ⟨rfl, hb⟩
    have zz : W0.heap.size ≤ w1.heap.size := hb.size
    go_wp2_with fail
    go_returns; exact ⟨rfl, by (repeat' (first | (with_reducible exact Below.refl _ _) | (with_reducible assumption) | (with_reducible refine drewN_below ?_ _) | (with_reducible refine Below.drew ?_) | (with_reducible refine Below.alloc ?_ ?_ _) | (with_reducible refine Below.setCell ?_ ?_ _) | (with_reducible refine below_via (by with_reducible assumption) ?_ ?_) | go_size))⟩
  refine (rect_ok _ _ _ _ _ hin.1 hin.2.1 hin.2.2.1 hin.2.2.2).mono ?_
  rintro e w1 ⟨rfl, hb1⟩
  have HIN := hid hin
  have bw1 := bW0.trans (hb1.mono (by omega))
  have z1 := hb1.size
  have D1 := hid (B0.out.keep hb1)
  have R1 := hid (B1.out.keep hb1)
  have S1 := hid (B2.out.keep hb1)
  have M1 := hid (B3.out.keep hb1)
  have cD := D1.out.cells6
  have lD := D1.out.lt
  clear hin hb1 B0 B1 B2 B3 B4 B5 B6 bW0
  by_cases hdk : dk = 0
  case neg =>
    have k0 : (dk == 0) = false := by simpa using hdk
    have k1 : (dk != 0) = true := by simpa using hdk
    clear hdk
    go_wp2_with fail
    go_returns; exact ⟨rfl, by (repeat' (first | (with_reducible exact Below.refl _ _) | (with_reducible assumption) | (with_reducible refine drewN_below ?_ _) | (with_reducible refine Below.drew ?_) | (with_reducible refine Below.alloc ?_ ?_ _) | (with_reducible refine Below.setCell ?_ ?_ _) | (with_reducible refine below_via (by with_reducible assumption) ?_ ?_) | go_size))⟩
  subst hdk
  go_wp2_with fail
  obtain ⟨a0, ha0⟩ : ∃ n, n = w1.heap.size := ⟨_, rfl⟩
  have A2 : Hid (Blk (w1.alloc (.cells #[iv ra, iv rb, iv rc, iv rd] 28)) a0 28 #[iv ra, iv rb, iv rc, iv rd]) := by rw [ha0]; exact Blk.new _ _ _
  obtain ⟨W1, hW1⟩ : ∃ W : World, W = w1.alloc (.cells #[iv ra, iv rb, iv rc, iv rd] 28) := ⟨_, rfl⟩
  rw [← ha0, ← hW1]
  rw [← hW1] at A2
  have D2 := hid (D1.out.alloc (.cells #[iv ra, iv rb, iv rc, iv rd] 28)); rw [← hW1] at D2
  have R2 := hid (R1.out.alloc (.cells #[iv ra, iv rb, iv rc, iv rd] 28)); rw [← hW1] at R2
  have S2 := hid (S1.out.alloc (.cells #[iv ra, iv rb, iv rc, iv rd] 28)); rw [← hW1] at S2
  have M2 := hid (M1.out.alloc (.cells #[iv ra, iv rb, iv rc, iv rd] 28)); rw [← hW1] at M2
  have bw2 : Below w.heap.size w W1 := by rw [hW1]; exact bw1.alloc (by omega) _
  have z2 : w.heap.size + 4 ≤ a0 ∧ a0 < W1.heap.size := ⟨by omega, A2.out.lt⟩
  clear hW1 ha0 bw1 z1 cD lD D1 R1 S1 M1
  refine (target_any d1 d2 d3 d4 dA dn dc ds _ (HDB.out.keep bw2).bytes HDB.out.le HDB.out.cap).mono ?_
  rintro e w3 ⟨b, rfl, hv, hb3⟩
  have z3 := hb3.size
  have bw3 := bw2.trans (hb3.mono (by omega))
  have HV := hid hv
  have D3 := hid (D2.out.keep hb3)
  have R3 := hid (R2.out.keep hb3)
  have S3 := hid (S2.out.keep hb3)
  have M3 := hid (M2.out.keep hb3)
  have A3 := hid (A2.out.keep hb3)
  have cS := S3.out.cells6
  have lS := S3.out.lt
  clear hv hb3 bw2 D2 R2 S2 M2 A2
  cases b with
  | false =>
    go_wp2_with fail
    go_returns; exact ⟨rfl, by (repeat' (first | (with_reducible exact Below.refl _ _) | (with_reducible assumption) | (with_reducible refine drewN_below ?_ _) | (with_reducible refine Below.drew ?_) | (with_reducible refine Below.alloc ?_ ?_ _) | (with_reducible refine Below.setCell ?_ ?_ _) | (with_reducible refine below_via (by with_reducible assumption) ?_ ?_) | go_size))⟩
  | true =>
  by_cases hsk : sk = 3
  case neg =>
    have k0 : (sk == 3) = false := by simpa using hsk
    have k1 : (sk != 3) = true := by simpa using hsk
    clear hsk
    go_wp2_with fail
    go_returns; exact ⟨rfl, by (repeat' (first | (with_reducible exact Below.refl _ _) | (with_reducible assumption) | (with_reducible refine drewN_below ?_ _) | (with_reducible refine Below.drew ?_) | (with_reducible refine Below.alloc ?_ ?_ _) | (with_reducible refine Below.setCell ?_ ?_ _) | (with_reducible refine below_via (by with_reducible assumption) ?_ ?_) | go_size))⟩
  have ks0 : (sk == 3) = true := by simpa using hsk
  have ks1 : (sk != 3) = false := by simpa using hsk
  have HSK := hid hsk
  clear hsk
  go_wp2_with fail
  refine (valid_any sk s1 s2 s3 s4 sA sn sc ss _ (HSB.out.keep bw3).bytes HSB.out.le HSB.out.cap).mono ?_
  rintro e w6 ⟨b, rfl, hv, hb6⟩
  have z6 := hb6.size
  have bw6 := bw3.trans (hb6.mono (by omega))
  have SV := hid hv
  have D6 := hid (D3.out.keep hb6)
  have R6 := hid (R3.out.keep hb6)
  have S6 := hid (S3.out.keep hb6)
  have M6 := hid (M3.out.keep hb6)
  have A6 := hid (A3.out.keep hb6)
  have cM := M6.out.cells6
  have lM := M6.out.lt
  clear hv hb6 bw3 D3 R3 S3 M3 A3 cS lS ks0 ks1
  cases b with
  | false =>
    go_wp2_with fail
    go_returns; exact ⟨rfl, by (repeat' (first | (with_reducible exact Below.refl _ _) | (with_reducible assumption) | (with_reducible refine drewN_below ?_ _) | (with_reducible refine Below.drew ?_) | (with_reducible refine Below.alloc ?_ ?_ _) | (with_reducible refine Below.setCell ?_ ?_ _) | (with_reducible refine below_via (by with_reducible assumption) ?_ ?_) | go_size))⟩
  | true =>
  by_cases hmk : mk = 2
  case neg =>
    have k0 : (mk == 2) = false := by simpa using hmk
    have k1 : (mk != 2) = true := by simpa using hmk
    clear hmk
    go_wp2_with fail
    go_returns; exact ⟨rfl, by (repeat' (first | (with_reducible exact Below.refl _ _) | (with_reducible assumption) | (with_reducible refine drewN_below ?_ _) | (with_reducible refine Below.drew ?_) | (with_reducible refine Below.alloc ?_ ?_ _) | (with_reducible refine Below.setCell ?_ ?_ _) | (with_reducible refine below_via (by with_reducible assumption) ?_ ?_) | go_size))⟩
  have km0 : (mk == 2) = true := by simpa using hmk
  have km1 : (mk != 2) = false := by simpa using hmk
  have HMK := hid hmk
  clear hmk
  go_wp2_with fail
  refine (valid_any mk m1 m2 m3 m4 mA mn mc ms _ (HMB.out.keep bw6).bytes HMB.out.le HMB.out.cap).mono ?_
  rintro e w8 ⟨b, rfl, hv, hb8⟩
  have z8 := hb8.size
  have bw8 := bw6.trans (hb8.mono (by omega))
  have MV := hid hv
  have D8 := hid (D6.out.keep hb8)
  have R8 := hid (R6.out.keep hb8)
  have S8 := hid (S6.out.keep hb8)
  have M8 := hid (M6.out.keep hb8)
  have A8 := hid (A6.out.keep hb8)
  clear hv hb8 bw6 D6 R6 S6 M6 A6 cM lM km0 km1
  cases b with
  | false =>
    go_wp2_with fail
    go_returns; exact ⟨rfl, by (repeat' (first | (with_reducible exact Below.refl _ _) | (with_reducible assumption) | (with_reducible refine drewN_below ?_ _) | (with_reducible refine Below.drew ?_) | (with_reducible refine Below.alloc ?_ ?_ _) | (with_reducible refine Below.setCell ?_ ?_ _) | (with_reducible refine below_via (by with_reducible assumption) ?_ ?_) | go_size))⟩
  | true =>
  go_wp2_with fail
  have ff := (Blk.new w8 3 #[iv sx, iv sy, iv mx, iv my]).cells4.1
  refine (fine4_any _ _ _ _ _ _ ff.1 ff.2.1 ff.2.2.1 ff.2.2.2).mono ?_
  rintro e w' ⟨rfl, rfl⟩
  clear ff
  obtain ⟨W9, hW9⟩ : ∃ W : World, W = w8.alloc (.cells #[iv sx, iv sy, iv mx, iv my] 3) := ⟨_, rfl⟩
  rw [← hW9]
  have b9 : Below w8.heap.size w8 W9 := by rw [hW9]; go_grown
  have D9 := hid (D8.out.keep b9)
  have R9 := hid (R8.out.keep b9)
  have S9 := hid (S8.out.keep b9)
  have M9 := hid (M8.out.keep b9)
  have A9 := hid (A8.out.keep b9)
  have bw9 := bw8.trans (b9.mono (by omega))
  have z9 : a0 < W9.heap.size := A9.out.lt
  clear hW9 b9 bw8 D8 R8 S8 M8 A8
  cases hf : fineB4 sx sy mx my with
  | false =>
    go_wp2_with fail
    go_returns; exact ⟨rfl, by (repeat' (first | (with_reducible exact Below.refl _ _) | (with_reducible assumption) | (with_reducible refine drewN_below ?_ _) | (with_reducible refine Below.drew ?_) | (with_reducible refine Below.alloc ?_ ?_ _) | (with_reducible refine Below.setCell ?_ ?_ _) | (with_reducible refine below_via (by with_reducible assumption) ?_ ?_) | go_size))⟩
  | true =>
  obtain ⟨hsx, hsy, hmx, hmy⟩ := fineB4_iff.1 hf
  clear hf
  go_wp2_with fail
  have hr : Hid ((⟨ra, rb, rc, rd⟩ : Rc).in_ 1000) := HIN.out
  have SBd : Hid ((boundsOf sk s1 s2 s3 s4).in_ 4000000000) := by obtain ⟨a, b, c, d⟩ := bounds_in (by first | exact SV.out rfl | exact SV.out trivial); exact ⟨by omega, by omega, by omega, by omega⟩
  have MBd : Hid ((boundsOf mk m1 m2 m3 m4).in_ 4000000000) := by obtain ⟨a, b, c, d⟩ := bounds_in (by first | exact MV.out rfl | exact MV.out trivial); exact ⟨by omega, by omega, by omega, by omega⟩
  have bA : Hid (∀ k x0 y0 x1 y1 s, ∀ W : World, Calls Try.prog 20 #[imgV k x0 y0 x1 y1 s] W fun e w' => e = .returned (rcV (boundsOf k x0 y0 x1 y1)) ∧ Below W.heap.size W w') := boundsv_any
  have bD : Hid (∀ W : World, Calls Try.prog 20 #[imgV 0 d1 d2 d3 d4 (.slice dA dn dc)] W fun e w' => e = .returned (rcV ⟨d1, d2, d3, d4⟩) ∧ Below W.heap.size W w') := fun W => boundsv_any 0 d1 d2 d3 d4 (.slice dA dn dc) W
  have CLP : Hid (∀ W : World, Calls Try.prog 19 #[rcV ⟨d1, d2, d3, d4⟩, rcV ⟨ra, rb, rc, rd⟩, rcV (boundsOf sk s1 s2 s3 s4), iv sx, iv sy, rcV (boundsOf mk m1 m2 m3 m4), .bool true, iv mx, iv my] W fun e w' => e = .returned (.tuple #[rcV C, ptV px py, ptV qx qy]) ∧ Below W.heap.size W w') := fun W => by
    rw [HPX.out, HPY.out, HQX.out, HQY.out]
    exact clip_masked ⟨d1, d2, d3, d4⟩ ⟨ra, rb, rc, rd⟩ (boundsOf sk s1 s2 s3 s4) (boundsOf mk m1 m2 m3 m4) sx sy mx my W hr.out SBd.out MBd.out hsx hsy hmx hmy _ C rfl HC.out
  refine Plan.wp_region_steps 19 [14, 15] [imgV 0 d1 d2 d3 d4 (.slice dA dn dc), rcV ⟨d1, d2, d3, d4⟩, rcV ⟨ra, rb, rc, rd⟩, imgV sk s1 s2 s3 s4 (.slice sA sn sc), rcV (boundsOf sk s1 s2 s3 s4), iv sx, iv sy, imgV mk m1 m2 m3 m4 (.slice mA mn mc), rcV (boundsOf mk m1 m2 m3 m4), iv mx, iv my, .tuple #[rcV C, ptV px py, ptV qx qy], .tuple #[rcV C, ptV px py, ptV qx qy], rcV C, ptV px py, ptV qx qy, undef, undef, undef] [(16, 28, #[iv 0, iv 0, iv 0, iv 0]), (17, 34, #[iv 0, iv 0]), (18, 34, #[iv 0, iv 0])] (by kernel_rfl) (by kernel_rfl) (fun _ _ _ _ _ h => h) ?_ ?_
  · refine ⟨?_, ?_, ?_, ?_, ?_, ?_, ?_, ?_, ?_, ?_, ?_, ?_, ?_, ?_, ?_, ?_, ?_, ?_, ?_, trivial⟩
    · -- 0: Op.load 24 (Operand.tmp 8)
      intro a W hold hdep hb
      have e8 : a.tmps[8]?.getD undef = .pointer (some ⟨w.heap.size, 0, none⟩) := Plan.ev (hold 8 (by kernel_rfl))
      have CC := ((D9.out).drew.keep hb).cells6
      clear hold hdep
      exact Plan.step_const rfl rfl (by go_simp <;> exact IntWalk.i64_in _ (by omega))
    · -- 1: Op.call { callee := Callee.value (Operand.func 20), args := #[Operand.
      intro a W hold hdep hb
      have e82 : a.tmps[82]?.getD undef = imgV 0 d1 d2 d3 d4 (.slice dA dn dc) := Plan.ev (Plan.dep_const (by rfl) (hdep 0 (by kernel_rfl)))
      clear hold hdep
      exact Plan.step_call (f := 20) (args := #[imgV 0 d1 d2 d3 d4 (.slice dA dn dc)]) rfl rfl (by go_simp) (bD.out W)
    · -- 2: Op.load 28 (Operand.tmp 17)
      intro a W hold hdep hb
      have e17 : a.tmps[17]?.getD undef = .pointer (some ⟨a0, 0, none⟩) := Plan.ev (hold 17 (by kernel_rfl))
      have CC := ((A9.out).drew.keep hb).cells4.1
      clear hold hdep
      exact Plan.step_const rfl rfl (by go_simp <;> exact IntWalk.i64_in _ (by omega))
    · -- 3: Op.load 24 (Operand.tmp 10)
      intro a W hold hdep hb
      have e10 : a.tmps[10]?.getD undef = .pointer (some ⟨w.heap.size + 1 + 1, 0, none⟩) := Plan.ev (hold 10 (by kernel_rfl))
      have CC := ((S9.out).drew.keep hb).cells6
      clear hold hdep
      exact Plan.step_const rfl rfl (by go_simp <;> exact IntWalk.i64_in _ (by omega))
    · -- 4: Op.call { callee := Callee.value (Operand.func 20), args := #[Operand.
      intro a W hold hdep hb
      have e85 : a.tmps[85]?.getD undef = imgV sk s1 s2 s3 s4 (.slice sA sn sc) := Plan.ev (Plan.dep_const (by rfl) (hdep 3 (by kernel_rfl)))
      clear hold hdep
      exact Plan.step_call (f := 20) (args := #[imgV sk s1 s2 s3 s4 (.slice sA sn sc)]) rfl rfl (by go_simp) (bA.out _ _ _ _ _ _ W)
    · -- 5: Op.move (Operand.tmp 3)
      intro a W hold hdep hb
      have e3 : a.tmps[3]?.getD undef = iv sx := Plan.ev (hold 3 (by kernel_rfl))
      clear hold hdep
      exact Plan.step_const rfl rfl (by go_simp <;> exact IntWalk.i64_in _ (by omega))
    · -- 6: Op.move (Operand.tmp 4)
      intro a W hold hdep hb
      have e4 : a.tmps[4]?.getD undef = iv sy := Plan.ev (hold 4 (by kernel_rfl))
      clear hold hdep
      exact Plan.step_const rfl rfl (by go_simp <;> exact IntWalk.i64_in _ (by omega))
    · -- 7: Op.load 24 (Operand.tmp 13)
      intro a W hold hdep hb
      have e13 : a.tmps[13]?.getD undef = .pointer (some ⟨w.heap.size + 1 + 1 + 1, 0, none⟩) := Plan.ev (hold 13 (by kernel_rfl))
      have CC := ((M9.out).drew.keep hb).cells6
      clear hold hdep
      exact Plan.step_const rfl rfl (by go_simp <;> exact IntWalk.i64_in _ (by omega))
    · -- 8: Op.call { callee := Callee.value (Operand.func 20), args := #[Operand.
      intro a W hold hdep hb
      have e89 : a.tmps[89]?.getD undef = imgV mk m1 m2 m3 m4 (.slice mA mn mc) := Plan.ev (Plan.dep_const (by rfl) (hdep 7 (by kernel_rfl)))
      clear hold hdep
      exact Plan.step_call (f := 20) (args := #[imgV mk m1 m2 m3 m4 (.slice mA mn mc)]) rfl rfl (by go_simp) (bA.out _ _ _ _ _ _ W)
    · -- 9: Op.move (Operand.tmp 6)
      intro a W hold hdep hb
      have e6 : a.tmps[6]?.getD undef = iv mx := Plan.ev (hold 6 (by kernel_rfl))
      clear hold hdep
      exact Plan.step_const rfl rfl (by go_simp <;> exact IntWalk.i64_in _ (by omega))
    · -- 10: Op.move (Operand.tmp 7)
      intro a W hold hdep hb
      have e7 : a.tmps[7]?.getD undef = iv my := Plan.ev (hold 7 (by kernel_rfl))
      clear hold hdep
      exact Plan.step_const rfl rfl (by go_simp <;> exact IntWalk.i64_in _ (by omega))
    · -- 11: Op.call { callee := Callee.value (Operand.func 19), args := #[Operand.
      intro a W hold hdep hb
      have e83 : a.tmps[83]?.getD undef = rcV ⟨d1, d2, d3, d4⟩ := Plan.ev (Plan.dep_const (by rfl) (hdep 1 (by kernel_rfl)))
      have e84 : a.tmps[84]?.getD undef = rcV ⟨ra, rb, rc, rd⟩ := Plan.ev (Plan.dep_const (by rfl) (hdep 2 (by kernel_rfl)))
      have e86 : a.tmps[86]?.getD undef = rcV (boundsOf sk s1 s2 s3 s4) := Plan.ev (Plan.dep_const (by rfl) (hdep 4 (by kernel_rfl)))
      have e87 : a.tmps[87]?.getD undef = iv sx := Plan.ev (Plan.dep_const (by rfl) (hdep 5 (by kernel_rfl)))
      have e88 : a.tmps[88]?.getD undef = iv sy := Plan.ev (Plan.dep_const (by rfl) (hdep 6 (by kernel_rfl)))
      have e90 : a.tmps[90]?.getD undef = rcV (boundsOf mk m1 m2 m3 m4) := Plan.ev (Plan.dep_const (by rfl) (hdep 8 (by kernel_rfl)))
      have e91 : a.tmps[91]?.getD undef = iv mx := Plan.ev (Plan.dep_const (by rfl) (hdep 9 (by kernel_rfl)))
      have e92 : a.tmps[92]?.getD undef = iv my := Plan.ev (Plan.dep_const (by rfl) (hdep 10 (by kernel_rfl)))
      clear hold hdep
      exact Plan.step_call (f := 19) (args := #[rcV ⟨d1, d2, d3, d4⟩, rcV ⟨ra, rb, rc, rd⟩, rcV (boundsOf sk s1 s2 s3 s4), iv sx, iv sy, rcV (boundsOf mk m1 m2 m3 m4), .bool true, iv mx, iv my]) rfl rfl (by go_simp) (CLP.out W)
    · -- 12: Op.move (Operand.tmp 93)
      intro a W hold hdep hb
      have e93 : a.tmps[93]?.getD undef = .tuple #[rcV C, ptV px py, ptV qx qy] := Plan.ev (Plan.dep_const (by rfl) (hdep 11 (by kernel_rfl)))
      clear hold hdep
      exact Plan.step_const rfl rfl (by go_simp <;> exact IntWalk.i64_in _ (by omega))
    · -- 13: Op.extract (Operand.tmp 81) 0
      intro a W hold hdep hb
      have e81 : a.tmps[81]?.getD undef = .tuple #[rcV C, ptV px py, ptV qx qy] := Plan.ev (Plan.dep_const (by rfl) (hdep 12 (by kernel_rfl)))
      clear hold hdep
      exact Plan.step_const rfl rfl (by go_simp <;> exact IntWalk.i64_in _ (by omega))
    · -- 14: Op.extract (Operand.tmp 81) 1
      intro a W hold hdep hb
      have e81 : a.tmps[81]?.getD undef = .tuple #[rcV C, ptV px py, ptV qx qy] := Plan.ev (Plan.dep_const (by rfl) (hdep 12 (by kernel_rfl)))
      clear hold hdep
      exact Plan.step_eager rfl rfl (fun _ => by go_simp)
    · -- 15: Op.extract (Operand.tmp 81) 2
      intro a W hold hdep hb
      have e81 : a.tmps[81]?.getD undef = .tuple #[rcV C, ptV px py, ptV qx qy] := Plan.ev (Plan.dep_const (by rfl) (hdep 12 (by kernel_rfl)))
      clear hold hdep
      exact Plan.step_eager rfl rfl (fun _ => by go_simp)
    · -- 16: Op.alloc 28
      intro a W hold hdep hb
      clear hold hdep
      exact Plan.step_alloc rfl rfl (by go_simp)
    · -- 17: Op.alloc 34
      intro a W hold hdep hb
      clear hold hdep
      exact Plan.step_alloc rfl rfl (by go_simp)
    · -- 18: Op.alloc 34
      intro a W hold hdep hb
      clear hold hdep
      exact Plan.step_alloc rfl rfl (by go_simp)
  intro vs W10 lo hi hD
  change wpList _ _ _ _ { tmps := (Array.setIfInBounds (Array.setIfInBounds (Array.setIfInBounds (Array.setIfInBounds (Array.setIfInBounds (Array.setIfInBounds (Array.setIfInBounds (Array.setIfInBounds (Array.setIfInBounds (Array.setIfInBounds (Array.setIfInBounds (Array.setIfInBounds (Array.setIfInBounds (Array.setIfInBounds (Array.setIfInBounds (Array.setIfInBounds (Array.setIfInBounds (Array.setIfInBounds (Array.setIfInBounds _ 82 (vs 0)) 83 (vs 1)) 84 (vs 2)) 85 (vs 3)) 86 (vs 4)) 87 (vs 5)) 88 (vs 6)) 89 (vs 7)) 90 (vs 8)) 91 (vs 9)) 92 (vs 10)) 93 (vs 11)) 81 (vs 12)) 94 (vs 13)) 95 (vs 14)) 96 (vs 15)) 19 (vs 16)) 20 (vs 17)) 21 (vs 18)), defers := _ } _
  simp only [Plan.putAll_zero, List.setIfInBounds_toArray, List.set_cons_zero, List.set_cons_succ, List.drop_succ_cons, List.drop_zero]
  have p0 : vs 0 = imgV 0 d1 d2 d3 d4 (.slice dA dn dc) := (hD.facts 0 (by omega)).2.2.2
  have p1 : vs 1 = rcV ⟨d1, d2, d3, d4⟩ := (hD.facts 1 (by omega)).2.2.2
  have p2 : vs 2 = rcV ⟨ra, rb, rc, rd⟩ := (hD.facts 2 (by omega)).2.2.2
  have p3 : vs 3 = imgV sk s1 s2 s3 s4 (.slice sA sn sc) := (hD.facts 3 (by omega)).2.2.2
  have p4 : vs 4 = rcV (boundsOf sk s1 s2 s3 s4) := (hD.facts 4 (by omega)).2.2.2
  have p5 : vs 5 = iv sx := (hD.facts 5 (by omega)).2.2.2
  have p6 : vs 6 = iv sy := (hD.facts 6 (by omega)).2.2.2
  have p7 : vs 7 = imgV mk m1 m2 m3 m4 (.slice mA mn mc) := (hD.facts 7 (by omega)).2.2.2
  have p8 : vs 8 = rcV (boundsOf mk m1 m2 m3 m4) := (hD.facts 8 (by omega)).2.2.2
  have p9 : vs 9 = iv mx := (hD.facts 9 (by omega)).2.2.2
  have p10 : vs 10 = iv my := (hD.facts 10 (by omega)).2.2.2
  have p11 : vs 11 = .tuple #[rcV C, ptV px py, ptV qx qy] := (hD.facts 11 (by omega)).2.2.2
  have p12 : vs 12 = .tuple #[rcV C, ptV px py, ptV qx qy] := (hD.facts 12 (by omega)).2.2.2
  have p13 : vs 13 = rcV C := (hD.facts 13 (by omega)).2.2.2
  have p14 : vs 14 = ptV px py := (hD.facts 14 (by omega)).2.2.2
  have p15 : vs 15 = ptV qx qy := (hD.facts 15 (by omega)).2.2.2
  obtain ⟨p16, q16, b16⟩ : vs 16 = .pointer (some ⟨lo 16, 0, none⟩) ∧ hi 16 = lo 16 + 1 ∧ Blk W10 (lo 16) 28 #[iv 0, iv 0, iv 0, iv 0] := (hD.facts 16 (by omega)).2.2.2
  have l16 := (hD.facts 16 (by omega)).1
  obtain ⟨p17, q17, b17⟩ : vs 17 = .pointer (some ⟨lo 17, 0, none⟩) ∧ hi 17 = lo 17 + 1 ∧ Blk W10 (lo 17) 34 #[iv 0, iv 0] := (hD.facts 17 (by omega)).2.2.2
  have l17 := (hD.facts 17 (by omega)).1
  obtain ⟨p18, q18, b18⟩ : vs 18 = .pointer (some ⟨lo 18, 0, none⟩) ∧ hi 18 = lo 18 + 1 ∧ Blk W10 (lo 18) 34 #[iv 0, iv 0] := (hD.facts 18 (by omega)).2.2.2
  have l18 := (hD.facts 18 (by omega)).1
  have d16_17 : lo 16 ≠ lo 17 := by have := hD.apart 16 17 (by omega) (by omega) (by omega); omega
  have d16_18 : lo 16 ≠ lo 18 := by have := hD.apart 16 18 (by omega) (by omega) (by omega); omega
  have d17_18 : lo 17 ≠ lo 18 := by have := hD.apart 17 18 (by omega) (by omega) (by omega); omega
  simp only [p0, p1, p2, p3, p4, p5, p6, p7, p8, p9, p10, p11, p12, p13, p14, p15, p16, p17, p18]
  clear p0 p1 p2 p3 p4 p5 p6 p7 p8 p9 p10 p11 p12 p13 p14 p15 p16 p17 p18
  have hW10 := hD.bel
  generalize lo 16 = g16 at *
  generalize lo 17 = g17 at *
  generalize lo 18 = g18 at *
  clear hD q16 q17 q18 lo hi vs
  have w16 := b16.cells4
  have w17 := b17.cells2
  have w18 := b18.cells2
  have z10 : W9.heap.size ≤ W10.heap.size := hW10.size
  have z16 := b16.lt
  have z17 := b17.lt
  have z18 := b18.lt
  have y16 : W9.heap.size ≤ g16 := l16
  have y17 : W9.heap.size ≤ g17 := l17
  have y18 : W9.heap.size ≤ g18 := l18
  clear l16 l17 l18
  go_wp2_with fail
  have B16 := hid (((b16.set4_ (iv C.a) (iv C.b) (iv C.c) (iv C.d)).far2 d16_17 (iv px) (iv py)).far2 d16_18 (iv qx) (iv qy))
  have B17 := hid (((b17.far4 (Ne.symm d16_17) (iv C.a) (iv C.b) (iv C.c) (iv C.d)).set2_ (iv px) (iv py)).far2 d17_18 (iv qx) (iv qy))
  have B18 := hid (((b18.far4 (Ne.symm d16_18) (iv C.a) (iv C.b) (iv C.c) (iv C.d)).far2 (Ne.symm d17_18) (iv px) (iv py)).set2_ (iv qx) (iv qy))
  have hs10 : Below W9.heap.size W9 W10 := ⟨hW10.os, hW10.tape, hW10.output, hW10.size, hW10.block⟩
  have b911 : Below W9.heap.size W9 (set2 (set2 (set4 W10 g16 (iv C.a) (iv C.b) (iv C.c) (iv C.d)) g17 (iv px) (iv py)) g18 (iv qx) (iv qy)) := below2 (below2 (below4 hs10 y16 _ _ _ _) y17 _ _) y18 _ _
  change Calls _ _ _ (set2 (set2 (set4 W10 g16 (iv C.a) (iv C.b) (iv C.c) (iv C.d)) g17 (iv px) (iv py)) g18 (iv qx) (iv qy)) _
  clear hW10 hs10 b16 b17 b18 w16 w17 w18 z16 z17 z18 y16 y17 y18 d16_17 d16_18 d17_18
  generalize set2 (set2 (set4 W10 g16 (iv C.a) (iv C.b) (iv C.c) (iv C.d)) g17 (iv px) (iv py)) g18 (iv qx) (iv qy) = W11 at *
  have z11 : W9.heap.size ≤ W11.heap.size := b911.size
  have D11 := hid (D9.out.keep b911)
  have R11 := hid (R9.out.keep b911)
  have S11 := hid (S9.out.keep b911)
  have M11 := hid (M9.out.keep b911)
  have bw11 := bw9.trans (b911.mono (by omega))
  clear b911 bw9 D9 R9 S9 M9 A9
  refine (empty_any C.a C.b C.c C.d _).mono ?_
  rintro e w12 ⟨rfl, hb12⟩
  have D12 := hid (D11.out.keep hb12)
  have R12 := hid (R11.out.keep hb12)
  have S12 := hid (S11.out.keep hb12)
  have M12 := hid (M11.out.keep hb12)
  have B16 := hid (B16.out.keep hb12)
  have B17 := hid (B17.out.keep hb12)
  have B18 := hid (B18.out.keep hb12)
  have bw12 := bw11.trans (hb12.mono (by omega))
  have z12 := hb12.size
  clear hb12 bw11 D11 R11 S11 M11
  cases hE : emptyB C.a C.b C.c C.d with
  | true =>
    go_wp2_with fail
    go_returns; exact ⟨rfl, by (repeat' (first | (with_reducible exact Below.refl _ _) | (with_reducible assumption) | (with_reducible refine drewN_below ?_ _) | (with_reducible refine Below.drew ?_) | (with_reducible refine Below.alloc ?_ ?_ _) | (with_reducible refine Below.setCell ?_ ?_ _) | (with_reducible refine below_via (by with_reducible assumption) ?_ ?_) | go_size))⟩
  | false =>
  go_wp2_with fail
  have hV : ValidP 0 d1 d2 d3 d4 dn ds := by first | exact HV.out rfl | exact HV.out trivial
  have hS : ValidP sk s1 s2 s3 s4 sn ss := by first | exact SV.out rfl | exact SV.out trivial
  have hM : ValidP mk m1 m2 m3 m4 mn ms := by first | exact MV.out rfl | exact MV.out trivial
  obtain ⟨v1, v2, v3, v4, v5, v6, v7⟩ := hV.2.2.2.2 (by omega)
  obtain ⟨Wd, hWd⟩ : ∃ Wd : Nat, d3 = d1 + (Wd : Int) := ⟨(d3 - d1).toNat, by omega⟩
  obtain ⟨H, hH⟩ : ∃ H : Nat, d4 = d2 + (H : Int) := ⟨(d4 - d2).toNat, by omega⟩
  have hN : dn = 4 * (H * Wd) := by
    have e1 : d3 - d1 = (Wd : Int) := by omega
    have e2 : d4 - d2 = (H : Int) := by omega
    rw [e1, e2, show sizeI 0 = 4 from rfl] at v7
    have e3 : ((4 * (H * Wd) : Nat) : Int) = (Wd : Int) * (H : Int) * 4 := by
      simp only [Int.natCast_mul]
      rw [Int.mul_comm (Wd : Int) (H : Int), Int.mul_comm _ (4 : Int)]
      rfl
    omega
  have hCi : Hid (C.in_ 1000) := by rw [HC.out]; exact Rc.common_in _ (by omega) (Rc.common_in _ (by omega) (Rc.common_in _ (by omega) hr.out))
  obtain rfl := HSK.out
  obtain rfl := HMK.out
  obtain ⟨f, SP, MP, Res, hcD, hcS, hcM, hsS, hsM, hcl, hdr, hres⟩ := coreGrayM d1 d2 d3 d4 dA dn dc ds ra rb rc rd s1 s2 s3 s4 sA sn sc ss sx sy m1 m2 m3 m4 mA mn mc ms mx my w12 (HDB.out.keep bw12) (HSB.out.keep bw12) (HMB.out.keep bw12) h1 h2 h3 hV hS hM HIN.out hsx hsy hmx hmy C HC.out hE Wd H hWd hH
  rw [← HPX.out, ← HPY.out, ← HQX.out, ← HQY.out] at hres
  have KD := hid hcD; have KS := hid hcS; have KM := hid hcM; have KSS := hid hsS; have KSM := hid hsM; have KCL := hid hcl; have KDR := hid hdr; have HRES := hid hres; have HEE : Hid (C.emp = false) := hE
  have HP : Hid ((-4000 ≤ px ∧ px ≤ 4000) ∧ (-4000 ≤ py ∧ py ≤ 4000) ∧ (-4000 ≤ qx ∧ qx ≤ 4000) ∧ (-4000 ≤ qy ∧ qy ≤ 4000)) := by
    obtain ⟨⟨a1, a2⟩, ⟨b1, b2⟩, _⟩ := hCi.out
    obtain ⟨⟨a3, a4⟩, ⟨b3, b4⟩, _⟩ := HIN.out
    rw [HPX.out, HPY.out, HQX.out, HQY.out]
    exact ⟨by omega, by omega, by omega, by omega⟩
  have HWd := hid hWd; have HH := hid hH; have HN := hid hN
  have K1 := hid (show (-1000 ≤ d1 ∧ d1 ≤ 1000) ∧ (-1000 ≤ d2 ∧ d2 ≤ 1000) ∧ Wd ≤ 1000 ∧ H ≤ 1000 from ⟨by omega, by omega, by omega, by omega⟩)
  have HDB9 := hid (HDB.out.keep bw12); have HSB9 := hid (HSB.out.keep bw12); have HMB9 := hid (HMB.out.keep bw12)
  clear hV hS hM v1 v2 v3 v4 v5 v6 v7 hWd hH hN hcD hcS hcM hsS hsM hcl hdr hres hE
  refine Plan.wp_region_stepsg 15 [] [(fun v _ => v = imgV 0 d1 d2 d3 d4 (.slice dA dn dc)), (fun v _ => v = imgV 0 d1 d2 d3 d4 (.slice dA dn dc)), (fun v _ => v = fourV ra rb rc rd), (fun v _ => v = imgV 3 s1 s2 s3 s4 (.slice sA sn sc)), (fun v _ => v = iv sx), (fun v _ => v = iv sy), (fun v _ => v = imgV 2 m1 m2 m3 m4 (.slice mA mn mc)), (fun v _ => v = iv mx), (fun v _ => v = iv my), (DrewV dn Res), (fun v _ => v = rcV C), (fun v _ => v = ptV px py), (fun v _ => v = ptV qx qy), (fun v _ => v = imgV 3 s1 s2 s3 s4 (.slice sA sn sc)), (fun v _ => v = .bool true)] [] ⟨Plan.st_const _, Plan.st_const _, Plan.st_const _, Plan.st_const _, Plan.st_const _, Plan.st_const _, Plan.st_const _, Plan.st_const _, Plan.st_const _, (drewV_st), Plan.st_const _, Plan.st_const _, Plan.st_const _, Plan.st_const _, Plan.st_const _, trivial⟩ (by kernel_rfl) (by kernel_rfl) (fun _ _ _ _ _ h => h) ?_ ?_
  · refine ⟨?_, ?_, ?_, ?_, ?_, ?_, ?_, ?_, ?_, ?_, ?_, ?_, ?_, ?_, ?_, trivial⟩
    · -- 0: Op.load 24 (Operand.tmp 8)
      intro a W hold hdep hb
      have e8 : a.tmps[8]?.getD undef = .pointer (some ⟨w.heap.size, 0, none⟩) := Plan.ev (hold 8 (by kernel_rfl))
      have CC := ((D12.out).drew.keep hb).cells6
      clear hold hdep
      exact Plan.stepg_pure rfl rfl (imgV 0 d1 d2 d3 d4 (.slice dA dn dc)) (by go_simp <;> exact IntWalk.i64_in _ (by omega)) rfl
    · -- 1: Op.load 24 (Operand.tmp 8)
      intro a W hold hdep hb
      have e8 : a.tmps[8]?.getD undef = .pointer (some ⟨w.heap.size, 0, none⟩) := Plan.ev (hold 8 (by kernel_rfl))
      have CC := ((D12.out).drew.keep hb).cells6
      clear hold hdep
      exact Plan.stepg_pure rfl rfl (imgV 0 d1 d2 d3 d4 (.slice dA dn dc)) (by go_simp <;> exact IntWalk.i64_in _ (by omega)) rfl
    · -- 2: Op.load 25 (Operand.tmp 9)
      intro a W hold hdep hb
      have e9 : a.tmps[9]?.getD undef = .pointer (some ⟨w.heap.size + 1, 0, none⟩) := Plan.ev (hold 9 (by kernel_rfl))
      have CC := ((R12.out).drew.keep hb).cells4.1
      clear hold hdep
      exact Plan.stepg_pure rfl rfl (fourV ra rb rc rd) (by go_simp <;> exact IntWalk.i64_in _ (by omega)) rfl
    · -- 3: Op.load 24 (Operand.tmp 10)
      intro a W hold hdep hb
      have e10 : a.tmps[10]?.getD undef = .pointer (some ⟨w.heap.size + 1 + 1, 0, none⟩) := Plan.ev (hold 10 (by kernel_rfl))
      have CC := ((S12.out).drew.keep hb).cells6
      clear hold hdep
      exact Plan.stepg_pure rfl rfl (imgV 3 s1 s2 s3 s4 (.slice sA sn sc)) (by go_simp <;> exact IntWalk.i64_in _ (by omega)) rfl
    · -- 4: Op.move (Operand.tmp 3)
      intro a W hold hdep hb
      have e3 : a.tmps[3]?.getD undef = iv sx := Plan.ev (hold 3 (by kernel_rfl))
      clear hold hdep
      exact Plan.stepg_pure rfl rfl (iv sx) (by go_simp <;> exact IntWalk.i64_in _ (by omega)) rfl
    · -- 5: Op.move (Operand.tmp 4)
      intro a W hold hdep hb
      have e4 : a.tmps[4]?.getD undef = iv sy := Plan.ev (hold 4 (by kernel_rfl))
      clear hold hdep
      exact Plan.stepg_pure rfl rfl (iv sy) (by go_simp <;> exact IntWalk.i64_in _ (by omega)) rfl
    · -- 6: Op.load 24 (Operand.tmp 13)
      intro a W hold hdep hb
      have e13 : a.tmps[13]?.getD undef = .pointer (some ⟨w.heap.size + 1 + 1 + 1, 0, none⟩) := Plan.ev (hold 13 (by kernel_rfl))
      have CC := ((M12.out).drew.keep hb).cells6
      clear hold hdep
      exact Plan.stepg_pure rfl rfl (imgV 2 m1 m2 m3 m4 (.slice mA mn mc)) (by go_simp <;> exact IntWalk.i64_in _ (by omega)) rfl
    · -- 7: Op.move (Operand.tmp 6)
      intro a W hold hdep hb
      have e6 : a.tmps[6]?.getD undef = iv mx := Plan.ev (hold 6 (by kernel_rfl))
      clear hold hdep
      exact Plan.stepg_pure rfl rfl (iv mx) (by go_simp <;> exact IntWalk.i64_in _ (by omega)) rfl
    · -- 8: Op.move (Operand.tmp 7)
      intro a W hold hdep hb
      have e7 : a.tmps[7]?.getD undef = iv my := Plan.ev (hold 7 (by kernel_rfl))
      clear hold hdep
      exact Plan.stepg_pure rfl rfl (iv my) (by go_simp <;> exact IntWalk.i64_in _ (by omega)) rfl
    · -- 9: Op.call { callee := Callee.value (Operand.func 38), args := #[Operand.
      intro a W hold hdep hb
      have e100 : a.tmps[100]?.getD undef = imgV 0 d1 d2 d3 d4 (.slice dA dn dc) := Plan.ev (Plan.dep_g (by rfl) (hdep 1 (by kernel_rfl)))
      have e101 : a.tmps[101]?.getD undef = fourV ra rb rc rd := Plan.ev (Plan.dep_g (by rfl) (hdep 2 (by kernel_rfl)))
      have e102 : a.tmps[102]?.getD undef = imgV 3 s1 s2 s3 s4 (.slice sA sn sc) := Plan.ev (Plan.dep_g (by rfl) (hdep 3 (by kernel_rfl)))
      have e103 : a.tmps[103]?.getD undef = iv sx := Plan.ev (Plan.dep_g (by rfl) (hdep 4 (by kernel_rfl)))
      have e104 : a.tmps[104]?.getD undef = iv sy := Plan.ev (Plan.dep_g (by rfl) (hdep 5 (by kernel_rfl)))
      have e105 : a.tmps[105]?.getD undef = imgV 2 m1 m2 m3 m4 (.slice mA mn mc) := Plan.ev (Plan.dep_g (by rfl) (hdep 6 (by kernel_rfl)))
      have e106 : a.tmps[106]?.getD undef = iv mx := Plan.ev (Plan.dep_g (by rfl) (hdep 7 (by kernel_rfl)))
      have e107 : a.tmps[107]?.getD undef = iv my := Plan.ev (Plan.dep_g (by rfl) (hdep 8 (by kernel_rfl)))
      clear hold hdep
      exact Plan.stepg_call rfl rfl (f := 38) (args := #[imgV 0 d1 d2 d3 d4 (.slice dA dn dc), fourV ra rb rc rd, imgV 3 s1 s2 s3 s4 (.slice sA sn sc), iv sx, iv sy, imgV 2 m1 m2 m3 m4 (.slice mA mn mc), iv mx, iv my]) (by go_simp) ((impl38_any d1 d2 d3 d4 dA dn dc ds Wd H f ⟨ra, rb, rc, rd⟩ 3 s1 s2 s3 s4 sA sn sc ss sx sy 2 m1 m2 m3 m4 mA mn mc ms mx my SP MP C Res W (HDB9.out.keep (stay_below hb)) (HSB9.out.keep (stay_below hb)) (HMB9.out.keep (stay_below hb)) h1 h2 h3 KD.out KS.out KM.out KSS.out KSM.out KCL.out HEE.out KDR.out).mono fun _ _ ⟨v, he, hb, h⟩ => ⟨v, he, hb, h⟩)
    · -- 10: Op.load 28 (Operand.tmp 19)
      intro a W hold hdep hb
      have e19 : a.tmps[19]?.getD undef = .pointer (some ⟨g16, 0, none⟩) := Plan.ev (hold 19 (by kernel_rfl))
      have CC := ((B16.out).drew.keep hb).cells4.1
      clear hold hdep
      exact Plan.stepg_pure rfl rfl (rcV C) (by go_simp <;> exact IntWalk.i64_in _ (by omega)) rfl
    · -- 11: Op.load 34 (Operand.tmp 20)
      intro a W hold hdep hb
      have e20 : a.tmps[20]?.getD undef = .pointer (some ⟨g17, 0, none⟩) := Plan.ev (hold 20 (by kernel_rfl))
      have CC := ((B17.out).drew.keep hb).cells2
      clear hold hdep
      exact Plan.stepg_pure rfl rfl (ptV px py) (by go_simp <;> exact IntWalk.i64_in _ (by omega)) rfl
    · -- 12: Op.load 34 (Operand.tmp 21)
      intro a W hold hdep hb
      have e21 : a.tmps[21]?.getD undef = .pointer (some ⟨g18, 0, none⟩) := Plan.ev (hold 21 (by kernel_rfl))
      have CC := ((B18.out).drew.keep hb).cells2
      clear hold hdep
      exact Plan.stepg_pure rfl rfl (ptV qx qy) (by go_simp <;> exact IntWalk.i64_in _ (by omega)) rfl
    · -- 13: Op.load 24 (Operand.tmp 10)
      intro a W hold hdep hb
      have e10 : a.tmps[10]?.getD undef = .pointer (some ⟨w.heap.size + 1 + 1, 0, none⟩) := Plan.ev (hold 10 (by kernel_rfl))
      have CC := ((S12.out).drew.keep hb).cells6
      clear hold hdep
      exact Plan.stepg_pure rfl rfl (imgV 3 s1 s2 s3 s4 (.slice sA sn sc)) (by go_simp <;> exact IntWalk.i64_in _ (by omega)) rfl
    · -- 14: Op.call { callee := Callee.value (Operand.func 37), args := #[Operand.
      intro a W hold hdep hb
      have e99 : a.tmps[99]?.getD undef = imgV 0 d1 d2 d3 d4 (.slice dA dn dc) := Plan.ev (Plan.dep_g (by rfl) (hdep 0 (by kernel_rfl)))
      have p108 : (DrewV dn Res) (a.tmps.getD 108 undef) W := Plan.dep_g (by rfl) (hdep 9 (by kernel_rfl))
      have e109 : a.tmps[109]?.getD undef = rcV C := Plan.ev (Plan.dep_g (by rfl) (hdep 10 (by kernel_rfl)))
      have e110 : a.tmps[110]?.getD undef = ptV px py := Plan.ev (Plan.dep_g (by rfl) (hdep 11 (by kernel_rfl)))
      have e111 : a.tmps[111]?.getD undef = ptV qx qy := Plan.ev (Plan.dep_g (by rfl) (hdep 12 (by kernel_rfl)))
      have e112 : a.tmps[112]?.getD undef = imgV 3 s1 s2 s3 s4 (.slice sA sn sc) := Plan.ev (Plan.dep_g (by rfl) (hdep 13 (by kernel_rfl)))
      have e13 : a.tmps[13]?.getD undef = .pointer (some ⟨w.heap.size + 1 + 1 + 1, 0, none⟩) := Plan.ev (hold 13 (by kernel_rfl))
      clear hold hdep
      obtain ⟨gp, c, f2, hv, hrow, hres, hc⟩ := p108
      have g1 := Plan.ev hv
      clear hv
      exact Plan.stepg_call rfl rfl (f := 37) (args := #[imgV 0 d1 d2 d3 d4 (.slice dA dn dc), .slice (some ⟨gp, 0, none⟩) dn c, rcV C, ptV px py, ptV qx qy, imgV 3 s1 s2 s3 s4 (.slice sA sn sc), .pointer (some ⟨w.heap.size + 1 + 1 + 1, 0, none⟩), iv 0]) (by go_simp) ((drawn_mask d1 d2 d3 d4 Wd H dA dn dc ds (some ⟨gp, 0, none⟩) c (listOf f2 dn) C px py qx qy 3 s1 s2 s3 s4 sA sn sc (w.heap.size + 1 + 1 + 1) 2 m1 m2 m3 m4 mA mn mc 0 W (HDB9.out.keep (stay_below hb)) (byteSlM_row hrow hc (HRES.out f2 hres).1) HWd.out HH.out K1.out.1 K1.out.2.1 K1.out.2.2.1 K1.out.2.2.2 HN.out hCi.out HP.out.1 HP.out.2.1 HP.out.2.2.1 HP.out.2.2.2 (Or.inl rfl) ((M12.out).drew.keep hb) ((HRES.out f2 hres).2.keep (stay_below hb))).mono fun _ _ ⟨he, hb⟩ => ⟨_, he, hb, rfl⟩)
  intro vs W13 lo hi hD
  change wpList _ _ _ _ { tmps := (Array.setIfInBounds (Array.setIfInBounds (Array.setIfInBounds (Array.setIfInBounds (Array.setIfInBounds (Array.setIfInBounds (Array.setIfInBounds (Array.setIfInBounds (Array.setIfInBounds (Array.setIfInBounds (Array.setIfInBounds (Array.setIfInBounds (Array.setIfInBounds (Array.setIfInBounds (Array.setIfInBounds _ 99 (vs 0)) 100 (vs 1)) 101 (vs 2)) 102 (vs 3)) 103 (vs 4)) 104 (vs 5)) 105 (vs 6)) 106 (vs 7)) 107 (vs 8)) 108 (vs 9)) 109 (vs 10)) 110 (vs 11)) 111 (vs 12)) 112 (vs 13)) 113 (vs 14)), defers := _ } _
  simp only [Plan.putAll_zero, List.setIfInBounds_toArray, List.set_cons_zero, List.set_cons_succ, List.drop_succ_cons, List.drop_zero]
  have p0 : vs 0 = imgV 0 d1 d2 d3 d4 (.slice dA dn dc) := (hD.facts 0 (by omega)).2.2.2
  have p1 : vs 1 = imgV 0 d1 d2 d3 d4 (.slice dA dn dc) := (hD.facts 1 (by omega)).2.2.2
  have p2 : vs 2 = fourV ra rb rc rd := (hD.facts 2 (by omega)).2.2.2
  have p3 : vs 3 = imgV 3 s1 s2 s3 s4 (.slice sA sn sc) := (hD.facts 3 (by omega)).2.2.2
  have p4 : vs 4 = iv sx := (hD.facts 4 (by omega)).2.2.2
  have p5 : vs 5 = iv sy := (hD.facts 5 (by omega)).2.2.2
  have p6 : vs 6 = imgV 2 m1 m2 m3 m4 (.slice mA mn mc) := (hD.facts 6 (by omega)).2.2.2
  have p7 : vs 7 = iv mx := (hD.facts 7 (by omega)).2.2.2
  have p8 : vs 8 = iv my := (hD.facts 8 (by omega)).2.2.2
  have u9 : (DrewV dn Res) (vs 9) W13 := (hD.facts 9 (by omega)).2.2.2
  have p10 : vs 10 = rcV C := (hD.facts 10 (by omega)).2.2.2
  have p11 : vs 11 = ptV px py := (hD.facts 11 (by omega)).2.2.2
  have p12 : vs 12 = ptV qx qy := (hD.facts 12 (by omega)).2.2.2
  have p13 : vs 13 = imgV 3 s1 s2 s3 s4 (.slice sA sn sc) := (hD.facts 13 (by omega)).2.2.2
  have p14 : vs 14 = .bool true := (hD.facts 14 (by omega)).2.2.2
  simp only [p0, p1, p2, p3, p4, p5, p6, p7, p8, p10, p11, p12, p13, p14]
  clear p0 p1 p2 p3 p4 p5 p6 p7 p8 p10 p11 p12 p13 p14
  have hW13 := hD.bel
  generalize vs 9 = V9 at *
  clear hD  lo hi vs
  have bw13 : Below w.heap.size w W13 := bw12.trans ((stay_below hW13).mono (by omega))
  go_wp2_with fail
  go_returns
  exact ⟨rfl, by (repeat' (first | (with_reducible exact Below.refl _ _) | (with_reducible assumption) | (with_reducible refine drewN_below ?_ _) | (with_reducible refine Below.drew ?_) | (with_reducible refine Below.alloc ?_ ?_ _) | (with_reducible refine Below.setCell ?_ ?_ _) | (with_reducible refine below_via (by with_reducible assumption) ?_ ?_) | go_size))⟩

theorem law10 (dk d1 d2 d3 d4 : Int) (dA : Option Addr) (dn dc : Nat) (ds : List Int) (ra rb rc rd : Int) (sk s1 s2 s3 s4 : Int) (sA : Option Addr) (sn sc : Nat) (ss : List Int) (sx sy : Int) (mk m1 m2 m3 m4 : Int) (mA : Option Addr) (mn mc : Nat) (ms : List Int) (mx my : Int) (w : World)
    (hdb : ByteSl w dA dn dc ds) (hsb : ByteSl w sA sn sc ss) (hmb : ByteSl w mA mn mc ms) :
    Calls Try.prog 10 #[imgV dk d1 d2 d3 d4 (.slice dA dn dc), fourV ra rb rc rd, imgV sk s1 s2 s3 s4 (.slice sA sn sc), iv sx, iv sy, imgV mk m1 m2 m3 m4 (.slice mA mn mc), iv mx, iv my] w fun e w' => e = .returned (.bool true) ∧ Below w.heap.size w w' := by
  by_cases h : dn ≤ 2147483647 ∧ sn ≤ 2147483647 ∧ mn ≤ 2147483647
  · exact fit10 dk d1 d2 d3 d4 dA dn dc ds ra rb rc rd sk s1 s2 s3 s4 sA sn sc ss sx sy mk m1 m2 m3 m4 mA mn mc ms mx my w hdb hsb hmb h.1 h.2.1 h.2.2
  · exact unfit10 dk d1 d2 d3 d4 dA dn dc ds ra rb rc rd sk s1 s2 s3 s4 sA sn sc ss sx sy mk m1 m2 m3 m4 mA mn mc ms mx my w hdb hsb hmb h

set_option maxRecDepth 100000 in
theorem lifted10 (os : Os) (started : os.Started) (H : Type) (enc : TypeId × Value → H) :
    ReturnsInHanded {} Try.checked os 10 .any (Rows.fnGrayMaskOverSpec.pre6 enc Try.prog Try.f10 Rows.fnGrayMaskOverRow.domain false) (Rows.fnGrayMaskOverSpec.post enc Try.prog Try.f10 false true false false) := by
  refine returnsInHanded_of_change_sized (C := Try.checked) own started (by kernel_rfl) Try.func10
    (ChangeSpec.witness6 (enc := enc) (C := Try.checked) false ⟨#[], #[.agg #[.int .i64 0, .int .i64 0, .int .i64 0, .int .i64 0, .int .i64 0, .slice none 0 0], .agg #[.int .i64 0, .int .i64 0, .int .i64 0, .int .i64 0], .agg #[.int .i64 0, .int .i64 0, .int .i64 0, .int .i64 0, .int .i64 0, .slice none 0 0], .int .i64 0, .int .i64 0, .agg #[.int .i64 0, .int .i64 0, .int .i64 0, .int .i64 0, .int .i64 0, .slice none 0 0], .int .i64 0, .int .i64 0], []⟩ 8 (by kernel_rfl) (by kernel_rfl) (by kernel_rfl) (by kernel_rfl)) ?_
  intro W base args ds gs before hval0 hW hcnd hsz0 _
  have hval : ∀ (j : Nat) t v, Try.f10.params[j]? = some t → args[j]? = some v → Value.okWide Try.prog W .any base t v := hval0
  have hsz : (DataW.weightsEach Try.prog (Try.f10.params.toList ++ Rows.fnGrayMaskOverSpec.plain.varTypes Try.prog) (ds ++ gs)).all (· ≤ reachBytes) = true := hsz0
  have hW' := hW
  obtain ⟨p, q, hA0, hV, rfl, hfz, hnd⟩ := hW
  have hA : DataW.TrodAll enc Try.prog W 0 (fun _ => true) true Try.f10.params.toList args.toList ds p := hA0
  rw [Try.params10] at hA hval hsz
  obtain ⟨v0, vs0, d0, ds0, p0, q0, hargs, rfl, rfl, h0, r0⟩ := trodAll_cons hA
  obtain ⟨v1, vs1, d1, ds1, p1, q1, rfl, rfl, rfl, h1, r1⟩ := trodAll_cons r0
  obtain ⟨v2, vs2, d2, ds2, p2, q2, rfl, rfl, rfl, h2, r2⟩ := trodAll_cons r1
  obtain ⟨v3, vs3, d3, ds3, p3, q3, rfl, rfl, rfl, h3, r3⟩ := trodAll_cons r2
  obtain ⟨v4, vs4, d4, ds4, p4, q4, rfl, rfl, rfl, h4, r4⟩ := trodAll_cons r3
  obtain ⟨v5, vs5, d5, ds5, p5, q5, rfl, rfl, rfl, h5, r5⟩ := trodAll_cons r4
  obtain ⟨v6, vs6, d6, ds6, p6, q6, rfl, rfl, rfl, h6, r6⟩ := trodAll_cons r5
  obtain ⟨v7, vs7, d7, ds7, p7, q7, rfl, rfl, rfl, h7, r7⟩ := trodAll_cons r6
  obtain ⟨rfl, rfl, rfl⟩ := trodAll_nil r7
  obtain rfl : args = #[v0, v1, v2, v3, v4, v5, v6, v7] := by cases args; simp_all
  obtain ⟨rfl, rfl⟩ := trodVars_none hV
  have lt : ∀ {t : TypeId} {v : Value} {d : DataW H} {p : List MemPlace}, DataW.Trod enc Try.prog W 0 (fun _ => true) true t v d p → ∀ x ∈ p, x.block < W.heap.size := by
    rintro t v d p ⟨m, hm⟩
    exact DataW.trod_lt m _ _ _ hm
  obtain ⟨dk, i1, i2, i3, i4, dA, dn, dc, dbs, rfl, B0⟩ := open_img 0 (hval 0 24 v0 rfl rfl) h0 hsz rfl rfl
  obtain ⟨ra, rb, rc, rd, rfl⟩ := open_four (hval 1 25 v1 rfl rfl) h1
  obtain ⟨sk, s1, s2, s3, s4, sA, sn, sc, ss, rfl, B2⟩ := open_img 2 (hval 2 24 v2 rfl rfl) h2 hsz rfl rfl
  obtain ⟨sx, rfl, rfl, rfl, w3⟩ := open_int Try.underlying3 (hval 3 3 v3 rfl rfl) h3
  obtain ⟨sy, rfl, rfl, rfl, w4⟩ := open_int Try.underlying3 (hval 4 3 v4 rfl rfl) h4
  obtain ⟨mk, m1, m2, m3, m4, mA, mn, mc, ms, rfl, BM⟩ := open_img 5 (hval 5 24 v5 rfl rfl) h5 hsz rfl rfl
  obtain ⟨mx, rfl, rfl, rfl, w6⟩ := open_int Try.underlying3 (hval 6 3 v6 rfl rfl) h6
  obtain ⟨my, rfl, rfl, rfl, w7⟩ := open_int Try.underlying3 (hval 7 3 v7 rfl rfl) h7
  clear hA0 hval0 hsz0
  refine (law10 dk i1 i2 i3 i4 dA dn dc dbs ra rb rc rd sk s1 s2 s3 s4 sA sn sc ss sx sy mk m1 m2 m3 m4 mA mn mc ms mx my W B0 B2 BM).mono fun e W' ⟨he, bel⟩ => ?_
  subst he
  exact ⟨_, rfl, _, _, _, [], _, [], hW', trodAll_mk1 (shut_bool Try.underlying4 _),
    (trodAll_cons_mk (Below.trod laidOut (by kernel_rfl) (of_decide_eq_true (by kernel_rfl)) h0 bel (lt h0)) (trodAll_cons_mk (Below.trod laidOut (by kernel_rfl) (of_decide_eq_true (by kernel_rfl)) h1 bel (lt h1)) (trodAll_cons_mk (Below.trod laidOut (by kernel_rfl) (of_decide_eq_true (by kernel_rfl)) h2 bel (lt h2)) (trodAll_cons_mk (shut_int Try.underlying3 w3) (trodAll_cons_mk (shut_int Try.underlying3 w4) (trodAll_cons_mk (Below.trod laidOut (by kernel_rfl) (of_decide_eq_true (by kernel_rfl)) h5 bel (lt h5)) (trodAll_cons_mk (shut_int Try.underlying3 w6) (trodAll_cons_mk (shut_int Try.underlying3 w7) trodAll_mk0)))))))),
    rfl, bel.frame _, fun h => by cases h⟩

theorem over10 : Rows.fnGrayMaskOverRow.holds Try.pinned (OpenSpec.ofChange Rows.fnGrayMaskOverSpec) :=
  OpenClaim.holds_of_wide 10 Try.f10 rfl rfl rfl rfl rfl rfl rfl ⟨rfl, rfl, rfl, rfl, rfl⟩ rfl rfl rfl rfl rfl (by kernel_rfl) Try.func10 (by kernel_rfl)
    (of_decide_eq_true (by kernel_rfl)) (by unfold Func.isWrapper; first | (rw [if_pos (by decide +kernel)]; kernel_rfl) | (rw [if_neg (by decide +kernel)]; exact ⟨rfl, rfl⟩))
    (fun os started H enc _ => lifted10 os started H enc)

/-- The statement. -/
theorem fnGrayMaskOver_proved : Rows.FnGrayMaskOverSaid := over10
#print axioms fnGrayMaskOver_proved
end Go.Proofs.Ytlnfcjaempojgaa
