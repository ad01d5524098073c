/- What is to be shown of the road for glyphs. Written by mk_QG.py. -/
import Derived.Test.YtlnfcjaempojgaaL5
import Derived.Test.YtlnfcjaempojgaaRGlyphM
set_option linter.unusedVariables false
namespace Go.Proofs.Ytlnfcjaempojgaa
open Go.RowKit

theorem assertG103 (g : Nat) (w : World) : (Instr.typeAssert (.iface 103 (.pointer (some ⟨g, 0, none⟩))) 79 103 false).run Try.prog w = .ok (.pointer (some ⟨g, 0, none⟩)) w := by kernel_rfl
theorem assertG99 (g : Nat) (w : World) : (Instr.typeAssert (.iface 99 (.pointer (some ⟨g, 0, none⟩))) 79 99 false).run Try.prog w = .ok (.pointer (some ⟨g, 0, none⟩)) w := by kernel_rfl

set_option maxRecDepth 20000 in
set_option maxHeartbeats 2000000 in
theorem fn94_any (gD gp cap n : Nat) (d1 d2 d3 d4 : Int) (Wd H : Nat) (f : Nat → Int) (gU : Nat) (U : Nat → Int) (gS gq scap m : Nat) (s1 s2 s3 s4 : Int) (Ws Hs : Nat) (fs : Nat → Int) (ca ra ce re ua va : Nat) (px py : Int) (w : World)
    (hD : DstAt w gD gp cap n d1 d2 d3 d4 Wd H f) (hUb : Blk w gU 129 #[.iface 122 (.agg #[.int .u16 (U 0), .int .u16 (U 1), .int .u16 (U 2), .int .u16 (U 3)])]) (hS : SrcAt 113 1 w gS gq scap m (s3 - s1) s1 s2 s3 s4 Ws Hs fs) (hne : gp ≠ gq)
    (h0 : ca < ce ∧ ra < re) (h1 : ce ≤ Wd) (h2 : re ≤ H) (h3 : ua + (ce - ca) ≤ Ws) (h4 : va + (re - ra) ≤ Hs)
    (rf : ∀ j, 0 ≤ f j ∧ f j ≤ 255) (rs : ∀ j, 0 ≤ fs j ∧ fs j ≤ 255) (rU : ∀ k, C16 (U k)) (hU : U 0 ≤ U 3 ∧ U 1 ≤ U 3 ∧ U 2 ≤ U 3) :
    Calls Try.prog 94 #[.pointer (some ⟨gD, 0, none⟩), rcV ⟨d1 + ca, d2 + ra, d1 + ce, d2 + re⟩, .iface 103 (.pointer (some ⟨gU, 0, none⟩)), ptV px py, .iface 99 (.pointer (some ⟨gS, 0, none⟩)), ptV (s1 + ua) (s2 + va)] w fun e w' =>
      (∃ v, e = .returned v) ∧ Only [gp] w w' ∧ ∃ f', PixRow w' gp cap n f' ∧ Painted Wd f (fun r c k => maskB (f (pos Wd r c k)) (U k) (U 3) (fs ((va + (r - ra)) * Ws + (ua + (c - ca))))) (inPart ca ra ce re) f' := by
  have HR : Hid (∀ W, Below w.heap.size w W → Calls Try.prog 95 #[.pointer (some ⟨gD, 0, none⟩), rcV ⟨d1 + ca, d2 + ra, d1 + ce, d2 + re⟩, .pointer (some ⟨gU, 0, none⟩), .pointer (some ⟨gS, 0, none⟩), ptV (s1 + ua) (s2 + va)] W fun e w' =>
      (∃ v, e = .returned v) ∧ Only [gp] W w' ∧ ∃ f', PixRow w' gp cap n f' ∧ Painted Wd f (fun r c k => maskB (f (pos Wd r c k)) (U k) (U 3) (fs ((va + (r - ra)) * Ws + (ua + (c - ca))))) (inPart ca ra ce re) f') := fun W hb =>
    drawGlyphOver_any gD gp cap n d1 d2 d3 d4 Wd H f gU U gS gq scap m s1 s2 s3 s4 Ws Hs fs ca ra ce re ua va W (hD.keep hb) (hUb.keep hb) (hS.keep hb) hne h0 h1 h2 h3 h4 rf rs rU hU
  clear hD hS hUb rf rs rU hU
  generalize (fun r c k => maskB (f (pos Wd r c k)) (U k) (U 3) (fs ((va + (r - ra)) * Ws + (ua + (c - ca))))) = nw at *
  go_enter Try.func94, Try.ntmps94
  go_wp2_with fail
  obtain ⟨W0, hW0⟩ : ∃ W : World, W = (((w.alloc (.cells #[iv (d1 + ca), iv (d2 + ra), iv (d1 + ce), iv (d2 + re)] 73)).alloc (.cells #[iv px, iv py] 71)).alloc (.cells #[iv (s1 + ua), iv (s2 + va)] 71)) := ⟨_, rfl⟩
  rw [← hW0]
  have B0 : Hid (Blk W0 (w.heap.size) 73 #[iv (d1 + ca), iv (d2 + ra), iv (d1 + ce), iv (d2 + re)]) := by rw [hW0]; exact Blk.alloc (Blk.alloc (Blk.new_at (W := w) (t := 73) (cs := #[iv (d1 + ca), iv (d2 + ra), iv (d1 + ce), iv (d2 + re)]) (by simp)) _) _
  have B1 : Hid (Blk W0 (w.heap.size + 1) 71 #[iv px, iv py]) := by rw [hW0]; exact Blk.alloc (Blk.new_at (W := (w.alloc (.cells #[iv (d1 + ca), iv (d2 + ra), iv (d1 + ce), iv (d2 + re)] 73))) (t := 71) (cs := #[iv px, iv py]) (by simp)) _
  have B2 : Hid (Blk W0 (w.heap.size + 1 + 1) 71 #[iv (s1 + ua), iv (s2 + va)]) := by rw [hW0]; exact Blk.new_at (W := ((w.alloc (.cells #[iv (d1 + ca), iv (d2 + ra), iv (d1 + ce), iv (d2 + re)] 73)).alloc (.cells #[iv px, iv py] 71))) (t := 71) (cs := #[iv (s1 + ua), iv (s2 + va)]) (by simp)
  have bW0 : Below w.heap.size w W0 := by rw [hW0]; go_grown
  have sW0 : W0.heap.size = w.heap.size + 3 := by rw [hW0]; simp
  have SW0 := hid sW0
  have zW0 : w.heap.size + 3 ≤ W0.heap.size := by omega
  clear sW0 hW0
  have HB := hid bW0
  refine Plan.wp_region_stepsg 7 [] [(fun v _ => v = .pointer (some ⟨gD, 0, none⟩)), (fun v _ => v = rcV ⟨d1 + ca, d2 + ra, d1 + ce, d2 + re⟩), (fun v _ => v = .iface 103 (.pointer (some ⟨gU, 0, none⟩))), (fun v _ => v = .pointer (some ⟨gU, 0, none⟩)), (fun v _ => v = .iface 99 (.pointer (some ⟨gS, 0, none⟩))), (fun v _ => v = .pointer (some ⟨gS, 0, none⟩)), (fun v _ => v = ptV (s1 + ua) (s2 + va))] [] ⟨Plan.st_const _, Plan.st_const _, Plan.st_const _, Plan.st_const _, Plan.st_const _, Plan.st_const _, Plan.st_const _, trivial⟩ (by kernel_rfl) (by kernel_rfl) (fun _ _ _ _ _ h => h) ?_ ?_
  · refine ⟨?_, ?_, ?_, ?_, ?_, ?_, ?_, trivial⟩
    · -- 0: Op.move (Operand.tmp 0)
      intro a W hold hdep hb
      have e0 : a.tmps[0]?.getD undef = .pointer (some ⟨gD, 0, none⟩) := Plan.ev (hold 0 (by kernel_rfl))
      clear hold hdep
      exact Plan.stepg_pure rfl rfl (.pointer (some ⟨gD, 0, none⟩)) (by go_simp <;> exact IntWalk.i64_in _ (by omega)) rfl
    · -- 1: Op.load 73 (Operand.tmp 7)
      intro a W hold hdep hb
      have e7 : a.tmps[7]?.getD undef = .pointer (some ⟨w.heap.size, 0, none⟩) := Plan.ev (hold 7 (by kernel_rfl))
      have CC := ((B0.out).drew.keep hb).cells4.1
      clear hold hdep
      exact Plan.stepg_pure rfl rfl (rcV ⟨d1 + ca, d2 + ra, d1 + ce, d2 + re⟩) (by go_simp <;> exact IntWalk.i64_in _ (by omega)) rfl
    · -- 2: Op.move (Operand.tmp 2)
      intro a W hold hdep hb
      have e2 : a.tmps[2]?.getD undef = .iface 103 (.pointer (some ⟨gU, 0, none⟩)) := Plan.ev (hold 2 (by kernel_rfl))
      clear hold hdep
      exact Plan.stepg_pure rfl rfl (.iface 103 (.pointer (some ⟨gU, 0, none⟩))) (by go_simp <;> exact IntWalk.i64_in _ (by omega)) rfl
    · -- 3: Op.typeAssert (Operand.tmp 14) 79 103 false
      intro a W hold hdep hb
      have e14 : a.tmps[14]?.getD undef = .iface 103 (.pointer (some ⟨gU, 0, none⟩)) := Plan.ev (Plan.dep_g (by rfl) (hdep 2 (by kernel_rfl)))
      clear hold hdep
      exact Plan.stepg_pure rfl rfl (.pointer (some ⟨gU, 0, none⟩)) (exec_assert (Plan.ev_ e14) (assertG103 gU W)) rfl
    · -- 4: Op.move (Operand.tmp 4)
      intro a W hold hdep hb
      have e4 : a.tmps[4]?.getD undef = .iface 99 (.pointer (some ⟨gS, 0, none⟩)) := Plan.ev (hold 4 (by kernel_rfl))
      clear hold hdep
      exact Plan.stepg_pure rfl rfl (.iface 99 (.pointer (some ⟨gS, 0, none⟩))) (by go_simp <;> exact IntWalk.i64_in _ (by omega)) rfl
    · -- 5: Op.typeAssert (Operand.tmp 16) 79 99 false
      intro a W hold hdep hb
      have e16 : a.tmps[16]?.getD undef = .iface 99 (.pointer (some ⟨gS, 0, none⟩)) := Plan.ev (Plan.dep_g (by rfl) (hdep 4 (by kernel_rfl)))
      clear hold hdep
      exact Plan.stepg_pure rfl rfl (.pointer (some ⟨gS, 0, none⟩)) (exec_assert (Plan.ev_ e16) (assertG99 gS W)) rfl
    · -- 6: Op.load 71 (Operand.tmp 11)
      intro a W hold hdep hb
      have e11 : a.tmps[11]?.getD undef = .pointer (some ⟨w.heap.size + 1 + 1, 0, none⟩) := Plan.ev (hold 11 (by kernel_rfl))
      have CC := ((B2.out).drew.keep hb).cells2
      clear hold hdep
      exact Plan.stepg_pure rfl rfl (ptV (s1 + ua) (s2 + va)) (by go_simp <;> exact IntWalk.i64_in _ (by omega)) rfl
  intro vs W1 lo hi hD
  change wpList _ _ _ _ { tmps := (Array.setIfInBounds (Array.setIfInBounds (Array.setIfInBounds (Array.setIfInBounds (Array.setIfInBounds (Array.setIfInBounds (Array.setIfInBounds _ 12 (vs 0)) 13 (vs 1)) 14 (vs 2)) 15 (vs 3)) 16 (vs 4)) 17 (vs 5)) 18 (vs 6)), defers := _ } _
  simp only [Plan.putAll_zero, List.setIfInBounds_toArray, List.set_cons_zero, List.set_cons_succ, List.drop_succ_cons, List.drop_zero]
  have p0 : vs 0 = .pointer (some ⟨gD, 0, none⟩) := (hD.facts 0 (by omega)).2.2.2
  have p1 : vs 1 = rcV ⟨d1 + ca, d2 + ra, d1 + ce, d2 + re⟩ := (hD.facts 1 (by omega)).2.2.2
  have p2 : vs 2 = .iface 103 (.pointer (some ⟨gU, 0, none⟩)) := (hD.facts 2 (by omega)).2.2.2
  have p3 : vs 3 = .pointer (some ⟨gU, 0, none⟩) := (hD.facts 3 (by omega)).2.2.2
  have p4 : vs 4 = .iface 99 (.pointer (some ⟨gS, 0, none⟩)) := (hD.facts 4 (by omega)).2.2.2
  have p5 : vs 5 = .pointer (some ⟨gS, 0, none⟩) := (hD.facts 5 (by omega)).2.2.2
  have p6 : vs 6 = ptV (s1 + ua) (s2 + va) := (hD.facts 6 (by omega)).2.2.2
  simp only [p0, p1, p2, p3, p4, p5, p6]
  clear p0 p1 p2 p3 p4 p5 p6
  have hW1 := hD.bel
  clear hD  lo hi vs
  have bw1 : Below w.heap.size w W1 := HB.out.trans ((stay_below hW1).mono (by omega))
  clear hW1 B0 B1 B2 bW0
  go_wp2_with fail
  refine (HR.out W1 bw1).mono ?_
  rintro e w2 ⟨⟨v, rfl⟩, hon, hf⟩
  have HF := hid hf
  have HON := hid ((Only.of_below bw1).trans hon)
  clear hf hon
  go_wp2_with fail
  go_end0
  exact ⟨⟨_, rfl⟩, HON.out, HF.out⟩

theorem coreGlyphM (d1 d2 d3 d4 : Int) (dA : Option Addr) (n dc : Nat) (ds : List Int) (ra rb rc rd s1 s2 s3 s4 : Int) (sA : Option Addr) (sn sc : Nat) (ss : List Int) (m1 m2 m3 m4 : Int) (mA : Option Addr) (mn mc : Nat) (ms : List Int) (mx my : Int) (w : World)
    (hdb : ByteSl w dA n dc ds) (hsb : ByteSl w sA sn sc ss) (hmb : ByteSl w mA mn mc ms) (fd : n ≤ 2147483647) (fs : sn ≤ 2147483647) (fm : mn ≤ 2147483647) (hdv : ValidP 0 d1 d2 d3 d4 n ds) (hsv : ValidP 6 s1 s2 s3 s4 sn ss) (hmv : ValidP 2 m1 m2 m3 m4 mn ms) (hin : in4 ra rb rc rd) (hmx : -1000 ≤ mx ∧ mx ≤ 1000) (hmy : -1000 ≤ my ∧ my ≤ 1000)
    (C : Rc) (hC : C = (((⟨ra, rb, rc, rd⟩ : Rc).common ⟨d1, d2, d3, d4⟩).common ((boundsOf 6 s1 s2 s3 s4).moved (ra - 0) (rb - 0))).common ((boundsOf 2 m1 m2 m3 m4).moved (ra - mx) (rb - my))) (hE : C.emp = false) (Wd H : Nat) (hW : d3 = d1 + Wd) (hH : d4 = d2 + H) :
    CoreM 94 6 d1 d2 d3 d4 n ds ra rb rc rd s1 s2 s3 s4 sA sn sc ss 0 0 m1 m2 m3 m4 mA mn mc ms mx my C Wd H w := by
  have hU := uniV_of (k := 6) hsv hsb.len
  refine core_mask_uni hdb hsb hmb fd fs fm hdv hsv hmv hin hmx hmy hC hE hW hH ?_
  intro Wm Hm ca ra' ce re ua va gD gp cap gU gS gq scap px py W hD hUb hS hne h0 h1 h2 h3 h4
  exact fn94_any gD gp cap n d1 d2 d3 d4 Wd H (fun j => ds.getD j 0) gU (uniC ss) gS gq scap mn m1 m2 m3 m4 Wm Hm (fun j => ms.getD j 0) ca ra' ce re ua va px py W hD hUb hS hne h0 h1 h2 h3 h4 (fun j => hdb.rng j) (fun j => hmb.rng j) (fun k => uniC_in hsb.rng k) hU
end Go.Proofs.Ytlnfcjaempojgaa
