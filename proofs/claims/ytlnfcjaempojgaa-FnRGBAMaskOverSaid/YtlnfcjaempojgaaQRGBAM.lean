/- What is to be shown of a road with a mask. Written by mk_QM.py. -/
import Derived.Test.YtlnfcjaempojgaaL6
import Derived.Test.YtlnfcjaempojgaaRRGBAM
set_option linter.unusedVariables false
namespace Go.Proofs.Ytlnfcjaempojgaa
open Go.RowKit

theorem assertS87 (g : Nat) (w : World) : (Instr.typeAssert (.iface 84 (.pointer (some ⟨g, 0, none⟩))) 79 84 false).run Try.prog w = .ok (.pointer (some ⟨g, 0, none⟩)) w := by kernel_rfl
theorem assertM87 (g : Nat) (w : World) : (Instr.typeAssert (.iface 99 (.pointer (some ⟨g, 0, none⟩))) 79 99 false).run Try.prog w = .ok (.pointer (some ⟨g, 0, none⟩)) w := by kernel_rfl

set_option maxRecDepth 20000 in
set_option maxHeartbeats 2000000 in
theorem fn87_any (gD gp cap n : Nat) (d1 d2 d3 d4 : Int) (Wd H : Nat) (f : Nat → Int) (gS gq scap m : Nat) (s1 s2 s3 s4 : Int) (Ws Hs : Nat) (fs : Nat → Int) (gM gr mcap l : Nat) (m1 m2 m3 m4 : Int) (Wm Hm : Nat) (fm : Nat → Int) (ca ra ce re ua va um vm : Nat) (w : World)
    (hD : DstAt w gD gp cap n d1 d2 d3 d4 Wd H f) (hS : SrcAt 95 4 w gS gq scap m (4 * (s3 - s1)) s1 s2 s3 s4 Ws Hs fs) (hM : SrcAt 113 1 w gM gr mcap l (m3 - m1) m1 m2 m3 m4 Wm Hm fm) (hne : gp ≠ gq) (hnm : gp ≠ gr) (hDS : gD ≠ gS)
    (h0 : ca < ce ∧ ra < re) (h1 : ce ≤ Wd) (h2 : re ≤ H) (h3 : ua + (ce - ca) ≤ Ws) (h4 : va + (re - ra) ≤ Hs) (h5 : um + (ce - ca) ≤ Wm) (h6 : vm + (re - ra) ≤ Hm)
    (rf : ∀ j, 0 ≤ f j ∧ f j ≤ 255) (rs : ∀ j, 0 ≤ fs j ∧ fs j ≤ 255) (rm : ∀ j, 0 ≤ fm j ∧ fm j ≤ 255) (hV : ∀ q, 4 * q + 4 ≤ m → fs (4 * q) ≤ fs (4 * q + 3) ∧ fs (4 * q + 1) ≤ fs (4 * q + 3) ∧ fs (4 * q + 2) ≤ fs (4 * q + 3)) :
    Calls Try.prog 87 #[.pointer (some ⟨gD, 0, none⟩), rcV ⟨d1 + ca, d2 + ra, d1 + ce, d2 + re⟩, .iface 84 (.pointer (some ⟨gS, 0, none⟩)), ptV (s1 + ua) (s2 + va), .iface 99 (.pointer (some ⟨gM, 0, none⟩)), ptV (m1 + um) (m2 + vm)] w fun e w' =>
      (∃ v, e = .returned v) ∧ Only [gp] w w' ∧ ∃ f', PixRow w' gp cap n f' ∧ Painted Wd f (fun r c k => maskB (f (pos Wd r c k)) (fs (4 * ((va + (r - ra)) * Ws + (ua + (c - ca))) + k) * 257) (fs (4 * ((va + (r - ra)) * Ws + (ua + (c - ca))) + 3) * 257) (fm ((vm + (r - ra)) * Wm + (um + (c - ca))))) (inPart ca ra ce re) f' := by
  have HR : Hid (∀ W, Below w.heap.size w W → Calls Try.prog 88 #[.pointer (some ⟨gD, 0, none⟩), rcV ⟨d1 + ca, d2 + ra, d1 + ce, d2 + re⟩, .pointer (some ⟨gS, 0, none⟩), ptV (s1 + ua) (s2 + va), .pointer (some ⟨gM, 0, none⟩), ptV (m1 + um) (m2 + vm)] W fun e w' =>
      (∃ v, e = .returned v) ∧ Only [gp] W w' ∧ ∃ f', PixRow w' gp cap n f' ∧ Painted Wd f (fun r c k => maskB (f (pos Wd r c k)) (fs (4 * ((va + (r - ra)) * Ws + (ua + (c - ca))) + k) * 257) (fs (4 * ((va + (r - ra)) * Ws + (ua + (c - ca))) + 3) * 257) (fm ((vm + (r - ra)) * Wm + (um + (c - ca))))) (inPart ca ra ce re) f') := fun W hb =>
    drawRGBAMaskOver_any gD gp cap n d1 d2 d3 d4 Wd H f gS gq scap m s1 s2 s3 s4 Ws Hs fs gM gr mcap l m1 m2 m3 m4 Wm Hm fm ca ra ce re ua va um vm W (hD.keep hb) (hS.keep hb) (hM.keep hb) hne hnm hDS h0 h1 h2 h3 h4 h5 h6 rf rs rm hV
  clear hD hS hM rf rs rm hV
  generalize (fun r c k => maskB (f (pos Wd r c k)) (fs (4 * ((va + (r - ra)) * Ws + (ua + (c - ca))) + k) * 257) (fs (4 * ((va + (r - ra)) * Ws + (ua + (c - ca))) + 3) * 257) (fm ((vm + (r - ra)) * Wm + (um + (c - ca))))) = nw at *
  go_enter Try.func87, Try.ntmps87
  go_wp2_with fail
  obtain ⟨W0, hW0⟩ : ∃ W : World, W = (((w.alloc (.cells #[iv (d1 + ca), iv (d2 + ra), iv (d1 + ce), iv (d2 + re)] 73)).alloc (.cells #[iv (s1 + ua), iv (s2 + va)] 71)).alloc (.cells #[iv (m1 + um), iv (m2 + vm)] 71)) := ⟨_, rfl⟩
  rw [← hW0]
  have B0 : Hid (Blk W0 (w.heap.size) 73 #[iv (d1 + ca), iv (d2 + ra), iv (d1 + ce), iv (d2 + re)]) := by rw [hW0]; exact Blk.alloc (Blk.alloc (Blk.new_at (W := w) (t := 73) (cs := #[iv (d1 + ca), iv (d2 + ra), iv (d1 + ce), iv (d2 + re)]) (by simp)) _) _
  have B1 : Hid (Blk W0 (w.heap.size + 1) 71 #[iv (s1 + ua), iv (s2 + va)]) := by rw [hW0]; exact Blk.alloc (Blk.new_at (W := (w.alloc (.cells #[iv (d1 + ca), iv (d2 + ra), iv (d1 + ce), iv (d2 + re)] 73))) (t := 71) (cs := #[iv (s1 + ua), iv (s2 + va)]) (by simp)) _
  have B2 : Hid (Blk W0 (w.heap.size + 1 + 1) 71 #[iv (m1 + um), iv (m2 + vm)]) := by rw [hW0]; exact Blk.new_at (W := ((w.alloc (.cells #[iv (d1 + ca), iv (d2 + ra), iv (d1 + ce), iv (d2 + re)] 73)).alloc (.cells #[iv (s1 + ua), iv (s2 + va)] 71))) (t := 71) (cs := #[iv (m1 + um), iv (m2 + vm)]) (by simp)
  have bW0 : Below w.heap.size w W0 := by rw [hW0]; go_grown
  have sW0 : W0.heap.size = w.heap.size + 3 := by rw [hW0]; simp
  have SW0 := hid sW0
  have zW0 : w.heap.size + 3 ≤ W0.heap.size := by omega
  clear sW0 hW0
  have HB := hid bW0
  refine Plan.wp_region_stepsg 8 [] [(fun v _ => v = .pointer (some ⟨gD, 0, none⟩)), (fun v _ => v = rcV ⟨d1 + ca, d2 + ra, d1 + ce, d2 + re⟩), (fun v _ => v = .iface 84 (.pointer (some ⟨gS, 0, none⟩))), (fun v _ => v = .pointer (some ⟨gS, 0, none⟩)), (fun v _ => v = ptV (s1 + ua) (s2 + va)), (fun v _ => v = .iface 99 (.pointer (some ⟨gM, 0, none⟩))), (fun v _ => v = .pointer (some ⟨gM, 0, none⟩)), (fun v _ => v = ptV (m1 + um) (m2 + vm))] [] ⟨Plan.st_const _, Plan.st_const _, Plan.st_const _, Plan.st_const _, Plan.st_const _, Plan.st_const _, Plan.st_const _, Plan.st_const _, trivial⟩ (by kernel_rfl) (by kernel_rfl) (fun _ _ _ _ _ h => h) ?_ ?_
  · refine ⟨?_, ?_, ?_, ?_, ?_, ?_, ?_, ?_, trivial⟩
    · -- 0: Op.move (Operand.tmp 0)
      intro a W hold hdep hb
      have e0 : a.tmps[0]?.getD undef = .pointer (some ⟨gD, 0, none⟩) := Plan.ev (hold 0 (by kernel_rfl))
      clear hold hdep
      exact Plan.stepg_pure rfl rfl (.pointer (some ⟨gD, 0, none⟩)) (by go_simp <;> exact IntWalk.i64_in _ (by omega)) rfl
    · -- 1: Op.load 73 (Operand.tmp 7)
      intro a W hold hdep hb
      have e7 : a.tmps[7]?.getD undef = .pointer (some ⟨w.heap.size, 0, none⟩) := Plan.ev (hold 7 (by kernel_rfl))
      have CC := ((B0.out).drew.keep hb).cells4.1
      clear hold hdep
      exact Plan.stepg_pure rfl rfl (rcV ⟨d1 + ca, d2 + ra, d1 + ce, d2 + re⟩) (by go_simp <;> exact IntWalk.i64_in _ (by omega)) rfl
    · -- 2: Op.move (Operand.tmp 2)
      intro a W hold hdep hb
      have e2 : a.tmps[2]?.getD undef = .iface 84 (.pointer (some ⟨gS, 0, none⟩)) := Plan.ev (hold 2 (by kernel_rfl))
      clear hold hdep
      exact Plan.stepg_pure rfl rfl (.iface 84 (.pointer (some ⟨gS, 0, none⟩))) (by go_simp <;> exact IntWalk.i64_in _ (by omega)) rfl
    · -- 3: Op.typeAssert (Operand.tmp 14) 79 84 false
      intro a W hold hdep hb
      have e14 : a.tmps[14]?.getD undef = .iface 84 (.pointer (some ⟨gS, 0, none⟩)) := Plan.ev (Plan.dep_g (by rfl) (hdep 2 (by kernel_rfl)))
      clear hold hdep
      exact Plan.stepg_pure rfl rfl (.pointer (some ⟨gS, 0, none⟩)) (exec_assert (Plan.ev_ e14) (assertS87 gS W)) rfl
    · -- 4: Op.load 71 (Operand.tmp 9)
      intro a W hold hdep hb
      have e9 : a.tmps[9]?.getD undef = .pointer (some ⟨w.heap.size + 1, 0, none⟩) := Plan.ev (hold 9 (by kernel_rfl))
      have CC := ((B1.out).drew.keep hb).cells2
      clear hold hdep
      exact Plan.stepg_pure rfl rfl (ptV (s1 + ua) (s2 + va)) (by go_simp <;> exact IntWalk.i64_in _ (by omega)) rfl
    · -- 5: Op.move (Operand.tmp 4)
      intro a W hold hdep hb
      have e4 : a.tmps[4]?.getD undef = .iface 99 (.pointer (some ⟨gM, 0, none⟩)) := Plan.ev (hold 4 (by kernel_rfl))
      clear hold hdep
      exact Plan.stepg_pure rfl rfl (.iface 99 (.pointer (some ⟨gM, 0, none⟩))) (by go_simp <;> exact IntWalk.i64_in _ (by omega)) rfl
    · -- 6: Op.typeAssert (Operand.tmp 17) 79 99 false
      intro a W hold hdep hb
      have e17 : a.tmps[17]?.getD undef = .iface 99 (.pointer (some ⟨gM, 0, none⟩)) := Plan.ev (Plan.dep_g (by rfl) (hdep 5 (by kernel_rfl)))
      clear hold hdep
      exact Plan.stepg_pure rfl rfl (.pointer (some ⟨gM, 0, none⟩)) (exec_assert (Plan.ev_ e17) (assertM87 gM W)) rfl
    · -- 7: Op.load 71 (Operand.tmp 11)
      intro a W hold hdep hb
      have e11 : a.tmps[11]?.getD undef = .pointer (some ⟨w.heap.size + 1 + 1, 0, none⟩) := Plan.ev (hold 11 (by kernel_rfl))
      have CC := ((B2.out).drew.keep hb).cells2
      clear hold hdep
      exact Plan.stepg_pure rfl rfl (ptV (m1 + um) (m2 + vm)) (by go_simp <;> exact IntWalk.i64_in _ (by omega)) rfl
  intro vs W1 lo hi hD
  change wpList _ _ _ _ { tmps := (Array.setIfInBounds (Array.setIfInBounds (Array.setIfInBounds (Array.setIfInBounds (Array.setIfInBounds (Array.setIfInBounds (Array.setIfInBounds (Array.setIfInBounds _ 12 (vs 0)) 13 (vs 1)) 14 (vs 2)) 15 (vs 3)) 16 (vs 4)) 17 (vs 5)) 18 (vs 6)) 19 (vs 7)), defers := _ } _
  simp only [Plan.putAll_zero, List.setIfInBounds_toArray, List.set_cons_zero, List.set_cons_succ, List.drop_succ_cons, List.drop_zero]
  have p0 : vs 0 = .pointer (some ⟨gD, 0, none⟩) := (hD.facts 0 (by omega)).2.2.2
  have p1 : vs 1 = rcV ⟨d1 + ca, d2 + ra, d1 + ce, d2 + re⟩ := (hD.facts 1 (by omega)).2.2.2
  have p2 : vs 2 = .iface 84 (.pointer (some ⟨gS, 0, none⟩)) := (hD.facts 2 (by omega)).2.2.2
  have p3 : vs 3 = .pointer (some ⟨gS, 0, none⟩) := (hD.facts 3 (by omega)).2.2.2
  have p4 : vs 4 = ptV (s1 + ua) (s2 + va) := (hD.facts 4 (by omega)).2.2.2
  have p5 : vs 5 = .iface 99 (.pointer (some ⟨gM, 0, none⟩)) := (hD.facts 5 (by omega)).2.2.2
  have p6 : vs 6 = .pointer (some ⟨gM, 0, none⟩) := (hD.facts 6 (by omega)).2.2.2
  have p7 : vs 7 = ptV (m1 + um) (m2 + vm) := (hD.facts 7 (by omega)).2.2.2
  simp only [p0, p1, p2, p3, p4, p5, p6, p7]
  clear p0 p1 p2 p3 p4 p5 p6 p7
  have hW1 := hD.bel
  clear hD  lo hi vs
  have bw1 : Below w.heap.size w W1 := HB.out.trans ((stay_below hW1).mono (by omega))
  clear hW1 B0 B1 B2 bW0
  go_wp2_with fail
  refine (HR.out W1 bw1).mono ?_
  rintro e w2 ⟨⟨v, rfl⟩, hon, hf⟩
  have HF := hid hf
  have HON := hid ((Only.of_below bw1).trans hon)
  clear hf hon
  go_wp2_with fail
  go_end0
  exact ⟨⟨_, rfl⟩, HON.out, HF.out⟩

def zC (S : Nat → Int) (k : Nat) : Int := S k * 257

theorem coreRGBAM (d1 d2 d3 d4 : Int) (dA : Option Addr) (n dc : Nat) (ds : List Int) (ra rb rc rd s1 s2 s3 s4 : Int) (sA : Option Addr) (sn sc : Nat) (ss : List Int) (sx sy : Int) (m1 m2 m3 m4 : Int) (mA : Option Addr) (mn mc : Nat) (ms : List Int) (mx my : Int) (w : World)
    (hdb : ByteSl w dA n dc ds) (hsb : ByteSl w sA sn sc ss) (hmb : ByteSl w mA mn mc ms) (fd : n ≤ 2147483647) (fs : sn ≤ 2147483647) (fm : mn ≤ 2147483647) (hdv : ValidP 0 d1 d2 d3 d4 n ds) (hsv : ValidP 0 s1 s2 s3 s4 sn ss) (hmv : ValidP 2 m1 m2 m3 m4 mn ms) (hin : in4 ra rb rc rd) (hsx : -1000 ≤ sx ∧ sx ≤ 1000) (hsy : -1000 ≤ sy ∧ sy ≤ 1000) (hmx : -1000 ≤ mx ∧ mx ≤ 1000) (hmy : -1000 ≤ my ∧ my ≤ 1000)
    (C : Rc) (hC : C = (((⟨ra, rb, rc, rd⟩ : Rc).common ⟨d1, d2, d3, d4⟩).common ((boundsOf 0 s1 s2 s3 s4).moved (ra - sx) (rb - sy))).common ((boundsOf 2 m1 m2 m3 m4).moved (ra - mx) (rb - my))) (hE : C.emp = false) (Wd H : Nat) (hW : d3 = d1 + Wd) (hH : d4 = d2 + H) :
    CoreM 87 0 d1 d2 d3 d4 n ds ra rb rc rd s1 s2 s3 s4 sA sn sc ss sx sy m1 m2 m3 m4 mA mn mc ms mx my C Wd H w := by
  have hV : ∀ q, 4 * q + 4 ≤ sn → ss.getD (4 * q) 0 ≤ ss.getD (4 * q + 3) 0 ∧ ss.getD (4 * q + 1) 0 ≤ ss.getD (4 * q + 3) 0 ∧ ss.getD (4 * q + 2) 0 ≤ ss.getD (4 * q + 3) 0 := fun q hq => (hsv.2.2.1.1 rfl) q (by rw [hsb.len]; omega)
  refine core_mask_src (T := 84) (BT := 95) (z := 4) (st := 4 * (s3 - s1)) zC (by omega) rfl (by omega) hdb hsb hmb fd fs fm hdv hsv hmv hin hsx hsy hmx hmy hC hE hW hH (fun Ws Hs A c base W hG hn hown => makes0 hG hn fs hown) (fun _ _ _ _ _ _ _ h => hasb0 h) ?_ ?_ ?_ ?_
  · intro x y i g o W hF hi hA hg hcell
    subst hA
    have := at_rgba s1 s2 s3 s4 x y g o sn sc i (ss.getD i 0) (ss.getD (i + 1) 0) (ss.getD (i + 2) 0) (ss.getD (i + 3) 0) W hF hi hsb.le hsb.cap hg (hcell 0 (by omega)) (hcell 1 (by omega)) (hcell 2 (by omega)) (hcell 3 (by omega)) (hsb.rng i) (hsb.rng _) (hsb.rng _) (hsb.rng _)
    exact this
  · intro q k hq
    have := hsb.rng (4 * q + k)
    unfold C16 zC
    dsimp only
    omega
  · intro q k hq hk
    obtain ⟨h0, h1, h2⟩ := hV q hq
    unfold zC
    dsimp only
    have : k = 0 ∨ k = 1 ∨ k = 2 ∨ k = 3 := by omega
    rcases this with rfl | rfl | rfl | rfl
    · rw [Nat.add_zero]; omega
    · omega
    · omega
    · omega
  · intro Ws Hs Wm Hm ca ra' ce re ua va um vm gD gp cap gS gq scap gM gr mcap W hD hS hM hne hnm h0 h1 h2 h3 h4 h5 h6
    have hDS : gD ≠ gS := by
      intro e
      subst e
      have h1 := hD.blk
      have h2 := hS.blk
      unfold Blk at h1 h2
      rw [h1] at h2
      simp at h2
    exact fn87_any gD gp cap n d1 d2 d3 d4 Wd H (fun j => ds.getD j 0) gS gq scap sn s1 s2 s3 s4 Ws Hs (fun j => ss.getD j 0) gM gr mcap mn m1 m2 m3 m4 Wm Hm (fun j => ms.getD j 0) ca ra' ce re ua va um vm W hD hS hM hne hnm hDS h0 h1 h2 h3 h4 h5 h6 (fun j => hdb.rng j) (fun j => hsb.rng j) (fun j => hmb.rng j) hV
end Go.Proofs.Ytlnfcjaempojgaa
