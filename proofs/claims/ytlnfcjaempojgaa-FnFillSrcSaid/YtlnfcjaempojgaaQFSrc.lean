/- What is to be shown of the road for a Uniform. Written by mk_QU.py. -/
import Derived.Test.YtlnfcjaempojgaaL3
import Derived.Test.YtlnfcjaempojgaaRFSrc
set_option linter.unusedVariables false
namespace Go.Proofs.Ytlnfcjaempojgaa
open Go.RowKit

theorem assertU92 (g : Nat) (w : World) : (Instr.typeAssert (.iface 103 (.pointer (some ⟨g, 0, none⟩))) 79 103 false).run Try.prog w = .ok (.pointer (some ⟨g, 0, none⟩)) w := by kernel_rfl

set_option maxRecDepth 20000 in
set_option maxHeartbeats 2000000 in
theorem fn92_any (gD gp cap n : Nat) (d1 d2 d3 d4 : Int) (Wd H : Nat) (f : Nat → Int) (gS : Nat) (U : Nat → Int) (ca ra ce re : Nat) (M : Value) (px py mx my : Int) (w : World)
    (hD : DstAt w gD gp cap n d1 d2 d3 d4 Wd H f) (hS : Blk w gS 129 #[.iface 122 (.agg #[.int .u16 (U 0), .int .u16 (U 1), .int .u16 (U 2), .int .u16 (U 3)])]) (h0 : ca < ce ∧ ra < re) (h1 : ce ≤ Wd) (h2 : re ≤ H)
    (rf : ∀ j, 0 ≤ f j ∧ f j ≤ 255) (rU : ∀ k, C16 (U k)) (hU : U 0 ≤ U 3 ∧ U 1 ≤ U 3 ∧ U 2 ≤ U 3) :
    Calls Try.prog 92 #[.pointer (some ⟨gD, 0, none⟩), rcV ⟨d1 + ca, d2 + ra, d1 + ce, d2 + re⟩, .iface 103 (.pointer (some ⟨gS, 0, none⟩)), ptV px py, M, ptV mx my] w fun e w' =>
      (∃ v, e = .returned v) ∧ Only [gp] w w' ∧ ∃ f', PixRow w' gp cap n f' ∧ Painted Wd f (fun r c => fsrcP (fun k => f (pos Wd r c k)) U) (inPart ca ra ce re) f' := by
  have HS := hid hS
  have HR : Hid (∀ W, Below w.heap.size w W → Calls Try.prog 93 #[.pointer (some ⟨gD, 0, none⟩), rcV ⟨d1 + ca, d2 + ra, d1 + ce, d2 + re⟩, .int .u32 (U 0), .int .u32 (U 1), .int .u32 (U 2), .int .u32 (U 3)] W fun e w' =>
      (∃ v, e = .returned v) ∧ Only [gp] W w' ∧ ∃ f', PixRow w' gp cap n f' ∧ Painted Wd f (fun r c => fsrcP (fun k => f (pos Wd r c k)) U) (inPart ca ra ce re) f') := fun W hb =>
    drawFillSrc_any gD gp cap n d1 d2 d3 d4 Wd H f U ca ra ce re W (hD.keep hb) h0 h1 h2 rf rU
  have UU : Hid (∀ W, Below w.heap.size w W → Calls Try.prog 90 #[.pointer (some ⟨gS, 0, none⟩)] W fun e w' => e = .returned (u4T (U 0) (U 1) (U 2) (U 3)) ∧ Below W.heap.size W w') := fun W hb => uni90 gS _ _ _ _ W (hS.keep hb) (rU 0) (rU 1) (rU 2) (rU 3)
  have ta := assertU92
  clear hD hS rf rU hU HS
  generalize (fun r c => fsrcP (fun k => f (pos Wd r c k)) U) = nw at *
  generalize U 0 = p0 at *
  generalize U 1 = p1 at *
  generalize U 2 = p2 at *
  generalize U 3 = p3 at *
  go_enter Try.func92, Try.ntmps92
  go_wp2_with fail
  obtain ⟨W0, hW0⟩ : ∃ W : World, W = (((w.alloc (.cells #[iv (d1 + ca), iv (d2 + ra), iv (d1 + ce), iv (d2 + re)] 73)).alloc (.cells #[iv px, iv py] 71)).alloc (.cells #[iv mx, iv my] 71)) := ⟨_, rfl⟩
  rw [← hW0]
  have B0 : Hid (Blk W0 (w.heap.size) 73 #[iv (d1 + ca), iv (d2 + ra), iv (d1 + ce), iv (d2 + re)]) := by rw [hW0]; exact Blk.alloc (Blk.alloc (Blk.new_at (W := w) (t := 73) (cs := #[iv (d1 + ca), iv (d2 + ra), iv (d1 + ce), iv (d2 + re)]) (by simp)) _) _
  have B1 : Hid (Blk W0 (w.heap.size + 1) 71 #[iv px, iv py]) := by rw [hW0]; exact Blk.alloc (Blk.new_at (W := (w.alloc (.cells #[iv (d1 + ca), iv (d2 + ra), iv (d1 + ce), iv (d2 + re)] 73))) (t := 71) (cs := #[iv px, iv py]) (by simp)) _
  have B2 : Hid (Blk W0 (w.heap.size + 1 + 1) 71 #[iv mx, iv my]) := by rw [hW0]; exact Blk.new_at (W := ((w.alloc (.cells #[iv (d1 + ca), iv (d2 + ra), iv (d1 + ce), iv (d2 + re)] 73)).alloc (.cells #[iv px, iv py] 71))) (t := 71) (cs := #[iv mx, iv my]) (by simp)
  have bW0 : Below w.heap.size w W0 := by rw [hW0]; go_grown
  have sW0 : W0.heap.size = w.heap.size + 3 := by rw [hW0]; simp
  have SW0 := hid sW0
  have zW0 : w.heap.size + 3 ≤ W0.heap.size := by omega
  clear sW0 hW0
  refine (UU.out W0 bW0).mono ?_
  rintro e W1 ⟨rfl, hb1⟩
  have bw1 := bW0.trans (hb1.mono (by omega))
  have cB := (B0.out.keep hb1).cells4.1
  have lB := (B0.out.keep hb1).lt
  clear hb1 B0 B1 B2 bW0 ta
  go_wp2_with fail
  refine (HR.out W1 bw1).mono ?_
  rintro e w2 ⟨⟨v, rfl⟩, hon, hf⟩
  have HF := hid hf
  have HON := hid ((Only.of_below bw1).trans hon)
  clear hf hon cB lB
  go_wp2_with fail
  go_end0
  exact ⟨⟨_, rfl⟩, HON.out, HF.out⟩


theorem coreFSrc (d1 d2 d3 d4 : Int) (dA : Option Addr) (n dc : Nat) (ds : List Int) (ra rb rc rd s1 s2 s3 s4 : Int) (sA : Option Addr) (sn sc : Nat) (ss : List Int) (w : World)
    (hdb : ByteSl w dA n dc ds) (hsb : ByteSl w sA sn sc ss) (fd : n ≤ 2147483647) (fs : sn ≤ 2147483647) (hdv : ValidP 0 d1 d2 d3 d4 n ds) (hsv : ValidP 6 s1 s2 s3 s4 sn ss) (hin : in4 ra rb rc rd)
    (C : Rc) (hC : C = ((⟨ra, rb, rc, rd⟩ : Rc).common ⟨d1, d2, d3, d4⟩).common ((boundsOf 6 s1 s2 s3 s4).moved (ra - 0) (rb - 0))) (hE : C.emp = false) (Wd H : Nat) (hW : d3 = d1 + Wd) (hH : d4 = d2 + H) :
    Core 92 6 1 d1 d2 d3 d4 n ds ra rb rc rd s1 s2 s3 s4 sA sn sc ss 0 0 C Wd H w := by
  have hU := uniV_of (k := 6) hsv hsb.len
  refine core_uni fsrcP hdb hsb fd fs hdv hsv hin hC hE hW hH ?_ ?_ ?_
  · intro D k hD hk
    exact src_near (uniC_in hsb.rng k)
  · intro D k hD hk
    have h := uniC_in hsb.rng k
    unfold C16 at h
    unfold fsrcP
    omega
  · intro ca ra' ce re gD gp cap gS M px py mx my W hD hS h0 h1 h2
    exact fn92_any gD gp cap n d1 d2 d3 d4 Wd H (fun j => ds.getD j 0) gS (uniC ss) ca ra' ce re M px py mx my W hD hS h0 h1 h2 (fun j => hdb.rng j) (fun k => uniC_in hsb.rng k) hU
end Go.Proofs.Ytlnfcjaempojgaa
