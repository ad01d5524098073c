/- Contracts of laws.target and laws.part. -/
import Derived.Test.YtlnfcjaempojgaaJ1
import Derived.Test.YtlnfcjaempojgaaF1
set_option linter.unusedVariables false
namespace Go.Proofs.Ytlnfcjaempojgaa
open Go.RowKit

theorem target_any (x0 y0 x1 y1 : Int) (A : Option Addr) (n c : Nat) (bs : List Int) (w : World) (hb : Bytes w A n bs) (hnc : n ≤ c) (hc : c ≤ 140737488355328) :
    Calls Try.prog 36 #[imgV 0 x0 y0 x1 y1 (.slice A n c)] w (SomeB (fun b => b = true → ValidP 0 x0 y0 x1 y1 n bs) w) := by
  have HB := hid hb
  clear hb
  go_enter Try.func36, Try.ntmps36
  go_wp2_with fail
  obtain ⟨W0, hW0⟩ : ∃ W : World, W = (w.alloc (.cells #[iv 0, iv x0, iv y0, iv x1, iv y1, .slice A n c] 24)) := ⟨_, rfl⟩
  rw [← hW0]
  have B0 : Hid (Blk W0 (w.heap.size) 24 #[iv 0, iv x0, iv y0, iv x1, iv y1, .slice A n c]) := by rw [hW0]; exact Blk.new_at (W := w) (t := 24) (cs := #[iv 0, iv x0, iv y0, iv x1, iv y1, .slice A n c]) (by simp)
  have bW0 : Below w.heap.size w W0 := by rw [hW0]; go_grown
  have sW0 : W0.heap.size = w.heap.size + 1 := by rw [hW0]; simp
  have SW0 := hid sW0
  have zW0 : w.heap.size + 1 ≤ W0.heap.size := by omega
  clear sW0 hW0
  refine (valid_any 0 x0 y0 x1 y1 A n c bs _ ?_ hnc hc).mono ?_
  · obtain ⟨h1, h2, h3⟩ := HB.out
    refine ⟨h1, h2, fun hn => ?_⟩
    obtain ⟨g, o, hA, hg, hcell⟩ := h3 hn
    exact ⟨g, o, hA, by omega, fun j hj => (bW0.cell (p := ⟨g, o + j, none⟩) hg).trans (hcell j hj)⟩
  rintro e w1 ⟨b, rfl, hv, hb1⟩
  have HV := hid hv
  clear hv B0
  have bw1 := bW0.trans (hb1.mono (by omega))
  cases b with
  | false =>
    go_wp2_with fail
    go_returns
    exact ⟨_, rfl, fun h => (by cases h), bw1⟩
  | true =>
    go_wp2_with fail
    go_returns
    exact ⟨_, rfl, fun _ => HV.out trivial, bw1⟩

theorem PixOk.keep {w W : World} {S : Value} {X Y op m : Int} {D G : Nat → Int} (h : PixOk w S X Y op m D G) (hb : Below w.heap.size w W) : PixOk W S X Y op m D G := by
  obtain ⟨s0, s1, s2, s3, hc, hs, hn⟩ := h
  exact ⟨s0, s1, s2, s3, hc, fun W' hW => hs W' (hb.trans (hW.mono hb.size)), hn⟩
theorem AllOk.keep {w W : World} {S : Value} {d1 d2 : Int} {Wd H : Nat} {C : Rc} {px py op : Int} {ds gs : List Int} (h : AllOk w S d1 d2 Wd H C px py op ds gs) (hb : Below w.heap.size w W) : AllOk W S d1 d2 Wd H C px py op ds gs := fun r c hr hc =>
  ⟨fun hh => ((h r c hr hc).1 hh).keep hb, (h r c hr hc).2⟩

/-- The call of f hands back pixels as they should be. -/
def RunOk (w : World) (f : FuncId) (cap : Array Value) (S : Value) (d1 d2 : Int) (Wd H : Nat) (C : Rc) (px py op : Int) (ds : List Int) (dn : Nat) : Prop :=
  ∀ W, Below w.heap.size w W → Calls Try.prog f cap W fun e w' => ∃ A c gs, e = .returned (.slice A dn c) ∧ Below W.heap.size W w' ∧ ByteSlM w' A dn c gs ∧ AllOk w S d1 d2 Wd H C px py op ds gs

theorem RunOk.keep {w W : World} {f : FuncId} {cap : Array Value} {S : Value} {d1 d2 : Int} {Wd H : Nat} {C : Rc} {px py op : Int} {ds : List Int} {dn : Nat} (h : RunOk w f cap S d1 d2 Wd H C px py op ds dn) (hb : Below w.heap.size w W) : RunOk W f cap S d1 d2 Wd H C px py op ds dn := fun W' hW =>
  (h W' (hb.trans (hW.mono hb.size))).mono fun _ _ ⟨A, c, gs, he, hb', h1, h2⟩ => ⟨A, c, gs, he, hb', h1, h2.keep hb⟩
theorem runOk_mono {w : World} {S : Value} {d1 d2 : Int} {Wd H : Nat} {C : Rc} {px py op : Int} {ds : List Int} {dn : Nat} : Plan.Stable (fun v wx => ∃ A c gs, v = .slice A dn c ∧ ByteSlM wx A dn c gs ∧ AllOk w S d1 d2 Wd H C px py op ds gs) := fun _ _ _ ⟨A, c, gs, h1, h2, h3⟩ hb => ⟨A, c, gs, h1, h2.keep hb, h3⟩

set_option maxRecDepth 20000 in
set_option maxHeartbeats 4000000 in
theorem part_any (dk d1 d2 d3 d4 : Int) (dA : Option Addr) (dn dc : Nat) (ds : List Int) (ra rb rc rd : Int) (sk s1 s2 s3 s4 : Int) (sA : Option Addr) (sn sc : Nat) (ss : List Int) (sx sy kd op : Int) (f : FuncId) (cap : Array Value) (w : World)
    (hdb : ByteSl w dA dn dc ds) (hsb : ByteSl w sA sn sc ss) (hop : op = 0 ∨ op = 1) (hcf : ∀ W, (callFunc f cap).run Try.prog W = .ok (.enter f cap) W)
    (C : Rc) (hC : C = ((⟨ra, rb, rc, rd⟩ : Rc).common ⟨d1, d2, d3, d4⟩).common ((boundsOf sk s1 s2 s3 s4).moved (ra - sx) (rb - sy)))
    (hrun : ∀ Wd H : Nat, dk = 0 → sk = kd → in4 ra rb rc rd → ValidP 0 d1 d2 d3 d4 dn ds → ValidP sk s1 s2 s3 s4 sn ss → (-1000 ≤ sx ∧ sx ≤ 1000) → (-1000 ≤ sy ∧ sy ≤ 1000) → C.emp = false → d3 = d1 + Wd → d4 = d2 + H →
      RunOk w f cap (imgV sk s1 s2 s3 s4 (.slice sA sn sc)) d1 d2 Wd H C (sx + C.a - ra) (sy + C.b - rb) op ds dn) :
    Calls Try.prog 23 #[imgV dk d1 d2 d3 d4 (.slice dA dn dc), fourV ra rb rc rd, imgV sk s1 s2 s3 s4 (.slice sA sn sc), iv sx, iv sy, iv kd, iv op, .func (.func f) #[] cap] w fun e w' => e = .returned (.bool true) ∧ Below w.heap.size w w' := by
  have HDB := hid hdb; have HSB := hid hsb; have HOP := hid hop; have HC := hid hC; have HRUN := hid hrun; have HCF := hid hcf
  clear hdb hsb hop hC hrun hcf
  go_enter Try.func23, Try.ntmps23
  go_wp2_with fail
  obtain ⟨W0, hW0⟩ : ∃ W : World, W = (((w.alloc (.cells #[iv dk, iv d1, iv d2, iv d3, iv d4, .slice dA dn dc] 24)).alloc (.cells #[iv ra, iv rb, iv rc, iv rd] 25)).alloc (.cells #[iv sk, iv s1, iv s2, iv s3, iv s4, .slice sA sn sc] 24)) := ⟨_, rfl⟩
  rw [← hW0]
  have B0 : Hid (Blk W0 (w.heap.size) 24 #[iv dk, iv d1, iv d2, iv d3, iv d4, .slice dA dn dc]) := by rw [hW0]; exact Blk.alloc (Blk.alloc (Blk.new_at (W := w) (t := 24) (cs := #[iv dk, iv d1, iv d2, iv d3, iv d4, .slice dA dn dc]) (by simp)) _) _
  have B1 : Hid (Blk W0 (w.heap.size + 1) 25 #[iv ra, iv rb, iv rc, iv rd]) := by rw [hW0]; exact Blk.alloc (Blk.new_at (W := (w.alloc (.cells #[iv dk, iv d1, iv d2, iv d3, iv d4, .slice dA dn dc] 24))) (t := 25) (cs := #[iv ra, iv rb, iv rc, iv rd]) (by simp)) _
  have B2 : Hid (Blk W0 (w.heap.size + 1 + 1) 24 #[iv sk, iv s1, iv s2, iv s3, iv s4, .slice sA sn sc]) := by rw [hW0]; exact Blk.new_at (W := ((w.alloc (.cells #[iv dk, iv d1, iv d2, iv d3, iv d4, .slice dA dn dc] 24)).alloc (.cells #[iv ra, iv rb, iv rc, iv rd] 25))) (t := 24) (cs := #[iv sk, iv s1, iv s2, iv s3, iv s4, .slice sA sn sc]) (by simp)
  have bW0 : Below w.heap.size w W0 := by rw [hW0]; go_grown
  have sW0 : W0.heap.size = w.heap.size + 3 := by rw [hW0]; simp
  have SW0 := hid sW0
  have zW0 : w.heap.size + 3 ≤ W0.heap.size := by omega
  clear sW0 hW0
  by_cases hin : in4 ra rb rc rd
  case neg =>
    refine (rect_bad _ _ _ _ _ hin).mono ?_
    rintro e w1 ⟨rfl, hb⟩
    have zz : W0.heap.size ≤ w1.heap.size := hb.size
    go_wp2_with fail
    go_returns; exact ⟨rfl, by (repeat' (first | (with_reducible exact Below.refl _ _) | (with_reducible assumption) | (with_reducible refine drewN_below ?_ _) | (with_reducible refine Below.drew ?_) | (with_reducible refine Below.alloc ?_ ?_ _) | (with_reducible refine Below.setCell ?_ ?_ _) | (with_reducible refine below_via (by with_reducible assumption) ?_ ?_) | go_size))⟩
  refine (rect_ok _ _ _ _ _ hin.1 hin.2.1 hin.2.2.1 hin.2.2.2).mono ?_
  rintro e w1 ⟨rfl, hb1⟩
  have HIN := hid hin
  have bw1 := bW0.trans (hb1.mono (by omega))
  have z1 := hb1.size
  have D1 := hid (B0.out.keep hb1)
  have S1 := hid (B2.out.keep hb1)
  have cD := D1.out.cells6
  have lD := D1.out.lt
  clear hin hb1 B0 B1 B2 bW0
  by_cases hdk : dk = 0
  case neg =>
    have k0 : (dk == 0) = false := by simpa using hdk
    have k1 : (dk != 0) = true := by simpa using hdk
    clear hdk
    go_wp2_with fail
    go_returns; exact ⟨rfl, by (repeat' (first | (with_reducible exact Below.refl _ _) | (with_reducible assumption) | (with_reducible refine drewN_below ?_ _) | (with_reducible refine Below.drew ?_) | (with_reducible refine Below.alloc ?_ ?_ _) | (with_reducible refine Below.setCell ?_ ?_ _) | (with_reducible refine below_via (by with_reducible assumption) ?_ ?_) | go_size))⟩
  subst hdk
  go_wp2_with fail
  obtain ⟨a0, ha0⟩ : ∃ n, n = w1.heap.size := ⟨_, rfl⟩
  have A2 : Hid (Blk (w1.alloc (.cells #[iv ra, iv rb, iv rc, iv rd] 28)) a0 28 #[iv ra, iv rb, iv rc, iv rd]) := by rw [ha0]; exact Blk.new _ _ _
  obtain ⟨W1, hW1⟩ : ∃ W : World, W = w1.alloc (.cells #[iv ra, iv rb, iv rc, iv rd] 28) := ⟨_, rfl⟩
  rw [← ha0, ← hW1]
  rw [← hW1] at A2
  have D2 := hid (D1.out.alloc (.cells #[iv ra, iv rb, iv rc, iv rd] 28)); rw [← hW1] at D2
  have S2 := hid (S1.out.alloc (.cells #[iv ra, iv rb, iv rc, iv rd] 28)); rw [← hW1] at S2
  have bw2 : Below w.heap.size w W1 := by rw [hW1]; exact bw1.alloc (by omega) _
  have z2 : w.heap.size + 3 ≤ a0 ∧ a0 < W1.heap.size := ⟨by omega, A2.out.lt⟩
  clear hW1 ha0 bw1 z1 cD lD D1 S1
  refine (target_any d1 d2 d3 d4 dA dn dc ds _ (HDB.out.keep bw2).bytes HDB.out.le HDB.out.cap).mono ?_
  rintro e w3 ⟨b, rfl, hv, hb3⟩
  have z3 := hb3.size
  have bw3 := bw2.trans (hb3.mono (by omega))
  have HV := hid hv
  have D3 := hid (D2.out.keep hb3)
  have S3 := hid (S2.out.keep hb3)
  have A3 := hid (A2.out.keep hb3)
  have cS := S3.out.cells6
  have lS := S3.out.lt
  clear hv hb3 bw2 D2 S2 A2
  cases b with
  | false =>
    go_wp2_with fail
    go_returns; exact ⟨rfl, by (repeat' (first | (with_reducible exact Below.refl _ _) | (with_reducible assumption) | (with_reducible refine drewN_below ?_ _) | (with_reducible refine Below.drew ?_) | (with_reducible refine Below.alloc ?_ ?_ _) | (with_reducible refine Below.setCell ?_ ?_ _) | (with_reducible refine below_via (by with_reducible assumption) ?_ ?_) | go_size))⟩
  | true =>
  by_cases hsk : sk = kd
  case neg =>
    have k0 : (sk == kd) = false := by simpa using hsk
    have k1 : (sk != kd) = true := by simpa using hsk
    clear hsk
    go_wp2_with fail
    go_returns; exact ⟨rfl, by (repeat' (first | (with_reducible exact Below.refl _ _) | (with_reducible assumption) | (with_reducible refine drewN_below ?_ _) | (with_reducible refine Below.drew ?_) | (with_reducible refine Below.alloc ?_ ?_ _) | (with_reducible refine Below.setCell ?_ ?_ _) | (with_reducible refine below_via (by with_reducible assumption) ?_ ?_) | go_size))⟩
  subst hsk
  go_wp2_with fail
  refine (valid_any sk s1 s2 s3 s4 sA sn sc ss _ (HSB.out.keep bw3).bytes HSB.out.le HSB.out.cap).mono ?_
  rintro e w4 ⟨b, rfl, hv, hb4⟩
  have z4 := hb4.size
  have bw4 := bw3.trans (hb4.mono (by omega))
  have SV := hid hv
  have D4 := hid (D3.out.keep hb4)
  have S4 := hid (S3.out.keep hb4)
  have A4 := hid (A3.out.keep hb4)
  clear hv hb4 bw3 D3 S3 A3 cS lS
  cases b with
  | false =>
    go_wp2_with fail
    go_returns; exact ⟨rfl, by (repeat' (first | (with_reducible exact Below.refl _ _) | (with_reducible assumption) | (with_reducible refine drewN_below ?_ _) | (with_reducible refine Below.drew ?_) | (with_reducible refine Below.alloc ?_ ?_ _) | (with_reducible refine Below.setCell ?_ ?_ _) | (with_reducible refine below_via (by with_reducible assumption) ?_ ?_) | go_size))⟩
  | true =>
  go_wp2_with fail
  have ff := (Blk.new w4 3 #[iv sx, iv sy]).cells2.1
  refine (fine2_any _ _ _ _ ff.1 ff.2).mono ?_
  rintro e w' ⟨rfl, rfl⟩
  clear ff
  obtain ⟨W5, hW5⟩ : ∃ W : World, W = w4.alloc (.cells #[iv sx, iv sy] 3) := ⟨_, rfl⟩
  rw [← hW5]
  have b5 : Below w4.heap.size w4 W5 := by rw [hW5]; go_grown
  have D6 := hid (D4.out.keep b5)
  have S6 := hid (S4.out.keep b5)
  have A6 := hid (A4.out.keep b5)
  have bw6 := bw4.trans (b5.mono (by omega))
  have z6 : a0 < W5.heap.size := A6.out.lt
  clear hW5 b5 bw4 D4 S4 A4
  cases hf : fineB2 sx sy with
  | false =>
    go_wp2_with fail
    go_returns; exact ⟨rfl, by (repeat' (first | (with_reducible exact Below.refl _ _) | (with_reducible assumption) | (with_reducible refine drewN_below ?_ _) | (with_reducible refine Below.drew ?_) | (with_reducible refine Below.alloc ?_ ?_ _) | (with_reducible refine Below.setCell ?_ ?_ _) | (with_reducible refine below_via (by with_reducible assumption) ?_ ?_) | go_size))⟩
  | true =>
  obtain ⟨hsx, hsy⟩ := fineB2_iff.1 hf
  clear hf
  go_wp2_with fail
  have hr : Hid ((⟨ra, rb, rc, rd⟩ : Rc).in_ 1000) := HIN.out
  have SB : Hid ((boundsOf sk s1 s2 s3 s4).in_ 4000000000) := by obtain ⟨a, b, c, d⟩ := bounds_in (by first | exact SV.out rfl | exact SV.out trivial); exact ⟨by omega, by omega, by omega, by omega⟩
  have bA : Hid (∀ k x0 y0 x1 y1 s, ∀ W : World, Calls Try.prog 20 #[imgV k x0 y0 x1 y1 s] W fun e w' => e = .returned (rcV (boundsOf k x0 y0 x1 y1)) ∧ Below W.heap.size W w') := boundsv_any
  have bD : Hid (∀ W : World, Calls Try.prog 20 #[imgV 0 d1 d2 d3 d4 (.slice dA dn dc)] W fun e w' => e = .returned (rcV ⟨d1, d2, d3, d4⟩) ∧ Below W.heap.size W w') := fun W => boundsv_any 0 d1 d2 d3 d4 (.slice dA dn dc) W
  refine Plan.wp_region_steps 16 [11, 12] [imgV 0 d1 d2 d3 d4 (.slice dA dn dc), rcV ⟨d1, d2, d3, d4⟩, rcV ⟨ra, rb, rc, rd⟩, imgV sk s1 s2 s3 s4 (.slice sA sn sc), rcV (boundsOf sk s1 s2 s3 s4), iv sx, iv sy, rcV ⟨0, 0, 0, 0⟩, .tuple #[rcV C, ptV (sx + C.a - ra) (sy + C.b - rb), ptV (0 + C.a - ra) (0 + C.b - rb)], .tuple #[rcV C, ptV (sx + C.a - ra) (sy + C.b - rb), ptV (0 + C.a - ra) (0 + C.b - rb)], rcV C, ptV (sx + C.a - ra) (sy + C.b - rb), ptV (0 + C.a - ra) (0 + C.b - rb), undef, undef, undef] [(13, 28, #[iv 0, iv 0, iv 0, iv 0]), (14, 34, #[iv 0, iv 0]), (15, 34, #[iv 0, iv 0])] (by kernel_rfl) (by kernel_rfl) (fun _ _ _ _ _ h => h) ?_ ?_
  · refine ⟨?_, ?_, ?_, ?_, ?_, ?_, ?_, ?_, ?_, ?_, ?_, ?_, ?_, ?_, ?_, ?_, trivial⟩
    · -- 0: Op.load 24 (Operand.tmp 8)
      intro a W hold hdep hb
      have e8 : a.tmps[8]?.getD undef = .pointer (some ⟨w.heap.size, 0, none⟩) := Plan.ev (hold 8 (by kernel_rfl))
      have CC := ((D6.out).drew.keep hb).cells6
      clear hold hdep
      exact Plan.step_const rfl rfl (by go_simp <;> exact IntWalk.i64_in _ (by omega))
    · -- 1: Op.call { callee := Callee.value (Operand.func 20), args := #[Operand.
      intro a W hold hdep hb
      have e58 : a.tmps[58]?.getD undef = imgV 0 d1 d2 d3 d4 (.slice dA dn dc) := Plan.ev (Plan.dep_const (by rfl) (hdep 0 (by kernel_rfl)))
      clear hold hdep
      exact Plan.step_call (f := 20) (args := #[imgV 0 d1 d2 d3 d4 (.slice dA dn dc)]) rfl rfl (by go_simp) (bD.out W)
    · -- 2: Op.load 28 (Operand.tmp 17)
      intro a W hold hdep hb
      have e17 : a.tmps[17]?.getD undef = .pointer (some ⟨a0, 0, none⟩) := Plan.ev (hold 17 (by kernel_rfl))
      have CC := ((A6.out).drew.keep hb).cells4.1
      clear hold hdep
      exact Plan.step_const rfl rfl (by go_simp <;> exact IntWalk.i64_in _ (by omega))
    · -- 3: Op.load 24 (Operand.tmp 10)
      intro a W hold hdep hb
      have e10 : a.tmps[10]?.getD undef = .pointer (some ⟨w.heap.size + 1 + 1, 0, none⟩) := Plan.ev (hold 10 (by kernel_rfl))
      have CC := ((S6.out).drew.keep hb).cells6
      clear hold hdep
      exact Plan.step_const rfl rfl (by go_simp <;> exact IntWalk.i64_in _ (by omega))
    · -- 4: Op.call { callee := Callee.value (Operand.func 20), args := #[Operand.
      intro a W hold hdep hb
      have e61 : a.tmps[61]?.getD undef = imgV sk s1 s2 s3 s4 (.slice sA sn sc) := Plan.ev (Plan.dep_const (by rfl) (hdep 3 (by kernel_rfl)))
      clear hold hdep
      exact Plan.step_call (f := 20) (args := #[imgV sk s1 s2 s3 s4 (.slice sA sn sc)]) rfl rfl (by go_simp) (bA.out _ _ _ _ _ _ W)
    · -- 5: Op.move (Operand.tmp 3)
      intro a W hold hdep hb
      have e3 : a.tmps[3]?.getD undef = iv sx := Plan.ev (hold 3 (by kernel_rfl))
      clear hold hdep
      exact Plan.step_const rfl rfl (by go_simp <;> exact IntWalk.i64_in _ (by omega))
    · -- 6: Op.move (Operand.tmp 4)
      intro a W hold hdep hb
      have e4 : a.tmps[4]?.getD undef = iv sy := Plan.ev (hold 4 (by kernel_rfl))
      clear hold hdep
      exact Plan.step_const rfl rfl (by go_simp <;> exact IntWalk.i64_in _ (by omega))
    · -- 7: Op.build 28 #[]
      intro a W hold hdep hb
      clear hold hdep
      exact Plan.step_const rfl rfl (by go_simp <;> exact IntWalk.i64_in _ (by omega))
    · -- 8: Op.call { callee := Callee.value (Operand.func 19), args := #[Operand.
      intro a W hold hdep hb
      have e59 : a.tmps[59]?.getD undef = rcV ⟨d1, d2, d3, d4⟩ := Plan.ev (Plan.dep_const (by rfl) (hdep 1 (by kernel_rfl)))
      have e60 : a.tmps[60]?.getD undef = rcV ⟨ra, rb, rc, rd⟩ := Plan.ev (Plan.dep_const (by rfl) (hdep 2 (by kernel_rfl)))
      have e62 : a.tmps[62]?.getD undef = rcV (boundsOf sk s1 s2 s3 s4) := Plan.ev (Plan.dep_const (by rfl) (hdep 4 (by kernel_rfl)))
      have e63 : a.tmps[63]?.getD undef = iv sx := Plan.ev (Plan.dep_const (by rfl) (hdep 5 (by kernel_rfl)))
      have e64 : a.tmps[64]?.getD undef = iv sy := Plan.ev (Plan.dep_const (by rfl) (hdep 6 (by kernel_rfl)))
      have e65 : a.tmps[65]?.getD undef = rcV ⟨0, 0, 0, 0⟩ := Plan.ev (Plan.dep_const (by rfl) (hdep 7 (by kernel_rfl)))
      clear hold hdep
      exact Plan.step_call (f := 19) (args := #[rcV ⟨d1, d2, d3, d4⟩, rcV ⟨ra, rb, rc, rd⟩, rcV (boundsOf sk s1 s2 s3 s4), iv sx, iv sy, rcV ⟨0, 0, 0, 0⟩, .bool false, iv 0, iv 0]) rfl rfl (by go_simp) (clip_plain ⟨d1, d2, d3, d4⟩ ⟨ra, rb, rc, rd⟩ (boundsOf sk s1 s2 s3 s4) ⟨0, 0, 0, 0⟩ sx sy 0 0 W hr.out SB.out hsx hsy (by omega) (by omega) C HC.out)
    · -- 9: Op.move (Operand.tmp 66)
      intro a W hold hdep hb
      have e66 : a.tmps[66]?.getD undef = .tuple #[rcV C, ptV (sx + C.a - ra) (sy + C.b - rb), ptV (0 + C.a - ra) (0 + C.b - rb)] := Plan.ev (Plan.dep_const (by rfl) (hdep 8 (by kernel_rfl)))
      clear hold hdep
      exact Plan.step_const rfl rfl (by go_simp <;> exact IntWalk.i64_in _ (by omega))
    · -- 10: Op.extract (Operand.tmp 57) 0
      intro a W hold hdep hb
      have e57 : a.tmps[57]?.getD undef = .tuple #[rcV C, ptV (sx + C.a - ra) (sy + C.b - rb), ptV (0 + C.a - ra) (0 + C.b - rb)] := Plan.ev (Plan.dep_const (by rfl) (hdep 9 (by kernel_rfl)))
      clear hold hdep
      exact Plan.step_const rfl rfl (by go_simp <;> exact IntWalk.i64_in _ (by omega))
    · -- 11: Op.extract (Operand.tmp 57) 1
      intro a W hold hdep hb
      have e57 : a.tmps[57]?.getD undef = .tuple #[rcV C, ptV (sx + C.a - ra) (sy + C.b - rb), ptV (0 + C.a - ra) (0 + C.b - rb)] := Plan.ev (Plan.dep_const (by rfl) (hdep 9 (by kernel_rfl)))
      clear hold hdep
      exact Plan.step_eager rfl rfl (fun _ => by go_simp)
    · -- 12: Op.extract (Operand.tmp 57) 2
      intro a W hold hdep hb
      have e57 : a.tmps[57]?.getD undef = .tuple #[rcV C, ptV (sx + C.a - ra) (sy + C.b - rb), ptV (0 + C.a - ra) (0 + C.b - rb)] := Plan.ev (Plan.dep_const (by rfl) (hdep 9 (by kernel_rfl)))
      clear hold hdep
      exact Plan.step_eager rfl rfl (fun _ => by go_simp)
    · -- 13: Op.alloc 28
      intro a W hold hdep hb
      clear hold hdep
      exact Plan.step_alloc rfl rfl (by go_simp)
    · -- 14: Op.alloc 34
      intro a W hold hdep hb
      clear hold hdep
      exact Plan.step_alloc rfl rfl (by go_simp)
    · -- 15: Op.alloc 34
      intro a W hold hdep hb
      clear hold hdep
      exact Plan.step_alloc rfl rfl (by go_simp)
  intro vs W7 lo hi hD
  change wpList _ _ _ _ { tmps := (Array.setIfInBounds (Array.setIfInBounds (Array.setIfInBounds (Array.setIfInBounds (Array.setIfInBounds (Array.setIfInBounds (Array.setIfInBounds (Array.setIfInBounds (Array.setIfInBounds (Array.setIfInBounds (Array.setIfInBounds (Array.setIfInBounds (Array.setIfInBounds (Array.setIfInBounds (Array.setIfInBounds (Array.setIfInBounds _ 58 (vs 0)) 59 (vs 1)) 60 (vs 2)) 61 (vs 3)) 62 (vs 4)) 63 (vs 5)) 64 (vs 6)) 65 (vs 7)) 66 (vs 8)) 57 (vs 9)) 67 (vs 10)) 68 (vs 11)) 69 (vs 12)) 19 (vs 13)) 20 (vs 14)) 21 (vs 15)), defers := _ } _
  simp only [Plan.putAll_zero, List.setIfInBounds_toArray, List.set_cons_zero, List.set_cons_succ, List.drop_succ_cons, List.drop_zero]
  have p0 : vs 0 = imgV 0 d1 d2 d3 d4 (.slice dA dn dc) := (hD.facts 0 (by omega)).2.2.2
  have p1 : vs 1 = rcV ⟨d1, d2, d3, d4⟩ := (hD.facts 1 (by omega)).2.2.2
  have p2 : vs 2 = rcV ⟨ra, rb, rc, rd⟩ := (hD.facts 2 (by omega)).2.2.2
  have p3 : vs 3 = imgV sk s1 s2 s3 s4 (.slice sA sn sc) := (hD.facts 3 (by omega)).2.2.2
  have p4 : vs 4 = rcV (boundsOf sk s1 s2 s3 s4) := (hD.facts 4 (by omega)).2.2.2
  have p5 : vs 5 = iv sx := (hD.facts 5 (by omega)).2.2.2
  have p6 : vs 6 = iv sy := (hD.facts 6 (by omega)).2.2.2
  have p7 : vs 7 = rcV ⟨0, 0, 0, 0⟩ := (hD.facts 7 (by omega)).2.2.2
  have p8 : vs 8 = .tuple #[rcV C, ptV (sx + C.a - ra) (sy + C.b - rb), ptV (0 + C.a - ra) (0 + C.b - rb)] := (hD.facts 8 (by omega)).2.2.2
  have p9 : vs 9 = .tuple #[rcV C, ptV (sx + C.a - ra) (sy + C.b - rb), ptV (0 + C.a - ra) (0 + C.b - rb)] := (hD.facts 9 (by omega)).2.2.2
  have p10 : vs 10 = rcV C := (hD.facts 10 (by omega)).2.2.2
  have p11 : vs 11 = ptV (sx + C.a - ra) (sy + C.b - rb) := (hD.facts 11 (by omega)).2.2.2
  have p12 : vs 12 = ptV (0 + C.a - ra) (0 + C.b - rb) := (hD.facts 12 (by omega)).2.2.2
  obtain ⟨p13, q13, b13⟩ : vs 13 = .pointer (some ⟨lo 13, 0, none⟩) ∧ hi 13 = lo 13 + 1 ∧ Blk W7 (lo 13) 28 #[iv 0, iv 0, iv 0, iv 0] := (hD.facts 13 (by omega)).2.2.2
  have l13 := (hD.facts 13 (by omega)).1
  obtain ⟨p14, q14, b14⟩ : vs 14 = .pointer (some ⟨lo 14, 0, none⟩) ∧ hi 14 = lo 14 + 1 ∧ Blk W7 (lo 14) 34 #[iv 0, iv 0] := (hD.facts 14 (by omega)).2.2.2
  have l14 := (hD.facts 14 (by omega)).1
  obtain ⟨p15, q15, b15⟩ : vs 15 = .pointer (some ⟨lo 15, 0, none⟩) ∧ hi 15 = lo 15 + 1 ∧ Blk W7 (lo 15) 34 #[iv 0, iv 0] := (hD.facts 15 (by omega)).2.2.2
  have l15 := (hD.facts 15 (by omega)).1
  have d13_14 : lo 13 ≠ lo 14 := by have := hD.apart 13 14 (by omega) (by omega) (by omega); omega
  have d13_15 : lo 13 ≠ lo 15 := by have := hD.apart 13 15 (by omega) (by omega) (by omega); omega
  have d14_15 : lo 14 ≠ lo 15 := by have := hD.apart 14 15 (by omega) (by omega) (by omega); omega
  simp only [p0, p1, p2, p3, p4, p5, p6, p7, p8, p9, p10, p11, p12, p13, p14, p15]
  clear p0 p1 p2 p3 p4 p5 p6 p7 p8 p9 p10 p11 p12 p13 p14 p15
  have hW7 := hD.bel
  generalize lo 13 = g13 at *
  generalize lo 14 = g14 at *
  generalize lo 15 = g15 at *
  clear hD q13 q14 q15 lo hi vs
  have w13 := b13.cells4
  have w14 := b14.cells2
  have w15 := b15.cells2
  have z7 : W5.heap.size ≤ W7.heap.size := hW7.size
  have z13 := b13.lt
  have z14 := b14.lt
  have z15 := b15.lt
  have y13 : W5.heap.size ≤ g13 := l13
  have y14 : W5.heap.size ≤ g14 := l14
  have y15 : W5.heap.size ≤ g15 := l15
  clear l13 l14 l15
  go_wp2_with fail
  have B13 := hid (((b13.set4_ (iv C.a) (iv C.b) (iv C.c) (iv C.d)).far2 d13_14 (iv (sx + C.a - ra)) (iv (sy + C.b - rb))).far2 d13_15 (iv (C.a - ra)) (iv (C.b - rb)))
  have B14 := hid (((b14.far4 (Ne.symm d13_14) (iv C.a) (iv C.b) (iv C.c) (iv C.d)).set2_ (iv (sx + C.a - ra)) (iv (sy + C.b - rb))).far2 d14_15 (iv (C.a - ra)) (iv (C.b - rb)))
  have hs7 : Below W5.heap.size W5 W7 := ⟨hW7.os, hW7.tape, hW7.output, hW7.size, hW7.block⟩
  have b58 : Below W5.heap.size W5 (set2 (set2 (set4 W7 g13 (iv C.a) (iv C.b) (iv C.c) (iv C.d)) g14 (iv (sx + C.a - ra)) (iv (sy + C.b - rb))) g15 (iv (C.a - ra)) (iv (C.b - rb))) := below2 (below2 (below4 hs7 y13 _ _ _ _) y14 _ _) y15 _ _
  change Calls _ _ _ (set2 (set2 (set4 W7 g13 (iv C.a) (iv C.b) (iv C.c) (iv C.d)) g14 (iv (sx + C.a - ra)) (iv (sy + C.b - rb))) g15 (iv (C.a - ra)) (iv (C.b - rb))) _
  clear hW7 hs7 b13 b14 b15 w13 w14 w15 z13 z14 z15 y13 y14 y15 d13_14 d13_15 d14_15
  generalize set2 (set2 (set4 W7 g13 (iv C.a) (iv C.b) (iv C.c) (iv C.d)) g14 (iv (sx + C.a - ra)) (iv (sy + C.b - rb))) g15 (iv (C.a - ra)) (iv (C.b - rb)) = W8 at *
  have z8 : W5.heap.size ≤ W8.heap.size := b58.size
  have D8 := hid (D6.out.keep b58)
  have S8 := hid (S6.out.keep b58)
  have bw8 := bw6.trans (b58.mono (by omega))
  clear b58 bw6 D6 S6 A6
  refine (empty_any C.a C.b C.c C.d _).mono ?_
  rintro e w9 ⟨rfl, hb9⟩
  have D9 := hid (D8.out.keep hb9)
  have S9 := hid (S8.out.keep hb9)
  have B13' := hid (B13.out.keep hb9)
  have B14' := hid (B14.out.keep hb9)
  have bw9 := bw8.trans (hb9.mono (by omega))
  have z9 := hb9.size
  clear hb9 bw8 D8 S8 B13 B14
  cases hE : emptyB C.a C.b C.c C.d with
  | true =>
    go_wp2_with fail
    go_returns; exact ⟨rfl, by (repeat' (first | (with_reducible exact Below.refl _ _) | (with_reducible assumption) | (with_reducible refine drewN_below ?_ _) | (with_reducible refine Below.drew ?_) | (with_reducible refine Below.alloc ?_ ?_ _) | (with_reducible refine Below.setCell ?_ ?_ _) | (with_reducible refine below_via (by with_reducible assumption) ?_ ?_) | go_size))⟩
  | false =>
  go_wp2_with fail
  have hV : ValidP 0 d1 d2 d3 d4 dn ds := by first | exact HV.out rfl | exact HV.out trivial
  have hS : ValidP sk s1 s2 s3 s4 sn ss := by first | exact SV.out rfl | exact SV.out trivial
  obtain ⟨v1, v2, v3, v4, v5, v6, v7⟩ := hV.2.2.2.2 (by omega)
  obtain ⟨Wd, hWd⟩ : ∃ Wd : Nat, d3 = d1 + (Wd : Int) := ⟨(d3 - d1).toNat, by omega⟩
  obtain ⟨H, hH⟩ : ∃ H : Nat, d4 = d2 + (H : Int) := ⟨(d4 - d2).toNat, by omega⟩
  have hN : dn = 4 * (H * Wd) := by
    have e1 : d3 - d1 = (Wd : Int) := by omega
    have e2 : d4 - d2 = (H : Int) := by omega
    rw [e1, e2, show sizeI 0 = 4 from rfl] at v7
    have e3 : ((4 * (H * Wd) : Nat) : Int) = (Wd : Int) * (H : Int) * 4 := by
      simp only [Int.natCast_mul]
      rw [Int.mul_comm (Wd : Int) (H : Int), Int.mul_comm _ (4 : Int)]
      rfl
    omega
  have hCi : Hid (C.in_ 1000) := by rw [HC.out]; exact Rc.common_in _ (by omega) (Rc.common_in _ (by omega) hr.out)
  have HR := hid ((HRUN.out Wd H (by first | rfl | trivial) (by first | rfl | trivial) HIN.out hV hS hsx hsy hE hWd hH).keep bw9)
  have HP := hid (show (-4000 ≤ sx + C.a - ra ∧ sx + C.a - ra ≤ 4000) ∧ (-4000 ≤ sy + C.b - rb ∧ sy + C.b - rb ≤ 4000) by
    obtain ⟨⟨a1, a2⟩, ⟨b1, b2⟩, _⟩ := hCi.out
    obtain ⟨⟨a3, a4⟩, ⟨b3, b4⟩, _⟩ := HIN.out
    exact ⟨by omega, by omega⟩)
  have HWd := hid hWd; have HH := hid hH; have HN := hid hN
  have K1 := hid (show (-1000 ≤ d1 ∧ d1 ≤ 1000) ∧ (-1000 ≤ d2 ∧ d2 ≤ 1000) ∧ Wd ≤ 1000 ∧ H ≤ 1000 from ⟨by omega, by omega, by omega, by omega⟩)
  have HDB9 := hid (HDB.out.keep bw9)
  clear hV hS v1 v2 v3 v4 v5 v6 v7 hWd hH hN
  refine Plan.wp_region_stepsg 9 [] [(fun v _ => v = imgV 0 d1 d2 d3 d4 (.slice dA dn dc)), (fun v _ => v = .func (.func f) #[] cap), (fun v wx => ∃ A c gs, v = .slice A dn c ∧ ByteSlM wx A dn c gs ∧ AllOk w9 (imgV sk s1 s2 s3 s4 (.slice sA sn sc)) d1 d2 Wd H C (sx + C.a - ra) (sy + C.b - rb) op ds gs), (fun v _ => v = rcV C), (fun v _ => v = ptV (sx + C.a - ra) (sy + C.b - rb)), (fun v _ => v = ptV 0 0), (fun v _ => v = imgV sk s1 s2 s3 s4 (.slice sA sn sc)), (fun v _ => v = iv op), (fun v _ => v = .bool true)] [] ⟨Plan.st_const _, Plan.st_const _, (runOk_mono), Plan.st_const _, Plan.st_const _, Plan.st_const _, Plan.st_const _, Plan.st_const _, Plan.st_const _, trivial⟩ (by kernel_rfl) (by kernel_rfl) (fun _ _ _ _ _ h => h) ?_ ?_
  · refine ⟨?_, ?_, ?_, ?_, ?_, ?_, ?_, ?_, ?_, trivial⟩
    · -- 0: Op.load 24 (Operand.tmp 8)
      intro a W hold hdep hb
      have e8 : a.tmps[8]?.getD undef = .pointer (some ⟨w.heap.size, 0, none⟩) := Plan.ev (hold 8 (by kernel_rfl))
      have CC := ((D9.out).drew.keep hb).cells6
      clear hold hdep
      exact Plan.stepg_pure rfl rfl (imgV 0 d1 d2 d3 d4 (.slice dA dn dc)) (by go_simp <;> exact IntWalk.i64_in _ (by omega)) rfl
    · -- 1: Op.move (Operand.tmp 7)
      intro a W hold hdep hb
      have e7 : a.tmps[7]?.getD undef = .func (.func f) #[] cap := Plan.ev (hold 7 (by kernel_rfl))
      clear hold hdep
      exact Plan.stepg_pure rfl rfl (.func (.func f) #[] cap) (by go_simp <;> exact IntWalk.i64_in _ (by omega)) rfl
    · -- 2: Op.call { callee := Callee.value (Operand.tmp 73), args := #[], argTyp
      intro a W hold hdep hb
      have e73 : a.tmps[73]?.getD undef = .func (.func f) #[] cap := Plan.ev (Plan.dep_g (by rfl) (hdep 1 (by kernel_rfl)))
      clear hold hdep
      exact Plan.stepg_call rfl rfl (f := f) (args := cap) (by go_simp; exact HCF.out W) ((HR.out W (stay_below hb)).mono fun _ _ ⟨A, c, gs, he, hb, h1, h2⟩ => ⟨_, he, hb, A, c, gs, rfl, h1, h2⟩)
    · -- 3: Op.load 28 (Operand.tmp 19)
      intro a W hold hdep hb
      have e19 : a.tmps[19]?.getD undef = .pointer (some ⟨g13, 0, none⟩) := Plan.ev (hold 19 (by kernel_rfl))
      have CC := ((B13'.out).drew.keep hb).cells4.1
      clear hold hdep
      exact Plan.stepg_pure rfl rfl (rcV C) (by go_simp <;> exact IntWalk.i64_in _ (by omega)) rfl
    · -- 4: Op.load 34 (Operand.tmp 20)
      intro a W hold hdep hb
      have e20 : a.tmps[20]?.getD undef = .pointer (some ⟨g14, 0, none⟩) := Plan.ev (hold 20 (by kernel_rfl))
      have CC := ((B14'.out).drew.keep hb).cells2
      clear hold hdep
      exact Plan.stepg_pure rfl rfl (ptV (sx + C.a - ra) (sy + C.b - rb)) (by go_simp <;> exact IntWalk.i64_in _ (by omega)) rfl
    · -- 5: Op.build 34 #[]
      intro a W hold hdep hb
      clear hold hdep
      exact Plan.stepg_pure rfl rfl (ptV 0 0) (by go_simp <;> exact IntWalk.i64_in _ (by omega)) rfl
    · -- 6: Op.load 24 (Operand.tmp 10)
      intro a W hold hdep hb
      have e10 : a.tmps[10]?.getD undef = .pointer (some ⟨w.heap.size + 1 + 1, 0, none⟩) := Plan.ev (hold 10 (by kernel_rfl))
      have CC := ((S9.out).drew.keep hb).cells6
      clear hold hdep
      exact Plan.stepg_pure rfl rfl (imgV sk s1 s2 s3 s4 (.slice sA sn sc)) (by go_simp <;> exact IntWalk.i64_in _ (by omega)) rfl
    · -- 7: Op.move (Operand.tmp 6)
      intro a W hold hdep hb
      have e6 : a.tmps[6]?.getD undef = iv op := Plan.ev (hold 6 (by kernel_rfl))
      clear hold hdep
      exact Plan.stepg_pure rfl rfl (iv op) (by go_simp <;> exact IntWalk.i64_in _ (by omega)) rfl
    · -- 8: Op.call { callee := Callee.value (Operand.func 37), args := #[Operand.
      intro a W hold hdep hb
      have e72 : a.tmps[72]?.getD undef = imgV 0 d1 d2 d3 d4 (.slice dA dn dc) := Plan.ev (Plan.dep_g (by rfl) (hdep 0 (by kernel_rfl)))
      have p74 : (fun v wx => ∃ A c gs, v = .slice A dn c ∧ ByteSlM wx A dn c gs ∧ AllOk w9 (imgV sk s1 s2 s3 s4 (.slice sA sn sc)) d1 d2 Wd H C (sx + C.a - ra) (sy + C.b - rb) op ds gs) (a.tmps.getD 74 undef) W := Plan.dep_g (by rfl) (hdep 2 (by kernel_rfl))
      have e75 : a.tmps[75]?.getD undef = rcV C := Plan.ev (Plan.dep_g (by rfl) (hdep 3 (by kernel_rfl)))
      have e76 : a.tmps[76]?.getD undef = ptV (sx + C.a - ra) (sy + C.b - rb) := Plan.ev (Plan.dep_g (by rfl) (hdep 4 (by kernel_rfl)))
      have e77 : a.tmps[77]?.getD undef = ptV 0 0 := Plan.ev (Plan.dep_g (by rfl) (hdep 5 (by kernel_rfl)))
      have e78 : a.tmps[78]?.getD undef = imgV sk s1 s2 s3 s4 (.slice sA sn sc) := Plan.ev (Plan.dep_g (by rfl) (hdep 6 (by kernel_rfl)))
      have e79 : a.tmps[79]?.getD undef = iv op := Plan.ev (Plan.dep_g (by rfl) (hdep 7 (by kernel_rfl)))
      clear hold hdep
      obtain ⟨A, c, gs, hv, hg, ha⟩ := p74
      have g1 := Plan.ev hv
      have HG := hid hg
      have HA := hid ha
      clear hv hg ha
      exact Plan.stepg_call rfl rfl (f := 37) (args := #[imgV 0 d1 d2 d3 d4 (.slice dA dn dc), .slice A dn c, rcV C, ptV (sx + C.a - ra) (sy + C.b - rb), ptV 0 0, imgV sk s1 s2 s3 s4 (.slice sA sn sc), .pointer none, iv op]) (by go_simp) ((drawn_any d1 d2 d3 d4 Wd H dA dn dc ds A c gs C (sx + C.a - ra) (sy + C.b - rb) 0 0 sk s1 s2 s3 s4 sA sn sc op W (HDB9.out.keep (stay_below hb)) HG.out HWd.out HH.out K1.out.1 K1.out.2.1 K1.out.2.2.1 K1.out.2.2.2 HN.out hCi.out HP.out.1 HP.out.2 HOP.out (HA.out.keep (stay_below hb))).mono fun _ _ ⟨he, hb⟩ => ⟨_, he, hb, rfl⟩)
  intro vs W10 lo hi hD
  change wpList _ _ _ _ { tmps := (Array.setIfInBounds (Array.setIfInBounds (Array.setIfInBounds (Array.setIfInBounds (Array.setIfInBounds (Array.setIfInBounds (Array.setIfInBounds (Array.setIfInBounds (Array.setIfInBounds _ 72 (vs 0)) 73 (vs 1)) 74 (vs 2)) 75 (vs 3)) 76 (vs 4)) 77 (vs 5)) 78 (vs 6)) 79 (vs 7)) 80 (vs 8)), defers := _ } _
  simp only [Plan.putAll_zero, List.setIfInBounds_toArray, List.set_cons_zero, List.set_cons_succ, List.drop_succ_cons, List.drop_zero]
  have p0 : vs 0 = imgV 0 d1 d2 d3 d4 (.slice dA dn dc) := (hD.facts 0 (by omega)).2.2.2
  have p1 : vs 1 = .func (.func f) #[] cap := (hD.facts 1 (by omega)).2.2.2
  have u2 : (fun v wx => ∃ A c gs, v = .slice A dn c ∧ ByteSlM wx A dn c gs ∧ AllOk w9 (imgV sk s1 s2 s3 s4 (.slice sA sn sc)) d1 d2 Wd H C (sx + C.a - ra) (sy + C.b - rb) op ds gs) (vs 2) W10 := (hD.facts 2 (by omega)).2.2.2
  have p3 : vs 3 = rcV C := (hD.facts 3 (by omega)).2.2.2
  have p4 : vs 4 = ptV (sx + C.a - ra) (sy + C.b - rb) := (hD.facts 4 (by omega)).2.2.2
  have p5 : vs 5 = ptV 0 0 := (hD.facts 5 (by omega)).2.2.2
  have p6 : vs 6 = imgV sk s1 s2 s3 s4 (.slice sA sn sc) := (hD.facts 6 (by omega)).2.2.2
  have p7 : vs 7 = iv op := (hD.facts 7 (by omega)).2.2.2
  have p8 : vs 8 = .bool true := (hD.facts 8 (by omega)).2.2.2
  simp only [p0, p1, p3, p4, p5, p6, p7, p8]
  clear p0 p1 p3 p4 p5 p6 p7 p8
  have hW10 := hD.bel
  generalize vs 2 = V2 at *
  clear hD  lo hi vs
  have bw10 : Below w.heap.size w W10 := bw9.trans ((stay_below hW10).mono (by omega))
  go_wp2_with fail
  go_returns
  exact ⟨rfl, by (repeat' (first | (with_reducible exact Below.refl _ _) | (with_reducible assumption) | (with_reducible refine drewN_below ?_ _) | (with_reducible refine Below.drew ?_) | (with_reducible refine Below.alloc ?_ ?_ _) | (with_reducible refine Below.setCell ?_ ?_ _) | (with_reducible refine below_via (by with_reducible assumption) ?_ ?_) | go_size))⟩
end Go.Proofs.Ytlnfcjaempojgaa
