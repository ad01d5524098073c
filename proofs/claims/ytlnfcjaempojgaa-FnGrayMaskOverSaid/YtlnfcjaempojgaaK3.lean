/- Contract of inner: the images are made, the rectangle is cut, and the given function draws. -/
import Derived.Test.YtlnfcjaempojgaaK1
import Derived.Test.YtlnfcjaempojgaaE2
import Derived.Test.YtlnfcjaempojgaaPlanR
set_option linter.unusedVariables false
namespace Go.Proofs.Ytlnfcjaempojgaa
open Go.RowKit

theorem DstAt.keep {w W : World} {gD gp cap n : Nat} {d1 d2 d3 d4 : Int} {Wd H : Nat} {f : Nat → Int} (h : DstAt w gD gp cap n d1 d2 d3 d4 Wd H f) (hb : Below w.heap.size w W) : DstAt W gD gp cap n d1 d2 d3 d4 Wd H f :=
  ⟨h.blk.keep hb, h.row.keep hb, h.cap, h.w3, h.w4, h.len, h.b1, h.b2⟩
theorem SrcAt.keep {T : TypeId} {z : Nat} {w W : World} {gS gq cap n : Nat} {st s1 s2 s3 s4 : Int} {Ws Hs : Nat} {f : Nat → Int} (h : SrcAt T z w gS gq cap n st s1 s2 s3 s4 Ws Hs f) (hb : Below w.heap.size w W) : SrcAt T z W gS gq cap n st s1 s2 s3 s4 Ws Hs f :=
  ⟨h.blk.keep hb, h.row.keep hb, h.cap, h.w3, h.w4, h.len, h.b1, h.b2⟩
theorem Plan.ev_ {a : Act} {k : Nat} {v : Value} (h : a.tmps[k]?.getD undef = v) : a.eval (.tmp k) = v := Plan.ev' h

/-- make, handed v, makes what SP tells; its blocks lie from lo to, but without, hi. -/
def Makes (v : Value) (w : World) (SP : Value → Nat → Nat → World → Prop) : Prop := ∀ W, Below w.heap.size w W → Calls Try.prog 69 #[v] W fun e w' => ∃ V, e = .returned V ∧ Below W.heap.size W w' ∧ SP V W.heap.size w'.heap.size w'
theorem Makes.keep {v : Value} {w W : World} {SP : Value → Nat → Nat → World → Prop} (h : Makes v w SP) (hb : Below w.heap.size w W) : Makes v W SP := fun W' hW => h W' (hb.trans (hW.mono hb.size))

/-- A new destination. -/
def NewDst (n : Nat) (d1 d2 d3 d4 : Int) (Wd H : Nat) (f : Nat → Int) (v : Value) (lo hi : Nat) (w : World) : Prop :=
  ∃ g gp c, v = .iface 84 (.pointer (some ⟨g, 0, none⟩)) ∧ (lo ≤ g ∧ g < hi) ∧ (lo ≤ gp ∧ gp < hi) ∧ DstAt w g gp c n d1 d2 d3 d4 Wd H f
theorem newDst_st {n : Nat} {d1 d2 d3 d4 : Int} {Wd H : Nat} {f : Nat → Int} : Plan.StableR (fun v _ lo hi w => NewDst n d1 d2 d3 d4 Wd H f v lo hi w) := fun _ _ _ _ _ _ ⟨g, gp, c, hv, h1, h2, h3⟩ _ hb => ⟨g, gp, c, hv, h1, h2, h3.keep hb⟩
theorem assert84 (g : Nat) (w : World) : (Instr.typeAssert (.iface 84 (.pointer (some ⟨g, 0, none⟩))) 79 84 false).run Try.prog w = .ok (.pointer (some ⟨g, 0, none⟩)) w := by kernel_rfl

/-- What is handed back: the destination's row of bytes. -/
def DrewV (n : Nat) (Res : (Nat → Int) → Prop) (v : Value) (w : World) : Prop := ∃ gp c f', v = .slice (some ⟨gp, 0, none⟩) n c ∧ PixRow w gp c n f' ∧ Res f' ∧ n ≤ c ∧ c ≤ 9223372036854775807
theorem drewV_st {n : Nat} {Res : (Nat → Int) → Prop} : Plan.Stable (DrewV n Res) := fun _ _ _ ⟨gp, c, f', h1, h2, h3⟩ hb => ⟨gp, c, f', h1, h2.keep hb, h3⟩
def Drew (n : Nat) (Res : (Nat → Int) → Prop) (w : World) (e : Ending) (w' : World) : Prop := ∃ v, e = .returned v ∧ Below w.heap.size w w' ∧ DrewV n Res v w'

/-- What the given function does. -/
def Draws (fid : FuncId) (n : Nat) (d1 d2 d3 d4 : Int) (Wd H : Nat) (f : Nat → Int) (SP MP : Value → Nat → Nat → World → Prop) (C : Rc) (px py qx qy : Int) (Res : (Nat → Int) → Prop) : Prop :=
  ∀ W gD gp c S slo shi M mlo mhi, DstAt W gD gp c n d1 d2 d3 d4 Wd H f → SP S slo shi W → (gp < slo ∨ shi ≤ gp) → MP M mlo mhi W → (gp < mlo ∨ mhi ≤ gp) →
    Calls Try.prog fid #[.pointer (some ⟨gD, 0, none⟩), rcV C, S, ptV px py, M, ptV qx qy] W fun e w' => (∃ v, e = .returned v) ∧ Only [gp] W w' ∧ ∃ f', PixRow w' gp c n f' ∧ Res f'

/-- What clip does. -/
def Clips (d1 d2 d3 d4 : Int) (r : Rc) (sx sy mx my : Int) (SP MP : Value → Nat → Nat → World → Prop) (C : Rc) : Prop :=
  ∀ W D S slo shi M mlo mhi g1 g2 g3, HasB W D ⟨d1, d2, d3, d4⟩ → SP S slo shi W → MP M mlo mhi W → Blk W g1 73 #[iv r.a, iv r.b, iv r.c, iv r.d] → Blk W g2 71 #[iv sx, iv sy] → Blk W g3 71 #[iv mx, iv my] → g1 ≠ g2 → g1 ≠ g3 → g2 ≠ g3 →
    Calls Try.prog 68 #[D, .pointer (some ⟨g1, 0, none⟩), S, .pointer (some ⟨g2, 0, none⟩), M, .pointer (some ⟨g3, 0, none⟩)] W (ClipPost g1 g2 g3 C (sx + (C.a - r.a)) (sy + (C.b - r.b)) (mx + (C.a - r.a)) (my + (C.b - r.b)) W)

set_option maxRecDepth 20000 in
set_option maxHeartbeats 4000000 in
theorem inner_any (d1 d2 d3 d4 : Int) (dsl : Value) (n Wd H : Nat) (f : Nat → Int) (r : Rc) (sk s1 s2 s3 s4 : Int) (ss : Value) (sx sy : Int) (mk k1 k2 k3 k4 : Int) (ms : Value) (mx my : Int) (fid : FuncId) (SP MP : Value → Nat → Nat → World → Prop) (C : Rc) (Res : (Nat → Int) → Prop) (w : World)
    (hD : Makes (imgV 0 d1 d2 d3 d4 dsl) w (NewDst n d1 d2 d3 d4 Wd H f)) (hS : Makes (imgV sk s1 s2 s3 s4 ss) w SP) (hM : Makes (imgV mk k1 k2 k3 k4 ms) w MP) (sS : Plan.StableL SP) (sM : Plan.StableL MP)
    (hcl : Clips d1 d2 d3 d4 r sx sy mx my SP MP C) (hE : emptyB C.a C.b C.c C.d = false)
    (hcf : ∀ a b c d e g W, (callFunc fid #[a, b, c, d, e, g]).run Try.prog W = .ok (.enter fid #[a, b, c, d, e, g]) W)
    (hf : Draws fid n d1 d2 d3 d4 Wd H f SP MP C (sx + (C.a - r.a)) (sy + (C.b - r.b)) (mx + (C.a - r.a)) (my + (C.b - r.b)) Res) :
    Calls Try.prog 70 #[imgV 0 d1 d2 d3 d4 dsl, fourV r.a r.b r.c r.d, imgV sk s1 s2 s3 s4 ss, iv sx, iv sy, imgV mk k1 k2 k3 k4 ms, iv mx, iv my, .func (.func fid) #[] #[]] w (Drew n Res w) := by
  have HD := hid hD; have HS := hid hS; have HM := hid hM; have HCL := hid hcl; have HE := hid hE; have HCF := hid hcf; have HF := hid hf; have SS := hid sS; have SM := hid sM
  clear hD hS hM hcl hE hcf hf sS sM
  go_enter Try.func70, Try.ntmps70
  go_wp2_with fail
  obtain ⟨W0, hW0⟩ : ∃ W : World, W = ((((w.alloc (.cells #[iv 0, iv d1, iv d2, iv d3, iv d4, dsl] 59)).alloc (.cells #[iv r.a, iv r.b, iv r.c, iv r.d] 25)).alloc (.cells #[iv sk, iv s1, iv s2, iv s3, iv s4, ss] 59)).alloc (.cells #[iv mk, iv k1, iv k2, iv k3, iv k4, ms] 59)) := ⟨_, rfl⟩
  rw [← hW0]
  have B0 : Hid (Blk W0 (w.heap.size) 59 #[iv 0, iv d1, iv d2, iv d3, iv d4, dsl]) := by rw [hW0]; exact Blk.alloc (Blk.alloc (Blk.alloc (Blk.new_at (W := w) (t := 59) (cs := #[iv 0, iv d1, iv d2, iv d3, iv d4, dsl]) (by simp)) _) _) _
  have B1 : Hid (Blk W0 (w.heap.size + 1) 25 #[iv r.a, iv r.b, iv r.c, iv r.d]) := by rw [hW0]; exact Blk.alloc (Blk.alloc (Blk.new_at (W := (w.alloc (.cells #[iv 0, iv d1, iv d2, iv d3, iv d4, dsl] 59))) (t := 25) (cs := #[iv r.a, iv r.b, iv r.c, iv r.d]) (by simp)) _) _
  have B2 : Hid (Blk W0 (w.heap.size + 1 + 1) 59 #[iv sk, iv s1, iv s2, iv s3, iv s4, ss]) := by rw [hW0]; exact Blk.alloc (Blk.new_at (W := ((w.alloc (.cells #[iv 0, iv d1, iv d2, iv d3, iv d4, dsl] 59)).alloc (.cells #[iv r.a, iv r.b, iv r.c, iv r.d] 25))) (t := 59) (cs := #[iv sk, iv s1, iv s2, iv s3, iv s4, ss]) (by simp)) _
  have B3 : Hid (Blk W0 (w.heap.size + 1 + 1 + 1) 59 #[iv mk, iv k1, iv k2, iv k3, iv k4, ms]) := by rw [hW0]; exact Blk.new_at (W := (((w.alloc (.cells #[iv 0, iv d1, iv d2, iv d3, iv d4, dsl] 59)).alloc (.cells #[iv r.a, iv r.b, iv r.c, iv r.d] 25)).alloc (.cells #[iv sk, iv s1, iv s2, iv s3, iv s4, ss] 59))) (t := 59) (cs := #[iv mk, iv k1, iv k2, iv k3, iv k4, ms]) (by simp)
  have bW0 : Below w.heap.size w W0 := by rw [hW0]; go_grown
  have sW0 : W0.heap.size = w.heap.size + 4 := by rw [hW0]; simp
  have SW0 := hid sW0
  have zW0 : w.heap.size + 4 ≤ W0.heap.size := by omega
  clear sW0 hW0
  have HB := hid bW0
  clear bW0
  refine Plan.wp_region_stepsr 7 [] (fun i => [7, 7, 1, 7, 7, 7, 7].getD i 7) [(fun v _ _ _ _ => v = imgV 0 d1 d2 d3 d4 dsl), (fun v _ lo hi w => NewDst n d1 d2 d3 d4 Wd H f v lo hi w), (fun v u _ _ _ => ∃ g, u = .iface 84 (.pointer (some ⟨g, 0, none⟩)) ∧ v = .pointer (some ⟨g, 0, none⟩)), (fun v _ _ _ _ => v = imgV sk s1 s2 s3 s4 ss), (fun v _ lo hi w => SP v lo hi w), (fun v _ _ _ _ => v = imgV mk k1 k2 k3 k4 ms), (fun v _ lo hi w => MP v lo hi w)] ⟨Plan.str_const _, (newDst_st), (Plan.str_rel _), Plan.str_const _, (Plan.str_ofl SS.out), Plan.str_const _, (Plan.str_ofl SM.out), trivial⟩ (by kernel_rfl) (by kernel_rfl) (by kernel_rfl) (fun _ _ _ _ _ h => h) ?_ ?_
  · refine ⟨?_, ?_, ?_, ?_, ?_, ?_, ?_, trivial⟩
    · -- 0: Op.load 59 (Operand.tmp 9)
      intro a W hold hdep hb
      have e9 : a.tmps[9]?.getD undef = .pointer (some ⟨w.heap.size, 0, none⟩) := Plan.ev (hold 9 (by kernel_rfl))
      have CC := ((B0.out).drew.keep hb).cells6
      clear hold hdep
      exact Plan.stepr_pure rfl (imgV 0 d1 d2 d3 d4 dsl) (by go_simp <;> exact IntWalk.i64_in _ (by omega)) rfl
    · -- 1: Op.call { callee := Callee.value (Operand.func 69), args := #[Operand.
      intro a W hold hdep hb
      have e25 : a.tmps[25]?.getD undef = imgV 0 d1 d2 d3 d4 dsl := by obtain ⟨_, _, _, _, h⟩ := Plan.dep_r (hdep 0 (by kernel_rfl)); exact Plan.ev h
      clear hold hdep
      exact Plan.stepr_call rfl (f := 69) (args := #[imgV 0 d1 d2 d3 d4 dsl]) (by go_simp) ((HD.out W (HB.out.trans ((stay_below hb).mono (by omega)))).mono fun _ _ ⟨V, he, hb, h⟩ => ⟨V, he, hb, h⟩)
    · -- 2: Op.typeAssert (Operand.tmp 26) 79 84 false
      intro a W hold hdep hb
      obtain ⟨lo26, hi26, hlo26, hhi26, p26⟩ : ∃ lo hi, _ ≤ lo ∧ hi ≤ W.heap.size ∧ (fun v _ lo hi w => NewDst n d1 d2 d3 d4 Wd H f v lo hi w) (a.tmps.getD 26 undef) (undef) lo hi W := Plan.dep_r (hdep 1 (by kernel_rfl))
      clear hold hdep
      obtain ⟨g, gp, c, hv, _⟩ := p26
      exact Plan.stepr_pure rfl (.pointer (some ⟨g, 0, none⟩)) (exec_assert (Plan.ev_ (Plan.ev hv)) (assert84 g W)) ⟨g, hv, rfl⟩
    · -- 3: Op.load 59 (Operand.tmp 11)
      intro a W hold hdep hb
      have e11 : a.tmps[11]?.getD undef = .pointer (some ⟨w.heap.size + 1 + 1, 0, none⟩) := Plan.ev (hold 11 (by kernel_rfl))
      have CC := ((B2.out).drew.keep hb).cells6
      clear hold hdep
      exact Plan.stepr_pure rfl (imgV sk s1 s2 s3 s4 ss) (by go_simp <;> exact IntWalk.i64_in _ (by omega)) rfl
    · -- 4: Op.call { callee := Callee.value (Operand.func 69), args := #[Operand.
      intro a W hold hdep hb
      have e28 : a.tmps[28]?.getD undef = imgV sk s1 s2 s3 s4 ss := by obtain ⟨_, _, _, _, h⟩ := Plan.dep_r (hdep 3 (by kernel_rfl)); exact Plan.ev h
      clear hold hdep
      exact Plan.stepr_call rfl (f := 69) (args := #[imgV sk s1 s2 s3 s4 ss]) (by go_simp) ((HS.out W (HB.out.trans ((stay_below hb).mono (by omega)))).mono fun _ _ ⟨V, he, hb, h⟩ => ⟨V, he, hb, h⟩)
    · -- 5: Op.load 59 (Operand.tmp 14)
      intro a W hold hdep hb
      have e14 : a.tmps[14]?.getD undef = .pointer (some ⟨w.heap.size + 1 + 1 + 1, 0, none⟩) := Plan.ev (hold 14 (by kernel_rfl))
      have CC := ((B3.out).drew.keep hb).cells6
      clear hold hdep
      exact Plan.stepr_pure rfl (imgV mk k1 k2 k3 k4 ms) (by go_simp <;> exact IntWalk.i64_in _ (by omega)) rfl
    · -- 6: Op.call { callee := Callee.value (Operand.func 69), args := #[Operand.
      intro a W hold hdep hb
      have e30 : a.tmps[30]?.getD undef = imgV mk k1 k2 k3 k4 ms := by obtain ⟨_, _, _, _, h⟩ := Plan.dep_r (hdep 5 (by kernel_rfl)); exact Plan.ev h
      clear hold hdep
      exact Plan.stepr_call rfl (f := 69) (args := #[imgV mk k1 k2 k3 k4 ms]) (by go_simp) ((HM.out W (HB.out.trans ((stay_below hb).mono (by omega)))).mono fun _ _ ⟨V, he, hb, h⟩ => ⟨V, he, hb, h⟩)
  intro vs W1 lo hi hD
  change wpList _ _ _ _ { tmps := (Array.setIfInBounds (Array.setIfInBounds (Array.setIfInBounds (Array.setIfInBounds (Array.setIfInBounds (Array.setIfInBounds (Array.setIfInBounds _ 25 (vs 0)) 26 (vs 1)) 27 (vs 2)) 28 (vs 3)) 29 (vs 4)) 30 (vs 5)) 31 (vs 6)), defers := _ } _
  simp only [Plan.putAll_zero, List.setIfInBounds_toArray, List.set_cons_zero, List.set_cons_succ, List.drop_succ_cons, List.drop_zero]
  have p0 : vs 0 = imgV 0 d1 d2 d3 d4 dsl := (hD.facts 0 (by omega)).2.2.2
  have u1 : (fun v _ lo hi w => NewDst n d1 d2 d3 d4 Wd H f v lo hi w) (vs 1) (undef) (lo 1) (hi 1) W1 := (hD.facts 1 (by omega)).2.2.2
  have l1 := (hD.facts 1 (by omega)).1
  have m1 := (hD.facts 1 (by omega)).2.1
  have h1 := (hD.facts 1 (by omega)).2.2.1
  have u2 : (fun v u _ _ _ => ∃ g, u = .iface 84 (.pointer (some ⟨g, 0, none⟩)) ∧ v = .pointer (some ⟨g, 0, none⟩)) (vs 2) (vs 1) (lo 2) (hi 2) W1 := (hD.facts 2 (by omega)).2.2.2
  have l2 := (hD.facts 2 (by omega)).1
  have m2 := (hD.facts 2 (by omega)).2.1
  have h2 := (hD.facts 2 (by omega)).2.2.1
  have p3 : vs 3 = imgV sk s1 s2 s3 s4 ss := (hD.facts 3 (by omega)).2.2.2
  have u4 : (fun v _ lo hi w => SP v lo hi w) (vs 4) (undef) (lo 4) (hi 4) W1 := (hD.facts 4 (by omega)).2.2.2
  have l4 := (hD.facts 4 (by omega)).1
  have m4 := (hD.facts 4 (by omega)).2.1
  have h4 := (hD.facts 4 (by omega)).2.2.1
  have p5 : vs 5 = imgV mk k1 k2 k3 k4 ms := (hD.facts 5 (by omega)).2.2.2
  have u6 : (fun v _ lo hi w => MP v lo hi w) (vs 6) (undef) (lo 6) (hi 6) W1 := (hD.facts 6 (by omega)).2.2.2
  have l6 := (hD.facts 6 (by omega)).1
  have m6 := (hD.facts 6 (by omega)).2.1
  have h6 := (hD.facts 6 (by omega)).2.2.1
  have d1_2 : hi 1 ≤ lo 2 ∨ hi 2 ≤ lo 1 := hD.apart 1 2 (by omega) (by omega) (by omega)
  have d1_4 : hi 1 ≤ lo 4 ∨ hi 4 ≤ lo 1 := hD.apart 1 4 (by omega) (by omega) (by omega)
  have d1_6 : hi 1 ≤ lo 6 ∨ hi 6 ≤ lo 1 := hD.apart 1 6 (by omega) (by omega) (by omega)
  have d2_4 : hi 2 ≤ lo 4 ∨ hi 4 ≤ lo 2 := hD.apart 2 4 (by omega) (by omega) (by omega)
  have d2_6 : hi 2 ≤ lo 6 ∨ hi 6 ≤ lo 2 := hD.apart 2 6 (by omega) (by omega) (by omega)
  have d4_6 : hi 4 ≤ lo 6 ∨ hi 6 ≤ lo 4 := hD.apart 4 6 (by omega) (by omega) (by omega)
  simp only [p0, p3, p5]
  clear p0 p3 p5
  have hW1 := hD.bel
  generalize lo 1 = lo1 at *
  generalize hi 1 = hi1 at *
  generalize lo 2 = lo2 at *
  generalize hi 2 = hi2 at *
  generalize lo 4 = lo4 at *
  generalize hi 4 = hi4 at *
  generalize lo 6 = lo6 at *
  generalize hi 6 = hi6 at *
  generalize vs 1 = V1 at *
  generalize vs 2 = V2 at *
  generalize vs 4 = V4 at *
  generalize vs 6 = V6 at *
  clear hD lo hi vs
  obtain ⟨gD, gp, cap, rfl, ⟨q1, q2⟩, ⟨q3, q4⟩, hdst⟩ := u1
  obtain ⟨gD', hx, rfl⟩ := u2
  obtain rfl : gD = gD' := by injection hx with _ hx; injection hx with hx; injection hx with hx; injection hx
  have q0 : W0.drew.heap.size = W0.heap.size := rfl
  have x4 : gp < lo4 ∨ hi4 ≤ gp := by omega
  have x6 : gp < lo6 ∨ hi6 ≤ gp := by omega
  have xp : W0.heap.size ≤ gp := by omega
  have y4 := HB.out
  have bw1 : Below w.heap.size w W1 := HB.out.trans ((stay_below hW1).mono (by omega))
  have R1 := hid ((B1.out).drew.keep hW1)
  have U4 := hid u4; have U6 := hid u6; have HDST := hid hdst
  have z1 : w.heap.size + 4 ≤ W1.heap.size := by have := hW1.size; omega
  have zp : gp < W1.heap.size := by omega
  have xw : w.heap.size ≤ gp := by omega
  have Z4 := hid h4; have Z6 := hid h6
  clear hx q0 q1 q2 q3 q4 l1 l2 l4 l6 m1 m2 m4 m6 h1 h2 h4 h6 d1_2 d1_4 d1_6 d2_4 d2_6 d4_6 hW1 HD HS HM B0 B1 B2 B3 u4 u6 hdst y4 xp
  have cR := R1.out.cells4
  have lR := R1.out.lt
  go_wp2_with fail
  refine (grect_any _ _ _ _ _).mono ?_
  rintro e w1 ⟨rfl, hb1⟩
  have zb := hb1.size
  clear cR lR R1
  go_wp2_with fail
  obtain ⟨W2, hW2⟩ : ∃ W : World, W = (((w1.alloc (.cells #[iv r.a, iv r.b, iv r.c, iv r.d] 73)).alloc (.cells #[iv sx, iv sy] 71)).alloc (.cells #[iv mx, iv my] 71)) := ⟨_, rfl⟩
  rw [← hW2]
  have N0 : Hid (Blk W2 (w1.heap.size) 73 #[iv r.a, iv r.b, iv r.c, iv r.d]) := by rw [hW2]; exact Blk.alloc (Blk.alloc (Blk.new_at (W := w1) (t := 73) (cs := #[iv r.a, iv r.b, iv r.c, iv r.d]) (by simp)) _) _
  have N1 : Hid (Blk W2 (w1.heap.size + 1) 71 #[iv sx, iv sy]) := by rw [hW2]; exact Blk.alloc (Blk.new_at (W := (w1.alloc (.cells #[iv r.a, iv r.b, iv r.c, iv r.d] 73))) (t := 71) (cs := #[iv sx, iv sy]) (by simp)) _
  have N2 : Hid (Blk W2 (w1.heap.size + 1 + 1) 71 #[iv mx, iv my]) := by rw [hW2]; exact Blk.new_at (W := ((w1.alloc (.cells #[iv r.a, iv r.b, iv r.c, iv r.d] 73)).alloc (.cells #[iv sx, iv sy] 71))) (t := 71) (cs := #[iv mx, iv my]) (by simp)
  have bW2 : Below w1.heap.size w1 W2 := by rw [hW2]; go_grown
  have sW2 : W2.heap.size = w1.heap.size + 3 := by rw [hW2]; simp
  have SW2 := hid sW2
  have zW2 : w1.heap.size + 3 ≤ W2.heap.size := by omega
  clear sW2 hW2
  have bb : Below W1.heap.size W1 W2 := hb1.trans (bW2.mono zb)
  refine (HCL.out W2 _ V4 lo4 hi4 V6 lo6 hi6 _ _ _ (hasB84 (HDST.out.blk.keep bb)) (SS.out _ _ _ _ _ U4.out Z4.out bb) (SM.out _ _ _ _ _ U6.out Z6.out bb) N0.out N1.out N2.out (by omega) (by omega) (by omega)).mono ?_
  rintro e W3 ⟨⟨v, rfl⟩, hO, f1, f2, f3⟩
  have b13 : Below W1.heap.size W1 W3 := bb.trans (hO.below (by omega) (fun g hg => by simp only [List.mem_cons, List.not_mem_nil, or_false] at hg; omega))
  have z3 : w1.heap.size + 3 ≤ W3.heap.size := by have := hO.size; omega
  clear hO bb bW2 N0 N1 N2 hb1
  have F1 := hid f1; have F2 := hid f2; have F3 := hid f3
  have B13 := hid b13
  have c1 := f1.cells4.1
  clear f1 f2 f3 b13
  generalize w1.heap.size = q at *
  go_wp2_with fail
  refine (gempty_any _ _ _ _ _).mono ?_
  rintro e W4 ⟨rfl, hb4⟩
  rw [HE.out]
  have b14 : Below W1.heap.size W1 W4 := B13.out.trans (hb4.mono (by omega))
  have z4 := hb4.size
  have c1 := (F1.out.keep hb4).cells4.1
  have c2 := (F2.out.keep hb4).cells2.1
  have c3 := (F3.out.keep hb4).cells2.1
  have HB4 := hid b14
  have hcf := HCF.out
  clear hb4 b14
  go_wp2_with fail
  refine (HF.out W4 gD gp cap V4 lo4 hi4 V6 lo6 hi6 (HDST.out.keep HB4.out) (SS.out _ _ _ _ _ U4.out Z4.out HB4.out) x4 (SM.out _ _ _ _ _ U6.out Z6.out HB4.out) x6).mono ?_
  rintro e W5 ⟨⟨v, rfl⟩, hO, f', hrow, hres⟩
  have nD : gD ≠ gp := fun h => by
    obtain ⟨cur, hc, _⟩ := HDST.out.row
    have := HDST.out.blk
    rw [h] at this
    rw [this] at hc
    simp at hc
  have cD := (hO.blk (HDST.out.blk.keep HB4.out) (by simp [nD])).cells6
  have bw5 : Below w.heap.size w W5 := (bw1.trans (HB4.out.mono (by omega))).trans (hO.below (by have := HB4.out.size; omega) (fun g hg => by simp only [List.mem_cons, List.not_mem_nil, or_false] at hg; omega))
  have HR := hid hres; have HRW := hid hrow
  have hcap := HDST.out.cap
  clear hO hrow hres c1 c2 c3 hcf
  go_wp2_with fail
  go_returns
  exact ⟨_, rfl, bw5, gp, cap, f', rfl, HRW.out, HR.out, hcap⟩
end Go.Proofs.Ytlnfcjaempojgaa
