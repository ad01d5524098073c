/- Contract of spec.Clip. -/
import Derived.Test.YtlnfcjaempojgaaA10
import Derived.Test.YtlnfcjaempojgaaPlan2
import Derived.BigRegion
namespace Go.Proofs.Ytlnfcjaempojgaa
open Go.RowKit
attribute [local go_sem high] run_imax run_imin run_imax3

structure Rc where
  a : Int
  b : Int
  c : Int
  d : Int
abbrev rcV (r : Rc) : Value := .agg #[.int .i64 r.a, .int .i64 r.b, .int .i64 r.c, .int .i64 r.d]
def Rc.emp (r : Rc) : Bool := emptyB r.a r.b r.c r.d
def Rc.cut (r s : Rc) : Rc := ⟨imax r.a s.a, imax r.b s.b, imin r.c s.c, imin r.d s.d⟩
def Rc.common (r s : Rc) : Rc := if (r.cut s).emp = true then ⟨0, 0, 0, 0⟩ else r.cut s
def Rc.moved (r : Rc) (x y : Int) : Rc := ⟨r.a + x, r.b + y, r.c + x, r.d + y⟩
/-- Its numbers are within n. -/
def Rc.in_ (r : Rc) (n : Int) : Prop := (-n ≤ r.a ∧ r.a ≤ n) ∧ (-n ≤ r.b ∧ r.b ≤ n) ∧ (-n ≤ r.c ∧ r.c ≤ n) ∧ (-n ≤ r.d ∧ r.d ≤ n)

theorem common_any (r s : Rc) (w : World) : Calls Try.prog 47 #[rcV r, rcV s] w fun e w' => e = .returned (rcV (r.common s)) ∧ Below w.heap.size w w' := by
  unfold Rc.common
  by_cases h : (r.cut s).emp = true
  · rw [if_pos h]
    exact common_none r.a r.b r.c r.d s.a s.b s.c s.d w h
  · rw [if_neg h]
    exact common_some r.a r.b r.c r.d s.a s.b s.c s.d w (by simpa [Rc.emp, Rc.cut] using h)

theorem moved_rc (r : Rc) (x y : Int) (w : World) (hr : r.in_ 4000000000) (hx : -4000000000 ≤ x ∧ x ≤ 4000000000) (hy : -4000000000 ≤ y ∧ y ≤ 4000000000) :
    Calls Try.prog 48 #[rcV r, iv x, iv y] w fun e w' => e = .returned (rcV (r.moved x y)) ∧ Below w.heap.size w w' :=
  moved_any r.a r.b r.c r.d x y w hr.1 hr.2.1 hr.2.2.1 hr.2.2.2 hx hy

theorem Blk.new_at {W : World} {t : TypeId} {cs : Array Value} {n : Nat} (h : W.heap.size = n) : Blk (W.alloc (.cells cs t)) n t cs := h ▸ Blk.new W t cs

theorem drew_below {a w : World} (h : Below a.heap.size a.drew w) : Below a.heap.size a w := ⟨h.os, h.tape, h.output, h.size, h.block⟩

theorem Rc.common_in {r : Rc} {n : Int} (s : Rc) (hn : 0 ≤ n) (h : r.in_ n) : (r.common s).in_ n := by
  unfold Rc.common
  obtain ⟨h1, h2, h3, h4⟩ := h
  split
  · exact ⟨⟨by show -n ≤ 0; omega, hn⟩, ⟨by show -n ≤ 0; omega, hn⟩, ⟨by show -n ≤ 0; omega, hn⟩, ⟨by show -n ≤ 0; omega, hn⟩⟩
  · rename_i he
    have he' : (r.cut s).emp = false := by simpa using he
    obtain ⟨e1, e2⟩ := emptyB_not.1 he'
    unfold Rc.cut at e1 e2 ⊢
    simp only [imax_eq, imin_eq] at e1 e2
    unfold Rc.in_
    simp only [imax_eq, imin_eq]
    omega

/-- Four cells of a block stored one behind the other. -/
def set4 (w : World) (g : Nat) (a b c d : Value) : World := (((w.setCell ⟨g, 0, none⟩ a).setCell ⟨g, 1, none⟩ b).setCell ⟨g, 2, none⟩ c).setCell ⟨g, 3, none⟩ d
theorem Blk.set4_ {w : World} {g : Nat} {t : TypeId} {x y z u : Value} (h : Blk w g t #[x, y, z, u]) (a b c d : Value) : Blk (set4 w g a b c d) g t #[a, b, c, d] := (((h.set_ 0 a).set_ 1 b).set_ 2 c).set_ 3 d
theorem Blk.far4 {w : World} {g g' : Nat} {t : TypeId} {cs : Array Value} (h : Blk w g t cs) (hne : g ≠ g') (a b c d : Value) : Blk (set4 w g' a b c d) g t cs := (((h.far (p := ⟨g', 0, none⟩) hne a).far (p := ⟨g', 1, none⟩) hne b).far (p := ⟨g', 2, none⟩) hne c).far (p := ⟨g', 3, none⟩) hne d
theorem below4 {B : Nat} {a w : World} (h : Below B a w) {g : Nat} (hg : B ≤ g) (x y z u : Value) : Below B a (set4 w g x y z u) := (((h.setCell (p := ⟨g, 0, none⟩) hg x).setCell (p := ⟨g, 1, none⟩) hg y).setCell (p := ⟨g, 2, none⟩) hg z).setCell (p := ⟨g, 3, none⟩) hg u
theorem size_set4 (w : World) (g : Nat) (x y z u : Value) : (set4 w g x y z u).heap.size = w.heap.size := by simp [set4]

theorem Blk.cells2 {w : World} {g : Nat} {t : TypeId} {a b : Value} (h : Blk w g t #[a, b]) : (w.cell? ⟨g, 0, none⟩ = some a ∧ w.cell? ⟨g, 1, none⟩ = some b) ∧ (w.frozen? ⟨g, 0, none⟩ = false ∧ w.frozen? ⟨g, 1, none⟩ = false) := ⟨⟨h.cell 0, h.cell 1⟩, h.frozen 0, h.frozen 1⟩

theorem cell_far {w : World} {b o b' o' : Nat} {v : Value} (h : b ≠ b') : (w.setCell ⟨b, o, none⟩ v).cell? ⟨b', o', none⟩ = w.cell? ⟨b', o', none⟩ := World.cell?_setCell_far w _ _ v h
theorem cell_drew {w : World} {a : Addr} : w.drew.cell? a = w.cell? a := rfl
abbrev ptV (x y : Int) : Value := .agg #[.int .i64 x, .int .i64 y]

set_option maxRecDepth 20000 in
set_option maxHeartbeats 1000000 in
theorem clip_plain (dst r src mask : Rc) (sx sy mx my : Int) (w : World) (hr : r.in_ 1000) (hs : src.in_ 4000000000) (hsx : -1000 ≤ sx ∧ sx ≤ 1000) (hsy : -1000 ≤ sy ∧ sy ≤ 1000) (hmx : -1000 ≤ mx ∧ mx ≤ 1000) (hmy : -1000 ≤ my ∧ my ≤ 1000)
    (C : Rc) (hC : C = (r.common dst).common (src.moved (r.a - sx) (r.b - sy))) :
    Calls Try.prog 19 #[rcV dst, rcV r, rcV src, iv sx, iv sy, rcV mask, .bool false, iv mx, iv my] w fun e w' =>
      e = .returned (.tuple #[rcV C, ptV (sx + C.a - r.a) (sy + C.b - r.b), ptV (mx + C.a - r.a) (my + C.b - r.b)]) ∧ Below w.heap.size w w' := by
  have hS := hid hs
  have hCi : C.in_ 1000 := by rw [hC]; exact Rc.common_in _ (by omega) (Rc.common_in _ (by omega) hr)
  obtain ⟨hra, hrb, hrc, hrd⟩ := hr
  obtain ⟨hca, hcb, hcc, hcd⟩ := hCi
  have HC := hid hC
  clear hs hC
  go_enter Try.func19, Try.ntmps19
  go_wp2_with fail
  obtain ⟨W0, hW0⟩ : ∃ W : World, W = (((((((w.alloc (.cells #[iv dst.a, iv dst.b, iv dst.c, iv dst.d] 28)).alloc (.cells #[iv r.a, iv r.b, iv r.c, iv r.d] 28)).alloc (.cells #[iv src.a, iv src.b, iv src.c, iv src.d] 28)).alloc (.cells #[iv mask.a, iv mask.b, iv mask.c, iv mask.d] 28)).alloc (.cells #[iv 0, iv 0, iv 0, iv 0] 28)).alloc (.cells #[iv 0, iv 0] 34)).alloc (.cells #[iv 0, iv 0] 34)) := ⟨_, rfl⟩
  rw [← hW0]
  have B0 : Hid (Blk W0 (w.heap.size) 28 #[iv dst.a, iv dst.b, iv dst.c, iv dst.d]) := by rw [hW0]; exact Blk.alloc (Blk.alloc (Blk.alloc (Blk.alloc (Blk.alloc (Blk.alloc (Blk.new_at (W := w) (t := 28) (cs := #[iv dst.a, iv dst.b, iv dst.c, iv dst.d]) (by simp)) _) _) _) _) _) _
  have B1 : Hid (Blk W0 (w.heap.size + 1) 28 #[iv r.a, iv r.b, iv r.c, iv r.d]) := by rw [hW0]; exact Blk.alloc (Blk.alloc (Blk.alloc (Blk.alloc (Blk.alloc (Blk.new_at (W := (w.alloc (.cells #[iv dst.a, iv dst.b, iv dst.c, iv dst.d] 28))) (t := 28) (cs := #[iv r.a, iv r.b, iv r.c, iv r.d]) (by simp)) _) _) _) _) _
  have B2 : Hid (Blk W0 (w.heap.size + 1 + 1) 28 #[iv src.a, iv src.b, iv src.c, iv src.d]) := by rw [hW0]; exact Blk.alloc (Blk.alloc (Blk.alloc (Blk.alloc (Blk.new_at (W := ((w.alloc (.cells #[iv dst.a, iv dst.b, iv dst.c, iv dst.d] 28)).alloc (.cells #[iv r.a, iv r.b, iv r.c, iv r.d] 28))) (t := 28) (cs := #[iv src.a, iv src.b, iv src.c, iv src.d]) (by simp)) _) _) _) _
  have B3 : Hid (Blk W0 (w.heap.size + 1 + 1 + 1) 28 #[iv mask.a, iv mask.b, iv mask.c, iv mask.d]) := by rw [hW0]; exact Blk.alloc (Blk.alloc (Blk.alloc (Blk.new_at (W := (((w.alloc (.cells #[iv dst.a, iv dst.b, iv dst.c, iv dst.d] 28)).alloc (.cells #[iv r.a, iv r.b, iv r.c, iv r.d] 28)).alloc (.cells #[iv src.a, iv src.b, iv src.c, iv src.d] 28))) (t := 28) (cs := #[iv mask.a, iv mask.b, iv mask.c, iv mask.d]) (by simp)) _) _) _
  have B4 : Hid (Blk W0 (w.heap.size + 1 + 1 + 1 + 1) 28 #[iv 0, iv 0, iv 0, iv 0]) := by rw [hW0]; exact Blk.alloc (Blk.alloc (Blk.new_at (W := ((((w.alloc (.cells #[iv dst.a, iv dst.b, iv dst.c, iv dst.d] 28)).alloc (.cells #[iv r.a, iv r.b, iv r.c, iv r.d] 28)).alloc (.cells #[iv src.a, iv src.b, iv src.c, iv src.d] 28)).alloc (.cells #[iv mask.a, iv mask.b, iv mask.c, iv mask.d] 28))) (t := 28) (cs := #[iv 0, iv 0, iv 0, iv 0]) (by simp)) _) _
  have B5 : Hid (Blk W0 (w.heap.size + 1 + 1 + 1 + 1 + 1) 34 #[iv 0, iv 0]) := by rw [hW0]; exact Blk.alloc (Blk.new_at (W := (((((w.alloc (.cells #[iv dst.a, iv dst.b, iv dst.c, iv dst.d] 28)).alloc (.cells #[iv r.a, iv r.b, iv r.c, iv r.d] 28)).alloc (.cells #[iv src.a, iv src.b, iv src.c, iv src.d] 28)).alloc (.cells #[iv mask.a, iv mask.b, iv mask.c, iv mask.d] 28)).alloc (.cells #[iv 0, iv 0, iv 0, iv 0] 28))) (t := 34) (cs := #[iv 0, iv 0]) (by simp)) _
  have B6 : Hid (Blk W0 (w.heap.size + 1 + 1 + 1 + 1 + 1 + 1) 34 #[iv 0, iv 0]) := by rw [hW0]; exact Blk.new_at (W := ((((((w.alloc (.cells #[iv dst.a, iv dst.b, iv dst.c, iv dst.d] 28)).alloc (.cells #[iv r.a, iv r.b, iv r.c, iv r.d] 28)).alloc (.cells #[iv src.a, iv src.b, iv src.c, iv src.d] 28)).alloc (.cells #[iv mask.a, iv mask.b, iv mask.c, iv mask.d] 28)).alloc (.cells #[iv 0, iv 0, iv 0, iv 0] 28)).alloc (.cells #[iv 0, iv 0] 34))) (t := 34) (cs := #[iv 0, iv 0]) (by simp)
  have bW0 : Below w.heap.size w W0 := by rw [hW0]; go_grown
  have sW0 : W0.heap.size = w.heap.size + 7 := by rw [hW0]; simp
  have SW0 := hid sW0
  have zW0 : w.heap.size + 7 ≤ W0.heap.size := by omega
  clear sW0 hW0
  refine Plan.wp_region_steps 15 [] [rcV r, rcV dst, rcV (r.common dst), rcV src, .pointer (some ⟨w.heap.size + 1, 0, none⟩), iv r.a, iv sx, iv (r.a - sx), .pointer (some ⟨w.heap.size + 1, 1, none⟩), iv r.b, iv sy, iv (r.b - sy), rcV (src.moved (r.a - sx) (r.b - sy)), rcV ((r.common dst).common (src.moved (r.a - sx) (r.b - sy))), undef] [(14, 28, #[iv 0, iv 0, iv 0, iv 0])] (by kernel_rfl) (by kernel_rfl) (fun _ _ _ _ _ h => h) ?_ ?_
  · refine ⟨?_, ?_, ?_, ?_, ?_, ?_, ?_, ?_, ?_, ?_, ?_, ?_, ?_, ?_, ?_, trivial⟩
    · -- 0: Op.load 28 (Operand.tmp 10)
      intro a W hold hdep hb
      have e10 : a.tmps[10]?.getD undef = .pointer (some ⟨w.heap.size + 1, 0, none⟩) := Plan.ev (hold 10 (by kernel_rfl))
      have C := ((B1.out).drew.keep hb).cells4.1
      clear hold hdep
      exact Plan.step_const rfl rfl (by go_simp <;> exact IntWalk.i64_in _ (by omega))
    · -- 1: Op.load 28 (Operand.tmp 9)
      intro a W hold hdep hb
      have e9 : a.tmps[9]?.getD undef = .pointer (some ⟨w.heap.size, 0, none⟩) := Plan.ev (hold 9 (by kernel_rfl))
      have C := ((B0.out).drew.keep hb).cells4.1
      clear hold hdep
      exact Plan.step_const rfl rfl (by go_simp <;> exact IntWalk.i64_in _ (by omega))
    · -- 2: Op.call { callee := Callee.value (Operand.func 47), args := #[Operand.
      intro a W hold hdep hb
      have e22 : a.tmps[22]?.getD undef = rcV r := Plan.ev (Plan.dep_const (by rfl) (hdep 0 (by kernel_rfl)))
      have e23 : a.tmps[23]?.getD undef = rcV dst := Plan.ev (Plan.dep_const (by rfl) (hdep 1 (by kernel_rfl)))
      clear hold hdep
      exact Plan.step_call (f := 47) (args := #[rcV r, rcV dst]) rfl rfl (by go_simp) (common_any _ _ _)
    · -- 3: Op.load 28 (Operand.tmp 11)
      intro a W hold hdep hb
      have e11 : a.tmps[11]?.getD undef = .pointer (some ⟨w.heap.size + 1 + 1, 0, none⟩) := Plan.ev (hold 11 (by kernel_rfl))
      have C := ((B2.out).drew.keep hb).cells4.1
      clear hold hdep
      exact Plan.step_const rfl rfl (by go_simp <;> exact IntWalk.i64_in _ (by omega))
    · -- 4: Op.fieldAddr 28 (Operand.tmp 10) 0
      intro a W hold hdep hb
      have e10 : a.tmps[10]?.getD undef = .pointer (some ⟨w.heap.size + 1, 0, none⟩) := Plan.ev (hold 10 (by kernel_rfl))
      clear hold hdep
      exact Plan.step_const rfl rfl (by go_simp <;> exact IntWalk.i64_in _ (by omega))
    · -- 5: Op.load 3 (Operand.tmp 26)
      intro a W hold hdep hb
      have e26 : a.tmps[26]?.getD undef = .pointer (some ⟨w.heap.size + 1, 0, none⟩) := Plan.ev (Plan.dep_const (by rfl) (hdep 4 (by kernel_rfl)))
      have C := ((B1.out).drew.keep hb).cells4.1
      clear hold hdep
      exact Plan.step_const rfl rfl (by go_simp <;> exact IntWalk.i64_in _ (by omega))
    · -- 6: Op.move (Operand.tmp 3)
      intro a W hold hdep hb
      have e3 : a.tmps[3]?.getD undef = iv sx := Plan.ev (hold 3 (by kernel_rfl))
      clear hold hdep
      exact Plan.step_const rfl rfl (by go_simp <;> exact IntWalk.i64_in _ (by omega))
    · -- 7: Op.binOp BinOp.sub 3 (Operand.tmp 27) (Operand.tmp 28) 3
      intro a W hold hdep hb
      have e27 : a.tmps[27]?.getD undef = iv r.a := Plan.ev (Plan.dep_const (by rfl) (hdep 5 (by kernel_rfl)))
      have e28 : a.tmps[28]?.getD undef = iv sx := Plan.ev (Plan.dep_const (by rfl) (hdep 6 (by kernel_rfl)))
      clear hold hdep
      exact Plan.step_const rfl rfl (by go_simp <;> exact IntWalk.i64_in _ (by omega))
    · -- 8: Op.fieldAddr 28 (Operand.tmp 10) 1
      intro a W hold hdep hb
      have e10 : a.tmps[10]?.getD undef = .pointer (some ⟨w.heap.size + 1, 0, none⟩) := Plan.ev (hold 10 (by kernel_rfl))
      clear hold hdep
      exact Plan.step_const rfl rfl (by go_simp <;> exact IntWalk.i64_in _ (by omega))
    · -- 9: Op.load 3 (Operand.tmp 30)
      intro a W hold hdep hb
      have e30 : a.tmps[30]?.getD undef = .pointer (some ⟨w.heap.size + 1, 1, none⟩) := Plan.ev (Plan.dep_const (by rfl) (hdep 8 (by kernel_rfl)))
      have C := ((B1.out).drew.keep hb).cells4.1
      clear hold hdep
      exact Plan.step_const rfl rfl (by go_simp <;> exact IntWalk.i64_in _ (by omega))
    · -- 10: Op.move (Operand.tmp 4)
      intro a W hold hdep hb
      have e4 : a.tmps[4]?.getD undef = iv sy := Plan.ev (hold 4 (by kernel_rfl))
      clear hold hdep
      exact Plan.step_const rfl rfl (by go_simp <;> exact IntWalk.i64_in _ (by omega))
    · -- 11: Op.binOp BinOp.sub 3 (Operand.tmp 31) (Operand.tmp 32) 3
      intro a W hold hdep hb
      have e31 : a.tmps[31]?.getD undef = iv r.b := Plan.ev (Plan.dep_const (by rfl) (hdep 9 (by kernel_rfl)))
      have e32 : a.tmps[32]?.getD undef = iv sy := Plan.ev (Plan.dep_const (by rfl) (hdep 10 (by kernel_rfl)))
      clear hold hdep
      exact Plan.step_const rfl rfl (by go_simp <;> exact IntWalk.i64_in _ (by omega))
    · -- 12: Op.call { callee := Callee.value (Operand.func 48), args := #[Operand.
      intro a W hold hdep hb
      have e25 : a.tmps[25]?.getD undef = rcV src := Plan.ev (Plan.dep_const (by rfl) (hdep 3 (by kernel_rfl)))
      have e29 : a.tmps[29]?.getD undef = iv (r.a - sx) := Plan.ev (Plan.dep_const (by rfl) (hdep 7 (by kernel_rfl)))
      have e33 : a.tmps[33]?.getD undef = iv (r.b - sy) := Plan.ev (Plan.dep_const (by rfl) (hdep 11 (by kernel_rfl)))
      clear hold hdep
      exact Plan.step_call (f := 48) (args := #[rcV src, iv (r.a - sx), iv (r.b - sy)]) rfl rfl (by go_simp) (moved_rc _ _ _ _ hS.out (by omega) (by omega))
    · -- 13: Op.call { callee := Callee.value (Operand.func 47), args := #[Operand.
      intro a W hold hdep hb
      have e24 : a.tmps[24]?.getD undef = rcV (r.common dst) := Plan.ev (Plan.dep_const (by rfl) (hdep 2 (by kernel_rfl)))
      have e34 : a.tmps[34]?.getD undef = rcV (src.moved (r.a - sx) (r.b - sy)) := Plan.ev (Plan.dep_const (by rfl) (hdep 12 (by kernel_rfl)))
      clear hold hdep
      exact Plan.step_call (f := 47) (args := #[rcV (r.common dst), rcV (src.moved (r.a - sx) (r.b - sy))]) rfl rfl (by go_simp) (common_any _ _ _)
    · -- 14: Op.alloc 28
      intro a W hold hdep hb
      clear hold hdep
      exact Plan.step_alloc rfl rfl (by go_simp)
  intro vs W1 lo hi hD
  change wpList _ _ _ _ { tmps := (Array.setIfInBounds (Array.setIfInBounds (Array.setIfInBounds (Array.setIfInBounds (Array.setIfInBounds (Array.setIfInBounds (Array.setIfInBounds (Array.setIfInBounds (Array.setIfInBounds (Array.setIfInBounds (Array.setIfInBounds (Array.setIfInBounds (Array.setIfInBounds (Array.setIfInBounds (Array.setIfInBounds _ 22 (vs 0)) 23 (vs 1)) 24 (vs 2)) 25 (vs 3)) 26 (vs 4)) 27 (vs 5)) 28 (vs 6)) 29 (vs 7)) 30 (vs 8)) 31 (vs 9)) 32 (vs 10)) 33 (vs 11)) 34 (vs 12)) 35 (vs 13)) 21 (vs 14)), defers := _ } _
  simp only [Plan.putAll_zero, List.setIfInBounds_toArray, List.set_cons_zero, List.set_cons_succ, List.drop_succ_cons, List.drop_zero]
  have p0 : vs 0 = rcV r := (hD.facts 0 (by omega)).2.2.2
  have p1 : vs 1 = rcV dst := (hD.facts 1 (by omega)).2.2.2
  have p2 : vs 2 = rcV (r.common dst) := (hD.facts 2 (by omega)).2.2.2
  have p3 : vs 3 = rcV src := (hD.facts 3 (by omega)).2.2.2
  have p4 : vs 4 = .pointer (some ⟨w.heap.size + 1, 0, none⟩) := (hD.facts 4 (by omega)).2.2.2
  have p5 : vs 5 = iv r.a := (hD.facts 5 (by omega)).2.2.2
  have p6 : vs 6 = iv sx := (hD.facts 6 (by omega)).2.2.2
  have p7 : vs 7 = iv (r.a - sx) := (hD.facts 7 (by omega)).2.2.2
  have p8 : vs 8 = .pointer (some ⟨w.heap.size + 1, 1, none⟩) := (hD.facts 8 (by omega)).2.2.2
  have p9 : vs 9 = iv r.b := (hD.facts 9 (by omega)).2.2.2
  have p10 : vs 10 = iv sy := (hD.facts 10 (by omega)).2.2.2
  have p11 : vs 11 = iv (r.b - sy) := (hD.facts 11 (by omega)).2.2.2
  have p12 : vs 12 = rcV (src.moved (r.a - sx) (r.b - sy)) := (hD.facts 12 (by omega)).2.2.2
  have p13 : vs 13 = rcV ((r.common dst).common (src.moved (r.a - sx) (r.b - sy))) := (hD.facts 13 (by omega)).2.2.2
  obtain ⟨p14, q14, b14⟩ : vs 14 = .pointer (some ⟨lo 14, 0, none⟩) ∧ hi 14 = lo 14 + 1 ∧ Blk W1 (lo 14) 28 #[iv 0, iv 0, iv 0, iv 0] := (hD.facts 14 (by omega)).2.2.2
  have l14 := (hD.facts 14 (by omega)).1
  simp only [p0, p1, p2, p3, p4, p5, p6, p7, p8, p9, p10, p11, p12, p13, p14]
  clear p0 p1 p2 p3 p4 p5 p6 p7 p8 p9 p10 p11 p12 p13 p14
  have hW1 := hD.bel
  generalize lo 14 = g14 at *
  clear hD q14 lo hi vs
  rw [← HC.out]
  have D14 := b14.cells4
  go_wp2_with fail
  have z14 : W0.heap.size ≤ g14 := l14
  change Code.wp _ _ _ _ (set4 W1 g14 (iv C.a) (iv C.b) (iv C.c) (iv C.d))
  have F14 := b14.set4_ (iv C.a) (iv C.b) (iv C.c) (iv C.d)
  have F1 := ((B1.out).drew.keep hW1).far4 (g' := g14) (by omega) (iv C.a) (iv C.b) (iv C.c) (iv C.d)
  have F4 := ((B4.out).drew.keep hW1).far4 (g' := g14) (by omega) (iv C.a) (iv C.b) (iv C.c) (iv C.d)
  have F5 := ((B5.out).drew.keep hW1).far4 (g' := g14) (by omega) (iv C.a) (iv C.b) (iv C.c) (iv C.d)
  have F6 := ((B6.out).drew.keep hW1).far4 (g' := g14) (by omega) (iv C.a) (iv C.b) (iv C.c) (iv C.d)
  have hb2 : Below w.heap.size w (set4 W1 g14 (iv C.a) (iv C.b) (iv C.c) (iv C.d)) := below4 (bW0.trans ((drew_below hW1).mono (by omega))) (by omega) _ _ _ _
  generalize set4 W1 g14 (iv C.a) (iv C.b) (iv C.c) (iv C.d) = W2 at *
  have z2 := F14.lt
  have G14 := F14.cells4.1
  have G1 := F1.cells4.1
  have G4 := F4.cells4
  have G5 := F5.cells2
  have G6 := F6.cells2
  clear F14 F1 F4 F5 F6 D14 b14 hW1 l14
  have n1 : g14 ≠ w.heap.size + 1 + 1 + 1 + 1 := by omega
  have n2 : g14 ≠ w.heap.size + 1 + 1 + 1 + 1 + 1 := by omega
  have n3 : g14 ≠ w.heap.size + 1 + 1 + 1 + 1 + 1 + 1 := by omega
  have v1 : IntKind.i64.wrap (sx + C.a) = sx + C.a := IntWalk.i64_in _ (by omega)
  have v2 : IntKind.i64.wrap (sx + C.a - r.a) = sx + C.a - r.a := IntWalk.i64_in _ (by omega)
  have v3 : IntKind.i64.wrap (sy + C.b) = sy + C.b := IntWalk.i64_in _ (by omega)
  have v4 : IntKind.i64.wrap (sy + C.b - r.b) = sy + C.b - r.b := IntWalk.i64_in _ (by omega)
  have v5 : IntKind.i64.wrap (mx + C.a) = mx + C.a := IntWalk.i64_in _ (by omega)
  have v6 : IntKind.i64.wrap (mx + C.a - r.a) = mx + C.a - r.a := IntWalk.i64_in _ (by omega)
  have v7 : IntKind.i64.wrap (my + C.b) = my + C.b := IntWalk.i64_in _ (by omega)
  have v8 : IntKind.i64.wrap (my + C.b - r.b) = my + C.b - r.b := IntWalk.i64_in _ (by omega)
  go_region_held3 (fun w' => (w'.cell? ⟨g14, 0, none⟩ = some (iv C.a) ∧ w'.cell? ⟨g14, 1, none⟩ = some (iv C.b) ∧ w'.cell? ⟨g14, 2, none⟩ = some (iv C.c) ∧ w'.cell? ⟨g14, 3, none⟩ = some (iv C.d)) ∧ w'.cell? ⟨w.heap.size + 1, 0, none⟩ = some (iv r.a) ∧ w'.cell? ⟨w.heap.size + 1, 1, none⟩ = some (iv r.b)) (first | (go_keep; done) | (simp (disch := omega) only [cell_drew, cell_far, *]; done) | (simp (disch := omega) only [cell_drew, cell_far, *]; trivial)) (first | fail)
  go_wp2
  refine bodyPost_ret (v := .tuple #[rcV C, ptV (sx + C.a - r.a) (sy + C.b - r.b), ptV (mx + C.a - r.a) (my + C.b - r.b)]) (by simp [results, Try.results19, go_sem, G4, G5, G6]) rfl ⟨rfl, ?_⟩
  (repeat' (first | (with_reducible exact Below.refl _ _) | (with_reducible assumption) | (with_reducible refine drewN_below ?_ _) | (with_reducible refine Below.drew ?_) | (with_reducible refine Below.alloc ?_ ?_ _) | (with_reducible refine Below.setCell ?_ ?_ _) | (with_reducible refine below_via (by with_reducible assumption) ?_ ?_) | go_size))

end Go.Proofs.Ytlnfcjaempojgaa
