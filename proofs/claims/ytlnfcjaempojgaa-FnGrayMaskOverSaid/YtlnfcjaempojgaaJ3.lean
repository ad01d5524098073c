/- Contract of laws.drawn, with a mask. Written by mk_J3.py. -/
import Derived.Test.YtlnfcjaempojgaaJ1
set_option linter.unusedVariables false
namespace Go.Proofs.Ytlnfcjaempojgaa
open Go.RowKit

/-- The mask's alpha at a place, and a pixel that is as it should be under it. -/
def PixOkM (w : World) (S M : Value) (X Y MX MY op : Int) (D G : Nat → Int) : Prop :=
  ∃ a0 a1 a2 m, C16 m ∧ (∀ W, Below w.heap.size w W → Calls Try.prog 58 #[M, iv MX, iv MY] W fun e w' => e = .returned (fourV a0 a1 a2 m) ∧ Below W.heap.size W w') ∧ PixOk w S X Y op m D G
def AllOkM (w : World) (S M : Value) (d1 d2 : Int) (W H : Nat) (C : Rc) (px py qx qy op : Int) (ds gs : List Int) : Prop :=
  ∀ r c, r < H → c < W → (hasB C.a C.b C.c C.d (d1 + c) (d2 + r) = true → PixOkM w S M (px + (d1 + c) - C.a) (py + (d2 + r) - C.b) (qx + (d1 + c) - C.a) (qy + (d2 + r) - C.b) op (fun k => ds.getD (pos W r c k) 0) (fun k => gs.getD (pos W r c k) 0)) ∧
    (hasB C.a C.b C.c C.d (d1 + c) (d2 + r) = false → ∀ k, k < 4 → gs.getD (pos W r c k) 0 = ds.getD (pos W r c k) 0)

set_option maxRecDepth 20000 in
set_option maxHeartbeats 4000000 in
theorem drawn_mask (d1 d2 d3 d4 : Int) (W H : Nat) (dA : Option Addr) (dn dc : Nat) (ds : List Int) (gA : Option Addr) (gc : Nat) (gs : List Int) (C : Rc) (px py qx qy : Int) (sk s1 s2 s3 s4 : Int) (sA : Option Addr) (sn sc : Nat) (gM : Nat) (mk m1 m2 m3 m4 : Int) (mA : Option Addr) (mn mc : Nat) (op : Int) (w : World)
    (hdb : ByteSl w dA dn dc ds) (hgb : ByteSlM w gA dn gc gs) (hW : d3 = d1 + W) (hH : d4 = d2 + H) (hd1 : -1000 ≤ d1 ∧ d1 ≤ 1000) (hd2 : -1000 ≤ d2 ∧ d2 ≤ 1000) (hWl : W ≤ 1000) (hHl : H ≤ 1000) (hn : dn = 4 * (H * W))
    (hC : C.in_ 1000) (hpx : -4000 ≤ px ∧ px ≤ 4000) (hpy : -4000 ≤ py ∧ py ≤ 4000) (hqx : -4000 ≤ qx ∧ qx ≤ 4000) (hqy : -4000 ≤ qy ∧ qy ≤ 4000) (hop : op = 0 ∨ op = 1) (hmb : Blk w gM 24 #[iv mk, iv m1, iv m2, iv m3, iv m4, .slice mA mn mc])
    (hall : AllOkM w (imgV sk s1 s2 s3 s4 (.slice sA sn sc)) (imgV mk m1 m2 m3 m4 (.slice mA mn mc)) d1 d2 W H C px py qx qy op ds gs) :
    Calls Try.prog 37 #[imgV 0 d1 d2 d3 d4 (.slice dA dn dc), .slice gA dn gc, rcV C, ptV px py, ptV qx qy, imgV sk s1 s2 s3 s4 (.slice sA sn sc), .pointer (some ⟨gM, 0, none⟩), iv op] w fun e w' => e = .returned (.bool true) ∧ Below w.heap.size w w' := by
  have HDB := hid hdb; have HGB := hid hgb; have HW := hid hW; have HH := hid hH; have HN := hid hn; have HOP := hid hop; have HALL := hid hall; have HMB := hid hmb
  obtain ⟨hCa, hCb, _, _⟩ := hC
  clear hdb hgb hW hH hn hop hall hmb
  go_enter Try.func37, Try.ntmps37
  go_wp2_with fail
  obtain ⟨W0, hW0⟩ : ∃ W : World, W = (((((w.alloc (.cells #[iv 0, iv d1, iv d2, iv d3, iv d4, .slice dA dn dc] 24)).alloc (.cells #[iv C.a, iv C.b, iv C.c, iv C.d] 28)).alloc (.cells #[iv px, iv py] 34)).alloc (.cells #[iv qx, iv qy] 34)).alloc (.cells #[iv sk, iv s1, iv s2, iv s3, iv s4, .slice sA sn sc] 24)) := ⟨_, rfl⟩
  rw [← hW0]
  have B0 : Hid (Blk W0 (w.heap.size) 24 #[iv 0, iv d1, iv d2, iv d3, iv d4, .slice dA dn dc]) := by rw [hW0]; exact Blk.alloc (Blk.alloc (Blk.alloc (Blk.alloc (Blk.new_at (W := w) (t := 24) (cs := #[iv 0, iv d1, iv d2, iv d3, iv d4, .slice dA dn dc]) (by simp)) _) _) _) _
  have B1 : Hid (Blk W0 (w.heap.size + 1) 28 #[iv C.a, iv C.b, iv C.c, iv C.d]) := by rw [hW0]; exact Blk.alloc (Blk.alloc (Blk.alloc (Blk.new_at (W := (w.alloc (.cells #[iv 0, iv d1, iv d2, iv d3, iv d4, .slice dA dn dc] 24))) (t := 28) (cs := #[iv C.a, iv C.b, iv C.c, iv C.d]) (by simp)) _) _) _
  have B2 : Hid (Blk W0 (w.heap.size + 1 + 1) 34 #[iv px, iv py]) := by rw [hW0]; exact Blk.alloc (Blk.alloc (Blk.new_at (W := ((w.alloc (.cells #[iv 0, iv d1, iv d2, iv d3, iv d4, .slice dA dn dc] 24)).alloc (.cells #[iv C.a, iv C.b, iv C.c, iv C.d] 28))) (t := 34) (cs := #[iv px, iv py]) (by simp)) _) _
  have B3 : Hid (Blk W0 (w.heap.size + 1 + 1 + 1) 34 #[iv qx, iv qy]) := by rw [hW0]; exact Blk.alloc (Blk.new_at (W := (((w.alloc (.cells #[iv 0, iv d1, iv d2, iv d3, iv d4, .slice dA dn dc] 24)).alloc (.cells #[iv C.a, iv C.b, iv C.c, iv C.d] 28)).alloc (.cells #[iv px, iv py] 34))) (t := 34) (cs := #[iv qx, iv qy]) (by simp)) _
  have B4 : Hid (Blk W0 (w.heap.size + 1 + 1 + 1 + 1) 24 #[iv sk, iv s1, iv s2, iv s3, iv s4, .slice sA sn sc]) := by rw [hW0]; exact Blk.new_at (W := ((((w.alloc (.cells #[iv 0, iv d1, iv d2, iv d3, iv d4, .slice dA dn dc] 24)).alloc (.cells #[iv C.a, iv C.b, iv C.c, iv C.d] 28)).alloc (.cells #[iv px, iv py] 34)).alloc (.cells #[iv qx, iv qy] 34))) (t := 24) (cs := #[iv sk, iv s1, iv s2, iv s3, iv s4, .slice sA sn sc]) (by simp)
  have bW0 : Below w.heap.size w W0 := by rw [hW0]; go_grown
  have sW0 : W0.heap.size = w.heap.size + 5 := by rw [hW0]; simp
  have SW0 := hid sW0
  have zW0 : w.heap.size + 5 ≤ W0.heap.size := by omega
  clear sW0 hW0
  have cD := B0.out.cells6
  have lD := B0.out.lt
  have cS := B4.out.cells6
  have lS := B4.out.lt
  have lD1 : w.heap.size < W0.heap.size + 1 := by omega
  have lS1 : w.heap.size + 1 + 1 + 1 + 1 < W0.heap.size + 1 := by omega
  have lD2 : w.heap.size < W0.heap.size + 1 + 1 := by omega
  have lS2 : w.heap.size + 1 + 1 + 1 + 1 < W0.heap.size + 1 + 1 := by omega
  have HB := hid bW0
  go_cut [17, 18] from 27 (fun s17 s18 wx => ∃ g17 g18, s17 = .pointer (some ⟨g17, 0, none⟩) ∧ s18 = .pointer (some ⟨g18, 0, none⟩) ∧ Blk wx g17 31 #[iv 0, iv d1, iv d2, iv d3, iv d4, .slice dA dn dc] ∧ Blk wx g18 31 #[iv sk, iv s1, iv s2, iv s3, iv s4, .slice sA sn sc] ∧ Below W0.heap.size W0 wx)
  case first =>
    clear B0 B1 B2 B3 B4 bW0
    go_region
    all_goals
      go_step
      go_step
      go_meet
      case rel =>
        first
          | exact ⟨_, _, rfl, rfl, (Blk.alloc (Blk.new _ _ _) _).drew, (Blk.new_at (by simp)).drew, by go_grown⟩
          | exact ⟨_, _, rfl, rfl, (Blk.new_at (by simp)).drew, (Blk.alloc (Blk.new _ _ _) _).drew, by go_grown⟩
  case rest =>
  obtain ⟨g17, g18, rfl, rfl, N17, N18, hbc⟩ := hcut
  have E0 := hid (B0.out.keep hbc)
  have E1 := hid (B1.out.keep hbc)
  have E2 := hid (B2.out.keep hbc)
  have E3 := hid (B3.out.keep hbc)
  have E17 := hid N17
  have E18 := hid N18
  have bwc : Below w.heap.size w wc := bW0.trans (hbc.mono (by omega))
  have zc : W0.heap.size ≤ wc.heap.size := hbc.size
  have HBC := hid bwc
  clear B0 B1 B2 B3 B4 bW0 HB cD lD cS lS lD1 lS1 lD2 lS2 N17 N18 hbc
  have cD := E0.out.cells6
  have lD := E0.out.lt
  go_wp2_with fail
  refine (size_any 0 _).mono ?_
  rintro e w1 ⟨rfl, rfl⟩
  rw [show sizeI 0 = 4 from rfl]
  go_wp2_with fail
  clear cD lD
  go_loopw [21, 22] (fun s21 s22 wr => ∃ r : Nat, r ≤ H ∧ s21 = .int .i64 ((4 * (r * W) : Nat) : Int) ∧ s22 = .int .i64 (d2 + (r : Int)) ∧ Below wc.heap.size wc wr) (fun _ s22 _ => (d4 - intOf s22).toNat)
  case atStart => exact ⟨0, by omega, by simp, by simp, Below.refl _ _⟩
  case round =>
    obtain ⟨r, hr, rfl, rfl, hbr⟩ := hrel
    have bwr : Below w.heap.size w wr := HBC.out.trans (hbr.mono (by omega))
    have zr : wc.heap.size ≤ wr.heap.size := hbr.size
    by_cases hlt : r < H
    case neg =>
      have hge : ¬ (d2 + (r : Int) < d4) := by have := HH.out; omega
      have cD := (E0.out.keep hbr).cells6
      have lD := (E0.out.keep hbr).lt
      go_wp2_with fail
      go_returns
      exact ⟨rfl, bwr⟩
    have hlt' : d2 + (r : Int) < d4 := by have := HH.out; omega
    have cD := (E0.out.keep hbr).cells6
    have lD := (E0.out.keep hbr).lt
    go_wp2_with fail
    obtain ⟨wo, rfl⟩ : ∃ wo : World, wo = wr := ⟨_, rfl⟩
    have HBR := hid hbr
    clear cD lD hbr bwr
    go_loopw [21, 23] (fun s21 s23 wr => ∃ c : Nat, c ≤ W ∧ s21 = .int .i64 ((pos W r c 0 : Nat) : Int) ∧ s23 = .int .i64 (d1 + (c : Int)) ∧ Below wc.heap.size wc wr) (fun _ s23 _ => (d3 - intOf s23).toNat)
    case atStart => exact ⟨0, by omega, by simp [pos], by simp, HBR.out⟩
    case round =>
      obtain ⟨c, hc, rfl, rfl, hbi⟩ := hrel
      clear HBR
      have bwi : Below w.heap.size w wr := HBC.out.trans (hbi.mono (by omega))
      have zi : wc.heap.size ≤ wr.heap.size := hbi.size
      by_cases hlc : c < W
      case neg =>
        have hge : ¬ (d1 + (c : Int) < d3) := by have := HW.out; omega
        have cD := (E0.out.keep hbi).cells6
        have lD := (E0.out.keep hbi).lt
        go_wp2_with fail
        obtain rfl : c = W := by omega
        refine ⟨⟨r + 1, by omega, ?_, ?_, hbi⟩, ?_⟩
        · have : pos c r c 0 = 4 * ((r + 1) * c) := by unfold pos; rw [Nat.add_mul]; omega
          rw [this]
        · congr 1; omega
        · simp only [intOf]; omega
      have hlc' : d1 + (c : Int) < d3 := by have := HW.out; omega
      have HP := hid (HALL.out r c hlt hlc)
      have hi4 : pos W r c 0 + 4 ≤ dn := by
        have h1 := HN.out
        have h2 := pos_lt (k := 3) hlt hlc (by omega)
        unfold pos at h2 ⊢
        omega
      obtain ⟨gg, go_, hgA, hgl, hgc⟩ := HGB.out.at_ (by omega)
      obtain ⟨dg, do_, hdA, hdl, hdc⟩ := HDB.out.at_ (by omega)
      subst hgA hdA
      have hcap : dn ≤ dc ∧ dc ≤ 140737488355328 := ⟨HDB.out.le, HDB.out.cap⟩
      have hgcap : dn ≤ gc ∧ gc ≤ 9223372036854775807 := ⟨HGB.out.le, HGB.out.cap⟩
      have qn : pos W r (c + 1) 0 = pos W r c 0 + 4 := by unfold pos; omega
      have HQN := hid qn
      have HPZ := hid (pos_z W r c c r W rfl rfl rfl)
      have hP1 : pos W r c 1 = pos W r c 0 + 1 := by unfold pos; omega
      have hP2 : pos W r c 2 = pos W r c 0 + 2 := by unfold pos; omega
      have hP3 : pos W r c 3 = pos W r c 0 + 3 := by unfold pos; omega
      obtain ⟨i, hi⟩ : ∃ i, i = pos W r c 0 := ⟨_, rfl⟩
      rw [← hi] at hi4 hP1 hP2 hP3 ⊢
      have HI := hid hi
      have HP1 := hid hP1; have HP2 := hid hP2; have HP3 := hid hP3
      have e4 : IntKind.i64.wrap ((i : Int) + 4) = ((i + 4 : Nat) : Int) := by rw [IntWalk.i64_in _ (by omega)]; omega
      have cD := (E0.out.keep hbi).cells6
      have lD := (E0.out.keep hbi).lt
      have cC := (E1.out.keep hbi).cells4.1
      have lC := (E1.out.keep hbi).lt
      have HGC := hid hgc; have HDC := hid hdc
      clear qn hi hgc hdc hP1 hP2 hP3
      go_wp2_with fail
      rw [show i + 4 - i = 4 by omega]
      refine (has_any C.a C.b C.c C.d (d1 + (c : Int)) (d2 + (r : Int)) _).mono ?_
      rintro e w2 ⟨rfl, hb2⟩
      have bic : Below wc.heap.size wc w2 := hbi.trans (hb2.mono zi)
      have bw2 : Below w.heap.size w w2 := HBC.out.trans (bic.mono (by omega))
      have z2 : wc.heap.size ≤ w2.heap.size := bic.size
      have cD := (E0.out.keep bic).cells6
      have lD := (E0.out.keep bic).lt
      clear cC lC hbi bwi hb2
      cases hH : hasB C.a C.b C.c C.d (d1 + (c : Int)) (d2 + (r : Int)) with
      | false =>
        have hq := HP.out.2 hH
        have xs : ∀ k, k < 4 → gs.getD (i + k) 0 = ds.getD (i + k) 0 := fun k hk => by
          have e : pos W r c k = i + k := by rw [HI.out]; unfold pos; omega
          have := hq k hk
          rwa [e] at this
        have gcell : ∀ nq k, k < 4 → (w2.drewN nq).cell? ⟨gg, go_ + i + k, none⟩ = some (.int .u8 ([gs.getD i 0, gs.getD (i + 1) 0, gs.getD (i + 2) 0, gs.getD (i + 3) 0].getD k 0)) := fun nq k hk => by
          have h1 := (bw2.cell (p := ⟨gg, go_ + (i + k), none⟩) hgl).trans (HGC.out (i + k) (by omega))
          have h2 : k = 0 ∨ k = 1 ∨ k = 2 ∨ k = 3 := by omega
          rcases h2 with rfl | rfl | rfl | rfl <;> exact h1
        have dcell : ∀ nq k, k < 4 → (w2.drewN nq).cell? ⟨dg, do_ + i + k, none⟩ = some (.int .u8 ([gs.getD i 0, gs.getD (i + 1) 0, gs.getD (i + 2) 0, gs.getD (i + 3) 0].getD k 0)) := fun nq k hk => by
          have h1 := (bw2.cell (p := ⟨dg, do_ + (i + k), none⟩) hdl).trans (HDC.out (i + k) (by omega))
          rw [← xs k hk] at h1
          have h2 : k = 0 ∨ k = 1 ∨ k = 2 ∨ k = 3 := by omega
          rcases h2 with rfl | rfl | rfl | rfl <;> exact h1
        have cv1 := fun nq => run_convert_bytes_arg (P := Try.prog) (w := w2.drewN nq) 22 5 Try.underlying22 Try.underlying5 gg (go_ + i) 4 (gc - i) [gs.getD i 0, gs.getD (i + 1) 0, gs.getD (i + 2) 0, gs.getD (i + 3) 0] rfl (gcell nq) 9 Try.underlying9
        have cv2 := fun nq => run_convert_bytes_arg (P := Try.prog) (w := w2.drewN nq) 22 5 Try.underlying22 Try.underlying5 dg (do_ + i) 4 (dc - i) [gs.getD i 0, gs.getD (i + 1) 0, gs.getD (i + 2) 0, gs.getD (i + 3) 0] rfl (dcell nq) 9 Try.underlying9
        generalize strOfNums [gs.getD i 0, gs.getD (i + 1) 0, gs.getD (i + 2) 0, gs.getD (i + 3) 0] = S at *
        have cv3 : ∀ nq, (convert 22 9 (.slice (some ⟨dg, do_ + i, none⟩) (i + 4 - i) (dc - i))).run Try.prog (w2.drewN nq) = .ok (.string S) (w2.drewN nq) := by rw [show i + 4 - i = 4 by omega]; exact cv2
        clear gcell dcell xs hq hH
        go_wp2_with fail
        go_quiet (fail)
        go_wp2_with fail
        refine ⟨⟨c + 1, by omega, ?_, ?_, drewN_below bic _⟩, ?_⟩
        · have h1 := HQN.out
          rw [← HI.out] at h1
          rw [h1]
          congr 1
        · congr 1; omega
        · simp only [intOf]; omega
      | true =>
        obtain ⟨a0, a1, a2, mm, hm16', hmat, t0, t1, t2, t3, ⟨u0, u1, u2, u3⟩, hs, n0, n1, n2, n3⟩ := HP.out.1 hH
        have hm16 := hid hm16'
        have HMAT := hid hmat
        have F1m := hid (E1.out.keep bic)
        have F3m := hid (E3.out.keep bic)
        have HMW := hid (HMB.out.keep bw2)
        have HB2m := hid bw2
        have HS0 := hid hs
        have HN0 := hid (And.intro n0 (And.intro n1 (And.intro n2 n3)))
        have HU0 := hid (And.intro u0 (And.intro u1 (And.intro u2 u3)))
        clear hm16' hmat hs n0 n1 n2 n3 u0 u1 u2 u3
        go_wp2_with fail
        refine Plan.wp_region_steps 19 [] [.pointer (some ⟨gM, 0, none⟩), .pointer (some ⟨gM, 0, none⟩), imgV mk m1 m2 m3 m4 (.slice mA mn mc), .pointer (some ⟨w.heap.size + 1 + 1 + 1, 0, none⟩), iv qx, iv (d1 + (c : Int)), iv (qx + (d1 + (c : Int))), .pointer (some ⟨w.heap.size + 1, 0, none⟩), iv C.a, iv (qx + (d1 + (c : Int)) - C.a), .pointer (some ⟨w.heap.size + 1 + 1 + 1, 1, none⟩), iv qy, iv (d2 + (r : Int)), iv (qy + (d2 + (r : Int))), .pointer (some ⟨w.heap.size + 1, 1, none⟩), iv C.b, iv (qy + (d2 + (r : Int)) - C.b), fourV a0 a1 a2 mm, iv mm] [] (by kernel_rfl) (by kernel_rfl) (fun _ _ _ _ _ h => h) ?_ ?_
        · refine ⟨?_, ?_, ?_, ?_, ?_, ?_, ?_, ?_, ?_, ?_, ?_, ?_, ?_, ?_, ?_, ?_, ?_, ?_, ?_, trivial⟩
          · -- 0: Op.move (Operand.tmp 6)
            intro a W hold hdep hb
            have e6 : a.tmps[6]?.getD undef = .pointer (some ⟨gM, 0, none⟩) := Plan.ev (hold 6 (by kernel_rfl))
            clear hold hdep
            exact Plan.step_const rfl rfl (by go_simp <;> exact IntWalk.i64_in _ (by omega))
          · -- 1: Op.nilCheck (Operand.tmp 84)
            intro a W hold hdep hb
            have e84 : a.tmps[84]?.getD undef = .pointer (some ⟨gM, 0, none⟩) := Plan.ev (Plan.dep_const (by rfl) (hdep 0 (by kernel_rfl)))
            clear hold hdep
            exact Plan.step_const rfl rfl (by go_simp <;> exact IntWalk.i64_in _ (by omega))
          · -- 2: Op.load 24 (Operand.tmp 85)
            intro a W hold hdep hb
            have e85 : a.tmps[85]?.getD undef = .pointer (some ⟨gM, 0, none⟩) := Plan.ev (Plan.dep_const (by rfl) (hdep 1 (by kernel_rfl)))
            have CC := ((HMW.out).drew.keep hb).cells6
            clear hold hdep
            exact Plan.step_const rfl rfl (by go_simp <;> exact IntWalk.i64_in _ (by omega))
          · -- 3: Op.indexAddr 34 (Operand.tmp 12) (Operand.const (Value.int IntKind.i64
            intro a W hold hdep hb
            have e12 : a.tmps[12]?.getD undef = .pointer (some ⟨w.heap.size + 1 + 1 + 1, 0, none⟩) := Plan.ev (hold 12 (by kernel_rfl))
            clear hold hdep
            exact Plan.step_const rfl rfl (by go_simp <;> exact IntWalk.i64_in _ (by omega))
          · -- 4: Op.load 3 (Operand.tmp 87)
            intro a W hold hdep hb
            have e87 : a.tmps[87]?.getD undef = .pointer (some ⟨w.heap.size + 1 + 1 + 1, 0, none⟩) := Plan.ev (Plan.dep_const (by rfl) (hdep 3 (by kernel_rfl)))
            have CC := ((F3m.out).drew.keep hb).cells2
            clear hold hdep
            exact Plan.step_const rfl rfl (by go_simp <;> exact IntWalk.i64_in _ (by omega))
          · -- 5: Op.move (Operand.tmp 23)
            intro a W hold hdep hb
            have e23 : a.tmps[23]?.getD undef = iv (d1 + (c : Int)) := Plan.ev (hold 23 (by kernel_rfl))
            clear hold hdep
            exact Plan.step_const rfl rfl (by go_simp <;> exact IntWalk.i64_in _ (by omega))
          · -- 6: Op.binOp BinOp.add 3 (Operand.tmp 88) (Operand.tmp 89) 3
            intro a W hold hdep hb
            have e88 : a.tmps[88]?.getD undef = iv qx := Plan.ev (Plan.dep_const (by rfl) (hdep 4 (by kernel_rfl)))
            have e89 : a.tmps[89]?.getD undef = iv (d1 + (c : Int)) := Plan.ev (Plan.dep_const (by rfl) (hdep 5 (by kernel_rfl)))
            clear hold hdep
            exact Plan.step_const rfl rfl (by go_simp <;> exact IntWalk.i64_in _ (by omega))
          · -- 7: Op.fieldAddr 28 (Operand.tmp 10) 0
            intro a W hold hdep hb
            have e10 : a.tmps[10]?.getD undef = .pointer (some ⟨w.heap.size + 1, 0, none⟩) := Plan.ev (hold 10 (by kernel_rfl))
            clear hold hdep
            exact Plan.step_const rfl rfl (by go_simp <;> exact IntWalk.i64_in _ (by omega))
          · -- 8: Op.load 3 (Operand.tmp 91)
            intro a W hold hdep hb
            have e91 : a.tmps[91]?.getD undef = .pointer (some ⟨w.heap.size + 1, 0, none⟩) := Plan.ev (Plan.dep_const (by rfl) (hdep 7 (by kernel_rfl)))
            have CC := ((F1m.out).drew.keep hb).cells4.1
            clear hold hdep
            exact Plan.step_const rfl rfl (by go_simp <;> exact IntWalk.i64_in _ (by omega))
          · -- 9: Op.binOp BinOp.sub 3 (Operand.tmp 90) (Operand.tmp 92) 3
            intro a W hold hdep hb
            have e90 : a.tmps[90]?.getD undef = iv (qx + (d1 + (c : Int))) := Plan.ev (Plan.dep_const (by rfl) (hdep 6 (by kernel_rfl)))
            have e92 : a.tmps[92]?.getD undef = iv C.a := Plan.ev (Plan.dep_const (by rfl) (hdep 8 (by kernel_rfl)))
            clear hold hdep
            exact Plan.step_const rfl rfl (by go_simp <;> exact IntWalk.i64_in _ (by omega))
          · -- 10: Op.indexAddr 34 (Operand.tmp 12) (Operand.const (Value.int IntKind.i64
            intro a W hold hdep hb
            have e12 : a.tmps[12]?.getD undef = .pointer (some ⟨w.heap.size + 1 + 1 + 1, 0, none⟩) := Plan.ev (hold 12 (by kernel_rfl))
            clear hold hdep
            exact Plan.step_const rfl rfl (by go_simp <;> exact IntWalk.i64_in _ (by omega))
          · -- 11: Op.load 3 (Operand.tmp 94)
            intro a W hold hdep hb
            have e94 : a.tmps[94]?.getD undef = .pointer (some ⟨w.heap.size + 1 + 1 + 1, 1, none⟩) := Plan.ev (Plan.dep_const (by rfl) (hdep 10 (by kernel_rfl)))
            have CC := ((F3m.out).drew.keep hb).cells2
            clear hold hdep
            exact Plan.step_const rfl rfl (by go_simp <;> exact IntWalk.i64_in _ (by omega))
          · -- 12: Op.move (Operand.tmp 22)
            intro a W hold hdep hb
            have e22 : a.tmps[22]?.getD undef = iv (d2 + (r : Int)) := Plan.ev (hold 22 (by kernel_rfl))
            clear hold hdep
            exact Plan.step_const rfl rfl (by go_simp <;> exact IntWalk.i64_in _ (by omega))
          · -- 13: Op.binOp BinOp.add 3 (Operand.tmp 95) (Operand.tmp 96) 3
            intro a W hold hdep hb
            have e95 : a.tmps[95]?.getD undef = iv qy := Plan.ev (Plan.dep_const (by rfl) (hdep 11 (by kernel_rfl)))
            have e96 : a.tmps[96]?.getD undef = iv (d2 + (r : Int)) := Plan.ev (Plan.dep_const (by rfl) (hdep 12 (by kernel_rfl)))
            clear hold hdep
            exact Plan.step_const rfl rfl (by go_simp <;> exact IntWalk.i64_in _ (by omega))
          · -- 14: Op.fieldAddr 28 (Operand.tmp 10) 1
            intro a W hold hdep hb
            have e10 : a.tmps[10]?.getD undef = .pointer (some ⟨w.heap.size + 1, 0, none⟩) := Plan.ev (hold 10 (by kernel_rfl))
            clear hold hdep
            exact Plan.step_const rfl rfl (by go_simp <;> exact IntWalk.i64_in _ (by omega))
          · -- 15: Op.load 3 (Operand.tmp 98)
            intro a W hold hdep hb
            have e98 : a.tmps[98]?.getD undef = .pointer (some ⟨w.heap.size + 1, 1, none⟩) := Plan.ev (Plan.dep_const (by rfl) (hdep 14 (by kernel_rfl)))
            have CC := ((F1m.out).drew.keep hb).cells4.1
            clear hold hdep
            exact Plan.step_const rfl rfl (by go_simp <;> exact IntWalk.i64_in _ (by omega))
          · -- 16: Op.binOp BinOp.sub 3 (Operand.tmp 97) (Operand.tmp 99) 3
            intro a W hold hdep hb
            have e97 : a.tmps[97]?.getD undef = iv (qy + (d2 + (r : Int))) := Plan.ev (Plan.dep_const (by rfl) (hdep 13 (by kernel_rfl)))
            have e99 : a.tmps[99]?.getD undef = iv C.b := Plan.ev (Plan.dep_const (by rfl) (hdep 15 (by kernel_rfl)))
            clear hold hdep
            exact Plan.step_const rfl rfl (by go_simp <;> exact IntWalk.i64_in _ (by omega))
          · -- 17: Op.call { callee := Callee.value (Operand.func 58), args := #[Operand.
            intro a W hold hdep hb
            have e86 : a.tmps[86]?.getD undef = imgV mk m1 m2 m3 m4 (.slice mA mn mc) := Plan.ev (Plan.dep_const (by rfl) (hdep 2 (by kernel_rfl)))
            have e93 : a.tmps[93]?.getD undef = iv (qx + (d1 + (c : Int)) - C.a) := Plan.ev (Plan.dep_const (by rfl) (hdep 9 (by kernel_rfl)))
            have e100 : a.tmps[100]?.getD undef = iv (qy + (d2 + (r : Int)) - C.b) := Plan.ev (Plan.dep_const (by rfl) (hdep 16 (by kernel_rfl)))
            clear hold hdep
            exact Plan.step_call (f := 58) (args := #[imgV mk m1 m2 m3 m4 (.slice mA mn mc), iv (qx + (d1 + (c : Int)) - C.a), iv (qy + (d2 + (r : Int)) - C.b)]) rfl rfl (by go_simp) (HMAT.out W (HB2m.out.trans ((show Below w2.heap.size w2 W from ⟨hb.os, hb.tape, hb.output, hb.size, hb.block⟩).mono HB2m.out.size)))
          · -- 18: Op.index 25 (Operand.tmp 101) (Operand.const (Value.int IntKind.i64 3)
            intro a W hold hdep hb
            have e101 : a.tmps[101]?.getD undef = fourV a0 a1 a2 mm := Plan.ev (Plan.dep_const (by rfl) (hdep 17 (by kernel_rfl)))
            have ix := idx25_3 (iv a0) (iv a1) (iv a2) (iv mm)
            clear hold hdep
            exact Plan.step_const rfl rfl (by go_simp <;> exact IntWalk.i64_in _ (by omega))
        intro vs W22 lo hi hD
        change wpList _ _ _ _ { tmps := (Array.setIfInBounds (Array.setIfInBounds (Array.setIfInBounds (Array.setIfInBounds (Array.setIfInBounds (Array.setIfInBounds (Array.setIfInBounds (Array.setIfInBounds (Array.setIfInBounds (Array.setIfInBounds (Array.setIfInBounds (Array.setIfInBounds (Array.setIfInBounds (Array.setIfInBounds (Array.setIfInBounds (Array.setIfInBounds (Array.setIfInBounds (Array.setIfInBounds (Array.setIfInBounds _ 84 (vs 0)) 85 (vs 1)) 86 (vs 2)) 87 (vs 3)) 88 (vs 4)) 89 (vs 5)) 90 (vs 6)) 91 (vs 7)) 92 (vs 8)) 93 (vs 9)) 94 (vs 10)) 95 (vs 11)) 96 (vs 12)) 97 (vs 13)) 98 (vs 14)) 99 (vs 15)) 100 (vs 16)) 101 (vs 17)) 102 (vs 18)), defers := _ } _
        simp only [Plan.putAll_zero, List.setIfInBounds_toArray, List.set_cons_zero, List.set_cons_succ, List.drop_succ_cons, List.drop_zero]
        have p0 : vs 0 = .pointer (some ⟨gM, 0, none⟩) := (hD.facts 0 (by omega)).2.2.2
        have p1 : vs 1 = .pointer (some ⟨gM, 0, none⟩) := (hD.facts 1 (by omega)).2.2.2
        have p2 : vs 2 = imgV mk m1 m2 m3 m4 (.slice mA mn mc) := (hD.facts 2 (by omega)).2.2.2
        have p3 : vs 3 = .pointer (some ⟨w.heap.size + 1 + 1 + 1, 0, none⟩) := (hD.facts 3 (by omega)).2.2.2
        have p4 : vs 4 = iv qx := (hD.facts 4 (by omega)).2.2.2
        have p5 : vs 5 = iv (d1 + (c : Int)) := (hD.facts 5 (by omega)).2.2.2
        have p6 : vs 6 = iv (qx + (d1 + (c : Int))) := (hD.facts 6 (by omega)).2.2.2
        have p7 : vs 7 = .pointer (some ⟨w.heap.size + 1, 0, none⟩) := (hD.facts 7 (by omega)).2.2.2
        have p8 : vs 8 = iv C.a := (hD.facts 8 (by omega)).2.2.2
        have p9 : vs 9 = iv (qx + (d1 + (c : Int)) - C.a) := (hD.facts 9 (by omega)).2.2.2
        have p10 : vs 10 = .pointer (some ⟨w.heap.size + 1 + 1 + 1, 1, none⟩) := (hD.facts 10 (by omega)).2.2.2
        have p11 : vs 11 = iv qy := (hD.facts 11 (by omega)).2.2.2
        have p12 : vs 12 = iv (d2 + (r : Int)) := (hD.facts 12 (by omega)).2.2.2
        have p13 : vs 13 = iv (qy + (d2 + (r : Int))) := (hD.facts 13 (by omega)).2.2.2
        have p14 : vs 14 = .pointer (some ⟨w.heap.size + 1, 1, none⟩) := (hD.facts 14 (by omega)).2.2.2
        have p15 : vs 15 = iv C.b := (hD.facts 15 (by omega)).2.2.2
        have p16 : vs 16 = iv (qy + (d2 + (r : Int)) - C.b) := (hD.facts 16 (by omega)).2.2.2
        have p17 : vs 17 = fourV a0 a1 a2 mm := (hD.facts 17 (by omega)).2.2.2
        have p18 : vs 18 = iv mm := (hD.facts 18 (by omega)).2.2.2
        simp only [p0, p1, p2, p3, p4, p5, p6, p7, p8, p9, p10, p11, p12, p13, p14, p15, p16, p17, p18]
        clear p0 p1 p2 p3 p4 p5 p6 p7 p8 p9 p10 p11 p12 p13 p14 p15 p16 p17 p18
        have hW22 := hD.bel
        clear hD  lo hi vs
        have hs22 : Below w2.heap.size w2 W22 := ⟨hW22.os, hW22.tape, hW22.output, hW22.size, hW22.block⟩
        have bic22 : Below wc.heap.size wc W22 := bic.trans (hs22.mono z2)
        have bw22 : Below w.heap.size w W22 := HBC.out.trans (bic22.mono (by omega))
        have z22 : wc.heap.size ≤ W22.heap.size := bic22.size
        obtain ⟨n0, n1, n2, n3⟩ := HN0.out
        obtain ⟨u0, u1, u2, u3⟩ := HU0.out
        have hs := HS0.out
        clear hW22 hs22 bic bw2 z2 HMW HB2m F1m F3m HS0 HN0 HU0 cD lD
        have NB0 : Hid (NearB (gs.getD i 0) (comp op (ds.getD i 0 * 257) t0 t3 mm)) := by rw [HI.out]; exact n0
        have NB1 : Hid (NearB (gs.getD (i + 1) 0) (comp op (ds.getD (i + 1) 0 * 257) t1 t3 mm)) := by rw [← HP1.out]; exact n1
        have NB2 : Hid (NearB (gs.getD (i + 2) 0) (comp op (ds.getD (i + 2) 0 * 257) t2 t3 mm)) := by rw [← HP2.out]; exact n2
        have NB3 : Hid (NearB (gs.getD (i + 3) 0) (comp op (ds.getD (i + 3) 0 * 257) t3 t3 mm)) := by rw [← HP3.out]; exact n3
        have HS := hid hs
        have GC0 : ∀ W', Below w.heap.size w W' → ∀ k, k < 4 → W'.cell? ⟨gg, go_ + i + k, none⟩ = some (.int .u8 (gs.getD (i + k) 0)) := fun W' hb k hk => (hb.cell (p := ⟨gg, go_ + (i + k), none⟩) hgl).trans (HGC.out (i + k) (by omega)) |> fun h => by rw [show go_ + i + k = go_ + (i + k) by omega]; exact h
        have GC : Hid (∀ W', Below w.heap.size w W' → W'.cell? ⟨gg, go_ + i, none⟩ = some (.int .u8 (gs.getD i 0)) ∧ W'.cell? ⟨gg, go_ + i + 1, none⟩ = some (.int .u8 (gs.getD (i + 1) 0)) ∧ W'.cell? ⟨gg, go_ + i + 2, none⟩ = some (.int .u8 (gs.getD (i + 2) 0)) ∧ W'.cell? ⟨gg, go_ + i + 3, none⟩ = some (.int .u8 (gs.getD (i + 3) 0))) := fun W' hb => ⟨GC0 W' hb 0 (by omega), GC0 W' hb 1 (by omega), GC0 W' hb 2 (by omega), GC0 W' hb 3 (by omega)⟩
        clear GC0
        have DC : ∀ W', Below w.heap.size w W' → ∀ k, k < 4 → W'.cell? ⟨dg, do_ + i + k, none⟩ = some (.int .u8 (ds.getD (i + k) 0)) := fun W' hb k hk => (hb.cell (p := ⟨dg, do_ + (i + k), none⟩) hdl).trans (HDC.out (i + k) (by omega)) |> fun h => by rw [show do_ + i + k = do_ + (i + k) by omega]; exact h
        have hAtF : AtF 4 d1 d2 d3 (d1 + (c : Int)) (d2 + (r : Int)) i := atFw (by omega) (by have := HW.out; omega) (by omega) (by have := HW.out; omega) (by rw [HI.out]; exact pos_z W r c c (d2 + r - d2) (d3 - d1) (by omega) (by have := HW.out; omega) rfl d1) (by omega)
        have HAT : Hid (∀ W', Below w.heap.size w W' → Calls Try.prog 58 #[imgV 0 d1 d2 d3 d4 (.slice (some ⟨dg, do_, none⟩) dn dc), iv (d1 + (c : Int)), iv (d2 + (r : Int))] W' fun e w' => e = .returned (fourV (ds.getD i 0 * 257) (ds.getD (i + 1) 0 * 257) (ds.getD (i + 2) 0 * 257) (ds.getD (i + 3) 0 * 257)) ∧ Below W'.heap.size W' w') := fun W' hb =>
          at_rgba d1 d2 d3 d4 (d1 + (c : Int)) (d2 + (r : Int)) dg do_ dn dc i _ _ _ _ W' hAtF (by omega) (by omega) (by omega) (Nat.lt_of_lt_of_le hdl hb.size) (DC W' hb 0 (by omega)) (DC W' hb 1 (by omega)) (DC W' hb 2 (by omega)) (DC W' hb 3 (by omega)) (HDB.out.rng i) (HDB.out.rng (i + 1)) (HDB.out.rng (i + 2)) (HDB.out.rng (i + 3))
        have v16 : ∀ j, C16 (ds.getD j 0 * 257) := fun j => by have := HDB.out.rng j; exact ⟨by omega, by omega⟩
        have HCO : Hid (∀ W', Calls Try.prog 59 #[fourV (ds.getD i 0 * 257) (ds.getD (i + 1) 0 * 257) (ds.getD (i + 2) 0 * 257) (ds.getD (i + 3) 0 * 257), fourV t0 t1 t2 t3, iv mm, iv op] W' fun e w' => e = .returned (fourV (comp op (ds.getD i 0 * 257) t0 t3 mm) (comp op (ds.getD (i + 1) 0 * 257) t1 t3 mm) (comp op (ds.getD (i + 2) 0 * 257) t2 t3 mm) (comp op (ds.getD (i + 3) 0 * 257) t3 t3 mm)) ∧ Below W'.heap.size W' w') := fun W' =>
          composed_any op _ _ _ _ t0 t1 t2 t3 mm W' HOP.out (v16 i) (v16 (i + 1)) (v16 (i + 2)) (v16 (i + 3)) u0 u1 u2 u3 hm16.out
        have rg0 := HGB.out.rng i; have rg1 := HGB.out.rng (i + 1); have rg2 := HGB.out.rng (i + 2); have rg3 := HGB.out.rng (i + 3)
        generalize gs.getD i 0 = b0 at *
        generalize gs.getD (i + 1) 0 = b1 at *
        generalize gs.getD (i + 2) 0 = b2 at *
        generalize gs.getD (i + 3) 0 = b3 at *
        generalize comp op (ds.getD i 0 * 257) t0 t3 mm = k0 at *
        generalize comp op (ds.getD (i + 1) 0 * 257) t1 t3 mm = k1 at *
        generalize comp op (ds.getD (i + 2) 0 * 257) t2 t3 mm = k2 at *
        generalize comp op (ds.getD (i + 3) 0 * 257) t3 t3 mm = k3 at *
        generalize ds.getD i 0 * 257 = D0 at *
        generalize ds.getD (i + 1) 0 * 257 = D1 at *
        generalize ds.getD (i + 2) 0 * 257 = D2 at *
        generalize ds.getD (i + 3) 0 * 257 = D3 at *
        have F17 := hid (E17.out.keep bic22)
        have F18 := hid (E18.out.keep bic22)
        have F1 := hid (E1.out.keep bic22)
        have F2 := hid (E2.out.keep bic22)
        have HB2 := hid bw22
        have HGL := hid hgl
        clear hs n0 n1 n2 n3 DC hAtF v16 u0 u1 u2 u3 bw22 hgl hdl
        go_wp2_with fail
        refine Plan.wp_region_steps 24 [] [imgV 0 d1 d2 d3 d4 (.slice (some ⟨dg, do_, none⟩) dn dc), iv (d1 + (c : Int)), iv (d2 + (r : Int)), fourV D0 D1 D2 D3, imgV sk s1 s2 s3 s4 (.slice sA sn sc), .pointer (some ⟨w.heap.size + 1 + 1, 0, none⟩), iv px, iv (d1 + (c : Int)), iv (px + (d1 + (c : Int))), .pointer (some ⟨w.heap.size + 1, 0, none⟩), iv C.a, iv (px + (d1 + (c : Int)) - C.a), .pointer (some ⟨w.heap.size + 1 + 1, 1, none⟩), iv py, iv (d2 + (r : Int)), iv (py + (d2 + (r : Int))), .pointer (some ⟨w.heap.size + 1, 1, none⟩), iv C.b, iv (py + (d2 + (r : Int)) - C.b), fourV t0 t1 t2 t3, iv mm, iv op, fourV k0 k1 k2 k3, undef] [(23, 25, #[iv 0, iv 0, iv 0, iv 0])] (by kernel_rfl) (by kernel_rfl) (fun _ _ _ _ _ h => h) ?_ ?_
        · refine ⟨?_, ?_, ?_, ?_, ?_, ?_, ?_, ?_, ?_, ?_, ?_, ?_, ?_, ?_, ?_, ?_, ?_, ?_, ?_, ?_, ?_, ?_, ?_, ?_, trivial⟩
          · -- 0: Op.load 31 (Operand.tmp 17)
            intro a W hold hdep hb
            have e17 : a.tmps[17]?.getD undef = .pointer (some ⟨g17, 0, none⟩) := Plan.ev (hold 17 (by kernel_rfl))
            have C := ((F17.out).drew.keep hb).cells6
            clear hold hdep
            exact Plan.step_const rfl rfl (by go_simp <;> exact IntWalk.i64_in _ (by omega))
          · -- 1: Op.move (Operand.tmp 23)
            intro a W hold hdep hb
            have e23 : a.tmps[23]?.getD undef = iv (d1 + (c : Int)) := Plan.ev (hold 23 (by kernel_rfl))
            clear hold hdep
            exact Plan.step_const rfl rfl (by go_simp <;> exact IntWalk.i64_in _ (by omega))
          · -- 2: Op.move (Operand.tmp 22)
            intro a W hold hdep hb
            have e22 : a.tmps[22]?.getD undef = iv (d2 + (r : Int)) := Plan.ev (hold 22 (by kernel_rfl))
            clear hold hdep
            exact Plan.step_const rfl rfl (by go_simp <;> exact IntWalk.i64_in _ (by omega))
          · -- 3: Op.call { callee := Callee.value (Operand.func 58), args := #[Operand.
            intro a W hold hdep hb
            have e103 : a.tmps[103]?.getD undef = imgV 0 d1 d2 d3 d4 (.slice (some ⟨dg, do_, none⟩) dn dc) := Plan.ev (Plan.dep_const (by rfl) (hdep 0 (by kernel_rfl)))
            have e104 : a.tmps[104]?.getD undef = iv (d1 + (c : Int)) := Plan.ev (Plan.dep_const (by rfl) (hdep 1 (by kernel_rfl)))
            have e105 : a.tmps[105]?.getD undef = iv (d2 + (r : Int)) := Plan.ev (Plan.dep_const (by rfl) (hdep 2 (by kernel_rfl)))
            clear hold hdep
            exact Plan.step_call (f := 58) (args := #[imgV 0 d1 d2 d3 d4 (.slice (some ⟨dg, do_, none⟩) dn dc), iv (d1 + (c : Int)), iv (d2 + (r : Int))]) rfl rfl (by go_simp) (HAT.out W (HB2.out.trans ((show Below W22.heap.size W22 W from ⟨hb.os, hb.tape, hb.output, hb.size, hb.block⟩).mono HB2.out.size)))
          · -- 4: Op.load 31 (Operand.tmp 18)
            intro a W hold hdep hb
            have e18 : a.tmps[18]?.getD undef = .pointer (some ⟨g18, 0, none⟩) := Plan.ev (hold 18 (by kernel_rfl))
            have C := ((F18.out).drew.keep hb).cells6
            clear hold hdep
            exact Plan.step_const rfl rfl (by go_simp <;> exact IntWalk.i64_in _ (by omega))
          · -- 5: Op.indexAddr 34 (Operand.tmp 11) (Operand.const (Value.int IntKind.i64
            intro a W hold hdep hb
            have e11 : a.tmps[11]?.getD undef = .pointer (some ⟨w.heap.size + 1 + 1, 0, none⟩) := Plan.ev (hold 11 (by kernel_rfl))
            clear hold hdep
            exact Plan.step_const rfl rfl (by go_simp <;> exact IntWalk.i64_in _ (by omega))
          · -- 6: Op.load 3 (Operand.tmp 108)
            intro a W hold hdep hb
            have e108 : a.tmps[108]?.getD undef = .pointer (some ⟨w.heap.size + 1 + 1, 0, none⟩) := Plan.ev (Plan.dep_const (by rfl) (hdep 5 (by kernel_rfl)))
            have C := ((F2.out).drew.keep hb).cells2
            clear hold hdep
            exact Plan.step_const rfl rfl (by go_simp <;> exact IntWalk.i64_in _ (by omega))
          · -- 7: Op.move (Operand.tmp 23)
            intro a W hold hdep hb
            have e23 : a.tmps[23]?.getD undef = iv (d1 + (c : Int)) := Plan.ev (hold 23 (by kernel_rfl))
            clear hold hdep
            exact Plan.step_const rfl rfl (by go_simp <;> exact IntWalk.i64_in _ (by omega))
          · -- 8: Op.binOp BinOp.add 3 (Operand.tmp 109) (Operand.tmp 110) 3
            intro a W hold hdep hb
            have e109 : a.tmps[109]?.getD undef = iv px := Plan.ev (Plan.dep_const (by rfl) (hdep 6 (by kernel_rfl)))
            have e110 : a.tmps[110]?.getD undef = iv (d1 + (c : Int)) := Plan.ev (Plan.dep_const (by rfl) (hdep 7 (by kernel_rfl)))
            clear hold hdep
            exact Plan.step_const rfl rfl (by go_simp <;> exact IntWalk.i64_in _ (by omega))
          · -- 9: Op.fieldAddr 28 (Operand.tmp 10) 0
            intro a W hold hdep hb
            have e10 : a.tmps[10]?.getD undef = .pointer (some ⟨w.heap.size + 1, 0, none⟩) := Plan.ev (hold 10 (by kernel_rfl))
            clear hold hdep
            exact Plan.step_const rfl rfl (by go_simp <;> exact IntWalk.i64_in _ (by omega))
          · -- 10: Op.load 3 (Operand.tmp 112)
            intro a W hold hdep hb
            have e112 : a.tmps[112]?.getD undef = .pointer (some ⟨w.heap.size + 1, 0, none⟩) := Plan.ev (Plan.dep_const (by rfl) (hdep 9 (by kernel_rfl)))
            have C := ((F1.out).drew.keep hb).cells4.1
            clear hold hdep
            exact Plan.step_const rfl rfl (by go_simp <;> exact IntWalk.i64_in _ (by omega))
          · -- 11: Op.binOp BinOp.sub 3 (Operand.tmp 111) (Operand.tmp 113) 3
            intro a W hold hdep hb
            have e111 : a.tmps[111]?.getD undef = iv (px + (d1 + (c : Int))) := Plan.ev (Plan.dep_const (by rfl) (hdep 8 (by kernel_rfl)))
            have e113 : a.tmps[113]?.getD undef = iv C.a := Plan.ev (Plan.dep_const (by rfl) (hdep 10 (by kernel_rfl)))
            clear hold hdep
            exact Plan.step_const rfl rfl (by go_simp <;> exact IntWalk.i64_in _ (by omega))
          · -- 12: Op.indexAddr 34 (Operand.tmp 11) (Operand.const (Value.int IntKind.i64
            intro a W hold hdep hb
            have e11 : a.tmps[11]?.getD undef = .pointer (some ⟨w.heap.size + 1 + 1, 0, none⟩) := Plan.ev (hold 11 (by kernel_rfl))
            clear hold hdep
            exact Plan.step_const rfl rfl (by go_simp <;> exact IntWalk.i64_in _ (by omega))
          · -- 13: Op.load 3 (Operand.tmp 115)
            intro a W hold hdep hb
            have e115 : a.tmps[115]?.getD undef = .pointer (some ⟨w.heap.size + 1 + 1, 1, none⟩) := Plan.ev (Plan.dep_const (by rfl) (hdep 12 (by kernel_rfl)))
            have C := ((F2.out).drew.keep hb).cells2
            clear hold hdep
            exact Plan.step_const rfl rfl (by go_simp <;> exact IntWalk.i64_in _ (by omega))
          · -- 14: Op.move (Operand.tmp 22)
            intro a W hold hdep hb
            have e22 : a.tmps[22]?.getD undef = iv (d2 + (r : Int)) := Plan.ev (hold 22 (by kernel_rfl))
            clear hold hdep
            exact Plan.step_const rfl rfl (by go_simp <;> exact IntWalk.i64_in _ (by omega))
          · -- 15: Op.binOp BinOp.add 3 (Operand.tmp 116) (Operand.tmp 117) 3
            intro a W hold hdep hb
            have e116 : a.tmps[116]?.getD undef = iv py := Plan.ev (Plan.dep_const (by rfl) (hdep 13 (by kernel_rfl)))
            have e117 : a.tmps[117]?.getD undef = iv (d2 + (r : Int)) := Plan.ev (Plan.dep_const (by rfl) (hdep 14 (by kernel_rfl)))
            clear hold hdep
            exact Plan.step_const rfl rfl (by go_simp <;> exact IntWalk.i64_in _ (by omega))
          · -- 16: Op.fieldAddr 28 (Operand.tmp 10) 1
            intro a W hold hdep hb
            have e10 : a.tmps[10]?.getD undef = .pointer (some ⟨w.heap.size + 1, 0, none⟩) := Plan.ev (hold 10 (by kernel_rfl))
            clear hold hdep
            exact Plan.step_const rfl rfl (by go_simp <;> exact IntWalk.i64_in _ (by omega))
          · -- 17: Op.load 3 (Operand.tmp 119)
            intro a W hold hdep hb
            have e119 : a.tmps[119]?.getD undef = .pointer (some ⟨w.heap.size + 1, 1, none⟩) := Plan.ev (Plan.dep_const (by rfl) (hdep 16 (by kernel_rfl)))
            have C := ((F1.out).drew.keep hb).cells4.1
            clear hold hdep
            exact Plan.step_const rfl rfl (by go_simp <;> exact IntWalk.i64_in _ (by omega))
          · -- 18: Op.binOp BinOp.sub 3 (Operand.tmp 118) (Operand.tmp 120) 3
            intro a W hold hdep hb
            have e118 : a.tmps[118]?.getD undef = iv (py + (d2 + (r : Int))) := Plan.ev (Plan.dep_const (by rfl) (hdep 15 (by kernel_rfl)))
            have e120 : a.tmps[120]?.getD undef = iv C.b := Plan.ev (Plan.dep_const (by rfl) (hdep 17 (by kernel_rfl)))
            clear hold hdep
            exact Plan.step_const rfl rfl (by go_simp <;> exact IntWalk.i64_in _ (by omega))
          · -- 19: Op.call { callee := Callee.value (Operand.func 58), args := #[Operand.
            intro a W hold hdep hb
            have e107 : a.tmps[107]?.getD undef = imgV sk s1 s2 s3 s4 (.slice sA sn sc) := Plan.ev (Plan.dep_const (by rfl) (hdep 4 (by kernel_rfl)))
            have e114 : a.tmps[114]?.getD undef = iv (px + (d1 + (c : Int)) - C.a) := Plan.ev (Plan.dep_const (by rfl) (hdep 11 (by kernel_rfl)))
            have e121 : a.tmps[121]?.getD undef = iv (py + (d2 + (r : Int)) - C.b) := Plan.ev (Plan.dep_const (by rfl) (hdep 18 (by kernel_rfl)))
            clear hold hdep
            exact Plan.step_call (f := 58) (args := #[imgV sk s1 s2 s3 s4 (.slice sA sn sc), iv (px + (d1 + (c : Int)) - C.a), iv (py + (d2 + (r : Int)) - C.b)]) rfl rfl (by go_simp) (HS.out W (HB2.out.trans ((show Below W22.heap.size W22 W from ⟨hb.os, hb.tape, hb.output, hb.size, hb.block⟩).mono HB2.out.size)))
          · -- 20: Op.move (Operand.tmp 25)
            intro a W hold hdep hb
            have e25 : a.tmps[25]?.getD undef = iv mm := Plan.ev (hold 25 (by kernel_rfl))
            clear hold hdep
            exact Plan.step_const rfl rfl (by go_simp <;> exact IntWalk.i64_in _ (by omega))
          · -- 21: Op.move (Operand.tmp 7)
            intro a W hold hdep hb
            have e7 : a.tmps[7]?.getD undef = iv op := Plan.ev (hold 7 (by kernel_rfl))
            clear hold hdep
            exact Plan.step_const rfl rfl (by go_simp <;> exact IntWalk.i64_in _ (by omega))
          · -- 22: Op.call { callee := Callee.value (Operand.func 59), args := #[Operand.
            intro a W hold hdep hb
            have e106 : a.tmps[106]?.getD undef = fourV D0 D1 D2 D3 := Plan.ev (Plan.dep_const (by rfl) (hdep 3 (by kernel_rfl)))
            have e122 : a.tmps[122]?.getD undef = fourV t0 t1 t2 t3 := Plan.ev (Plan.dep_const (by rfl) (hdep 19 (by kernel_rfl)))
            have e123 : a.tmps[123]?.getD undef = iv mm := Plan.ev (Plan.dep_const (by rfl) (hdep 20 (by kernel_rfl)))
            have e124 : a.tmps[124]?.getD undef = iv op := Plan.ev (Plan.dep_const (by rfl) (hdep 21 (by kernel_rfl)))
            clear hold hdep
            exact Plan.step_call (f := 59) (args := #[fourV D0 D1 D2 D3, fourV t0 t1 t2 t3, iv mm, iv op]) rfl rfl (by go_simp) (HCO.out W)
          · -- 23: Op.alloc 25
            intro a W hold hdep hb
            clear hold hdep
            exact Plan.step_alloc rfl rfl (by go_simp)
        intro vs W3 lo hi hD
        change wpList _ _ _ _ { tmps := (Array.setIfInBounds (Array.setIfInBounds (Array.setIfInBounds (Array.setIfInBounds (Array.setIfInBounds (Array.setIfInBounds (Array.setIfInBounds (Array.setIfInBounds (Array.setIfInBounds (Array.setIfInBounds (Array.setIfInBounds (Array.setIfInBounds (Array.setIfInBounds (Array.setIfInBounds (Array.setIfInBounds (Array.setIfInBounds (Array.setIfInBounds (Array.setIfInBounds (Array.setIfInBounds (Array.setIfInBounds (Array.setIfInBounds (Array.setIfInBounds (Array.setIfInBounds (Array.setIfInBounds _ 103 (vs 0)) 104 (vs 1)) 105 (vs 2)) 106 (vs 3)) 107 (vs 4)) 108 (vs 5)) 109 (vs 6)) 110 (vs 7)) 111 (vs 8)) 112 (vs 9)) 113 (vs 10)) 114 (vs 11)) 115 (vs 12)) 116 (vs 13)) 117 (vs 14)) 118 (vs 15)) 119 (vs 16)) 120 (vs 17)) 121 (vs 18)) 122 (vs 19)) 123 (vs 20)) 124 (vs 21)) 125 (vs 22)) 26 (vs 23)), defers := _ } _
        simp only [Plan.putAll_zero, List.setIfInBounds_toArray, List.set_cons_zero, List.set_cons_succ, List.drop_succ_cons, List.drop_zero]
        have p0 : vs 0 = imgV 0 d1 d2 d3 d4 (.slice (some ⟨dg, do_, none⟩) dn dc) := (hD.facts 0 (by omega)).2.2.2
        have p1 : vs 1 = iv (d1 + (c : Int)) := (hD.facts 1 (by omega)).2.2.2
        have p2 : vs 2 = iv (d2 + (r : Int)) := (hD.facts 2 (by omega)).2.2.2
        have p3 : vs 3 = fourV D0 D1 D2 D3 := (hD.facts 3 (by omega)).2.2.2
        have p4 : vs 4 = imgV sk s1 s2 s3 s4 (.slice sA sn sc) := (hD.facts 4 (by omega)).2.2.2
        have p5 : vs 5 = .pointer (some ⟨w.heap.size + 1 + 1, 0, none⟩) := (hD.facts 5 (by omega)).2.2.2
        have p6 : vs 6 = iv px := (hD.facts 6 (by omega)).2.2.2
        have p7 : vs 7 = iv (d1 + (c : Int)) := (hD.facts 7 (by omega)).2.2.2
        have p8 : vs 8 = iv (px + (d1 + (c : Int))) := (hD.facts 8 (by omega)).2.2.2
        have p9 : vs 9 = .pointer (some ⟨w.heap.size + 1, 0, none⟩) := (hD.facts 9 (by omega)).2.2.2
        have p10 : vs 10 = iv C.a := (hD.facts 10 (by omega)).2.2.2
        have p11 : vs 11 = iv (px + (d1 + (c : Int)) - C.a) := (hD.facts 11 (by omega)).2.2.2
        have p12 : vs 12 = .pointer (some ⟨w.heap.size + 1 + 1, 1, none⟩) := (hD.facts 12 (by omega)).2.2.2
        have p13 : vs 13 = iv py := (hD.facts 13 (by omega)).2.2.2
        have p14 : vs 14 = iv (d2 + (r : Int)) := (hD.facts 14 (by omega)).2.2.2
        have p15 : vs 15 = iv (py + (d2 + (r : Int))) := (hD.facts 15 (by omega)).2.2.2
        have p16 : vs 16 = .pointer (some ⟨w.heap.size + 1, 1, none⟩) := (hD.facts 16 (by omega)).2.2.2
        have p17 : vs 17 = iv C.b := (hD.facts 17 (by omega)).2.2.2
        have p18 : vs 18 = iv (py + (d2 + (r : Int)) - C.b) := (hD.facts 18 (by omega)).2.2.2
        have p19 : vs 19 = fourV t0 t1 t2 t3 := (hD.facts 19 (by omega)).2.2.2
        have p20 : vs 20 = iv mm := (hD.facts 20 (by omega)).2.2.2
        have p21 : vs 21 = iv op := (hD.facts 21 (by omega)).2.2.2
        have p22 : vs 22 = fourV k0 k1 k2 k3 := (hD.facts 22 (by omega)).2.2.2
        obtain ⟨p23, q23, b23⟩ : vs 23 = .pointer (some ⟨lo 23, 0, none⟩) ∧ hi 23 = lo 23 + 1 ∧ Blk W3 (lo 23) 25 #[iv 0, iv 0, iv 0, iv 0] := (hD.facts 23 (by omega)).2.2.2
        have l23 := (hD.facts 23 (by omega)).1
        simp only [p0, p1, p2, p3, p4, p5, p6, p7, p8, p9, p10, p11, p12, p13, p14, p15, p16, p17, p18, p19, p20, p21, p22, p23]
        clear p0 p1 p2 p3 p4 p5 p6 p7 p8 p9 p10 p11 p12 p13 p14 p15 p16 p17 p18 p19 p20 p21 p22 p23
        have hW3 := hD.bel
        generalize lo 23 = g23 at *
        clear hD q23 lo hi vs
        have hs3 : Below W22.heap.size W22 W3 := ⟨hW3.os, hW3.tape, hW3.output, hW3.size, hW3.block⟩
        have z3 : W22.heap.size ≤ W3.heap.size := hs3.size
        have y23 : W22.heap.size ≤ g23 := l23
        have bic3 : Below wc.heap.size wc W3 := bic22.trans (hs3.mono z22)
        have c23 := b23.cells4
        have z23 := b23.lt
        have cD := (E0.out.keep bic3).cells6
        have lD := (E0.out.keep bic3).lt
        have bic4 : Below wc.heap.size wc (set4 W3 g23 (iv k0) (iv k1) (iv k2) (iv k3)) := below4 bic3 (by omega) _ _ _ _
        have H4 := hid bic4
        clear l23 hW3 hs3 bic3 bic4
        go_wp2_with fail
        change Calls _ _ _ (set4 W3 g23 (iv k0) (iv k1) (iv k2) (iv k3)) _
        have bw4 : Below w.heap.size w (set4 W3 g23 (iv k0) (iv k1) (iv k2) (iv k3)) := HBC.out.trans (H4.out.mono (by omega))
        refine (near_rgba gg (go_ + i) 4 (gc - i) b0 b1 b2 b3 k0 k1 k2 k3 _ (by omega) ?_ (GC.out _ bw4).1 (GC.out _ bw4).2.1 (GC.out _ bw4).2.2.1 (GC.out _ bw4).2.2.2 rg0 rg1 rg2 rg3 NB0.out NB1.out NB2.out NB3.out).mono ?_
        · exact Nat.lt_of_lt_of_le HGL.out bw4.size
        rintro e w5 ⟨rfl, hb5⟩
        have bic5 : Below wc.heap.size wc w5 := H4.out.trans (hb5.mono (by rw [size_set4]; omega))
        have cD := (E0.out.keep bic5).cells6
        have lD := (E0.out.keep bic5).lt
        clear hb5 bw4 c23 z23
        go_wp2_with fail
        refine ⟨⟨c + 1, by omega, ?_, ?_, bic5⟩, ?_⟩
        · have h1 := HQN.out
          rw [← HI.out] at h1
          rw [h1]
          congr 1
        · congr 1; omega
        · simp only [intOf]; omega

theorem PixOk.keep' {w W : World} {S : Value} {X Y op m : Int} {D G : Nat → Int} (h : PixOk w S X Y op m D G) (hb : Below w.heap.size w W) : PixOk W S X Y op m D G := by
  obtain ⟨s0, s1, s2, s3, hc, hs, hn⟩ := h
  exact ⟨s0, s1, s2, s3, hc, fun W' hW => hs W' (hb.trans (hW.mono hb.size)), hn⟩
theorem AllOkM.keep {w W : World} {S M : Value} {d1 d2 : Int} {Wd H : Nat} {C : Rc} {px py qx qy op : Int} {ds gs : List Int} (h : AllOkM w S M d1 d2 Wd H C px py qx qy op ds gs) (hb : Below w.heap.size w W) : AllOkM W S M d1 d2 Wd H C px py qx qy op ds gs := fun r c hr hc =>
  ⟨fun hh => by
    obtain ⟨a0, a1, a2, m, h1, h2, h3⟩ := (h r c hr hc).1 hh
    exact ⟨a0, a1, a2, m, h1, fun W' hW => h2 W' (hb.trans (hW.mono hb.size)), h3.keep' hb⟩, (h r c hr hc).2⟩
end Go.Proofs.Ytlnfcjaempojgaa
