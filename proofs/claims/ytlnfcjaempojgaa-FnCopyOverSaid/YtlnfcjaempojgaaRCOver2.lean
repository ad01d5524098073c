/- Contract of drawCopyOver, backwards. Written by mk_C.py. -/
import Derived.Test.YtlnfcjaempojgaaRCOver
import Derived.Test.YtlnfcjaempojgaaI2
import Derived.Test.YtlnfcjaempojgaaK3
import Derived.Deep.CutBlock
import Derived.Deep.CutRange
set_option linter.unusedVariables false
namespace Go.Proofs.Ytlnfcjaempojgaa
open Go.RowKit


set_option maxRecDepth 20000 in
set_option maxHeartbeats 4000000 in
theorem cover_bw (gD gp cap n : Nat) (d1 d2 d3 d4 : Int) (Wd H : Nat) (f : Nat → Int) (gS gq scap m : Nat) (s1 s2 s3 s4 : Int) (Ws Hs : Nat) (fs : Nat → Int) (ca ra ce re ua va : Nat) (w : World)
    (hD : DstAt w gD gp cap n d1 d2 d3 d4 Wd H f) (hS : SrcAt 95 4 w gS gq scap m (4 * (s3 - s1)) s1 s2 s3 s4 Ws Hs fs) (hne : gp ≠ gq) (h0 : ca < ce ∧ ra < re) (h1 : ce ≤ Wd) (h2 : re ≤ H) (h3 : ua + (ce - ca) ≤ Ws) (h4 : va + (re - ra) ≤ Hs)
    (rf : ∀ j, 0 ≤ f j ∧ f j ≤ 255) (rs : ∀ j, 0 ≤ fs j ∧ fs j ≤ 255) (hV : ∀ q, 4 * q + 4 ≤ m → coverV (fun j => fs (4 * q + j))) (hdir : ¬ d2 + (ra : Int) < s2 + va ∧ ¬ (d2 + (ra : Int) = s2 + va ∧ d1 + (ca : Int) ≤ s1 + ua)) :
    Calls Try.prog 84 #[.pointer (some ⟨gD, 0, none⟩), rcV ⟨d1 + ca, d2 + ra, d1 + ce, d2 + re⟩, .pointer (some ⟨gS, 0, none⟩), ptV (s1 + ua) (s2 + va)] w fun e w' =>
      (∃ v, e = .returned v) ∧ Only [gp] w w' ∧ ∃ f', PixRow w' gp cap n f' ∧ Painted Wd f (fun r c => coverP (fun k => f (pos Wd r c k)) (fun j => fs (4 * ((va + (r - ra)) * Ws + (ua + (c - ca))) + j))) (inPart ca ra ce re) f' := by
  have HD := hid hD; have HS := hid hS; have RF := hid rf; have RS := hid rs; have HVD := hid hV
  obtain ⟨nw, hnw⟩ : ∃ nw : Nat → Nat → Nat → Int, nw = fun r c => coverP (fun k => f (pos Wd r c k)) (fun j => fs (4 * ((va + (r - ra)) * Ws + (ua + (c - ca))) + j)) := ⟨_, rfl⟩
  rw [← hnw]
  have HNW := hid hnw
  obtain ⟨wN, hwN⟩ : ∃ wN, wN = ce - ca := ⟨_, rfl⟩
  obtain ⟨hN, hhN⟩ : ∃ hN, hN = re - ra := ⟨_, rfl⟩
  have HB12 : Hid ((-64 ≤ d1 ∧ d3 ≤ 64) ∧ (-64 ≤ d2 ∧ d4 ≤ 64) ∧ d3 = d1 + Wd ∧ d4 = d2 + H) := ⟨hD.b1, hD.b2, hD.w3, hD.w4⟩
  have SB12 : Hid ((-64 ≤ s1 ∧ s3 ≤ 64) ∧ (-64 ≤ s2 ∧ s4 ≤ 64) ∧ s3 = s1 + Ws ∧ s4 = s2 + Hs) := ⟨hS.b1, hS.b2, hS.w3, hS.w4⟩
  have HL : Wd ≤ 128 ∧ H ≤ 128 ∧ Ws ≤ 128 ∧ Hs ≤ 128 := by
    have := HB12.out; have := SB12.out
    exact ⟨by omega, by omega, by omega, by omega⟩
  have DX : Hid (∀ W, Calls Try.prog 80 #[rcV ⟨d1 + ca, d2 + ra, d1 + ce, d2 + re⟩] W fun e w' => e = .returned (.int .i64 (wN : Int)) ∧ Below W.heap.size W w') := fun W => by
    have := dx_any (d1 + ca) (d2 + ra) (d1 + ce) (d2 + re) W (by have := HB12.out; omega)
    rwa [show d1 + (ce : Int) - (d1 + ca) = (wN : Int) by omega] at this
  have DY : Hid (∀ W, Calls Try.prog 103 #[rcV ⟨d1 + ca, d2 + ra, d1 + ce, d2 + re⟩] W fun e w' => e = .returned (.int .i64 (hN : Int)) ∧ Below W.heap.size W w') := fun W => by
    have := dy_any (d1 + ca) (d2 + ra) (d1 + ce) (d2 + re) W (by have := HB12.out; omega)
    rwa [show d2 + (re : Int) - (d2 + ra) = (hN : Int) by omega] at this
  have HWN := hid hwN; have HHN := hid hhN
  have HDIR := hid hdir
  clear hD hS hnw rf rs hV hwN hhN hdir
  go_enter Try.func84, Try.ntmps84
  go_wp2_with fail
  obtain ⟨W0, hW0⟩ : ∃ W : World, W = ((w.alloc (.cells #[iv (d1 + ca), iv (d2 + ra), iv (d1 + ce), iv (d2 + re)] 73)).alloc (.cells #[iv (s1 + ua), iv (s2 + va)] 71)) := ⟨_, rfl⟩
  rw [← hW0]
  have B0 : Hid (Blk W0 (w.heap.size) 73 #[iv (d1 + ca), iv (d2 + ra), iv (d1 + ce), iv (d2 + re)]) := by rw [hW0]; exact Blk.alloc (Blk.new_at (W := w) (t := 73) (cs := #[iv (d1 + ca), iv (d2 + ra), iv (d1 + ce), iv (d2 + re)]) (by simp)) _
  have B1 : Hid (Blk W0 (w.heap.size + 1) 71 #[iv (s1 + ua), iv (s2 + va)]) := by rw [hW0]; exact Blk.new_at (W := (w.alloc (.cells #[iv (d1 + ca), iv (d2 + ra), iv (d1 + ce), iv (d2 + re)] 73))) (t := 71) (cs := #[iv (s1 + ua), iv (s2 + va)]) (by simp)
  have bW0 : Below w.heap.size w W0 := by rw [hW0]; go_grown
  have sW0 : W0.heap.size = w.heap.size + 2 := by rw [hW0]; simp
  have SW0 := hid sW0
  have zW0 : w.heap.size + 2 ≤ W0.heap.size := by omega
  clear sW0 hW0
  have HB := hid bW0
  refine Plan.wp_region_steps 4 [] [rcV ⟨d1 + ca, d2 + ra, d1 + ce, d2 + re⟩, .int .i64 (wN : Int), rcV ⟨d1 + ca, d2 + ra, d1 + ce, d2 + re⟩, .int .i64 (hN : Int)] [] (by kernel_rfl) (by kernel_rfl) (fun _ _ _ _ _ h => h) ?_ ?_
  · refine ⟨?_, ?_, ?_, ?_, trivial⟩
    · -- 0: Op.load 73 (Operand.tmp 5)
      intro a W hold hdep hb
      have e5 : a.tmps[5]?.getD undef = .pointer (some ⟨w.heap.size, 0, none⟩) := Plan.ev (hold 5 (by kernel_rfl))
      have CC := ((B0.out).drew.keep hb).cells4.1
      clear hold hdep
      exact Plan.step_const rfl rfl (by go_simp <;> exact IntWalk.i64_in _ (by omega))
    · -- 1: Op.call { callee := Callee.value (Operand.func 80), args := #[Operand.
      intro a W hold hdep hb
      have e27 : a.tmps[27]?.getD undef = rcV ⟨d1 + ca, d2 + ra, d1 + ce, d2 + re⟩ := Plan.ev (Plan.dep_const (by rfl) (hdep 0 (by kernel_rfl)))
      clear hold hdep
      exact Plan.step_call (f := 80) (args := #[rcV ⟨d1 + ca, d2 + ra, d1 + ce, d2 + re⟩]) rfl rfl (by go_simp) (DX.out W)
    · -- 2: Op.load 73 (Operand.tmp 5)
      intro a W hold hdep hb
      have e5 : a.tmps[5]?.getD undef = .pointer (some ⟨w.heap.size, 0, none⟩) := Plan.ev (hold 5 (by kernel_rfl))
      have CC := ((B0.out).drew.keep hb).cells4.1
      clear hold hdep
      exact Plan.step_const rfl rfl (by go_simp <;> exact IntWalk.i64_in _ (by omega))
    · -- 3: Op.call { callee := Callee.value (Operand.func 103), args := #[Operand
      intro a W hold hdep hb
      have e29 : a.tmps[29]?.getD undef = rcV ⟨d1 + ca, d2 + ra, d1 + ce, d2 + re⟩ := Plan.ev (Plan.dep_const (by rfl) (hdep 2 (by kernel_rfl)))
      clear hold hdep
      exact Plan.step_call (f := 103) (args := #[rcV ⟨d1 + ca, d2 + ra, d1 + ce, d2 + re⟩]) rfl rfl (by go_simp) (DY.out W)
  intro vs W1 lo hi hD
  change wpList _ _ _ _ { tmps := (Array.setIfInBounds (Array.setIfInBounds (Array.setIfInBounds (Array.setIfInBounds _ 27 (vs 0)) 28 (vs 1)) 29 (vs 2)) 30 (vs 3)), defers := _ } _
  simp only [Plan.putAll_zero, List.setIfInBounds_toArray, List.set_cons_zero, List.set_cons_succ, List.drop_succ_cons, List.drop_zero]
  have p0 : vs 0 = rcV ⟨d1 + ca, d2 + ra, d1 + ce, d2 + re⟩ := (hD.facts 0 (by omega)).2.2.2
  have p1 : vs 1 = .int .i64 (wN : Int) := (hD.facts 1 (by omega)).2.2.2
  have p2 : vs 2 = rcV ⟨d1 + ca, d2 + ra, d1 + ce, d2 + re⟩ := (hD.facts 2 (by omega)).2.2.2
  have p3 : vs 3 = .int .i64 (hN : Int) := (hD.facts 3 (by omega)).2.2.2
  simp only [p0, p1, p2, p3]
  clear p0 p1 p2 p3
  have hW1 := hD.bel
  clear hD  lo hi vs
  have b01 : Below W0.heap.size W0 W1 := stay_below hW1
  have E0 := hid (B0.out.keep b01)
  have E1 := hid (B1.out.keep b01)
  have bw1 : Below w.heap.size w W1 := HB.out.trans (b01.mono (by omega))
  have D1 := hid (HD.out.keep bw1)
  have S1 := hid (HS.out.keep bw1)
  have cB := E0.out.cells4.1
  have lB := E0.out.lt
  clear hW1 bW0 B0 B1 b01
  go_wp2_with fail
  refine (pixo78 gD _ Wd ra ca d1 d2 d3 d4 _ _ _ D1.out.blk HB12.out.2.2.1 (by omega) (by omega) (by omega) (by have := HB12.out; omega) (by have := HB12.out; omega) rfl rfl).mono ?_
  rintro e W2 ⟨rfl, hb2⟩
  have F0 := hid (E0.out.keep hb2)
  have F1 := hid (E1.out.keep hb2)
  have bw2 := bw1.trans (hb2.mono bw1.size)
  have S2 := hid (S1.out.keep hb2)
  have cP := F1.out.cells2.1
  have lP := F1.out.lt
  clear cB lB E0 E1 D1 S1 hb2 bw1
  go_wp2_with fail
  refine (pixo78 gS _ Ws va ua s1 s2 s3 s4 _ _ _ S2.out.blk SB12.out.2.2.1 (by omega) (by omega) (by omega) (by have := SB12.out; omega) (by have := SB12.out; omega) rfl rfl).mono ?_
  rintro e W3 ⟨rfl, hb3⟩
  have bw3 := bw2.trans (hb3.mono bw2.size)
  have cB := (F0.out.keep hb3).cells4.1
  have cP := (F1.out.keep hb3).cells2.1
  have lB := (F0.out.keep hb3).lt
  have lP := (F1.out.keep hb3).lt
  have DB : Hid (Blk W3 gD 95 #[.slice (some ⟨gp, 0, none⟩) n cap, iv (4 * (Wd : Int)), iv d1, iv d2, iv d3, iv d4]) := by
    have h := HD.out.blk.keep bw3
    rwa [show d3 - d1 = (Wd : Int) by have := HB12.out; omega] at h
  have SBk : Hid (Blk W3 gS 95 #[.slice (some ⟨gq, 0, none⟩) m scap, iv (4 * (Ws : Int)), iv s1, iv s2, iv s3, iv s4]) := by
    have h := HS.out.blk.keep bw3
    rwa [show s3 - s1 = (Ws : Int) by have := SB12.out; omega] at h
  have cD := DB.out.cells6
  have cS := SBk.out.cells6
  have e4 : IntKind.i64.wrap ((wN : Int) * 4) = ((4 * wN : Nat) : Int) := by have := HWN.out; rw [IntWalk.i64_in _ (by omega)]; omega
  have hwl : wN ≤ 128 ∧ hN ≤ 128 ∧ 0 < wN ∧ 0 < hN := by have := HWN.out; have := HHN.out; exact ⟨by omega, by omega, by omega, by omega⟩
  have HROW := hid (HD.out.row.keep bw3)
  have SR := hid (HS.out.row.keep bw3)
  have HBW := hid bw3
  have nD : gD ≠ gp := fun h => by
    obtain ⟨cur, hc, _⟩ := HD.out.row
    have := HD.out.blk
    rw [h] at this
    rw [this] at hc
    simp at hc
  have nS : gS ≠ gp := fun h => by
    obtain ⟨cur, hc, _⟩ := HD.out.row
    have := HS.out.blk
    rw [h] at this
    rw [this] at hc
    simp at hc
  clear hb3 bw2 bw3 F0 F1 S2
  obtain ⟨pd, hpd⟩ : ∃ pd, pd = pos Wd ra ca 0 := ⟨_, rfl⟩
  obtain ⟨qd, hqd⟩ : ∃ qd, qd = pos Ws va ua 0 := ⟨_, rfl⟩
  rw [← hpd, ← hqd]
  have HPD := hid hpd; have HQD := hid hqd
  clear hpd hqd
  go_upto_region 6 with (fail)
  go_cut [66] from 45 to 66 (fun s66 wx => W3 = wx ∧ s66 = .bool false)
  case first =>
    have k1 := HDIR.out.1
    have k3 : decide (d2 + (ra : Int) < s2 + (va : Int)) = false := by simpa using k1
    by_cases hh : d2 + (ra : Int) = s2 + (va : Int)
    · have k0 : (d2 + (ra : Int) == s2 + (va : Int)) = true := by simpa using hh
      have k2 : ¬ (d1 + (ca : Int) ≤ s1 + (ua : Int)) := fun h => HDIR.out.2 ⟨hh, h⟩
      clear hh
      go_wp2_with fail
      go_meet
      case rel => exact ⟨rfl, rfl⟩
    · have k0 : (d2 + (ra : Int) == s2 + (va : Int)) = false := by simpa using hh
      clear hh
      go_wp2_with fail
      go_meet
      case rel => exact ⟨rfl, rfl⟩
  case rest =>
  obtain ⟨rfl, rfl⟩ := hcut
  obtain ⟨aD, haD⟩ : ∃ a, a = 4 * ((hN - 1) * Wd) := ⟨_, rfl⟩
  obtain ⟨aS, haS⟩ : ∃ a, a = 4 * ((hN - 1) * Ws) := ⟨_, rfl⟩
  have hb1 := Nat.mul_le_mul (show hN - 1 ≤ 128 by omega) HL.1
  have hb2 := Nat.mul_le_mul (show hN - 1 ≤ 128 by omega) HL.2.2.1
  have hb3 := Nat.mul_le_mul (show ra ≤ 128 by omega) HL.1
  have hb4 := Nat.mul_le_mul (show va ≤ 128 by omega) HL.2.2.1
  have f1 : IntKind.i64.wrap (((hN : Int) - 1) * (4 * (Wd : Int))) = (aD : Int) := by
    have h1 := mul_in (a := (hN : Int) - 1) (b := (Wd : Int)) (A := 128) (B := 128) ⟨by omega, by omega⟩ ⟨by omega, by omega⟩
    have h2 : ((hN : Int) - 1) * (4 * (Wd : Int)) = 4 * (((hN : Int) - 1) * (Wd : Int)) := Int.mul_left_comm ..
    rw [h2, IntWalk.i64_in _ (by omega), haD, show (hN : Int) - 1 = ((hN - 1 : Nat) : Int) by omega]
    simp only [Int.natCast_mul]
    rfl
  have f2 : IntKind.i64.wrap (((hN : Int) - 1) * (4 * (Ws : Int))) = (aS : Int) := by
    have h1 := mul_in (a := (hN : Int) - 1) (b := (Ws : Int)) (A := 128) (B := 128) ⟨by omega, by omega⟩ ⟨by omega, by omega⟩
    have h2 : ((hN : Int) - 1) * (4 * (Ws : Int)) = 4 * (((hN : Int) - 1) * (Ws : Int)) := Int.mul_left_comm ..
    rw [h2, IntWalk.i64_in _ (by omega), haS, show (hN : Int) - 1 = ((hN - 1 : Nat) : Int) by omega]
    simp only [Int.natCast_mul]
    rfl
  have f3 : IntKind.i64.wrap (((wN : Int) - 1) * 4) = 4 * (wN : Int) - 4 := by rw [IntWalk.i64_in _ (by omega)]; omega
  have hbd : aD ≤ 65536 ∧ aS ≤ 65536 ∧ pd ≤ 131072 ∧ qd ≤ 131072 := by
    have hpd := HPD.out
    have hqd := HQD.out
    unfold pos at hpd hqd
    omega
  have HAD := hid haD; have HAS := hid haS
  clear haD haS hb1 hb2 hb3 hb4
  go_wp2_with fail
  clear cB cP lB lP cD cS e4 f1 f2 f3

  go_loopw [9, 10, 11] (fun s9 s10 s11 wr => ∃ r : Nat, ra ≤ r ∧ r ≤ re ∧ s9 = .int .i64 ((r - ra : Nat) : Int) ∧ s10 = .int .i64 (((pos Wd r ca 0 : Nat) : Int) - 4 * (Wd : Int)) ∧ s11 = .int .i64 (((pos Ws (va + (r - ra)) ua 0 : Nat) : Int) - 4 * (Ws : Int)) ∧ Only [gp] W3 wr ∧ ∃ f', PixRow wr gp cap n f' ∧
    Painted Wd f nw (fun r' c' => inPart ca ra ce re r' c' ∧ r ≤ r') f') (fun s9 _ _ _ => (intOf s9).toNat)
  case atStart =>
    refine ⟨re, by omega, by omega, by rw [HHN.out], ?_, ?_, Only.refl _ _, f, HROW.out, Painted.start _ _ _ fun r c h => ?_⟩
    · have h1 : pos Wd re ca 0 = pd + aD + 4 * Wd := by
        have e : re = ra + (hN - 1) + 1 := by have := HHN.out; omega
        rw [HPD.out, HAD.out]
        unfold pos
        rw [e, Nat.add_mul, Nat.add_mul]
        omega
      rw [h1]
      congr 1
      omega
    · have h1 : pos Ws (va + (re - ra)) ua 0 = qd + aS + 4 * Ws := by
        have e : va + (re - ra) = va + (hN - 1) + 1 := by have := HHN.out; omega
        rw [HQD.out, HAS.out]
        unfold pos
        rw [e, Nat.add_mul, Nat.add_mul]
        omega
      rw [h1]
      congr 1
      omega
    · have h' := h.1.2.1
      omega
  case round =>
    obtain ⟨r, hr1, hr2, rfl, rfl, rfl, hon, f', hrow, hpt⟩ := hrel
    clear HPD HQD
    by_cases hlt : ra < r
    case neg =>
      obtain rfl : r = ra := by omega
      go_wp2_with fail
      go_end0
      exact ⟨⟨_, rfl⟩, (Only.of_below HBW.out).trans hon, f', hrow, hpt.congr fun r' c' _ => ⟨fun h => h.1, fun h => ⟨h, h.1⟩⟩⟩
    obtain ⟨q, rfl⟩ : ∃ q, r = q + 1 := ⟨r - 1, by omega⟩
    obtain ⟨t, ht⟩ : ∃ t, t = q + 1 - ra := ⟨_, rfl⟩
    have ht0 : 0 < t := by omega
    have HT := hid ht
    have htl : t ≤ 128 := by omega
    rw [← ht]
    have htI : (0 : Int) < (t : Int) := by omega
    obtain ⟨v, hv⟩ : ∃ v, v = va + (q - ra) := ⟨_, rfl⟩
    have hvH : v < Hs := by omega
    obtain ⟨pd, hpd⟩ : ∃ pd, pd = pos Wd q ca 0 := ⟨_, rfl⟩
    obtain ⟨qd, hqd⟩ : ∃ qd, qd = pos Ws v ua 0 := ⟨_, rfl⟩
    rw [show ((pos Wd (q + 1) ca 0 : Nat) : Int) - 4 * (Wd : Int) = (pd : Int) by rw [hpd]; unfold pos; rw [Nat.add_mul]; omega]
    rw [show ((pos Ws (va + t) ua 0 : Nat) : Int) - 4 * (Ws : Int) = (qd : Int) by rw [hqd, show va + t = v + 1 by omega]; unfold pos; rw [Nat.add_mul]; omega]
    have hpn : pd + 4 * wN ≤ n ∧ pd + 4 * Wd ≤ 65536 * 2 := by
      have h1 := Nat.mul_le_mul_right Wd (show q + 1 ≤ H by omega)
      have h5 := Nat.mul_le_mul (show q + 1 ≤ 128 by omega) HL.1
      rw [Nat.add_mul, Nat.one_mul] at h1 h5
      have h2 := HD.out.len
      have h3 := HWN.out
      unfold pos at hpd
      omega
    have hqm : qd + 4 * wN ≤ m ∧ qd + 4 * Ws ≤ 65536 * 2 := by
      have h1 := Nat.mul_le_mul_right Ws (show v + 1 ≤ Hs by omega)
      have h5 := Nat.mul_le_mul (show v + 1 ≤ 128 by omega) HL.2.2.1
      rw [Nat.add_mul, Nat.one_mul] at h1 h5
      have h2 := HS.out.len
      have h3 := HWN.out
      unfold pos at hqd
      omega
    have hcap := HD.out.cap
    have hscap := HS.out.cap
    have hcp : ¬ cap = pd := by omega
    have hcq : ¬ scap = qd := by omega
    have HPD := hid hpd; have HQD := hid hqd; have HVV := hid hv
    have cD := (hon.blk DB.out (by simp [nD])).cells6
    have cS := (hon.blk SBk.out (by simp [nS])).cells6
    have HON := hid hon; have HROW' := hid hrow; have HPT := hid hpt
    clear hpd hqd hv hon hrow hpt ht
    go_wp2_with fail
    obtain ⟨wo, rfl⟩ : ∃ wo : World, wo = wr := ⟨_, rfl⟩
    clear cD cS
    go_loopw [19] (fun s19 wr => ∃ k : Nat, k ≤ wN ∧ s19 = .int .i64 (4 * (k : Int) - 4) ∧ Only [gp] W3 wr ∧ ∃ f', PixRow wr gp cap n f' ∧
      Painted Wd f nw (fun r' c' => inPart ca ra ce re r' c' ∧ (q + 1 ≤ r' ∨ (r' = q ∧ ca + k ≤ c'))) f') (fun s19 _ => (intOf s19 + 4).toNat)
    case atStart =>
      refine ⟨wN, by omega, rfl, HON.out, f', HROW'.out, HPT.out.congr fun r' c' _ => ⟨fun h => ⟨h.1, Or.inl h.2⟩, fun h => ⟨h.1, ?_⟩⟩⟩
      obtain ⟨⟨h1, h2, h3, h4⟩, h5⟩ := h
      have := HWN.out
      omega
    case round =>
      clear HON HROW' HPT
      obtain ⟨k, hk2, rfl, hon, f', hrow, hpt⟩ := hrel
      by_cases hlc : 0 < k
      case neg =>
        obtain rfl : k = 0 := by omega
        rw [show 4 * ((0 : Nat) : Int) - 4 = -4 by omega]
        go_wp2_with fail
        refine ⟨⟨q, by omega, by omega, ?_, ?_, ?_, hon, f', hrow, hpt.congr fun r' c' _ => ⟨fun h => ⟨h.1, ?_⟩, fun h => ⟨h.1, ?_⟩⟩⟩, ?_⟩
        · congr 1; have := HT.out; omega
        · rw [← HPD.out]; first | rfl | (congr 1; omega)
        · rw [← HVV.out, ← HQD.out]; first | rfl | (congr 1; omega)
        · obtain ⟨⟨h1, h2, h3, h4⟩, h5⟩ := h
          have := HWN.out
          omega
        · obtain ⟨⟨h1, h2, h3, h4⟩, h5⟩ := h
          have := HWN.out
          omega
        · simp only [intOf]; omega
      obtain ⟨k, rfl⟩ : ∃ j, k = j + 1 := ⟨k - 1, by omega⟩
      rw [show 4 * ((k + 1 : Nat) : Int) - 4 = ((4 * k : Nat) : Int) by omega]
      have kk1 : (4 * (k : Int) != -4) = true := by simp; omega
      have kk0 : (4 * (k : Int) == -4) = false := by simp; omega
      obtain ⟨c, hc⟩ : ∃ c, c = ca + k := ⟨_, rfl⟩
      have hcc : c < ce ∧ c < Wd := by have := HWN.out; omega
      have hin : ¬ (inPart ca ra ce re q c ∧ (q + 1 ≤ q ∨ (q = q ∧ ca + (k + 1) ≤ c))) := by omega
      have eP : pos Wd q c 0 = pd + 4 * k := by
        rw [HPD.out, hc]
        unfold pos
        omega
      have hold : ∀ j, j < 4 → f' (pd + 4 * k + j) = f (pos Wd q c j) := fun j hj => by
        have h1 := (hpt q c j (by omega) hj).2 hin
        have h2 : pos Wd q c j = pd + 4 * k + j := by rw [← eP]; unfold pos; omega
        rw [← h2]; exact h1
      have hsp : 4 * ((va + (q - ra)) * Ws + (ua + (c - ca))) = qd + 4 * k := by
        rw [← HVV.out, HQD.out, hc]
        unfold pos
        omega
      have eN : Hid (nw q c = coverP (fun j => f (pos Wd q c j)) (fun j => fs (qd + 4 * k + j))) := by
        show _ = _
        rw [HNW.out]
        show coverP _ (fun j => fs (4 * ((va + (q - ra)) * Ws + (ua + (c - ca))) + j)) = _
        rw [hsp]
      have HEP := hid eP
      have sr := SR.out.of_block (hon.block gq SR.out.lt (by simp; exact Ne.symm hne))
      have p0c := sr.cell (j := qd + 4 * k) (by omega)
      have p1c := sr.cell (j := qd + 4 * k + 1) (by omega)
      have p2c := sr.cell (j := qd + 4 * k + 2) (by omega)
      have p3c := sr.cell (j := qd + 4 * k + 3) (by omega)
      have x0 := hrow.cell (j := pd + 4 * k) (by omega)
      have x1 := hrow.cell (j := pd + 4 * k + 1) (by omega)
      have x2 := hrow.cell (j := pd + 4 * k + 2) (by omega)
      have x3 := hrow.cell (j := pd + 4 * k + 3) (by omega)
      have z0 := hrow.frozen (pd + 4 * k)
      have z1 := hrow.frozen (pd + 4 * k + 1)
      have z2 := hrow.frozen (pd + 4 * k + 2)
      have z3 := hrow.frozen (pd + 4 * k + 3)
      have o0 := hold 0 (by omega)
      have o1 := hold 1 (by omega)
      have o2 := hold 2 (by omega)
      have o3 := hold 3 (by omega)
      rw [Nat.add_zero] at o0
      rw [o0] at x0
      rw [o1] at x1
      rw [o2] at x2
      rw [o3] at x3
      have tr0 := RF.out (pos Wd q c 0)
      have tr1 := RF.out (pos Wd q c 1)
      have tr2 := RF.out (pos Wd q c 2)
      have tr3 := RF.out (pos Wd q c 3)
      have pr0 := RS.out (qd + 4 * k)
      have pr1 := RS.out (qd + 4 * k + 1)
      have pr2 := RS.out (qd + 4 * k + 2)
      have pr3 := RS.out (qd + 4 * k + 3)
      obtain ⟨D, hDD⟩ : ∃ D : Nat → Int, D = fun j => f (pos Wd q c j) := ⟨_, rfl⟩
      obtain ⟨S, hSS⟩ : ∃ S : Nat → Int, S = fun j => fs (qd + 4 * k + j) := ⟨_, rfl⟩
      rw [← hDD, ← hSS] at eN
      have hvd := HVD.out ((va + (q - ra)) * Ws + (ua + (c - ca))) (by rw [hsp]; omega)
      rw [hsp, ← hSS] at hvd
      obtain ⟨t0, ht0⟩ : ∃ t, t = f (pos Wd q c 0) := ⟨_, rfl⟩
      obtain ⟨t1, ht1⟩ : ∃ t, t = f (pos Wd q c 1) := ⟨_, rfl⟩
      obtain ⟨t2, ht2⟩ : ∃ t, t = f (pos Wd q c 2) := ⟨_, rfl⟩
      obtain ⟨t3, ht3⟩ : ∃ t, t = f (pos Wd q c 3) := ⟨_, rfl⟩
      obtain ⟨p0, hp0⟩ : ∃ t, t = fs (qd + 4 * k) := ⟨_, rfl⟩
      obtain ⟨p1, hp1⟩ : ∃ t, t = fs (qd + 4 * k + 1) := ⟨_, rfl⟩
      obtain ⟨p2, hp2⟩ : ∃ t, t = fs (qd + 4 * k + 2) := ⟨_, rfl⟩
      obtain ⟨p3, hp3⟩ : ∃ t, t = fs (qd + 4 * k + 3) := ⟨_, rfl⟩
      rw [← ht0] at x0 tr0
      rw [← ht1] at x1 tr1
      rw [← ht2] at x2 tr2
      rw [← ht3] at x3 tr3
      rw [← hp0] at p0c pr0
      rw [← hp1] at p1c pr1
      rw [← hp2] at p2c pr2
      rw [← hp3] at p3c pr3
      have HDS : Hid ((D 0 = t0 ∧ D 1 = t1 ∧ D 2 = t2 ∧ D 3 = t3) ∧ (S 0 = p0 ∧ S 1 = p1 ∧ S 2 = p2 ∧ S 3 = p3)) := by
        rw [hDD, hSS]
        exact ⟨⟨ht0.symm, ht1.symm, ht2.symm, ht3.symm⟩, ⟨hp0.symm, hp1.symm, hp2.symm, hp3.symm⟩⟩
      have hle : p0 ≤ p3 ∧ p1 ≤ p3 ∧ p2 ≤ p3 := by
        unfold coverV at hvd
        rw [HDS.out.2.1, HDS.out.2.2.1, HDS.out.2.2.2.1, HDS.out.2.2.2.2] at hvd
        exact hvd
      have e4c : IntKind.i64.wrap (4 * (k : Int) + 4) = ((4 * k + 4 : Nat) : Int) := by rw [IntWalk.i64_in _ (by omega)]; omega
      have HC := hid hc
      have HON := hid hon; have HROW' := hid hrow; have HPT := hid hpt
      clear hon hrow hpt hold hsp eP o0 o1 o2 o3 hDD hSS ht0 ht1 ht2 ht3 hp0 hp1 hp2 hp3 hc sr hvd
      have y3 : IntKind.u32.wrap (p3 * 257) = p3 * 257 := IntWalk.u32_in _ (by omega)
      have y0 : IntKind.u32.wrap (p0 * 257) = p0 * 257 := IntWalk.u32_in _ (by omega)
      have y1 : IntKind.u32.wrap (p1 * 257) = p1 * 257 := IntWalk.u32_in _ (by omega)
      have y2 : IntKind.u32.wrap (p2 * 257) = p2 * 257 := IntWalk.u32_in _ (by omega)
      have y4 : IntKind.u32.wrap (65535 - p3 * 257) = 65535 - p3 * 257 := IntWalk.u32_in _ (by omega)
      have y5 : IntKind.u32.wrap ((65535 - p3 * 257) * 257) = (65535 - p3 * 257) * 257 := IntWalk.u32_in _ (by omega)
      have o0 := over_le tr0 (a := p3 * 257) ⟨by omega, by omega⟩
      have o1 := over_le tr1 (a := p3 * 257) ⟨by omega, by omega⟩
      have o2 := over_le tr2 (a := p3 * 257) ⟨by omega, by omega⟩
      have o3 := over_le tr3 (a := p3 * 257) ⟨by omega, by omega⟩
      have n0 : IntKind.u32.wrap (t0 * ((65535 - p3 * 257) * 257)) = t0 * ((65535 - p3 * 257) * 257) := IntWalk.u32_in _ (by omega)
      have n1 : IntKind.u32.wrap (t1 * ((65535 - p3 * 257) * 257)) = t1 * ((65535 - p3 * 257) * 257) := IntWalk.u32_in _ (by omega)
      have n2 : IntKind.u32.wrap (t2 * ((65535 - p3 * 257) * 257)) = t2 * ((65535 - p3 * 257) * 257) := IntWalk.u32_in _ (by omega)
      have n3 : IntKind.u32.wrap (t3 * ((65535 - p3 * 257) * 257)) = t3 * ((65535 - p3 * 257) * 257) := IntWalk.u32_in _ (by omega)
      go_wp2_with fail
      refine ⟨⟨k, by omega, ?_, ?_, _, HROW'.out.quad (pd + 4 * k) _ _ _ _, HPT.out.step4 (r0 := q) (c0 := c) (by omega) HEP.out ?_ fun r' c' _ => ⟨fun h => ?_, fun h => ?_⟩⟩, ?_⟩
      · first | rfl | (congr 1; omega)
      · exact (((HON.out.setCell (Or.inl (by simp)) _).setCell (Or.inl (by simp)) _).setCell (Or.inl (by simp)) _).setCell (Or.inl (by simp)) _
      · obtain ⟨⟨w0, w1, w2, w3⟩, q0, q1, q2, q3⟩ := HDS.out
        rw [eN.out]
        simp only [coverP, q0, q1, q2, q3, w0, w1, w2, w3, and_self]
      · have := HC.out
        have := HWN.out
        rcases h with ⟨h1, h2⟩ | ⟨rfl, rfl⟩
        · exact ⟨h1, by omega⟩
        · exact ⟨⟨by omega, by omega, by omega, by omega⟩, by omega⟩
      · have := HC.out
        by_cases e : r' = q ∧ c' = c
        · exact Or.inr e
        · exact Or.inl ⟨h.1, by omega⟩
      · simp only [intOf]; omega

theorem drawCopyOver_any (gD gp cap n : Nat) (d1 d2 d3 d4 : Int) (Wd H : Nat) (f : Nat → Int) (gS gq scap m : Nat) (s1 s2 s3 s4 : Int) (Ws Hs : Nat) (fs : Nat → Int) (ca ra ce re ua va : Nat) (w : World)
    (hD : DstAt w gD gp cap n d1 d2 d3 d4 Wd H f) (hS : SrcAt 95 4 w gS gq scap m (4 * (s3 - s1)) s1 s2 s3 s4 Ws Hs fs) (hne : gp ≠ gq) (h0 : ca < ce ∧ ra < re) (h1 : ce ≤ Wd) (h2 : re ≤ H) (h3 : ua + (ce - ca) ≤ Ws) (h4 : va + (re - ra) ≤ Hs)
    (rf : ∀ j, 0 ≤ f j ∧ f j ≤ 255) (rs : ∀ j, 0 ≤ fs j ∧ fs j ≤ 255) (hV : ∀ q, 4 * q + 4 ≤ m → coverV (fun j => fs (4 * q + j))) :
    Calls Try.prog 84 #[.pointer (some ⟨gD, 0, none⟩), rcV ⟨d1 + ca, d2 + ra, d1 + ce, d2 + re⟩, .pointer (some ⟨gS, 0, none⟩), ptV (s1 + ua) (s2 + va)] w fun e w' =>
      (∃ v, e = .returned v) ∧ Only [gp] w w' ∧ ∃ f', PixRow w' gp cap n f' ∧ Painted Wd f (fun r c => coverP (fun k => f (pos Wd r c k)) (fun j => fs (4 * ((va + (r - ra)) * Ws + (ua + (c - ca))) + j))) (inPart ca ra ce re) f' := by
  by_cases h : d2 + (ra : Int) < s2 + va ∨ (d2 + (ra : Int) = s2 + va ∧ d1 + (ca : Int) ≤ s1 + ua)
  · exact cover_fw gD gp cap n d1 d2 d3 d4 Wd H f gS gq scap m s1 s2 s3 s4 Ws Hs fs ca ra ce re ua va w hD hS hne h0 h1 h2 h3 h4 rf rs hV h
  · exact cover_bw gD gp cap n d1 d2 d3 d4 Wd H f gS gq scap m s1 s2 s3 s4 Ws Hs fs ca ra ce re ua va w hD hS hne h0 h1 h2 h3 h4 rf rs hV ⟨fun h' => h (Or.inl h'), fun h' => h (Or.inr h')⟩
end Go.Proofs.Ytlnfcjaempojgaa
