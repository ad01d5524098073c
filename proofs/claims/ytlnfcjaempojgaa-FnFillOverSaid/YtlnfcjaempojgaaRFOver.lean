/- Contract of drawFillOver. Written by mk_F.py. -/
import Derived.Test.YtlnfcjaempojgaaU2
import Derived.Test.YtlnfcjaempojgaaI2
import Derived.Test.YtlnfcjaempojgaaK3
set_option linter.unusedVariables false
namespace Go.Proofs.Ytlnfcjaempojgaa
open Go.RowKit

/-- What one color by Over makes of a pixel. -/
def foverP (D U : Nat → Int) (k : Nat) : Int := (D k * ((65535 - U 3) * 257) / 65535 + U k) / 256

set_option maxRecDepth 20000 in
set_option maxHeartbeats 4000000 in
theorem drawFillOver_any (gD gp cap n : Nat) (d1 d2 d3 d4 : Int) (Wd H : Nat) (f : Nat → Int) (U : Nat → Int) (ca ra ce re : Nat) (w : World)
    (hD : DstAt w gD gp cap n d1 d2 d3 d4 Wd H f) (h0 : ca < ce ∧ ra < re) (h1 : ce ≤ Wd) (h2 : re ≤ H)
    (rf : ∀ j, 0 ≤ f j ∧ f j ≤ 255) (rU : ∀ k, C16 (U k)) (hU : U 0 ≤ U 3 ∧ U 1 ≤ U 3 ∧ U 2 ≤ U 3) :
    Calls Try.prog 91 #[.pointer (some ⟨gD, 0, none⟩), rcV ⟨d1 + ca, d2 + ra, d1 + ce, d2 + re⟩, .int .u32 (U 0), .int .u32 (U 1), .int .u32 (U 2), .int .u32 (U 3)] w fun e w' =>
      (∃ v, e = .returned v) ∧ Only [gp] w w' ∧ ∃ f', PixRow w' gp cap n f' ∧ Painted Wd f (fun r c => foverP (fun k => f (pos Wd r c k)) U) (inPart ca ra ce re) f' := by
  have HD := hid hD; have RF := hid rf
  obtain ⟨nw, hnw⟩ : ∃ nw : Nat → Nat → Nat → Int, nw = fun r c => foverP (fun k => f (pos Wd r c k)) U := ⟨_, rfl⟩
  rw [← hnw]
  have HNW := hid hnw
  obtain ⟨wN, hwN⟩ : ∃ wN, wN = ce - ca := ⟨_, rfl⟩
  have HB12 : Hid ((-64 ≤ d1 ∧ d3 ≤ 64) ∧ (-64 ≤ d2 ∧ d4 ≤ 64) ∧ d3 = d1 + Wd ∧ d4 = d2 + H) := ⟨hD.b1, hD.b2, hD.w3, hD.w4⟩
  have HL : Wd ≤ 128 ∧ H ≤ 128 := by
    have := HB12.out
    exact ⟨by omega, by omega⟩
  have DX : Hid (∀ W, Calls Try.prog 80 #[rcV ⟨d1 + ca, d2 + ra, d1 + ce, d2 + re⟩] W fun e w' => e = .returned (.int .i64 (wN : Int)) ∧ Below W.heap.size W w') := fun W => by
    have := dx_any (d1 + ca) (d2 + ra) (d1 + ce) (d2 + re) W (by have := HB12.out; omega)
    rwa [show d1 + (ce : Int) - (d1 + ca) = (wN : Int) by omega] at this
  have HWN := hid hwN
  have hwl : wN ≤ 128 ∧ 0 < wN := ⟨by omega, by omega⟩
  obtain ⟨p0, hp0⟩ : ∃ x, x = U 0 := ⟨_, rfl⟩
  obtain ⟨p1, hp1⟩ : ∃ x, x = U 1 := ⟨_, rfl⟩
  obtain ⟨p2, hp2⟩ : ∃ x, x = U 2 := ⟨_, rfl⟩
  obtain ⟨p3, hp3⟩ : ∃ x, x = U 3 := ⟨_, rfl⟩
  have HUU : Hid (U 0 = p0 ∧ U 1 = p1 ∧ U 2 = p2 ∧ U 3 = p3) := ⟨hp0.symm, hp1.symm, hp2.symm, hp3.symm⟩
  have pr0 : 0 ≤ p0 ∧ p0 ≤ 65535 := by rw [hp0]; exact rU 0
  have pr1 : 0 ≤ p1 ∧ p1 ≤ 65535 := by rw [hp1]; exact rU 1
  have pr2 : 0 ≤ p2 ∧ p2 ≤ 65535 := by rw [hp2]; exact rU 2
  have pr3 : 0 ≤ p3 ∧ p3 ≤ 65535 := by rw [hp3]; exact rU 3
  have hle : p0 ≤ p3 ∧ p1 ≤ p3 ∧ p2 ≤ p3 := by rw [hp0, hp1, hp2, hp3]; exact hU
  rw [← hp0, ← hp1, ← hp2, ← hp3]
  have y4 : IntKind.u32.wrap (65535 - p3) = 65535 - p3 := IntWalk.u32_in _ (by omega)
  have y5 : IntKind.u32.wrap ((65535 - p3) * 257) = (65535 - p3) * 257 := IntWalk.u32_in _ (by omega)
  have hgpw := hD.row.lt
  clear hD hnw rf hwN hp0 hp1 hp2 hp3 rU hU
  go_enter Try.func91, Try.ntmps91
  go_wp2_with fail
  obtain ⟨W0, hW0⟩ : ∃ W : World, W = (w.alloc (.cells #[iv (d1 + ca), iv (d2 + ra), iv (d1 + ce), iv (d2 + re)] 73)) := ⟨_, rfl⟩
  rw [← hW0]
  have B0 : Hid (Blk W0 (w.heap.size) 73 #[iv (d1 + ca), iv (d2 + ra), iv (d1 + ce), iv (d2 + re)]) := by rw [hW0]; exact Blk.new_at (W := w) (t := 73) (cs := #[iv (d1 + ca), iv (d2 + ra), iv (d1 + ce), iv (d2 + re)]) (by simp)
  have bW0 : Below w.heap.size w W0 := by rw [hW0]; go_grown
  have sW0 : W0.heap.size = w.heap.size + 1 := by rw [hW0]; simp
  have SW0 := hid sW0
  have zW0 : w.heap.size + 1 ≤ W0.heap.size := by omega
  clear sW0 hW0
  refine (pixo78 gD _ Wd ra ca d1 d2 d3 d4 _ _ _ (HD.out.blk.keep bW0) HB12.out.2.2.1 (by omega) (by omega) (by omega) (by have := HB12.out; omega) (by have := HB12.out; omega) rfl rfl).mono ?_
  rintro e W2 ⟨rfl, hb2⟩
  have F0 := hid (B0.out.keep hb2)
  have bw2 := bW0.trans (hb2.mono (by omega))
  have cB := F0.out.cells4.1
  have lB := F0.out.lt
  obtain ⟨pa, hpa⟩ : ∃ x, x = pos Wd ra ca 0 := ⟨_, rfl⟩
  rw [← hpa]
  have HPA := hid hpa
  have hpan : pa ≤ 131072 := by
    have h5 := Nat.mul_le_mul (show ra ≤ 128 by omega) HL.1
    unfold pos at hpa
    omega
  clear B0 hb2 bW0 hpa
  go_wp2_with fail
  refine (DX.out _).mono ?_
  rintro e W3 ⟨rfl, hb3⟩
  have bw3 := bw2.trans (hb3.mono bw2.size)
  have G0 := hid (F0.out.keep hb3)
  have cB := G0.out.cells4.1
  have lB := G0.out.lt
  have e4 : IntKind.i64.wrap ((wN : Int) * 4) = 4 * (wN : Int) := by rw [IntWalk.i64_in _ (by omega)]; omega
  have e5 : IntKind.i64.wrap ((pa : Int) + 4 * (wN : Int)) = ((pa + 4 * wN : Nat) : Int) := by rw [IntWalk.i64_in _ (by omega)]; omega
  have DB : Hid (Blk W3 gD 95 #[.slice (some ⟨gp, 0, none⟩) n cap, iv (4 * (Wd : Int)), iv d1, iv d2, iv d3, iv d4]) := by
    have h := HD.out.blk.keep bw3
    rwa [show d3 - d1 = (Wd : Int) by have := HB12.out; omega] at h
  have nD : gD ≠ gp := fun h => by
    obtain ⟨cur, hc, _⟩ := HD.out.row
    have := HD.out.blk
    rw [h] at this
    rw [this] at hc
    simp at hc
  have nB : w.heap.size ≠ gp := by omega
  have HROW := hid (HD.out.row.keep bw3)
  have HBW := hid bw3
  clear hb3 bw2 F0 bw3
  go_wp2_with fail
  clear cB lB e4 e5
  go_loopw [13, 14, 15] (fun s13 s14 s15 wr => ∃ r : Nat, ra ≤ r ∧ r ≤ re ∧ s13 = .int .i64 ((pos Wd r ca 0 : Nat) : Int) ∧ s14 = .int .i64 ((pos Wd r ca 0 + 4 * wN : Nat) : Int) ∧ s15 = .int .i64 (d2 + (r : Int)) ∧ Only [gp] W3 wr ∧ ∃ f', PixRow wr gp cap n f' ∧
    Painted Wd f nw (fun r' c' => inPart ca ra ce re r' c' ∧ r' < r) f') (fun _ _ s15 _ => (d2 + (re : Int) - intOf s15).toNat)
  case atStart =>
    refine ⟨ra, by omega, by omega, by first | (rw [← HPA.out]; done) | (rw [← HPA.out]; congr 1; done) | (rw [← HPA.out]; congr 1; omega), by first | (rw [← HPA.out]; done) | (rw [← HPA.out]; congr 1; done) | (rw [← HPA.out]; congr 1; omega), rfl, Only.refl _ _, f, HROW.out, Painted.start _ _ _ fun r c h => ?_⟩
    have h' := h.1.1
    omega
  case round =>
    obtain ⟨r, hr1, hr2, rfl, rfl, rfl, hon, f', hrow, hpt⟩ := hrel
    have hbl := hon.blk G0.out (by simp [nB])
    have cB := hbl.cells4.1
    have lB := hbl.lt
    clear HROW HPA hbl
    by_cases hlt : r < re
    case neg =>
      obtain rfl : r = re := by omega
      go_wp2_with fail
      go_end0
      exact ⟨⟨_, rfl⟩, (Only.of_below HBW.out).trans hon, f', hrow, hpt.congr fun r' c' _ => ⟨fun h => h.1, fun h => ⟨h, h.2.1⟩⟩⟩
    have k1 : (d2 + (r : Int) != d2 + (re : Int)) = true := by simp; omega
    have k0 : (d2 + (r : Int) == d2 + (re : Int)) = false := by simp; omega
    have k2 : ((r : Int) == (re : Int)) = false := by simp; omega
    obtain ⟨pd, hpd⟩ : ∃ pd, pd = pos Wd r ca 0 := ⟨_, rfl⟩
    rw [← hpd]
    have hpn : pd + 4 * wN ≤ n ∧ pd + 4 * Wd ≤ 131072 := by
      have h1 := Nat.mul_le_mul_right Wd (show r + 1 ≤ H by omega)
      have h5 := Nat.mul_le_mul (show r + 1 ≤ 128 by omega) HL.1
      rw [Nat.add_mul, Nat.one_mul] at h1 h5
      have h2 := HD.out.len
      have h3 := HWN.out
      unfold pos at hpd
      omega
    obtain ⟨pe, hpe⟩ : ∃ x, x = pd + 4 * wN := ⟨_, rfl⟩
    rw [← hpe]
    have hpel : pe ≤ 131072 := by have := HWN.out; omega
    have hcap := HD.out.cap
    have HPD := hid hpd; have HPE := hid hpe
    have HON := hid hon; have HROW' := hid hrow; have HPT := hid hpt
    have b2 : -64 ≤ d2 ∧ d2 + (re : Int) ≤ 64 := by have := HB12.out; omega
    clear hpd hon hrow hpt hpe
    go_wp2_with fail
    clear cB lB k0 k1 k2
    go_loopw [16] (fun s16 wr => ∃ k : Nat, k ≤ wN ∧ s16 = .int .i64 ((pd + 4 * k : Nat) : Int) ∧ Only [gp] W3 wr ∧ ∃ f', PixRow wr gp cap n f' ∧
      Painted Wd f nw (fun r' c' => inPart ca ra ce re r' c' ∧ (r' < r ∨ (r' = r ∧ c' < ca + k))) f') (fun s16 _ => pd + 4 * wN - (intOf s16).toNat)
    case atStart =>
      refine ⟨0, by omega, by simp, HON.out, f', HROW'.out, HPT.out.congr fun r' c' _ => ⟨fun h => ⟨h.1, Or.inl h.2⟩, fun h => ⟨h.1, ?_⟩⟩⟩
      obtain ⟨⟨h1, h2, h3, h4⟩, h5⟩ := h
      omega
    case round =>
      clear HON HROW' HPT
      obtain ⟨k, hk2, rfl, hon, f', hrow, hpt⟩ := hrel
      obtain ⟨x, hx⟩ : ∃ x, x = pd + 4 * k := ⟨_, rfl⟩
      rw [← hx]
      have hbl := hon.blk G0.out (by simp [nB])
      have cB := hbl.cells4.1
      have lB := hbl.lt
      have cD := (hon.blk DB.out (by simp [nD])).cells6
      clear hbl
      by_cases hlc : k < wN
      case neg =>
        obtain rfl : k = wN := by omega
        obtain rfl : x = pe := by rw [hx]; exact HPE.out.symm
        have e11 : IntKind.i64.wrap ((pd : Int) + 4 * (Wd : Int)) = ((pd + 4 * Wd : Nat) : Int) := by rw [IntWalk.i64_in _ (by omega)]; omega
        have e12 : IntKind.i64.wrap ((x : Int) + 4 * (Wd : Int)) = ((x + 4 * Wd : Nat) : Int) := by rw [IntWalk.i64_in _ (by omega)]; omega
        have HX := hid hx
        clear hx
        go_wp2_with fail
        have hn2 : pos Wd (r + 1) ca 0 = pd + 4 * Wd := by rw [HPD.out]; unfold pos; rw [Nat.add_mul]; omega
        refine ⟨⟨r + 1, by omega, by omega, ?_, ?_, ?_, hon, f', hrow, hpt.congr fun r' c' _ => ⟨fun h => ⟨h.1, ?_⟩, fun h => ⟨h.1, ?_⟩⟩⟩, ?_⟩
        · rw [hn2]; first | rfl | (congr 1; done) | (congr 1; omega)
        · rw [hn2, HX.out]; first | rfl | (congr 1; done) | (congr 1; omega)
        · congr 1; omega
        · obtain ⟨⟨h1, h2, h3, h4⟩, h5⟩ := h
          have := HWN.out
          omega
        · obtain ⟨⟨h1, h2, h3, h4⟩, h5⟩ := h
          have := HWN.out
          omega
        · simp only [intOf]; omega
      have hxl : x + 4 ≤ pe := by have := HPE.out; omega
      have hxx : (x : Int) < (pe : Int) := by omega
      obtain ⟨c, hc⟩ : ∃ c, c = ca + k := ⟨_, rfl⟩
      have hcc : c < ce ∧ c < Wd := by have := HWN.out; omega
      have hin : ¬ (inPart ca ra ce re r c ∧ (r < r ∨ (r = r ∧ c < ca + k))) := by omega
      have eP : pos Wd r c 0 = x := by
        rw [hx, HPD.out, hc]
        unfold pos
        omega
      have hold : ∀ j, j < 4 → f' (x + j) = f (pos Wd r c j) := fun j hj => by
        have h1 := (hpt r c j (by omega) hj).2 hin
        have h2 : pos Wd r c j = x + j := by rw [← eP]; unfold pos; omega
        rw [← h2]; exact h1
      have eN : Hid (nw r c = foverP (fun j => f (pos Wd r c j)) U) := by
        show _ = _
        rw [HNW.out]
      have HEP := hid eP
      have hxn : x + 4 ≤ n := by have := HPE.out; omega
      have x0 := hrow.cell (j := x) (by omega)
      have x1 := hrow.cell (j := x + 1) (by omega)
      have x2 := hrow.cell (j := x + 2) (by omega)
      have x3 := hrow.cell (j := x + 3) (by omega)
      have z0 := hrow.frozen x
      have z1 := hrow.frozen (x + 1)
      have z2 := hrow.frozen (x + 2)
      have z3 := hrow.frozen (x + 3)
      have o0 := hold 0 (by omega)
      have o1 := hold 1 (by omega)
      have o2 := hold 2 (by omega)
      have o3 := hold 3 (by omega)
      rw [Nat.add_zero] at o0
      rw [o0] at x0
      rw [o1] at x1
      rw [o2] at x2
      rw [o3] at x3
      have tr0 := RF.out (pos Wd r c 0)
      have tr1 := RF.out (pos Wd r c 1)
      have tr2 := RF.out (pos Wd r c 2)
      have tr3 := RF.out (pos Wd r c 3)
      obtain ⟨D, hDD⟩ : ∃ D : Nat → Int, D = fun j => f (pos Wd r c j) := ⟨_, rfl⟩
      rw [← hDD] at eN
      obtain ⟨t0, ht0⟩ : ∃ t, t = f (pos Wd r c 0) := ⟨_, rfl⟩
      obtain ⟨t1, ht1⟩ : ∃ t, t = f (pos Wd r c 1) := ⟨_, rfl⟩
      obtain ⟨t2, ht2⟩ : ∃ t, t = f (pos Wd r c 2) := ⟨_, rfl⟩
      obtain ⟨t3, ht3⟩ : ∃ t, t = f (pos Wd r c 3) := ⟨_, rfl⟩
      rw [← ht0] at x0 tr0
      rw [← ht1] at x1 tr1
      rw [← ht2] at x2 tr2
      rw [← ht3] at x3 tr3
      have HDS : Hid (D 0 = t0 ∧ D 1 = t1 ∧ D 2 = t2 ∧ D 3 = t3) := by
        rw [hDD]
        exact ⟨ht0.symm, ht1.symm, ht2.symm, ht3.symm⟩
      have ex1 : IntKind.i64.wrap ((x : Int) + 1) = ((x + 1 : Nat) : Int) := by rw [IntWalk.i64_in _ (by omega)]; omega
      have ex2 : IntKind.i64.wrap ((x : Int) + 2) = ((x + 2 : Nat) : Int) := by rw [IntWalk.i64_in _ (by omega)]; omega
      have ex3 : IntKind.i64.wrap ((x : Int) + 3) = ((x + 3 : Nat) : Int) := by rw [IntWalk.i64_in _ (by omega)]; omega
      have ex4 : IntKind.i64.wrap ((x : Int) + 4) = ((x + 4 : Nat) : Int) := by rw [IntWalk.i64_in _ (by omega)]; omega
      have HC := hid hc; have HX := hid hx
      have HON := hid hon; have HROW' := hid hrow; have HPT := hid hpt
      have oo0 := over_le tr0 (a := p3) ⟨by omega, by omega⟩
      have oo1 := over_le tr1 (a := p3) ⟨by omega, by omega⟩
      have oo2 := over_le tr2 (a := p3) ⟨by omega, by omega⟩
      have oo3 := over_le tr3 (a := p3) ⟨by omega, by omega⟩
      clear hon hrow hpt hold eP o0 o1 o2 o3 hDD ht0 ht1 ht2 ht3 hc hx cB lB
      have n0 : IntKind.u32.wrap (t0 * ((65535 - p3) * 257)) = t0 * ((65535 - p3) * 257) := IntWalk.u32_in _ (by omega)
      have n1 : IntKind.u32.wrap (t1 * ((65535 - p3) * 257)) = t1 * ((65535 - p3) * 257) := IntWalk.u32_in _ (by omega)
      have n2 : IntKind.u32.wrap (t2 * ((65535 - p3) * 257)) = t2 * ((65535 - p3) * 257) := IntWalk.u32_in _ (by omega)
      have n3 : IntKind.u32.wrap (t3 * ((65535 - p3) * 257)) = t3 * ((65535 - p3) * 257) := IntWalk.u32_in _ (by omega)
      go_wp2_with fail
      refine ⟨⟨k + 1, by omega, ?_, ?_, _, HROW'.out.quad x _ _ _ _, HPT.out.step4 (r0 := r) (c0 := c) (by omega) HEP.out ?_ fun r' c' _ => ⟨fun h => ?_, fun h => ?_⟩⟩, ?_⟩
      · rw [HX.out]; congr 1
      · exact (((HON.out.setCell (Or.inl (by simp)) _).setCell (Or.inl (by simp)) _).setCell (Or.inl (by simp)) _).setCell (Or.inl (by simp)) _
      · obtain ⟨w0, w1, w2, w3⟩ := HDS.out
        obtain ⟨q0, q1, q2, q3⟩ := HUU.out
        rw [eN.out]
        simp only [foverP, q0, q1, q2, q3, w0, w1, w2, w3, and_self]
      · have := HC.out
        have := HWN.out
        rcases h with ⟨h1, h2⟩ | ⟨rfl, rfl⟩
        · exact ⟨h1, by omega⟩
        · exact ⟨⟨by omega, by omega, by omega, by omega⟩, by omega⟩
      · have := HC.out
        by_cases e : r' = r ∧ c' = c
        · exact Or.inr e
        · exact Or.inl ⟨h.1, by omega⟩
      · simp only [intOf]; have := HPE.out; omega
end Go.Proofs.Ytlnfcjaempojgaa
