/- Contract of drawGlyphOver. Written by mk_G.py. -/
import Derived.Test.YtlnfcjaempojgaaU2
import Derived.Test.YtlnfcjaempojgaaI4
import Derived.Test.YtlnfcjaempojgaaK3
set_option linter.unusedVariables false
namespace Go.Proofs.Ytlnfcjaempojgaa
open Go.RowKit

set_option maxRecDepth 20000 in
set_option maxHeartbeats 4000000 in
theorem drawGlyphOver_any (gD gp cap n : Nat) (d1 d2 d3 d4 : Int) (Wd H : Nat) (f : Nat → Int) (gU : Nat) (U : Nat → Int) (gS gq scap m : Nat) (s1 s2 s3 s4 : Int) (Ws Hs : Nat) (fs : Nat → Int) (ca ra ce re ua va : Nat) (w : World)
    (hD : DstAt w gD gp cap n d1 d2 d3 d4 Wd H f) (hUb : Blk w gU 129 #[.iface 122 (.agg #[.int .u16 (U 0), .int .u16 (U 1), .int .u16 (U 2), .int .u16 (U 3)])]) (hS : SrcAt 113 1 w gS gq scap m (s3 - s1) s1 s2 s3 s4 Ws Hs fs) (hne : gp ≠ gq)
    (h0 : ca < ce ∧ ra < re) (h1 : ce ≤ Wd) (h2 : re ≤ H) (h3 : ua + (ce - ca) ≤ Ws) (h4 : va + (re - ra) ≤ Hs)
    (rf : ∀ j, 0 ≤ f j ∧ f j ≤ 255) (rs : ∀ j, 0 ≤ fs j ∧ fs j ≤ 255) (rU : ∀ k, C16 (U k)) (hU : U 0 ≤ U 3 ∧ U 1 ≤ U 3 ∧ U 2 ≤ U 3) :
    Calls Try.prog 95 #[.pointer (some ⟨gD, 0, none⟩), rcV ⟨d1 + ca, d2 + ra, d1 + ce, d2 + re⟩, .pointer (some ⟨gU, 0, none⟩), .pointer (some ⟨gS, 0, none⟩), ptV (s1 + ua) (s2 + va)] w fun e w' =>
      (∃ v, e = .returned v) ∧ Only [gp] w w' ∧ ∃ f', PixRow w' gp cap n f' ∧ Painted Wd f (fun r c k => maskB (f (pos Wd r c k)) (U k) (U 3) (fs ((va + (r - ra)) * Ws + (ua + (c - ca))))) (inPart ca ra ce re) f' := by
  have HD := hid hD; have HS := hid hS; have RF := hid rf; have RS := hid rs
  obtain ⟨nw, hnw⟩ : ∃ nw : Nat → Nat → Nat → Int, nw = fun r c k => maskB (f (pos Wd r c k)) (U k) (U 3) (fs ((va + (r - ra)) * Ws + (ua + (c - ca)))) := ⟨_, rfl⟩
  rw [← hnw]
  have HNW := hid hnw
  obtain ⟨wN, hwN⟩ : ∃ wN, wN = ce - ca := ⟨_, rfl⟩
  have HB12 : Hid ((-64 ≤ d1 ∧ d3 ≤ 64) ∧ (-64 ≤ d2 ∧ d4 ≤ 64) ∧ d3 = d1 + Wd ∧ d4 = d2 + H) := ⟨hD.b1, hD.b2, hD.w3, hD.w4⟩
  have SB12 : Hid ((-64 ≤ s1 ∧ s3 ≤ 64) ∧ (-64 ≤ s2 ∧ s4 ≤ 64) ∧ s3 = s1 + Ws ∧ s4 = s2 + Hs) := ⟨hS.b1, hS.b2, hS.w3, hS.w4⟩
  have HL : Wd ≤ 128 ∧ H ≤ 128 ∧ Ws ≤ 128 ∧ Hs ≤ 128 := by
    have := HB12.out; have := SB12.out
    exact ⟨by omega, by omega, by omega, by omega⟩
  have DX : Hid (∀ W, Calls Try.prog 80 #[rcV ⟨d1 + ca, d2 + ra, d1 + ce, d2 + re⟩] W fun e w' => e = .returned (.int .i64 (wN : Int)) ∧ Below W.heap.size W w') := fun W => by
    have := dx_any (d1 + ca) (d2 + ra) (d1 + ce) (d2 + re) W (by have := HB12.out; omega)
    rwa [show d1 + (ce : Int) - (d1 + ca) = (wN : Int) by omega] at this
  have UU : Hid (∀ W, Below w.heap.size w W → Calls Try.prog 90 #[.pointer (some ⟨gU, 0, none⟩)] W fun e w' => e = .returned (u4T (U 0) (U 1) (U 2) (U 3)) ∧ Below W.heap.size W w') := fun W hb => uni90 gU _ _ _ _ W (hUb.keep hb) (rU 0) (rU 1) (rU 2) (rU 3)
  have HWN := hid hwN
  have hwl : wN ≤ 128 ∧ 0 < wN := ⟨by omega, by omega⟩
  obtain ⟨p0, hp0⟩ : ∃ x, x = U 0 := ⟨_, rfl⟩
  obtain ⟨p1, hp1⟩ : ∃ x, x = U 1 := ⟨_, rfl⟩
  obtain ⟨p2, hp2⟩ : ∃ x, x = U 2 := ⟨_, rfl⟩
  obtain ⟨p3, hp3⟩ : ∃ x, x = U 3 := ⟨_, rfl⟩
  have HUU : Hid (U 0 = p0 ∧ U 1 = p1 ∧ U 2 = p2 ∧ U 3 = p3) := ⟨hp0.symm, hp1.symm, hp2.symm, hp3.symm⟩
  have pr0 : 0 ≤ p0 ∧ p0 ≤ 65535 := by rw [hp0]; exact rU 0
  have pr1 : 0 ≤ p1 ∧ p1 ≤ 65535 := by rw [hp1]; exact rU 1
  have pr2 : 0 ≤ p2 ∧ p2 ≤ 65535 := by rw [hp2]; exact rU 2
  have pr3 : 0 ≤ p3 ∧ p3 ≤ 65535 := by rw [hp3]; exact rU 3
  have hle : p0 ≤ p3 ∧ p1 ≤ p3 ∧ p2 ≤ p3 := by rw [hp0, hp1, hp2, hp3]; exact hU
  rw [← hp0, ← hp1, ← hp2, ← hp3] at UU
  have hgpw := hD.row.lt
  clear hD hS hUb hnw rf rs hwN hp0 hp1 hp2 hp3 rU hU
  go_enter Try.func95, Try.ntmps95
  go_wp2_with fail
  obtain ⟨W0, hW0⟩ : ∃ W : World, W = ((w.alloc (.cells #[iv (d1 + ca), iv (d2 + ra), iv (d1 + ce), iv (d2 + re)] 73)).alloc (.cells #[iv (s1 + ua), iv (s2 + va)] 71)) := ⟨_, rfl⟩
  rw [← hW0]
  have B0 : Hid (Blk W0 (w.heap.size) 73 #[iv (d1 + ca), iv (d2 + ra), iv (d1 + ce), iv (d2 + re)]) := by rw [hW0]; exact Blk.alloc (Blk.new_at (W := w) (t := 73) (cs := #[iv (d1 + ca), iv (d2 + ra), iv (d1 + ce), iv (d2 + re)]) (by simp)) _
  have B1 : Hid (Blk W0 (w.heap.size + 1) 71 #[iv (s1 + ua), iv (s2 + va)]) := by rw [hW0]; exact Blk.new_at (W := (w.alloc (.cells #[iv (d1 + ca), iv (d2 + ra), iv (d1 + ce), iv (d2 + re)] 73))) (t := 71) (cs := #[iv (s1 + ua), iv (s2 + va)]) (by simp)
  have bW0 : Below w.heap.size w W0 := by rw [hW0]; go_grown
  have sW0 : W0.heap.size = w.heap.size + 2 := by rw [hW0]; simp
  have SW0 := hid sW0
  have zW0 : w.heap.size + 2 ≤ W0.heap.size := by omega
  clear sW0 hW0
  refine (pixo78 gD _ Wd ra ca d1 d2 d3 d4 _ _ _ (HD.out.blk.keep bW0) HB12.out.2.2.1 (by omega) (by omega) (by omega) (by have := HB12.out; omega) (by have := HB12.out; omega) rfl rfl).mono ?_
  rintro e W2 ⟨rfl, hb2⟩
  have F0 := hid (B0.out.keep hb2)
  have F1 := hid (B1.out.keep hb2)
  have bw2 := bW0.trans (hb2.mono (by omega))
  have cB := F0.out.cells4.1
  have lB := F0.out.lt
  obtain ⟨pa, hpa⟩ : ∃ x, x = pos Wd ra ca 0 := ⟨_, rfl⟩
  rw [← hpa]
  have HPA := hid hpa
  have hpan : pa ≤ 131072 := by
    have h5 := Nat.mul_le_mul (show ra ≤ 128 by omega) HL.1
    unfold pos at hpa
    omega
  clear B0 B1 hb2 bW0 hpa
  go_wp2_with fail
  refine (DX.out _).mono ?_
  rintro e W3 ⟨rfl, hb3⟩
  have bw3 := bw2.trans (hb3.mono bw2.size)
  have G0 := hid (F0.out.keep hb3)
  have G1 := hid (F1.out.keep hb3)
  have cP := G1.out.cells2.1
  have lP := G1.out.lt
  obtain ⟨pe, hpe⟩ : ∃ x, x = pa + 4 * wN := ⟨_, rfl⟩
  have e4 : IntKind.i64.wrap ((wN : Int) * 4) = 4 * (wN : Int) := by rw [IntWalk.i64_in _ (by omega)]; omega
  have e5 : IntKind.i64.wrap ((pa : Int) + 4 * (wN : Int)) = (pe : Int) := by rw [IntWalk.i64_in _ (by omega)]; omega
  have HPE0 := hid hpe
  clear hb3 bw2 F0 F1 hpe cB lB
  go_wp2_with fail
  refine (pixo105 gS _ Ws va ua s1 s2 s3 s4 _ _ _ (HS.out.blk.keep bw3) SB12.out.2.2.1 (by omega) (by omega) (by omega) (by have := SB12.out; omega) (by have := SB12.out; omega) rfl rfl).mono ?_
  rintro e W4 ⟨rfl, hb4⟩
  have bw4 := bw3.trans (hb4.mono bw3.size)
  have J0 := hid (G0.out.keep hb4)
  have J1 := hid (G1.out.keep hb4)
  obtain ⟨qa, hqa⟩ : ∃ x, x = va * Ws + ua := ⟨_, rfl⟩
  rw [← hqa]
  have HQA := hid hqa
  clear hb4 bw3 G0 G1 cP lP e4 e5 hqa
  go_wp2_with fail
  refine (UU.out W4 bw4).mono ?_
  rintro e W5 ⟨rfl, hb5⟩
  have bw5 := bw4.trans (hb5.mono bw4.size)
  have G0 := hid (J0.out.keep hb5)
  have G1 := hid (J1.out.keep hb5)
  have cB := G0.out.cells4.1
  have lB := G0.out.lt
  have cP := G1.out.cells2.1
  have lP := G1.out.lt
  have DB : Hid (Blk W5 gD 95 #[.slice (some ⟨gp, 0, none⟩) n cap, iv (4 * (Wd : Int)), iv d1, iv d2, iv d3, iv d4]) := by
    have h := HD.out.blk.keep bw5
    rwa [show d3 - d1 = (Wd : Int) by have := HB12.out; omega] at h
  have SBk : Hid (Blk W5 gS 113 #[.slice (some ⟨gq, 0, none⟩) m scap, iv (Ws : Int), iv s1, iv s2, iv s3, iv s4]) := by
    have h := HS.out.blk.keep bw5
    rwa [show s3 - s1 = (Ws : Int) by have := SB12.out; omega] at h
  have nD : gD ≠ gp := fun h => by
    obtain ⟨cur, hc, _⟩ := HD.out.row
    have := HD.out.blk
    rw [h] at this
    rw [this] at hc
    simp at hc
  have nS : gS ≠ gp := fun h => by
    obtain ⟨cur, hc, _⟩ := HD.out.row
    have := HS.out.blk
    rw [h] at this
    rw [this] at hc
    simp at hc
  have nB : w.heap.size ≠ gp := by omega
  have HROW := hid (HD.out.row.keep bw5)
  have SR := hid (HS.out.row.keep bw5)
  have HBW := hid bw5
  have hU := UU
  clear hb5 bw4 J0 J1 bw5 UU hU
  go_wp2_with fail
  go_quiet (fail)
  go_wp2_with fail
  clear cB lB cP lP
  go_loopw [10, 11, 12, 17, 18] (fun s10 s11 s12 s17 s18 wr => ∃ r : Nat, ra ≤ r ∧ r ≤ re ∧ s10 = .int .i64 ((pos Wd r ca 0 : Nat) : Int) ∧ s11 = .int .i64 ((pos Wd r ca 0 + 4 * wN : Nat) : Int) ∧ s12 = .int .i64 (((va + (r - ra)) * Ws + ua : Nat) : Int) ∧ s17 = .int .i64 (d2 + (r : Int)) ∧ s18 = .int .i64 (s2 + ((va + (r - ra) : Nat) : Int)) ∧ Only [gp] W5 wr ∧ ∃ f', PixRow wr gp cap n f' ∧
    Painted Wd f nw (fun r' c' => inPart ca ra ce re r' c' ∧ r' < r) f') (fun _ _ _ s17 _ _ => (d2 + (re : Int) - intOf s17).toNat)
  case atStart =>
    refine ⟨ra, by omega, by omega, ?_, ?_, ?_, rfl, ?_, ?_, f, HROW.out, Painted.start _ _ _ fun r c h => ?_⟩
    · rw [← HPA.out]
    · rw [← HPA.out, ← HPE0.out]
    · rw [Nat.sub_self, Nat.add_zero, ← HQA.out]
    · rw [Nat.sub_self, Nat.add_zero]
    · repeat apply Only.drewN
      exact Only.refl _ _
    · have h' := h.1.1
      omega
  case round =>
    obtain ⟨r, hr1, hr2, rfl, rfl, rfl, rfl, rfl, hon, f', hrow, hpt⟩ := hrel
    have hbl := hon.blk G0.out (by simp [nB])
    have cB := hbl.cells4.1
    have lB := hbl.lt
    clear HROW HPA HPE0 HQA hbl
    by_cases hlt : r < re
    case neg =>
      obtain rfl : r = re := by omega
      go_wp2_with fail
      go_end0
      exact ⟨⟨_, rfl⟩, (Only.of_below HBW.out).trans hon, f', hrow, hpt.congr fun r' c' _ => ⟨fun h => h.1, fun h => ⟨h, h.2.1⟩⟩⟩
    have k1 : (d2 + (r : Int) != d2 + (re : Int)) = true := by simp; omega
    have k0 : (d2 + (r : Int) == d2 + (re : Int)) = false := by simp; omega
    have k2 : ((r : Int) == (re : Int)) = false := by simp; omega
    obtain ⟨pd, hpd⟩ : ∃ pd, pd = pos Wd r ca 0 := ⟨_, rfl⟩
    rw [← hpd]
    have hpn : pd + 4 * wN ≤ n ∧ pd + 4 * Wd ≤ 131072 := by
      have h1 := Nat.mul_le_mul_right Wd (show r + 1 ≤ H by omega)
      have h5 := Nat.mul_le_mul (show r + 1 ≤ 128 by omega) HL.1
      rw [Nat.add_mul, Nat.one_mul] at h1 h5
      have h2 := HD.out.len
      have h3 := HWN.out
      unfold pos at hpd
      omega
    obtain ⟨v, hv⟩ : ∃ v, v = va + (r - ra) := ⟨_, rfl⟩
    have hvH : v < Hs := by omega
    obtain ⟨qd, hqd⟩ : ∃ x, x = v * Ws + ua := ⟨_, rfl⟩
    rw [← hv, ← hqd]
    have hqm : qd + wN ≤ m ∧ qd + Ws ≤ 131072 := by
      have h1 := Nat.mul_le_mul_right Ws (show v + 1 ≤ Hs by omega)
      have h5 := Nat.mul_le_mul (show v + 1 ≤ 128 by omega) HL.2.2.1
      rw [Nat.add_mul, Nat.one_mul] at h1 h5
      have h2 := HS.out.len
      have h3 := HWN.out
      omega
    obtain ⟨pe, hpe⟩ : ∃ x, x = pd + 4 * wN := ⟨_, rfl⟩
    rw [← hpe]
    have hpel : pe ≤ 131072 := by have := HWN.out; omega
    have hcap := HD.out.cap
    have hscap := HS.out.cap
    have HPD := hid hpd; have HPE := hid hpe; have HQD := hid hqd; have HVV := hid hv
    have HON := hid hon; have HROW' := hid hrow; have HPT := hid hpt
    have b2 : -64 ≤ d2 ∧ d2 + (re : Int) ≤ 64 := by have := HB12.out; omega
    have b3 : -64 ≤ s2 ∧ s2 + (Hs : Int) ≤ 64 := by have := SB12.out; omega
    clear hpd hon hrow hpt hpe hqd hv
    go_wp2_with fail
    clear cB lB k0 k1 k2
    go_loopw [19, 20] (fun s19 s20 wr => ∃ k : Nat, k ≤ wN ∧ s19 = .int .i64 ((pd + 4 * k : Nat) : Int) ∧ s20 = .int .i64 ((qd + k : Nat) : Int) ∧ Only [gp] W5 wr ∧ ∃ f', PixRow wr gp cap n f' ∧
      Painted Wd f nw (fun r' c' => inPart ca ra ce re r' c' ∧ (r' < r ∨ (r' = r ∧ c' < ca + k))) f') (fun s19 _ _ => pd + 4 * wN - (intOf s19).toNat)
    case atStart =>
      refine ⟨0, by omega, by simp, by simp, HON.out, f', HROW'.out, HPT.out.congr fun r' c' _ => ⟨fun h => ⟨h.1, Or.inl h.2⟩, fun h => ⟨h.1, ?_⟩⟩⟩
      obtain ⟨⟨h1, h2, h3, h4⟩, h5⟩ := h
      omega
    case round =>
      clear HON HROW' HPT
      obtain ⟨k, hk2, rfl, rfl, hon, f', hrow, hpt⟩ := hrel
      obtain ⟨x, hx⟩ : ∃ x, x = pd + 4 * k := ⟨_, rfl⟩
      obtain ⟨y, hy⟩ : ∃ x, x = qd + k := ⟨_, rfl⟩
      rw [← hx, ← hy]
      have hbl := hon.blk G0.out (by simp [nB])
      have cB := hbl.cells4.1
      have lB := hbl.lt
      have cD := (hon.blk DB.out (by simp [nD])).cells6
      have cS := (hon.blk SBk.out (by simp [nS])).cells6
      clear hbl
      by_cases hlc : k < wN
      case neg =>
        obtain rfl : k = wN := by omega
        obtain rfl : x = pe := by rw [hx]; exact HPE.out.symm
        have e11 : IntKind.i64.wrap ((pd : Int) + 4 * (Wd : Int)) = ((pd + 4 * Wd : Nat) : Int) := by rw [IntWalk.i64_in _ (by omega)]; omega
        have e12 : IntKind.i64.wrap ((x : Int) + 4 * (Wd : Int)) = ((x + 4 * Wd : Nat) : Int) := by rw [IntWalk.i64_in _ (by omega)]; omega
        have e13 : IntKind.i64.wrap ((qd : Int) + (Ws : Int)) = ((qd + Ws : Nat) : Int) := by rw [IntWalk.i64_in _ (by omega)]; omega
        have HX := hid hx
        clear hx hy
        go_wp2_with fail
        have hn2 : pos Wd (r + 1) ca 0 = pd + 4 * Wd := by rw [HPD.out]; unfold pos; rw [Nat.add_mul]; omega
        have hv2 : va + (r + 1 - ra) = v + 1 := by have := HVV.out; omega
        have hq2 : (v + 1) * Ws + ua = qd + Ws := by rw [HQD.out, Nat.add_mul]; omega
        refine ⟨⟨r + 1, by omega, by omega, ?_, ?_, ?_, ?_, ?_, hon, f', hrow, hpt.congr fun r' c' _ => ⟨fun h => ⟨h.1, ?_⟩, fun h => ⟨h.1, ?_⟩⟩⟩, ?_⟩
        · rw [hn2]; first | rfl | (congr 1; done) | (congr 1; omega)
        · rw [hn2, HX.out]; first | rfl | (congr 1; done) | (congr 1; omega)
        · rw [hv2, hq2]; first | rfl | (congr 1; done) | (congr 1; omega)
        · congr 1; omega
        · rw [hv2]; first | rfl | (congr 1; done) | (congr 1; omega)
        · obtain ⟨⟨h1, h2, h3, h4⟩, h5⟩ := h
          have := HWN.out
          omega
        · obtain ⟨⟨h1, h2, h3, h4⟩, h5⟩ := h
          have := HWN.out
          omega
        · simp only [intOf]; omega
      have hxl : x + 4 ≤ pe := by have := HPE.out; omega
      have hxx : (x : Int) < (pe : Int) := by omega
      obtain ⟨c, hc⟩ : ∃ c, c = ca + k := ⟨_, rfl⟩
      have hcc : c < ce ∧ c < Wd := by have := HWN.out; omega
      have hin : ¬ (inPart ca ra ce re r c ∧ (r < r ∨ (r = r ∧ c < ca + k))) := by omega
      have eP : pos Wd r c 0 = x := by
        rw [hx, HPD.out, hc]
        unfold pos
        omega
      have hold : ∀ j, j < 4 → f' (x + j) = f (pos Wd r c j) := fun j hj => by
        have h1 := (hpt r c j (by omega) hj).2 hin
        have h2 : pos Wd r c j = x + j := by rw [← eP]; unfold pos; omega
        rw [← h2]; exact h1
      have hsp : (va + (r - ra)) * Ws + (ua + (c - ca)) = y := by
        rw [← HVV.out, hy, HQD.out, hc]
        omega
      have eN : Hid (∀ j, nw r c j = maskB (f (pos Wd r c j)) (U j) (U 3) (fs y)) := by
        intro j
        rw [HNW.out, ← hsp]
      have HEP := hid eP
      have hxn : x + 4 ≤ n := by have := HPE.out; omega
      have hym : y < m := by omega
      have sr := SR.out.of_block (hon.block gq SR.out.lt (by simp; exact Ne.symm hne))
      have mc := sr.cell (j := y) (by omega)
      have x0 := hrow.cell (j := x) (by omega)
      have x1 := hrow.cell (j := x + 1) (by omega)
      have x2 := hrow.cell (j := x + 2) (by omega)
      have x3 := hrow.cell (j := x + 3) (by omega)
      have z0 := hrow.frozen x
      have z1 := hrow.frozen (x + 1)
      have z2 := hrow.frozen (x + 2)
      have z3 := hrow.frozen (x + 3)
      have o0 := hold 0 (by omega)
      have o1 := hold 1 (by omega)
      have o2 := hold 2 (by omega)
      have o3 := hold 3 (by omega)
      rw [Nat.add_zero] at o0
      rw [o0] at x0
      rw [o1] at x1
      rw [o2] at x2
      rw [o3] at x3
      have tr0 := RF.out (pos Wd r c 0)
      have tr1 := RF.out (pos Wd r c 1)
      have tr2 := RF.out (pos Wd r c 2)
      have tr3 := RF.out (pos Wd r c 3)
      have mr := RS.out y
      obtain ⟨t0, ht0⟩ : ∃ t, t = f (pos Wd r c 0) := ⟨_, rfl⟩
      obtain ⟨t1, ht1⟩ : ∃ t, t = f (pos Wd r c 1) := ⟨_, rfl⟩
      obtain ⟨t2, ht2⟩ : ∃ t, t = f (pos Wd r c 2) := ⟨_, rfl⟩
      obtain ⟨t3, ht3⟩ : ∃ t, t = f (pos Wd r c 3) := ⟨_, rfl⟩
      obtain ⟨mb, hmb⟩ : ∃ t, t = fs y := ⟨_, rfl⟩
      rw [← ht0] at x0 tr0
      rw [← ht1] at x1 tr1
      rw [← ht2] at x2 tr2
      rw [← ht3] at x3 tr3
      rw [← hmb] at mc mr
      have HDS : Hid ((f (pos Wd r c 0) = t0 ∧ f (pos Wd r c 1) = t1 ∧ f (pos Wd r c 2) = t2 ∧ f (pos Wd r c 3) = t3) ∧ fs y = mb) := ⟨⟨ht0.symm, ht1.symm, ht2.symm, ht3.symm⟩, hmb.symm⟩
      have ex4 : IntKind.i64.wrap ((x : Int) + 4) = ((x + 4 : Nat) : Int) := by rw [IntWalk.i64_in _ (by omega)]; omega
      have ey1 : IntKind.i64.wrap ((y : Int) + 1) = ((y + 1 : Nat) : Int) := by rw [IntWalk.i64_in _ (by omega)]; omega
      have hcpx : ¬ cap = x := by omega
      have HC := hid hc; have HX := hid hx; have HY := hid hy; have HOLD := hid hold
      have HON := hid hon; have HROW' := hid hrow; have HPT := hid hpt
      have g0 := maskF tr0 pr3 (u := p0) ⟨pr0.1, hle.1⟩ mr
      have g1 := maskF tr1 pr3 (u := p1) ⟨pr1.1, hle.2.1⟩ mr
      have g2 := maskF tr2 pr3 (u := p2) ⟨pr2.1, hle.2.2⟩ mr
      have g3 := maskF tr3 pr3 (u := p3) ⟨pr3.1, Int.le_refl _⟩ mr
      obtain ⟨ga1, ga2, ga3, ga4, ga5⟩ := g0
      obtain ⟨gb1, gb2, gb3, gb4, gb5⟩ := g1
      obtain ⟨gc1, gc2, gc3, gc4, gc5⟩ := g2
      obtain ⟨gd1, gd2, gd3, gd4, gd5⟩ := g3
      clear hon hrow hpt hold eP o0 o1 o2 o3 ht0 ht1 ht2 ht3 hmb hc hx hy cB lB hsp sr
      by_cases hz : mb = 0
      · have HZ := hid hz
        have HT := hid (And.intro tr0 (And.intro tr1 (And.intro tr2 tr3)))
        subst hz
        clear ga1 ga2 ga3 ga4 ga5 gb1 gb2 gb3 gb4 gb5 gc1 gc2 gc3 gc4 gc5 gd1 gd2 gd3 gd4 gd5
        go_wp2_with fail
        refine ⟨⟨k + 1, by omega, ?_, ?_, HON.out, f', HROW'.out, HPT.out.stay (r0 := r) (c0 := c) (by omega) (fun j hj => ?_) fun r' c' _ => ⟨fun h => ?_, fun h => ?_⟩⟩, ?_⟩
        · rw [HX.out]; congr 1
        · rw [HY.out]; congr 1
        · have h1 := HOLD.out j hj
          have h2 : pos Wd r c j = x + j := by rw [← HEP.out]; unfold pos; omega
          rw [eN.out j, h2, h1, ← h2, HDS.out.2, HZ.out, maskB_zero (RF.out _)]
        · have := HC.out
          have := HWN.out
          rcases h with ⟨h1, h2⟩ | ⟨rfl, rfl⟩
          · exact ⟨h1, by omega⟩
          · exact ⟨⟨by omega, by omega, by omega, by omega⟩, by omega⟩
        · have := HC.out
          by_cases e : r' = r ∧ c' = c
          · exact Or.inr e
          · exact Or.inl ⟨h.1, by omega⟩
        · simp only [intOf]; have := HPE.out; omega
      have kz : (mb == 0) = false := by simpa using hz
      have tw := twice mr
      have y8 : IntKind.u32.wrap (mb * 256) = mb * 256 := IntWalk.u32_in _ (by omega)
      have y9 : IntKind.u32.wrap (p3 * (mb * 257)) = p3 * (mb * 257) := IntWalk.u32_in _ (by omega)
      have yA : IntKind.u32.wrap (65535 - p3 * (mb * 257) / 65535) = 65535 - p3 * (mb * 257) / 65535 := IntWalk.u32_in _ (by omega)
      have yB : IntKind.u32.wrap ((65535 - p3 * (mb * 257) / 65535) * 257) = (65535 - p3 * (mb * 257) / 65535) * 257 := IntWalk.u32_in _ (by omega)
      have n0 : IntKind.u32.wrap (t0 * ((65535 - p3 * (mb * 257) / 65535) * 257)) = t0 * ((65535 - p3 * (mb * 257) / 65535) * 257) := IntWalk.u32_in _ (by omega)
      have n1 : IntKind.u32.wrap (t1 * ((65535 - p3 * (mb * 257) / 65535) * 257)) = t1 * ((65535 - p3 * (mb * 257) / 65535) * 257) := IntWalk.u32_in _ (by omega)
      have n2 : IntKind.u32.wrap (t2 * ((65535 - p3 * (mb * 257) / 65535) * 257)) = t2 * ((65535 - p3 * (mb * 257) / 65535) * 257) := IntWalk.u32_in _ (by omega)
      have n3 : IntKind.u32.wrap (t3 * ((65535 - p3 * (mb * 257) / 65535) * 257)) = t3 * ((65535 - p3 * (mb * 257) / 65535) * 257) := IntWalk.u32_in _ (by omega)
      have q0 : IntKind.u32.wrap (p0 * (mb * 257)) = p0 * (mb * 257) := IntWalk.u32_in _ (by omega)
      have q1 : IntKind.u32.wrap (p1 * (mb * 257)) = p1 * (mb * 257) := IntWalk.u32_in _ (by omega)
      have q2 : IntKind.u32.wrap (p2 * (mb * 257)) = p2 * (mb * 257) := IntWalk.u32_in _ (by omega)
      have s0 : IntKind.u32.wrap (t0 * ((65535 - p3 * (mb * 257) / 65535) * 257) + p0 * (mb * 257)) = t0 * ((65535 - p3 * (mb * 257) / 65535) * 257) + p0 * (mb * 257) := IntWalk.u32_in _ (by omega)
      have s1' : IntKind.u32.wrap (t1 * ((65535 - p3 * (mb * 257) / 65535) * 257) + p1 * (mb * 257)) = t1 * ((65535 - p3 * (mb * 257) / 65535) * 257) + p1 * (mb * 257) := IntWalk.u32_in _ (by omega)
      have s2' : IntKind.u32.wrap (t2 * ((65535 - p3 * (mb * 257) / 65535) * 257) + p2 * (mb * 257)) = t2 * ((65535 - p3 * (mb * 257) / 65535) * 257) + p2 * (mb * 257) := IntWalk.u32_in _ (by omega)
      have s3' : IntKind.u32.wrap (t3 * ((65535 - p3 * (mb * 257) / 65535) * 257) + p3 * (mb * 257)) = t3 * ((65535 - p3 * (mb * 257) / 65535) * 257) + p3 * (mb * 257) := IntWalk.u32_in _ (by omega)
      clear hz
      go_wp2_with fail
      refine ⟨⟨k + 1, by omega, ?_, ?_, ?_, _, HROW'.out.quad x _ _ _ _, HPT.out.step4 (r0 := r) (c0 := c) (by omega) HEP.out ?_ fun r' c' _ => ⟨fun h => ?_, fun h => ?_⟩⟩, ?_⟩
      · rw [HX.out]; congr 1
      · rw [HY.out]; congr 1
      · exact (((HON.out.setCell (Or.inl (by simp)) _).setCell (Or.inl (by simp)) _).setCell (Or.inl (by simp)) _).setCell (Or.inl (by simp)) _
      · obtain ⟨⟨w0, w1, w2, w3⟩, w4⟩ := HDS.out
        obtain ⟨u0, u1, u2, u3⟩ := HUU.out
        rw [eN.out 0, eN.out 1, eN.out 2, eN.out 3, w0, w1, w2, w3, w4, u0, u1, u2, u3]
        exact ⟨rfl, rfl, rfl, rfl⟩
      · have := HC.out
        have := HWN.out
        rcases h with ⟨h1, h2⟩ | ⟨rfl, rfl⟩
        · exact ⟨h1, by omega⟩
        · exact ⟨⟨by omega, by omega, by omega, by omega⟩, by omega⟩
      · have := HC.out
        by_cases e : r' = r ∧ c' = c
        · exact Or.inr e
        · exact Or.inl ⟨h.1, by omega⟩
      · simp only [intOf]; have := HPE.out; omega
end Go.Proofs.Ytlnfcjaempojgaa
