/- Contract of drawNRGBASrc. Written by mk_K.py. -/
import Derived.Test.YtlnfcjaempojgaaK1
import Derived.Test.YtlnfcjaempojgaaI2
set_option linter.unusedVariables false
namespace Go.Proofs.Ytlnfcjaempojgaa
open Go.RowKit

/-- What NRGBA by Src makes of a pixel. -/
def nsrcP (D S : Nat → Int) (k : Nat) : Int := if k = 3 then S 3 * 257 / 256 else S k * (S 3 * 257) / 255 / 256

set_option maxRecDepth 20000 in
set_option maxHeartbeats 4000000 in
theorem drawNRGBASrc_any (gD gp cap n : Nat) (d1 d2 d3 d4 : Int) (Wd H : Nat) (f : Nat → Int) (gS gq scap m : Nat) (s1 s2 s3 s4 : Int) (Ws Hs : Nat) (fs : Nat → Int) (ca ra ce re ua va : Nat) (w : World)
    (hD : DstAt w gD gp cap n d1 d2 d3 d4 Wd H f) (hS : SrcAt 112 4 w gS gq scap m (4 * (s3 - s1)) s1 s2 s3 s4 Ws Hs fs) (hne : gp ≠ gq) (h0 : ca < ce ∧ ra < re) (h1 : ce ≤ Wd) (h2 : re ≤ H) (h3 : ua + (ce - ca) ≤ Ws) (h4 : va + (re - ra) ≤ Hs)
    (rf : ∀ j, 0 ≤ f j ∧ f j ≤ 255) (rs : ∀ j, 0 ≤ fs j ∧ fs j ≤ 255) :
    Calls Try.prog 76 #[.pointer (some ⟨gD, 0, none⟩), rcV ⟨d1 + ca, d2 + ra, d1 + ce, d2 + re⟩, .pointer (some ⟨gS, 0, none⟩), ptV (s1 + ua) (s2 + va)] w fun e w' =>
      (∃ v, e = .returned v) ∧ Only [gp] w w' ∧ ∃ f', PixRow w' gp cap n f' ∧ Painted Wd f (fun r c => nsrcP (fun k => f (pos Wd r c k)) (fun j => fs (4 * ((va + (r - ra)) * Ws + (ua + (c - ca))) + j))) (inPart ca ra ce re) f' := by
  have HD := hid hD; have HS := hid hS; have RF := hid rf; have RS := hid rs
  obtain ⟨nw, hnw⟩ : ∃ nw : Nat → Nat → Nat → Int, nw = fun r c => nsrcP (fun k => f (pos Wd r c k)) (fun j => fs (4 * ((va + (r - ra)) * Ws + (ua + (c - ca))) + j)) := ⟨_, rfl⟩
  rw [← hnw]
  have HNW := hid hnw
  clear hD hS hnw rf rs
  go_enter Try.func76, Try.ntmps76
  go_wp2_with fail
  obtain ⟨W0, hW0⟩ : ∃ W : World, W = ((w.alloc (.cells #[iv (d1 + ca), iv (d2 + ra), iv (d1 + ce), iv (d2 + re)] 73)).alloc (.cells #[iv (s1 + ua), iv (s2 + va)] 71)) := ⟨_, rfl⟩
  rw [← hW0]
  have B0 : Hid (Blk W0 (w.heap.size) 73 #[iv (d1 + ca), iv (d2 + ra), iv (d1 + ce), iv (d2 + re)]) := by rw [hW0]; exact Blk.alloc (Blk.new_at (W := w) (t := 73) (cs := #[iv (d1 + ca), iv (d2 + ra), iv (d1 + ce), iv (d2 + re)]) (by simp)) _
  have B1 : Hid (Blk W0 (w.heap.size + 1) 71 #[iv (s1 + ua), iv (s2 + va)]) := by rw [hW0]; exact Blk.new_at (W := (w.alloc (.cells #[iv (d1 + ca), iv (d2 + ra), iv (d1 + ce), iv (d2 + re)] 73))) (t := 71) (cs := #[iv (s1 + ua), iv (s2 + va)]) (by simp)
  have bW0 : Below w.heap.size w W0 := by rw [hW0]; go_grown
  have sW0 : W0.heap.size = w.heap.size + 2 := by rw [hW0]; simp
  have SW0 := hid sW0
  have zW0 : w.heap.size + 2 ≤ W0.heap.size := by omega
  clear sW0 hW0
  have cB := B0.out.cells4.1
  have cP := B1.out.cells2.1
  have lB := B0.out.lt
  have lP := B1.out.lt
  have cD := (HD.out.blk.keep bW0).cells6
  have cS := (HS.out.blk.keep bW0).cells6
  have bb := HD.out.b1
  have bc := HD.out.b2
  have sb := HS.out.b1
  have scc := HS.out.b2
  have w3 := HD.out.w3
  have w4 := HD.out.w4
  have v3 := HS.out.w3
  have v4 := HS.out.w4
  have e1 : IntKind.i64.wrap (d1 + (ca : Int) - d1) = ((ca : Nat) : Int) := by rw [IntWalk.i64_in _ (by omega)]; omega
  have e1' : IntKind.i64.wrap (ca : Int) = ((ca : Nat) : Int) := IntWalk.i64_in _ (by omega)
  have e2 : IntKind.i64.wrap ((ca : Int) * 4) = ((4 * ca : Nat) : Int) := by rw [IntWalk.i64_in _ (by omega)]; omega
  have e3 : IntKind.i64.wrap (d1 + (ce : Int) - d1) = ((ce : Nat) : Int) := by rw [IntWalk.i64_in _ (by omega)]; omega
  have e3' : IntKind.i64.wrap (ce : Int) = ((ce : Nat) : Int) := IntWalk.i64_in _ (by omega)
  have e4 : IntKind.i64.wrap ((ce : Int) * 4) = ((4 * ce : Nat) : Int) := by rw [IntWalk.i64_in _ (by omega)]; omega
  have e5 : IntKind.i64.wrap (s1 + (ua : Int) - s1) = ((ua : Nat) : Int) := by rw [IntWalk.i64_in _ (by omega)]; omega
  have e5' : IntKind.i64.wrap (ua : Int) = ((ua : Nat) : Int) := IntWalk.i64_in _ (by omega)
  have e5s : IntKind.i64.wrap ((ua : Int) * 4) = ((4 * ua : Nat) : Int) := by rw [IntWalk.i64_in _ (by omega)]; omega
  have e6 : IntKind.i64.wrap (d2 + (ra : Int) - d2) = ((ra : Nat) : Int) := by rw [IntWalk.i64_in _ (by omega)]; omega
  have e6' : IntKind.i64.wrap (ra : Int) = ((ra : Nat) : Int) := IntWalk.i64_in _ (by omega)
  have e7 : IntKind.i64.wrap (d2 + (re : Int) - d2) = ((re : Nat) : Int) := by rw [IntWalk.i64_in _ (by omega)]; omega
  have e7' : IntKind.i64.wrap (re : Int) = ((re : Nat) : Int) := IntWalk.i64_in _ (by omega)
  have e8 : IntKind.i64.wrap (s2 + (va : Int) - s2) = ((va : Nat) : Int) := by rw [IntWalk.i64_in _ (by omega)]; omega
  have e8' : IntKind.i64.wrap (va : Int) = ((va : Nat) : Int) := IntWalk.i64_in _ (by omega)
  clear w3 w4 v3 v4
  go_quiet (fail)
  go_wp2_with fail
  go_quiet (fail)
  go_wp2_with fail
  go_quiet (fail)
  go_wp2_with fail
  go_quiet (fail)
  go_wp2_with fail
  go_quiet (fail)
  go_wp2_with fail
  go_quiet (fail)
  go_wp2_with fail
  clear cB cP lB lP cD cS B0 B1 e1 e1' e2 e3 e3' e4 e5 e5' e5s e6 e6' e7 e7' e8 e8'
  have HROW := hid (HD.out.row.keep bW0)
  have nD : gD ≠ gp := fun h => by
    obtain ⟨cur, hc, _⟩ := HD.out.row
    have := HD.out.blk
    rw [h] at this
    rw [this] at hc
    simp at hc
  have nS : gS ≠ gp := fun h => by
    obtain ⟨cur, hc, _⟩ := HD.out.row
    have := HS.out.blk
    rw [h] at this
    rw [this] at hc
    simp at hc
  have DB : Hid (Blk W0 gD 95 #[.slice (some ⟨gp, 0, none⟩) n cap, iv (4 * (Wd : Int)), iv d1, iv d2, iv d3, iv d4]) := by
    have h := HD.out.blk.keep bW0
    rwa [show d3 - d1 = (Wd : Int) by have := HD.out.w3; omega] at h
  have SBk : Hid (Blk W0 gS 112 #[.slice (some ⟨gq, 0, none⟩) m scap, iv (4 * (Ws : Int)), iv s1, iv s2, iv s3, iv s4]) := by
    have h := HS.out.blk.keep bW0
    rwa [show s3 - s1 = (Ws : Int) by have := HS.out.w3; omega] at h
  have HL : Wd ≤ 128 ∧ H ≤ 128 ∧ Ws ≤ 128 ∧ Hs ≤ 128 := by
    have := HD.out.w3; have := HD.out.w4; have := HS.out.w3; have := HS.out.w4
    exact ⟨by omega, by omega, by omega, by omega⟩
  have SR := hid (HS.out.row.keep bW0)
  have HB := hid bW0
  clear bW0
  go_loopw [12, 13] (fun s12 s13 wr => ∃ r : Nat, ra ≤ r ∧ r ≤ re ∧ s12 = .int .i64 (r : Int) ∧ s13 = .int .i64 ((va + (r - ra) : Nat) : Int) ∧ Only [gp] W0 wr ∧ ∃ f', PixRow wr gp cap n f' ∧
    Painted Wd f nw (fun r' c' => inPart ca ra ce re r' c' ∧ r' < r) f') (fun s12 _ _ => re - (intOf s12).toNat)
  case atStart =>
    refine ⟨ra, by omega, by omega, rfl, by simp, ?_, f, HROW.out, Painted.start _ _ _ fun r c h => ?_⟩
    · repeat apply Only.drewN
      exact Only.refl _ _
    · have h' := h.1.1
      omega
  case round =>
    obtain ⟨r, hr1, hr2, rfl, rfl, hon, f', hrow, hpt⟩ := hrel
    by_cases hlt : r < re
    case neg =>
      obtain rfl : r = re := by omega
      go_wp2_with fail
      go_end0
      exact ⟨⟨_, rfl⟩, (Only.of_below HB.out).trans hon, f', hrow, hpt.congr fun r' c' _ => ⟨fun h => h.1, fun h => ⟨h, h.2.1⟩⟩⟩
    have k1 : ((r : Int) != (re : Int)) = true := by simp; omega
    have k0 : ((r : Int) == (re : Int)) = false := by simp; omega
    have HV : Hid (va + (r + 1 - ra) = va + (r - ra) + 1) := by show _ = _; omega
    have hvH : va + (r - ra) < Hs := by omega
    obtain ⟨v, hv⟩ : ∃ v, v = va + (r - ra) := ⟨_, rfl⟩
    rw [← hv] at hvH ⊢
    obtain ⟨pr, hpr⟩ : ∃ pr, pr = 4 * (r * Wd) := ⟨_, rfl⟩
    obtain ⟨qr, hqr⟩ : ∃ qr, qr = 4 * (v * Ws) := ⟨_, rfl⟩
    have hpn : pr + 4 * Wd ≤ n := by
      have h1 := Nat.mul_le_mul_right Wd (show r + 1 ≤ H by omega)
      rw [Nat.add_mul, Nat.one_mul] at h1
      have h2 := HD.out.len
      omega
    have hqm : qr + 4 * Ws ≤ m := by
      have h1 := Nat.mul_le_mul_right Ws (show v + 1 ≤ Hs by omega)
      rw [Nat.add_mul, Nat.one_mul] at h1
      have h2 := HS.out.len
      omega
    have hcap := HD.out.cap
    have hscap := HS.out.cap
    have e9 : IntKind.i64.wrap ((r : Int) * (4 * (Wd : Int))) = (pr : Int) := by
      have h1 := mul_in (a := (r : Int)) (b := (Wd : Int)) (A := 128) (B := 128) ⟨by omega, by omega⟩ ⟨by omega, by omega⟩
      have h2 : (r : Int) * (4 * (Wd : Int)) = 4 * ((r : Int) * (Wd : Int)) := Int.mul_left_comm ..
      rw [h2, IntWalk.i64_in _ (by omega), hpr]
      simp only [Int.natCast_mul]
      rfl
    have e10 : IntKind.i64.wrap ((v : Int) * (4 * (Ws : Int))) = (qr : Int) := by
      have h1 := mul_in (a := (v : Int)) (b := (Ws : Int)) (A := 128) (B := 128) ⟨by omega, by omega⟩ ⟨by omega, by omega⟩
      have h2 : (v : Int) * (4 * (Ws : Int)) = 4 * ((v : Int) * (Ws : Int)) := Int.mul_left_comm ..
      rw [h2, IntWalk.i64_in _ (by omega), hqr]
      simp only [Int.natCast_mul]
      rfl
    have hcp : ¬ cap = pr := by omega
    have hcq : ¬ scap = qr := by omega
    have HPR := hid hpr; have HQR := hid hqr; have HVV := hid hv
    have cD := (hon.blk DB.out (by simp [nD])).cells6
    have cS := (hon.blk SBk.out (by simp [nS])).cells6
    have HON := hid hon; have HROW' := hid hrow; have HPT := hid hpt
    clear hpr hqr hv hon hrow hpt
    go_wp2_with fail
    go_quiet (fail)
    go_wp2_with fail
    go_quiet (fail)
    go_wp2_with fail
    obtain ⟨wo, rfl⟩ : ∃ wo : World, wo = wr := ⟨_, rfl⟩
    clear cD cS
    go_loopw [16, 17] (fun s16 s17 wr => ∃ c : Nat, ca ≤ c ∧ c ≤ ce ∧ s16 = .int .i64 ((4 * c : Nat) : Int) ∧ s17 = .int .i64 ((4 * (ua + (c - ca)) : Nat) : Int) ∧ Only [gp] W0 wr ∧ ∃ f', PixRow wr gp cap n f' ∧
      Painted Wd f nw (fun r' c' => inPart ca ra ce re r' c' ∧ (r' < r ∨ (r' = r ∧ c' < c))) f') (fun s16 _ _ => 4 * ce - (intOf s16).toNat)
    case atStart =>
      refine ⟨ca, by omega, by omega, by simp, by simp, ?_, f', HROW'.out, HPT.out.congr fun r' c' _ => ⟨fun h => ⟨h.1, Or.inl h.2⟩, fun h => ⟨h.1, ?_⟩⟩⟩
      · repeat apply Only.drewN
        exact HON.out
      · obtain ⟨⟨h1, h2, h3, h4⟩, h5⟩ := h
        omega
    case round =>
      clear HON HROW' HPT
      obtain ⟨c, hc1, hc2, rfl, rfl, hon, f', hrow, hpt⟩ := hrel
      by_cases hlc : c < ce
      case neg =>
        obtain rfl : c = ce := by omega
        go_wp2_with fail
        refine ⟨⟨r + 1, by omega, by omega, ?_, ?_, hon, f', hrow, hpt.congr fun r' c' _ => ⟨fun h => ⟨h.1, ?_⟩, fun h => ⟨h.1, ?_⟩⟩⟩, ?_⟩
        · congr 1
        · rw [HV.out, ← HVV.out]; congr 1
        · obtain ⟨⟨h1, h2, h3, h4⟩, h5⟩ := h
          omega
        · obtain ⟨⟨h1, h2, h3, h4⟩, h5⟩ := h
          omega
        · simp only [intOf]; omega
      have hk : ((4 * c : Nat) : Int) < ((4 * ce : Nat) : Int) := by omega
      have hk' : (4 * (c : Int)) < 4 * (ce : Int) := by omega
      obtain ⟨u, hu⟩ : ∃ u, u = ua + (c - ca) := ⟨_, rfl⟩
      have huW : u < Ws := by omega
      have HU : Hid (ua + (c + 1 - ca) = u + 1) := by show _ = _; omega
      rw [← hu]
      have HUU := hid hu
      have hin : ¬ (inPart ca ra ce re r c ∧ (r < r ∨ (r = r ∧ c < c))) := by omega
      have eP : pos Wd r c 0 = pr + 4 * c := by
        have := HPR.out
        unfold pos
        omega
      have hold : ∀ k, k < 4 → f' (pr + 4 * c + k) = f (pos Wd r c k) := fun k hk => by
        have h1 := (hpt r c k (by omega) hk).2 hin
        have h2 : pos Wd r c k = pr + 4 * c + k := by rw [← eP]; unfold pos; omega
        rw [← h2]; exact h1
      have hsp : 4 * ((va + (r - ra)) * Ws + (ua + (c - ca))) = qr + 4 * u := by
        rw [← HVV.out, ← hu]
        have := HQR.out
        omega
      have eN : Hid (nw r c = nsrcP (fun k => f (pos Wd r c k)) (fun j => fs (qr + 4 * u + j))) := by
        show _ = _
        rw [HNW.out]
        show nsrcP _ (fun j => fs (4 * ((va + (r - ra)) * Ws + (ua + (c - ca))) + j)) = _
        rw [hsp]
      have HEP := hid eP
      have sr := SR.out.of_block (hon.block gq SR.out.lt (by simp; exact Ne.symm hne))
      have p0c := sr.cell (j := qr + 4 * u) (by omega)
      have p1c := sr.cell (j := qr + 4 * u + 1) (by omega)
      have p2c := sr.cell (j := qr + 4 * u + 2) (by omega)
      have p3c := sr.cell (j := qr + 4 * u + 3) (by omega)
      have x0 := hrow.cell (j := pr + 4 * c) (by omega)
      have x1 := hrow.cell (j := pr + 4 * c + 1) (by omega)
      have x2 := hrow.cell (j := pr + 4 * c + 2) (by omega)
      have x3 := hrow.cell (j := pr + 4 * c + 3) (by omega)
      have z0 := hrow.frozen (pr + 4 * c)
      have z1 := hrow.frozen (pr + 4 * c + 1)
      have z2 := hrow.frozen (pr + 4 * c + 2)
      have z3 := hrow.frozen (pr + 4 * c + 3)
      have o0 := hold 0 (by omega)
      have o1 := hold 1 (by omega)
      have o2 := hold 2 (by omega)
      have o3 := hold 3 (by omega)
      rw [Nat.add_zero] at o0
      rw [o0] at x0
      rw [o1] at x1
      rw [o2] at x2
      rw [o3] at x3
      have tr0 := RF.out (pos Wd r c 0)
      have tr1 := RF.out (pos Wd r c 1)
      have tr2 := RF.out (pos Wd r c 2)
      have tr3 := RF.out (pos Wd r c 3)
      have pr0 := RS.out (qr + 4 * u)
      have pr1 := RS.out (qr + 4 * u + 1)
      have pr2 := RS.out (qr + 4 * u + 2)
      have pr3 := RS.out (qr + 4 * u + 3)
      obtain ⟨D, hDD⟩ : ∃ D : Nat → Int, D = fun k => f (pos Wd r c k) := ⟨_, rfl⟩
      obtain ⟨S, hSS⟩ : ∃ S : Nat → Int, S = fun j => fs (qr + 4 * u + j) := ⟨_, rfl⟩
      rw [← hDD, ← hSS] at eN
      obtain ⟨t0, ht0⟩ : ∃ t, t = f (pos Wd r c 0) := ⟨_, rfl⟩
      obtain ⟨t1, ht1⟩ : ∃ t, t = f (pos Wd r c 1) := ⟨_, rfl⟩
      obtain ⟨t2, ht2⟩ : ∃ t, t = f (pos Wd r c 2) := ⟨_, rfl⟩
      obtain ⟨t3, ht3⟩ : ∃ t, t = f (pos Wd r c 3) := ⟨_, rfl⟩
      obtain ⟨p0, hp0⟩ : ∃ t, t = fs (qr + 4 * u) := ⟨_, rfl⟩
      obtain ⟨p1, hp1⟩ : ∃ t, t = fs (qr + 4 * u + 1) := ⟨_, rfl⟩
      obtain ⟨p2, hp2⟩ : ∃ t, t = fs (qr + 4 * u + 2) := ⟨_, rfl⟩
      obtain ⟨p3, hp3⟩ : ∃ t, t = fs (qr + 4 * u + 3) := ⟨_, rfl⟩
      rw [← ht0] at x0 tr0
      rw [← ht1] at x1 tr1
      rw [← ht2] at x2 tr2
      rw [← ht3] at x3 tr3
      rw [← hp0] at p0c pr0
      rw [← hp1] at p1c pr1
      rw [← hp2] at p2c pr2
      rw [← hp3] at p3c pr3
      have HDS : Hid ((D 0 = t0 ∧ D 1 = t1 ∧ D 2 = t2 ∧ D 3 = t3) ∧ (S 0 = p0 ∧ S 1 = p1 ∧ S 2 = p2 ∧ S 3 = p3)) := by
        rw [hDD, hSS]
        exact ⟨⟨ht0.symm, ht1.symm, ht2.symm, ht3.symm⟩, ⟨hp0.symm, hp1.symm, hp2.symm, hp3.symm⟩⟩
      have e4c : IntKind.i64.wrap (4 * (c : Int) + 4) = ((4 * c + 4 : Nat) : Int) := by rw [IntWalk.i64_in _ (by omega)]; omega
      have e4u : IntKind.i64.wrap (4 * (u : Int) + 4) = ((4 * u + 4 : Nat) : Int) := by rw [IntWalk.i64_in _ (by omega)]; omega
      have HON := hid hon; have HROW' := hid hrow; have HPT := hid hpt
      clear hon hrow hpt hold hsp eP o0 o1 o2 o3 hDD hSS ht0 ht1 ht2 ht3 hp0 hp1 hp2 hp3 hu sr
      have y3 : IntKind.u32.wrap (p3 * 257) = p3 * 257 := IntWalk.u32_in _ (by omega)
      have m0 := mul_in pr0 (a := p0) (b := p3 * 257) (B := 65535) ⟨by omega, by omega⟩
      have m1 := mul_in pr1 (a := p1) (b := p3 * 257) (B := 65535) ⟨by omega, by omega⟩
      have m2 := mul_in pr2 (a := p2) (b := p3 * 257) (B := 65535) ⟨by omega, by omega⟩
      have y0 : IntKind.u32.wrap (p0 * (p3 * 257)) = p0 * (p3 * 257) := IntWalk.u32_in _ (by omega)
      have y1 : IntKind.u32.wrap (p1 * (p3 * 257)) = p1 * (p3 * 257) := IntWalk.u32_in _ (by omega)
      have y2 : IntKind.u32.wrap (p2 * (p3 * 257)) = p2 * (p3 * 257) := IntWalk.u32_in _ (by omega)
      go_wp2_with fail
      refine ⟨⟨c + 1, by omega, by omega, ?_, ?_, ?_, _, HROW'.out.quad (pr + 4 * c) _ _ _ _, HPT.out.step4 (r0 := r) (c0 := c) (by omega) HEP.out ?_ fun r' c' _ => ⟨fun h => ?_, fun h => ?_⟩⟩, ?_⟩
      · congr 1
      · rw [HU.out]; congr 1
      · exact (((HON.out.setCell (Or.inl (by simp)) _).setCell (Or.inl (by simp)) _).setCell (Or.inl (by simp)) _).setCell (Or.inl (by simp)) _
      · obtain ⟨⟨w0, w1, w2, w3⟩, q0, q1, q2, q3⟩ := HDS.out
        rw [eN.out]
        unfold nsrcP
        simp only [q0, q1, q2, q3]
        exact ⟨rfl, rfl, rfl, rfl⟩
      · rcases h with ⟨h1, h2⟩ | ⟨rfl, rfl⟩
        · exact ⟨h1, by omega⟩
        · exact ⟨⟨by omega, by omega, by omega, by omega⟩, by omega⟩
      · by_cases e : r' = r ∧ c' = c
        · exact Or.inr e
        · exact Or.inl ⟨h.1, by omega⟩
      · simp only [intOf]; omega
end Go.Proofs.Ytlnfcjaempojgaa
