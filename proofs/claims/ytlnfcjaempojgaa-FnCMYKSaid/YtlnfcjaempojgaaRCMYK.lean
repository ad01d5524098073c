/- Contract of drawCMYK. Written by mk_K.py. -/
import Derived.Test.YtlnfcjaempojgaaK1
import Derived.Test.YtlnfcjaempojgaaI2
set_option linter.unusedVariables false
namespace Go.Proofs.Ytlnfcjaempojgaa
open Go.RowKit

/-- A color of CMYK in eight bits. -/
def cm (c k : Int) : Int := (65535 - c * 257) * (65535 - k * 257) / 65535 / 256
/-- What CMYK makes of a pixel. -/
def cmykP (D S : Nat → Int) (k : Nat) : Int := if k = 3 then 255 else cm (S k) (S 3)
theorem cm_in {c k : Int} (hc : 0 ≤ c ∧ c ≤ 255) (hk : 0 ≤ k ∧ k ≤ 255) : 0 ≤ (65535 - c * 257) * (65535 - k * 257) ∧ (65535 - c * 257) * (65535 - k * 257) ≤ 4294836225 := by
  have := mul_in' (a := 65535 - c * 257) (b := 65535 - k * 257) (A := 65535) (B := 65535) ⟨by omega, by omega⟩ ⟨by omega, by omega⟩
  omega
theorem cmyk_any (c m y k : Int) (w : World) (hc : 0 ≤ c ∧ c ≤ 255) (hm : 0 ≤ m ∧ m ≤ 255) (hy : 0 ≤ y ∧ y ≤ 255) (hk : 0 ≤ k ∧ k ≤ 255) :
    Calls Try.prog 102 #[.int .u8 c, .int .u8 m, .int .u8 y, .int .u8 k] w fun e w' => e = .returned (.tuple #[.int .u8 (cm c k), .int .u8 (cm m k), .int .u8 (cm y k)]) ∧ Below w.heap.size w w' := by
  unfold cm
  have m0 := cm_in hc hk
  have m1 := cm_in hm hk
  have m2 := cm_in hy hk
  have a0 : IntKind.u32.wrap (c * 257) = c * 257 := IntWalk.u32_in _ (by omega)
  have a1 : IntKind.u32.wrap (m * 257) = m * 257 := IntWalk.u32_in _ (by omega)
  have a2 : IntKind.u32.wrap (y * 257) = y * 257 := IntWalk.u32_in _ (by omega)
  have a3 : IntKind.u32.wrap (k * 257) = k * 257 := IntWalk.u32_in _ (by omega)
  have b0 : IntKind.u32.wrap (65535 - c * 257) = 65535 - c * 257 := IntWalk.u32_in _ (by omega)
  have b1 : IntKind.u32.wrap (65535 - m * 257) = 65535 - m * 257 := IntWalk.u32_in _ (by omega)
  have b2 : IntKind.u32.wrap (65535 - y * 257) = 65535 - y * 257 := IntWalk.u32_in _ (by omega)
  have b3 : IntKind.u32.wrap (65535 - k * 257) = 65535 - k * 257 := IntWalk.u32_in _ (by omega)
  have y0 : IntKind.u32.wrap ((65535 - c * 257) * (65535 - k * 257)) = (65535 - c * 257) * (65535 - k * 257) := IntWalk.u32_in _ (by omega)
  have y1 : IntKind.u32.wrap ((65535 - m * 257) * (65535 - k * 257)) = (65535 - m * 257) * (65535 - k * 257) := IntWalk.u32_in _ (by omega)
  have y2 : IntKind.u32.wrap ((65535 - y * 257) * (65535 - k * 257)) = (65535 - y * 257) * (65535 - k * 257) := IntWalk.u32_in _ (by omega)
  go_enter Try.func102, Try.ntmps102
  go_wp2
  refine bodyPost_ret (v := .tuple #[.int .u8 ((65535 - c * 257) * (65535 - k * 257) / 65535 / 256), .int .u8 ((65535 - m * 257) * (65535 - k * 257) / 65535 / 256), .int .u8 ((65535 - y * 257) * (65535 - k * 257) / 65535 / 256)]) (by simp [results, Try.results102, go_sem]) rfl ⟨rfl, ?_⟩
  (repeat' (first | (with_reducible exact Below.refl _ _) | (with_reducible assumption) | (with_reducible refine drewN_below ?_ _) | (with_reducible refine Below.drew ?_) | (with_reducible refine Below.alloc ?_ ?_ _) | (with_reducible refine Below.setCell ?_ ?_ _) | (with_reducible refine below_via (by with_reducible assumption) ?_ ?_) | go_size))

set_option maxRecDepth 20000 in
set_option maxHeartbeats 4000000 in
theorem drawCMYK_any (gD gp cap n : Nat) (d1 d2 d3 d4 : Int) (Wd H : Nat) (f : Nat → Int) (gS gq scap m : Nat) (s1 s2 s3 s4 : Int) (Ws Hs : Nat) (fs : Nat → Int) (ca ra ce re ua va : Nat) (w : World)
    (hD : DstAt w gD gp cap n d1 d2 d3 d4 Wd H f) (hS : SrcAt 117 4 w gS gq scap m (4 * (s3 - s1)) s1 s2 s3 s4 Ws Hs fs) (hne : gp ≠ gq) (h0 : ca < ce ∧ ra < re) (h1 : ce ≤ Wd) (h2 : re ≤ H) (h3 : ua + (ce - ca) ≤ Ws) (h4 : va + (re - ra) ≤ Hs)
    (rf : ∀ j, 0 ≤ f j ∧ f j ≤ 255) (rs : ∀ j, 0 ≤ fs j ∧ fs j ≤ 255) :
    Calls Try.prog 74 #[.pointer (some ⟨gD, 0, none⟩), rcV ⟨d1 + ca, d2 + ra, d1 + ce, d2 + re⟩, .pointer (some ⟨gS, 0, none⟩), ptV (s1 + ua) (s2 + va)] w fun e w' =>
      (∃ v, e = .returned v) ∧ Only [gp] w w' ∧ ∃ f', PixRow w' gp cap n f' ∧ Painted Wd f (fun r c => cmykP (fun k => f (pos Wd r c k)) (fun j => fs (4 * ((va + (r - ra)) * Ws + (ua + (c - ca))) + j))) (inPart ca ra ce re) f' := by
  have HD := hid hD; have HS := hid hS; have RF := hid rf; have RS := hid rs
  obtain ⟨nw, hnw⟩ : ∃ nw : Nat → Nat → Nat → Int, nw = fun r c => cmykP (fun k => f (pos Wd r c k)) (fun j => fs (4 * ((va + (r - ra)) * Ws + (ua + (c - ca))) + j)) := ⟨_, rfl⟩
  rw [← hnw]
  have HNW := hid hnw
  clear hD hS hnw rf rs
  go_enter Try.func74, Try.ntmps74
  go_wp2_with fail
  obtain ⟨W0, hW0⟩ : ∃ W : World, W = ((w.alloc (.cells #[iv (d1 + ca), iv (d2 + ra), iv (d1 + ce), iv (d2 + re)] 73)).alloc (.cells #[iv (s1 + ua), iv (s2 + va)] 71)) := ⟨_, rfl⟩
  rw [← hW0]
  have B0 : Hid (Blk W0 (w.heap.size) 73 #[iv (d1 + ca), iv (d2 + ra), iv (d1 + ce), iv (d2 + re)]) := by rw [hW0]; exact Blk.alloc (Blk.new_at (W := w) (t := 73) (cs := #[iv (d1 + ca), iv (d2 + ra), iv (d1 + ce), iv (d2 + re)]) (by simp)) _
  have B1 : Hid (Blk W0 (w.heap.size + 1) 71 #[iv (s1 + ua), iv (s2 + va)]) := by rw [hW0]; exact Blk.new_at (W := (w.alloc (.cells #[iv (d1 + ca), iv (d2 + ra), iv (d1 + ce), iv (d2 + re)] 73))) (t := 71) (cs := #[iv (s1 + ua), iv (s2 + va)]) (by simp)
  have bW0 : Below w.heap.size w W0 := by rw [hW0]; go_grown
  have sW0 : W0.heap.size = w.heap.size + 2 := by rw [hW0]; simp
  have SW0 := hid sW0
  have zW0 : w.heap.size + 2 ≤ W0.heap.size := by omega
  clear sW0 hW0
  have cB := B0.out.cells4.1
  have cP := B1.out.cells2.1
  have lB := B0.out.lt
  have lP := B1.out.lt
  have cD := (HD.out.blk.keep bW0).cells6
  have cS := (HS.out.blk.keep bW0).cells6
  have bb := HD.out.b1
  have bc := HD.out.b2
  have sb := HS.out.b1
  have scc := HS.out.b2
  have w3 := HD.out.w3
  have w4 := HD.out.w4
  have v3 := HS.out.w3
  have v4 := HS.out.w4
  have e1 : IntKind.i64.wrap (d1 + (ca : Int) - d1) = ((ca : Nat) : Int) := by rw [IntWalk.i64_in _ (by omega)]; omega
  have e1' : IntKind.i64.wrap (ca : Int) = ((ca : Nat) : Int) := IntWalk.i64_in _ (by omega)
  have e2 : IntKind.i64.wrap ((ca : Int) * 4) = ((4 * ca : Nat) : Int) := by rw [IntWalk.i64_in _ (by omega)]; omega
  have e3 : IntKind.i64.wrap (d1 + (ce : Int) - d1) = ((ce : Nat) : Int) := by rw [IntWalk.i64_in _ (by omega)]; omega
  have e3' : IntKind.i64.wrap (ce : Int) = ((ce : Nat) : Int) := IntWalk.i64_in _ (by omega)
  have e4 : IntKind.i64.wrap ((ce : Int) * 4) = ((4 * ce : Nat) : Int) := by rw [IntWalk.i64_in _ (by omega)]; omega
  have e5 : IntKind.i64.wrap (s1 + (ua : Int) - s1) = ((ua : Nat) : Int) := by rw [IntWalk.i64_in _ (by omega)]; omega
  have e5' : IntKind.i64.wrap (ua : Int) = ((ua : Nat) : Int) := IntWalk.i64_in _ (by omega)
  have e5s : IntKind.i64.wrap ((ua : Int) * 4) = ((4 * ua : Nat) : Int) := by rw [IntWalk.i64_in _ (by omega)]; omega
  have e6 : IntKind.i64.wrap (d2 + (ra : Int) - d2) = ((ra : Nat) : Int) := by rw [IntWalk.i64_in _ (by omega)]; omega
  have e6' : IntKind.i64.wrap (ra : Int) = ((ra : Nat) : Int) := IntWalk.i64_in _ (by omega)
  have e7 : IntKind.i64.wrap (d2 + (re : Int) - d2) = ((re : Nat) : Int) := by rw [IntWalk.i64_in _ (by omega)]; omega
  have e7' : IntKind.i64.wrap (re : Int) = ((re : Nat) : Int) := IntWalk.i64_in _ (by omega)
  have e8 : IntKind.i64.wrap (s2 + (va : Int) - s2) = ((va : Nat) : Int) := by rw [IntWalk.i64_in _ (by omega)]; omega
  have e8' : IntKind.i64.wrap (va : Int) = ((va : Nat) : Int) := IntWalk.i64_in _ (by omega)
  clear w3 w4 v3 v4
  go_quiet (fail)
  go_wp2_with fail
  go_quiet (fail)
  go_wp2_with fail
  go_quiet (fail)
  go_wp2_with fail
  go_quiet (fail)
  go_wp2_with fail
  go_quiet (fail)
  go_wp2_with fail
  go_quiet (fail)
  go_wp2_with fail
  clear cB cP lB lP cD cS B0 B1 e1 e1' e2 e3 e3' e4 e5 e5' e5s e6 e6' e7 e7' e8 e8'
  have HROW := hid (HD.out.row.keep bW0)
  have nD : gD ≠ gp := fun h => by
    obtain ⟨cur, hc, _⟩ := HD.out.row
    have := HD.out.blk
    rw [h] at this
    rw [this] at hc
    simp at hc
  have nS : gS ≠ gp := fun h => by
    obtain ⟨cur, hc, _⟩ := HD.out.row
    have := HS.out.blk
    rw [h] at this
    rw [this] at hc
    simp at hc
  have DB : Hid (Blk W0 gD 95 #[.slice (some ⟨gp, 0, none⟩) n cap, iv (4 * (Wd : Int)), iv d1, iv d2, iv d3, iv d4]) := by
    have h := HD.out.blk.keep bW0
    rwa [show d3 - d1 = (Wd : Int) by have := HD.out.w3; omega] at h
  have SBk : Hid (Blk W0 gS 117 #[.slice (some ⟨gq, 0, none⟩) m scap, iv (4 * (Ws : Int)), iv s1, iv s2, iv s3, iv s4]) := by
    have h := HS.out.blk.keep bW0
    rwa [show s3 - s1 = (Ws : Int) by have := HS.out.w3; omega] at h
  have HL : Wd ≤ 128 ∧ H ≤ 128 ∧ Ws ≤ 128 ∧ Hs ≤ 128 := by
    have := HD.out.w3; have := HD.out.w4; have := HS.out.w3; have := HS.out.w4
    exact ⟨by omega, by omega, by omega, by omega⟩
  have SR := hid (HS.out.row.keep bW0)
  have HB := hid bW0
  clear bW0
  go_loopw [12, 13] (fun s12 s13 wr => ∃ r : Nat, ra ≤ r ∧ r ≤ re ∧ s12 = .int .i64 (r : Int) ∧ s13 = .int .i64 ((va + (r - ra) : Nat) : Int) ∧ Only [gp] W0 wr ∧ ∃ f', PixRow wr gp cap n f' ∧
    Painted Wd f nw (fun r' c' => inPart ca ra ce re r' c' ∧ r' < r) f') (fun s12 _ _ => re - (intOf s12).toNat)
  case atStart =>
    refine ⟨ra, by omega, by omega, rfl, by simp, ?_, f, HROW.out, Painted.start _ _ _ fun r c h => ?_⟩
    · repeat apply Only.drewN
      exact Only.refl _ _
    · have h' := h.1.1
      omega
  case round =>
    obtain ⟨r, hr1, hr2, rfl, rfl, hon, f', hrow, hpt⟩ := hrel
    by_cases hlt : r < re
    case neg =>
      obtain rfl : r = re := by omega
      go_wp2_with fail
      go_end0
      exact ⟨⟨_, rfl⟩, (Only.of_below HB.out).trans hon, f', hrow, hpt.congr fun r' c' _ => ⟨fun h => h.1, fun h => ⟨h, h.2.1⟩⟩⟩
    have k1 : ((r : Int) != (re : Int)) = true := by simp; omega
    have k0 : ((r : Int) == (re : Int)) = false := by simp; omega
    have HV : Hid (va + (r + 1 - ra) = va + (r - ra) + 1) := by show _ = _; omega
    have hvH : va + (r - ra) < Hs := by omega
    obtain ⟨v, hv⟩ : ∃ v, v = va + (r - ra) := ⟨_, rfl⟩
    rw [← hv] at hvH ⊢
    obtain ⟨pr, hpr⟩ : ∃ pr, pr = 4 * (r * Wd) := ⟨_, rfl⟩
    obtain ⟨qr, hqr⟩ : ∃ qr, qr = 4 * (v * Ws) := ⟨_, rfl⟩
    have hpn : pr + 4 * Wd ≤ n := by
      have h1 := Nat.mul_le_mul_right Wd (show r + 1 ≤ H by omega)
      rw [Nat.add_mul, Nat.one_mul] at h1
      have h2 := HD.out.len
      omega
    have hqm : qr + 4 * Ws ≤ m := by
      have h1 := Nat.mul_le_mul_right Ws (show v + 1 ≤ Hs by omega)
      rw [Nat.add_mul, Nat.one_mul] at h1
      have h2 := HS.out.len
      omega
    have hcap := HD.out.cap
    have hscap := HS.out.cap
    have e9 : IntKind.i64.wrap ((r : Int) * (4 * (Wd : Int))) = (pr : Int) := by
      have h1 := mul_in (a := (r : Int)) (b := (Wd : Int)) (A := 128) (B := 128) ⟨by omega, by omega⟩ ⟨by omega, by omega⟩
      have h2 : (r : Int) * (4 * (Wd : Int)) = 4 * ((r : Int) * (Wd : Int)) := Int.mul_left_comm ..
      rw [h2, IntWalk.i64_in _ (by omega), hpr]
      simp only [Int.natCast_mul]
      rfl
    have e10 : IntKind.i64.wrap ((v : Int) * (4 * (Ws : Int))) = (qr : Int) := by
      have h1 := mul_in (a := (v : Int)) (b := (Ws : Int)) (A := 128) (B := 128) ⟨by omega, by omega⟩ ⟨by omega, by omega⟩
      have h2 : (v : Int) * (4 * (Ws : Int)) = 4 * ((v : Int) * (Ws : Int)) := Int.mul_left_comm ..
      rw [h2, IntWalk.i64_in _ (by omega), hqr]
      simp only [Int.natCast_mul]
      rfl
    have hcp : ¬ cap = pr := by omega
    have hcq : ¬ scap = qr := by omega
    have HPR := hid hpr; have HQR := hid hqr; have HVV := hid hv
    have cD := (hon.blk DB.out (by simp [nD])).cells6
    have cS := (hon.blk SBk.out (by simp [nS])).cells6
    have HON := hid hon; have HROW' := hid hrow; have HPT := hid hpt
    clear hpr hqr hv hon hrow hpt
    go_wp2_with fail
    go_quiet (fail)
    go_wp2_with fail
    go_quiet (fail)
    go_wp2_with fail
    obtain ⟨wo, rfl⟩ : ∃ wo : World, wo = wr := ⟨_, rfl⟩
    clear cD cS
    go_loopw [16, 17] (fun s16 s17 wr => ∃ c : Nat, ca ≤ c ∧ c ≤ ce ∧ s16 = .int .i64 ((4 * c : Nat) : Int) ∧ s17 = .int .i64 ((4 * (ua + (c - ca)) : Nat) : Int) ∧ Only [gp] W0 wr ∧ ∃ f', PixRow wr gp cap n f' ∧
      Painted Wd f nw (fun r' c' => inPart ca ra ce re r' c' ∧ (r' < r ∨ (r' = r ∧ c' < c))) f') (fun s16 _ _ => 4 * ce - (intOf s16).toNat)
    case atStart =>
      refine ⟨ca, by omega, by omega, by simp, by simp, ?_, f', HROW'.out, HPT.out.congr fun r' c' _ => ⟨fun h => ⟨h.1, Or.inl h.2⟩, fun h => ⟨h.1, ?_⟩⟩⟩
      · repeat apply Only.drewN
        exact HON.out
      · obtain ⟨⟨h1, h2, h3, h4⟩, h5⟩ := h
        omega
    case round =>
      clear HON HROW' HPT
      obtain ⟨c, hc1, hc2, rfl, rfl, hon, f', hrow, hpt⟩ := hrel
      by_cases hlc : c < ce
      case neg =>
        obtain rfl : c = ce := by omega
        go_wp2_with fail
        refine ⟨⟨r + 1, by omega, by omega, ?_, ?_, hon, f', hrow, hpt.congr fun r' c' _ => ⟨fun h => ⟨h.1, ?_⟩, fun h => ⟨h.1, ?_⟩⟩⟩, ?_⟩
        · congr 1
        · rw [HV.out, ← HVV.out]; congr 1
        · obtain ⟨⟨h1, h2, h3, h4⟩, h5⟩ := h
          omega
        · obtain ⟨⟨h1, h2, h3, h4⟩, h5⟩ := h
          omega
        · simp only [intOf]; omega
      have hk : ((4 * c : Nat) : Int) < ((4 * ce : Nat) : Int) := by omega
      have hk' : (4 * (c : Int)) < 4 * (ce : Int) := by omega
      obtain ⟨u, hu⟩ : ∃ u, u = ua + (c - ca) := ⟨_, rfl⟩
      have huW : u < Ws := by omega
      have HU : Hid (ua + (c + 1 - ca) = u + 1) := by show _ = _; omega
      rw [← hu]
      have HUU := hid hu
      have hin : ¬ (inPart ca ra ce re r c ∧ (r < r ∨ (r = r ∧ c < c))) := by omega
      have eP : pos Wd r c 0 = pr + 4 * c := by
        have := HPR.out
        unfold pos
        omega
      have hold : ∀ k, k < 4 → f' (pr + 4 * c + k) = f (pos Wd r c k) := fun k hk => by
        have h1 := (hpt r c k (by omega) hk).2 hin
        have h2 : pos Wd r c k = pr + 4 * c + k := by rw [← eP]; unfold pos; omega
        rw [← h2]; exact h1
      have hsp : 4 * ((va + (r - ra)) * Ws + (ua + (c - ca))) = qr + 4 * u := by
        rw [← HVV.out, ← hu]
        have := HQR.out
        omega
      have eN : Hid (nw r c = cmykP (fun k => f (pos Wd r c k)) (fun j => fs (qr + 4 * u + j))) := by
        show _ = _
        rw [HNW.out]
        show cmykP _ (fun j => fs (4 * ((va + (r - ra)) * Ws + (ua + (c - ca))) + j)) = _
        rw [hsp]
      have HEP := hid eP
      have sr := SR.out.of_block (hon.block gq SR.out.lt (by simp; exact Ne.symm hne))
      have p0c := sr.cell (j := qr + 4 * u) (by omega)
      have p1c := sr.cell (j := qr + 4 * u + 1) (by omega)
      have p2c := sr.cell (j := qr + 4 * u + 2) (by omega)
      have p3c := sr.cell (j := qr + 4 * u + 3) (by omega)
      have x0 := hrow.cell (j := pr + 4 * c) (by omega)
      have x1 := hrow.cell (j := pr + 4 * c + 1) (by omega)
      have x2 := hrow.cell (j := pr + 4 * c + 2) (by omega)
      have x3 := hrow.cell (j := pr + 4 * c + 3) (by omega)
      have z0 := hrow.frozen (pr + 4 * c)
      have z1 := hrow.frozen (pr + 4 * c + 1)
      have z2 := hrow.frozen (pr + 4 * c + 2)
      have z3 := hrow.frozen (pr + 4 * c + 3)
      have o0 := hold 0 (by omega)
      have o1 := hold 1 (by omega)
      have o2 := hold 2 (by omega)
      have o3 := hold 3 (by omega)
      rw [Nat.add_zero] at o0
      rw [o0] at x0
      rw [o1] at x1
      rw [o2] at x2
      rw [o3] at x3
      have tr0 := RF.out (pos Wd r c 0)
      have tr1 := RF.out (pos Wd r c 1)
      have tr2 := RF.out (pos Wd r c 2)
      have tr3 := RF.out (pos Wd r c 3)
      have pr0 := RS.out (qr + 4 * u)
      have pr1 := RS.out (qr + 4 * u + 1)
      have pr2 := RS.out (qr + 4 * u + 2)
      have pr3 := RS.out (qr + 4 * u + 3)
      obtain ⟨D, hDD⟩ : ∃ D : Nat → Int, D = fun k => f (pos Wd r c k) := ⟨_, rfl⟩
      obtain ⟨S, hSS⟩ : ∃ S : Nat → Int, S = fun j => fs (qr + 4 * u + j) := ⟨_, rfl⟩
      rw [← hDD, ← hSS] at eN
      obtain ⟨t0, ht0⟩ : ∃ t, t = f (pos Wd r c 0) := ⟨_, rfl⟩
      obtain ⟨t1, ht1⟩ : ∃ t, t = f (pos Wd r c 1) := ⟨_, rfl⟩
      obtain ⟨t2, ht2⟩ : ∃ t, t = f (pos Wd r c 2) := ⟨_, rfl⟩
      obtain ⟨t3, ht3⟩ : ∃ t, t = f (pos Wd r c 3) := ⟨_, rfl⟩
      obtain ⟨bt0, hp0⟩ : ∃ t, t = fs (qr + 4 * u) := ⟨_, rfl⟩
      obtain ⟨bt1, hp1⟩ : ∃ t, t = fs (qr + 4 * u + 1) := ⟨_, rfl⟩
      obtain ⟨bt2, hp2⟩ : ∃ t, t = fs (qr + 4 * u + 2) := ⟨_, rfl⟩
      obtain ⟨bt3, hp3⟩ : ∃ t, t = fs (qr + 4 * u + 3) := ⟨_, rfl⟩
      rw [← ht0] at x0 tr0
      rw [← ht1] at x1 tr1
      rw [← ht2] at x2 tr2
      rw [← ht3] at x3 tr3
      rw [← hp0] at p0c pr0
      rw [← hp1] at p1c pr1
      rw [← hp2] at p2c pr2
      rw [← hp3] at p3c pr3
      have HDS : Hid ((D 0 = t0 ∧ D 1 = t1 ∧ D 2 = t2 ∧ D 3 = t3) ∧ (S 0 = bt0 ∧ S 1 = bt1 ∧ S 2 = bt2 ∧ S 3 = bt3)) := by
        rw [hDD, hSS]
        exact ⟨⟨ht0.symm, ht1.symm, ht2.symm, ht3.symm⟩, ⟨hp0.symm, hp1.symm, hp2.symm, hp3.symm⟩⟩
      have e4c : IntKind.i64.wrap (4 * (c : Int) + 4) = ((4 * c + 4 : Nat) : Int) := by rw [IntWalk.i64_in _ (by omega)]; omega
      have e4u : IntKind.i64.wrap (4 * (u : Int) + 4) = ((4 * u + 4 : Nat) : Int) := by rw [IntWalk.i64_in _ (by omega)]; omega
      have HON := hid hon; have HROW' := hid hrow; have HPT := hid hpt
      clear hon hrow hpt hold hsp eP o0 o1 o2 o3 hDD hSS ht0 ht1 ht2 ht3 hp0 hp1 hp2 hp3 hu
      have zi : W0.heap.size ≤ wr.heap.size := HON.out.size
      have lq := sr.lt
      have PC0 := hid p0c; have PC1 := hid p1c; have PC2 := hid p2c; have PC3 := hid p3c
      have CAL := hid (fun W => cmyk_any bt0 bt1 bt2 bt3 W pr0 pr1 pr2 pr3)
      clear sr
      go_wp2_with fail
      clear p0c p1c p2c p3c x0 x1 x2 x3 z0 z1 z2 z3 tr0 tr1 tr2 tr3 e9 e10 k1 k0
      refine Plan.wp_region_steps 20 [1, 2, 18, 19] [.slice (some ⟨gp, pr + 4 * c, none⟩) 4 4, .slice (some ⟨gp, pr + 4 * c, none⟩) 4 4, .slice (some ⟨gp, pr + 4 * c, none⟩) 4 4, .slice (some ⟨gq, qr + 4 * u, none⟩) 4 4, .pointer (some ⟨gq, qr + 4 * u, none⟩), .int .u8 bt0, .slice (some ⟨gq, qr + 4 * u, none⟩) 4 4, .pointer (some ⟨gq, qr + 4 * u + 1, none⟩), .int .u8 bt1, .slice (some ⟨gq, qr + 4 * u, none⟩) 4 4, .pointer (some ⟨gq, qr + 4 * u + 2, none⟩), .int .u8 bt2, .slice (some ⟨gq, qr + 4 * u, none⟩) 4 4, .pointer (some ⟨gq, qr + 4 * u + 3, none⟩), .int .u8 bt3, .tuple #[.int .u8 (cm bt0 bt3), .int .u8 (cm bt1 bt3), .int .u8 (cm bt2 bt3)], .tuple #[.int .u8 (cm bt0 bt3), .int .u8 (cm bt1 bt3), .int .u8 (cm bt2 bt3)], .int .u8 (cm bt0 bt3), .int .u8 (cm bt1 bt3), .int .u8 (cm bt2 bt3)] [] (by kernel_rfl) (by kernel_rfl) (fun _ _ _ _ _ h => h) ?_ ?_
      · refine ⟨?_, ?_, ?_, ?_, ?_, ?_, ?_, ?_, ?_, ?_, ?_, ?_, ?_, ?_, ?_, ?_, ?_, ?_, ?_, ?_, trivial⟩
        · -- 0: Op.move (Operand.tmp 19)
          intro a W hold hdep hb
          have e19 : a.tmps[19]?.getD undef = .slice (some ⟨gp, pr + 4 * c, none⟩) 4 4 := Plan.ev (hold 19 (by kernel_rfl))
          clear hold hdep
          exact Plan.step_const rfl rfl (by go_simp <;> exact IntWalk.i64_in _ (by omega))
        · -- 1: Op.move (Operand.tmp 19)
          intro a W hold hdep hb
          have e19 : a.tmps[19]?.getD undef = .slice (some ⟨gp, pr + 4 * c, none⟩) 4 4 := Plan.ev (hold 19 (by kernel_rfl))
          clear hold hdep
          exact Plan.step_eager rfl rfl (fun _ => by go_simp)
        · -- 2: Op.move (Operand.tmp 19)
          intro a W hold hdep hb
          have e19 : a.tmps[19]?.getD undef = .slice (some ⟨gp, pr + 4 * c, none⟩) 4 4 := Plan.ev (hold 19 (by kernel_rfl))
          clear hold hdep
          exact Plan.step_eager rfl rfl (fun _ => by go_simp)
        · -- 3: Op.move (Operand.tmp 18)
          intro a W hold hdep hb
          have e18 : a.tmps[18]?.getD undef = .slice (some ⟨gq, qr + 4 * u, none⟩) 4 4 := Plan.ev (hold 18 (by kernel_rfl))
          clear hold hdep
          exact Plan.step_const rfl rfl (by go_simp <;> exact IntWalk.i64_in _ (by omega))
        · -- 4: Op.indexAddr 22 (Operand.tmp 137) (Operand.const (Value.int IntKind.i6
          intro a W hold hdep hb
          have e137 : a.tmps[137]?.getD undef = .slice (some ⟨gq, qr + 4 * u, none⟩) 4 4 := Plan.ev (Plan.dep_const (by rfl) (hdep 3 (by kernel_rfl)))
          clear hold hdep
          exact Plan.step_const rfl rfl (by go_simp <;> exact IntWalk.i64_in _ (by omega))
        · -- 5: Op.load 5 (Operand.tmp 138)
          intro a W hold hdep hb
          have e138 : a.tmps[138]?.getD undef = .pointer (some ⟨gq, qr + 4 * u, none⟩) := Plan.ev (Plan.dep_const (by rfl) (hdep 4 (by kernel_rfl)))
          have CC := (hb.cell (p := ⟨gq, qr + 4 * u, none⟩) lq).trans PC0.out
          clear hold hdep
          exact Plan.step_const rfl rfl (by go_simp <;> exact IntWalk.i64_in _ (by omega))
        · -- 6: Op.move (Operand.tmp 18)
          intro a W hold hdep hb
          have e18 : a.tmps[18]?.getD undef = .slice (some ⟨gq, qr + 4 * u, none⟩) 4 4 := Plan.ev (hold 18 (by kernel_rfl))
          clear hold hdep
          exact Plan.step_const rfl rfl (by go_simp <;> exact IntWalk.i64_in _ (by omega))
        · -- 7: Op.indexAddr 22 (Operand.tmp 140) (Operand.const (Value.int IntKind.i6
          intro a W hold hdep hb
          have e140 : a.tmps[140]?.getD undef = .slice (some ⟨gq, qr + 4 * u, none⟩) 4 4 := Plan.ev (Plan.dep_const (by rfl) (hdep 6 (by kernel_rfl)))
          clear hold hdep
          exact Plan.step_const rfl rfl (by go_simp <;> exact IntWalk.i64_in _ (by omega))
        · -- 8: Op.load 5 (Operand.tmp 141)
          intro a W hold hdep hb
          have e141 : a.tmps[141]?.getD undef = .pointer (some ⟨gq, qr + 4 * u + 1, none⟩) := Plan.ev (Plan.dep_const (by rfl) (hdep 7 (by kernel_rfl)))
          have CC := (hb.cell (p := ⟨gq, qr + 4 * u + 1, none⟩) lq).trans PC1.out
          clear hold hdep
          exact Plan.step_const rfl rfl (by go_simp <;> exact IntWalk.i64_in _ (by omega))
        · -- 9: Op.move (Operand.tmp 18)
          intro a W hold hdep hb
          have e18 : a.tmps[18]?.getD undef = .slice (some ⟨gq, qr + 4 * u, none⟩) 4 4 := Plan.ev (hold 18 (by kernel_rfl))
          clear hold hdep
          exact Plan.step_const rfl rfl (by go_simp <;> exact IntWalk.i64_in _ (by omega))
        · -- 10: Op.indexAddr 22 (Operand.tmp 143) (Operand.const (Value.int IntKind.i6
          intro a W hold hdep hb
          have e143 : a.tmps[143]?.getD undef = .slice (some ⟨gq, qr + 4 * u, none⟩) 4 4 := Plan.ev (Plan.dep_const (by rfl) (hdep 9 (by kernel_rfl)))
          clear hold hdep
          exact Plan.step_const rfl rfl (by go_simp <;> exact IntWalk.i64_in _ (by omega))
        · -- 11: Op.load 5 (Operand.tmp 144)
          intro a W hold hdep hb
          have e144 : a.tmps[144]?.getD undef = .pointer (some ⟨gq, qr + 4 * u + 2, none⟩) := Plan.ev (Plan.dep_const (by rfl) (hdep 10 (by kernel_rfl)))
          have CC := (hb.cell (p := ⟨gq, qr + 4 * u + 2, none⟩) lq).trans PC2.out
          clear hold hdep
          exact Plan.step_const rfl rfl (by go_simp <;> exact IntWalk.i64_in _ (by omega))
        · -- 12: Op.move (Operand.tmp 18)
          intro a W hold hdep hb
          have e18 : a.tmps[18]?.getD undef = .slice (some ⟨gq, qr + 4 * u, none⟩) 4 4 := Plan.ev (hold 18 (by kernel_rfl))
          clear hold hdep
          exact Plan.step_const rfl rfl (by go_simp <;> exact IntWalk.i64_in _ (by omega))
        · -- 13: Op.indexAddr 22 (Operand.tmp 146) (Operand.const (Value.int IntKind.i6
          intro a W hold hdep hb
          have e146 : a.tmps[146]?.getD undef = .slice (some ⟨gq, qr + 4 * u, none⟩) 4 4 := Plan.ev (Plan.dep_const (by rfl) (hdep 12 (by kernel_rfl)))
          clear hold hdep
          exact Plan.step_const rfl rfl (by go_simp <;> exact IntWalk.i64_in _ (by omega))
        · -- 14: Op.load 5 (Operand.tmp 147)
          intro a W hold hdep hb
          have e147 : a.tmps[147]?.getD undef = .pointer (some ⟨gq, qr + 4 * u + 3, none⟩) := Plan.ev (Plan.dep_const (by rfl) (hdep 13 (by kernel_rfl)))
          have CC := (hb.cell (p := ⟨gq, qr + 4 * u + 3, none⟩) lq).trans PC3.out
          clear hold hdep
          exact Plan.step_const rfl rfl (by go_simp <;> exact IntWalk.i64_in _ (by omega))
        · -- 15: Op.call { callee := Callee.value (Operand.func 102), args := #[Operand
          intro a W hold hdep hb
          have e139 : a.tmps[139]?.getD undef = .int .u8 bt0 := Plan.ev (Plan.dep_const (by rfl) (hdep 5 (by kernel_rfl)))
          have e142 : a.tmps[142]?.getD undef = .int .u8 bt1 := Plan.ev (Plan.dep_const (by rfl) (hdep 8 (by kernel_rfl)))
          have e145 : a.tmps[145]?.getD undef = .int .u8 bt2 := Plan.ev (Plan.dep_const (by rfl) (hdep 11 (by kernel_rfl)))
          have e148 : a.tmps[148]?.getD undef = .int .u8 bt3 := Plan.ev (Plan.dep_const (by rfl) (hdep 14 (by kernel_rfl)))
          clear hold hdep
          exact Plan.step_call (f := 102) (args := #[.int .u8 bt0, .int .u8 bt1, .int .u8 bt2, .int .u8 bt3]) rfl rfl (by go_simp) (CAL.out W)
        · -- 16: Op.move (Operand.tmp 149)
          intro a W hold hdep hb
          have e149 : a.tmps[149]?.getD undef = .tuple #[.int .u8 (cm bt0 bt3), .int .u8 (cm bt1 bt3), .int .u8 (cm bt2 bt3)] := Plan.ev (Plan.dep_const (by rfl) (hdep 15 (by kernel_rfl)))
          clear hold hdep
          exact Plan.step_const rfl rfl (by go_simp <;> exact IntWalk.i64_in _ (by omega))
        · -- 17: Op.extract (Operand.tmp 133) 0
          intro a W hold hdep hb
          have e133 : a.tmps[133]?.getD undef = .tuple #[.int .u8 (cm bt0 bt3), .int .u8 (cm bt1 bt3), .int .u8 (cm bt2 bt3)] := Plan.ev (Plan.dep_const (by rfl) (hdep 16 (by kernel_rfl)))
          clear hold hdep
          exact Plan.step_const rfl rfl (by go_simp <;> exact IntWalk.i64_in _ (by omega))
        · -- 18: Op.extract (Operand.tmp 133) 1
          intro a W hold hdep hb
          have e133 : a.tmps[133]?.getD undef = .tuple #[.int .u8 (cm bt0 bt3), .int .u8 (cm bt1 bt3), .int .u8 (cm bt2 bt3)] := Plan.ev (Plan.dep_const (by rfl) (hdep 16 (by kernel_rfl)))
          clear hold hdep
          exact Plan.step_eager rfl rfl (fun _ => by go_simp)
        · -- 19: Op.extract (Operand.tmp 133) 2
          intro a W hold hdep hb
          have e133 : a.tmps[133]?.getD undef = .tuple #[.int .u8 (cm bt0 bt3), .int .u8 (cm bt1 bt3), .int .u8 (cm bt2 bt3)] := Plan.ev (Plan.dep_const (by rfl) (hdep 16 (by kernel_rfl)))
          clear hold hdep
          exact Plan.step_eager rfl rfl (fun _ => by go_simp)
      intro vs W3 lo hi hD
      change wpList _ _ _ _ { tmps := (Array.setIfInBounds (Array.setIfInBounds (Array.setIfInBounds (Array.setIfInBounds (Array.setIfInBounds (Array.setIfInBounds (Array.setIfInBounds (Array.setIfInBounds (Array.setIfInBounds (Array.setIfInBounds (Array.setIfInBounds (Array.setIfInBounds (Array.setIfInBounds (Array.setIfInBounds (Array.setIfInBounds (Array.setIfInBounds (Array.setIfInBounds (Array.setIfInBounds (Array.setIfInBounds (Array.setIfInBounds _ 134 (vs 0)) 135 (vs 1)) 136 (vs 2)) 137 (vs 3)) 138 (vs 4)) 139 (vs 5)) 140 (vs 6)) 141 (vs 7)) 142 (vs 8)) 143 (vs 9)) 144 (vs 10)) 145 (vs 11)) 146 (vs 12)) 147 (vs 13)) 148 (vs 14)) 149 (vs 15)) 133 (vs 16)) 150 (vs 17)) 151 (vs 18)) 152 (vs 19)), defers := _ } _
      simp only [Plan.putAll_zero, List.setIfInBounds_toArray, List.set_cons_zero, List.set_cons_succ, List.drop_succ_cons, List.drop_zero]
      have p0 : vs 0 = .slice (some ⟨gp, pr + 4 * c, none⟩) 4 4 := (hD.facts 0 (by omega)).2.2.2
      have p1 : vs 1 = .slice (some ⟨gp, pr + 4 * c, none⟩) 4 4 := (hD.facts 1 (by omega)).2.2.2
      have p2 : vs 2 = .slice (some ⟨gp, pr + 4 * c, none⟩) 4 4 := (hD.facts 2 (by omega)).2.2.2
      have p3 : vs 3 = .slice (some ⟨gq, qr + 4 * u, none⟩) 4 4 := (hD.facts 3 (by omega)).2.2.2
      have p4 : vs 4 = .pointer (some ⟨gq, qr + 4 * u, none⟩) := (hD.facts 4 (by omega)).2.2.2
      have p5 : vs 5 = .int .u8 bt0 := (hD.facts 5 (by omega)).2.2.2
      have p6 : vs 6 = .slice (some ⟨gq, qr + 4 * u, none⟩) 4 4 := (hD.facts 6 (by omega)).2.2.2
      have p7 : vs 7 = .pointer (some ⟨gq, qr + 4 * u + 1, none⟩) := (hD.facts 7 (by omega)).2.2.2
      have p8 : vs 8 = .int .u8 bt1 := (hD.facts 8 (by omega)).2.2.2
      have p9 : vs 9 = .slice (some ⟨gq, qr + 4 * u, none⟩) 4 4 := (hD.facts 9 (by omega)).2.2.2
      have p10 : vs 10 = .pointer (some ⟨gq, qr + 4 * u + 2, none⟩) := (hD.facts 10 (by omega)).2.2.2
      have p11 : vs 11 = .int .u8 bt2 := (hD.facts 11 (by omega)).2.2.2
      have p12 : vs 12 = .slice (some ⟨gq, qr + 4 * u, none⟩) 4 4 := (hD.facts 12 (by omega)).2.2.2
      have p13 : vs 13 = .pointer (some ⟨gq, qr + 4 * u + 3, none⟩) := (hD.facts 13 (by omega)).2.2.2
      have p14 : vs 14 = .int .u8 bt3 := (hD.facts 14 (by omega)).2.2.2
      have p15 : vs 15 = .tuple #[.int .u8 (cm bt0 bt3), .int .u8 (cm bt1 bt3), .int .u8 (cm bt2 bt3)] := (hD.facts 15 (by omega)).2.2.2
      have p16 : vs 16 = .tuple #[.int .u8 (cm bt0 bt3), .int .u8 (cm bt1 bt3), .int .u8 (cm bt2 bt3)] := (hD.facts 16 (by omega)).2.2.2
      have p17 : vs 17 = .int .u8 (cm bt0 bt3) := (hD.facts 17 (by omega)).2.2.2
      have p18 : vs 18 = .int .u8 (cm bt1 bt3) := (hD.facts 18 (by omega)).2.2.2
      have p19 : vs 19 = .int .u8 (cm bt2 bt3) := (hD.facts 19 (by omega)).2.2.2
      simp only [p0, p1, p2, p3, p4, p5, p6, p7, p8, p9, p10, p11, p12, p13, p14, p15, p16, p17, p18, p19]
      clear p0 p1 p2 p3 p4 p5 p6 p7 p8 p9 p10 p11 p12 p13 p14 p15 p16 p17 p18 p19
      have hW3 := hD.bel
      clear hD  lo hi vs
      have hs3 : Below wr.heap.size wr W3 := ⟨hW3.os, hW3.tape, hW3.output, hW3.size, hW3.block⟩
      have hrow3 := HROW'.out.keep hs3
      have HON3 := hid (HON.out.trans (Only.of_below hs3))
      have z0 := hrow3.frozen (pr + 4 * c)
      have z1 := hrow3.frozen (pr + 4 * c + 1)
      have z2 := hrow3.frozen (pr + 4 * c + 2)
      have z3 := hrow3.frozen (pr + 4 * c + 3)
      have x0 := hrow3.cell (j := pr + 4 * c) (by omega)
      have x1 := hrow3.cell (j := pr + 4 * c + 1) (by omega)
      have x2 := hrow3.cell (j := pr + 4 * c + 2) (by omega)
      have x3 := hrow3.cell (j := pr + 4 * c + 3) (by omega)
      clear HON HROW' 
      have HROW' := hid hrow3
      have HON := HON3
      clear HON3 hrow3 hs3 hW3
      go_wp2_with fail
      refine ⟨⟨c + 1, by omega, by omega, ?_, ?_, ?_, _, HROW'.out.quad (pr + 4 * c) _ _ _ _, HPT.out.step4 (r0 := r) (c0 := c) (by omega) HEP.out ?_ fun r' c' _ => ⟨fun h => ?_, fun h => ?_⟩⟩, ?_⟩
      · congr 1
      · rw [HU.out]; congr 1
      · exact (((HON.out.setCell (Or.inl (by simp)) _).setCell (Or.inl (by simp)) _).setCell (Or.inl (by simp)) _).setCell (Or.inl (by simp)) _
      · obtain ⟨⟨w0, w1, w2, w3⟩, q0, q1, q2, q3⟩ := HDS.out
        rw [eN.out]
        unfold cmykP
        simp only [q0, q1, q2, q3]
        exact ⟨rfl, rfl, rfl, rfl⟩
      · rcases h with ⟨h1, h2⟩ | ⟨rfl, rfl⟩
        · exact ⟨h1, by omega⟩
        · exact ⟨⟨by omega, by omega, by omega, by omega⟩, by omega⟩
      · by_cases e : r' = r ∧ c' = c
        · exact Or.inr e
        · exact Or.inl ⟨h.1, by omega⟩
      · simp only [intOf]; omega
end Go.Proofs.Ytlnfcjaempojgaa
