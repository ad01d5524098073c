/- Contract of drawGray. -/
import Derived.Test.YtlnfcjaempojgaaI1
import Derived.Test.YtlnfcjaempojgaaD4
import Derived.Test.YtlnfcjaempojgaaH1
import Derived.Deep.Cut
set_option linter.unusedVariables false
namespace Go.Proofs.Ytlnfcjaempojgaa
open Go.RowKit

/-- A destination: its own block, and its row of bytes. -/
structure DstAt (w : World) (gD gp cap n : Nat) (d1 d2 d3 d4 : Int) (Wd H : Nat) (f : Nat → Int) : Prop where
  blk : Blk w gD 95 #[.slice (some ⟨gp, 0, none⟩) n cap, iv (4 * (d3 - d1)), iv d1, iv d2, iv d3, iv d4]
  row : PixRow w gp cap n f
  cap : n ≤ cap ∧ cap ≤ 9223372036854775807
  w3 : d3 = d1 + Wd
  w4 : d4 = d2 + H
  len : n = 4 * (H * Wd)
  b1 : -64 ≤ d1 ∧ d3 ≤ 64
  b2 : -64 ≤ d2 ∧ d4 ≤ 64
/-- A source: its own block of type T, st its stride, z bytes a pixel. -/
structure SrcAt (T : TypeId) (z : Nat) (w : World) (gS gq cap n : Nat) (st s1 s2 s3 s4 : Int) (Ws Hs : Nat) (f : Nat → Int) : Prop where
  blk : Blk w gS T #[.slice (some ⟨gq, 0, none⟩) n cap, iv st, iv s1, iv s2, iv s3, iv s4]
  row : PixRow w gq cap n f
  cap : n ≤ cap ∧ cap ≤ 9223372036854775807
  w3 : s3 = s1 + Ws
  w4 : s4 = s2 + Hs
  len : n = z * (Hs * Ws)
  b1 : -64 ≤ s1 ∧ s3 ≤ 64
  b2 : -64 ≤ s2 ∧ s4 ≤ 64

/-- Pixel (r, c) of the destination lies in the part of it from (ca, ra) to, but without, (ce, re). -/
def inPart (ca ra ce re : Nat) (r c : Nat) : Prop := ra ≤ r ∧ r < re ∧ ca ≤ c ∧ c < ce

set_option maxRecDepth 20000 in
set_option maxHeartbeats 4000000 in
theorem drawGray_any (gD gp cap n : Nat) (d1 d2 d3 d4 : Int) (Wd H : Nat) (f : Nat → Int) (gS gq scap m : Nat) (s1 s2 s3 s4 : Int) (Ws Hs : Nat) (fs : Nat → Int) (ca ra ce re ua va : Nat) (w : World)
    (hD : DstAt w gD gp cap n d1 d2 d3 d4 Wd H f) (hS : SrcAt 114 1 w gS gq scap m (s3 - s1) s1 s2 s3 s4 Ws Hs fs) (hne : gp ≠ gq) (h0 : ca < ce ∧ ra < re) (h1 : ce ≤ Wd) (h2 : re ≤ H) (h3 : ua + (ce - ca) ≤ Ws) (h4 : va + (re - ra) ≤ Hs) :
    Calls Try.prog 72 #[.pointer (some ⟨gD, 0, none⟩), rcV ⟨d1 + ca, d2 + ra, d1 + ce, d2 + re⟩, .pointer (some ⟨gS, 0, none⟩), ptV (s1 + ua) (s2 + va)] w fun e w' =>
      (∃ v, e = .returned v) ∧ Only [gp] w w' ∧ ∃ f', PixRow w' gp cap n f' ∧ Painted Wd f (fun r c k => if k = 3 then 255 else fs ((va + (r - ra)) * Ws + (ua + (c - ca)))) (inPart ca ra ce re) f' := by
  have HD := hid hD; have HS := hid hS
  clear hD hS
  go_enter Try.func72, Try.ntmps72
  go_wp2_with fail
  obtain ⟨W0, hW0⟩ : ∃ W : World, W = ((w.alloc (.cells #[iv (d1 + ca), iv (d2 + ra), iv (d1 + ce), iv (d2 + re)] 73)).alloc (.cells #[iv (s1 + ua), iv (s2 + va)] 71)) := ⟨_, rfl⟩
  rw [← hW0]
  have B0 : Hid (Blk W0 (w.heap.size) 73 #[iv (d1 + ca), iv (d2 + ra), iv (d1 + ce), iv (d2 + re)]) := by rw [hW0]; exact Blk.alloc (Blk.new_at (W := w) (t := 73) (cs := #[iv (d1 + ca), iv (d2 + ra), iv (d1 + ce), iv (d2 + re)]) (by simp)) _
  have B1 : Hid (Blk W0 (w.heap.size + 1) 71 #[iv (s1 + ua), iv (s2 + va)]) := by rw [hW0]; exact Blk.new_at (W := (w.alloc (.cells #[iv (d1 + ca), iv (d2 + ra), iv (d1 + ce), iv (d2 + re)] 73))) (t := 71) (cs := #[iv (s1 + ua), iv (s2 + va)]) (by simp)
  have bW0 : Below w.heap.size w W0 := by rw [hW0]; go_grown
  have sW0 : W0.heap.size = w.heap.size + 2 := by rw [hW0]; simp
  have SW0 := hid sW0
  have zW0 : w.heap.size + 2 ≤ W0.heap.size := by omega
  clear sW0 hW0
  have cB := B0.out.cells4.1
  have cP := B1.out.cells2.1
  have lB := B0.out.lt
  have lP := B1.out.lt
  have cD := (HD.out.blk.keep bW0).cells6
  have cS := (HS.out.blk.keep bW0).cells6
  have bb := HD.out.b1
  have bc := HD.out.b2
  have sb := HS.out.b1
  have scc := HS.out.b2
  have w3 := HD.out.w3
  have w4 := HD.out.w4
  have v3 := HS.out.w3
  have v4 := HS.out.w4
  have e1 : IntKind.i64.wrap (d1 + (ca : Int) - d1) = ((ca : Nat) : Int) := by rw [IntWalk.i64_in _ (by omega)]; omega
  have e1' : IntKind.i64.wrap (ca : Int) = ((ca : Nat) : Int) := IntWalk.i64_in _ (by omega)
  have e2 : IntKind.i64.wrap ((ca : Int) * 4) = ((4 * ca : Nat) : Int) := by rw [IntWalk.i64_in _ (by omega)]; omega
  have e3 : IntKind.i64.wrap (d1 + (ce : Int) - d1) = ((ce : Nat) : Int) := by rw [IntWalk.i64_in _ (by omega)]; omega
  have e3' : IntKind.i64.wrap (ce : Int) = ((ce : Nat) : Int) := IntWalk.i64_in _ (by omega)
  have e4 : IntKind.i64.wrap ((ce : Int) * 4) = ((4 * ce : Nat) : Int) := by rw [IntWalk.i64_in _ (by omega)]; omega
  have e5 : IntKind.i64.wrap (s1 + (ua : Int) - s1) = ((ua : Nat) : Int) := by rw [IntWalk.i64_in _ (by omega)]; omega
  have e5' : IntKind.i64.wrap (ua : Int) = ((ua : Nat) : Int) := IntWalk.i64_in _ (by omega)
  have e6 : IntKind.i64.wrap (d2 + (ra : Int) - d2) = ((ra : Nat) : Int) := by rw [IntWalk.i64_in _ (by omega)]; omega
  have e6' : IntKind.i64.wrap (ra : Int) = ((ra : Nat) : Int) := IntWalk.i64_in _ (by omega)
  have e7 : IntKind.i64.wrap (d2 + (re : Int) - d2) = ((re : Nat) : Int) := by rw [IntWalk.i64_in _ (by omega)]; omega
  have e7' : IntKind.i64.wrap (re : Int) = ((re : Nat) : Int) := IntWalk.i64_in _ (by omega)
  have e8 : IntKind.i64.wrap (s2 + (va : Int) - s2) = ((va : Nat) : Int) := by rw [IntWalk.i64_in _ (by omega)]; omega
  have e8' : IntKind.i64.wrap (va : Int) = ((va : Nat) : Int) := IntWalk.i64_in _ (by omega)
  clear w3 w4 v3 v4
  go_quiet (fail)
  go_wp2_with fail
  go_quiet (fail)
  go_wp2_with fail
  go_quiet (fail)
  go_wp2_with fail
  go_quiet (fail)
  go_wp2_with fail
  go_quiet (fail)
  go_wp2_with fail
  go_quiet (fail)
  go_wp2_with fail
  clear cB cP lB lP cD cS B0 B1 e1 e1' e2 e3 e3' e4 e5 e5' e6 e6' e7 e7' e8 e8'
  have HROW := hid (HD.out.row.keep bW0)
  have nD : gD ≠ gp := fun h => by
    obtain ⟨cur, hc, _⟩ := HD.out.row
    have := HD.out.blk
    rw [h] at this
    rw [this] at hc
    simp at hc
  have nS : gS ≠ gp := fun h => by
    obtain ⟨cur, hc, _⟩ := HD.out.row
    have := HS.out.blk
    rw [h] at this
    rw [this] at hc
    simp at hc
  have DB : Hid (Blk W0 gD 95 #[.slice (some ⟨gp, 0, none⟩) n cap, iv (4 * (Wd : Int)), iv d1, iv d2, iv d3, iv d4]) := by
    have h := HD.out.blk.keep bW0
    rwa [show d3 - d1 = (Wd : Int) by have := HD.out.w3; omega] at h
  have SBk : Hid (Blk W0 gS 114 #[.slice (some ⟨gq, 0, none⟩) m scap, iv (Ws : Int), iv s1, iv s2, iv s3, iv s4]) := by
    have h := HS.out.blk.keep bW0
    rwa [show s3 - s1 = (Ws : Int) by have := HS.out.w3; omega] at h
  have HL : Wd ≤ 128 ∧ H ≤ 128 ∧ Ws ≤ 128 ∧ Hs ≤ 128 := by
    have := HD.out.w3; have := HD.out.w4; have := HS.out.w3; have := HS.out.w4
    exact ⟨by omega, by omega, by omega, by omega⟩
  have SR := hid (HS.out.row.keep bW0)
  have HB := hid bW0
  clear bW0
  go_loopw [12, 13] (fun s12 s13 wr => ∃ r : Nat, ra ≤ r ∧ r ≤ re ∧ s12 = .int .i64 (r : Int) ∧ s13 = .int .i64 ((va + (r - ra) : Nat) : Int) ∧ Only [gp] W0 wr ∧ ∃ f', PixRow wr gp cap n f' ∧
    Painted Wd f (fun r c k => if k = 3 then 255 else fs ((va + (r - ra)) * Ws + (ua + (c - ca)))) (fun r' c' => inPart ca ra ce re r' c' ∧ r' < r) f') (fun s12 _ _ => re - (intOf s12).toNat)
  case atStart =>
    refine ⟨ra, by omega, by omega, rfl, by simp, ?_, f, HROW.out, Painted.start _ _ _ fun r c h => ?_⟩
    · repeat apply Only.drewN
      exact Only.refl _ _
    · have h' := h.1.1
      omega
  case round =>
    obtain ⟨r, hr1, hr2, rfl, rfl, hon, f', hrow, hpt⟩ := hrel
    by_cases hlt : r < re
    case neg =>
      obtain rfl : r = re := by omega
      go_wp2_with fail
      go_end0
      exact ⟨⟨_, rfl⟩, (Only.of_below HB.out).trans hon, f', hrow, hpt.congr fun r' c' _ => ⟨fun h => h.1, fun h => ⟨h, h.2.1⟩⟩⟩
    have k1 : ((r : Int) != (re : Int)) = true := by simp; omega
    have k0 : ((r : Int) == (re : Int)) = false := by simp; omega
    have HV : Hid (va + (r + 1 - ra) = va + (r - ra) + 1) := by show _ = _; omega
    have hvH : va + (r - ra) < Hs := by omega
    obtain ⟨v, hv⟩ : ∃ v, v = va + (r - ra) := ⟨_, rfl⟩
    rw [← hv] at hvH ⊢
    obtain ⟨pr, hpr⟩ : ∃ pr, pr = 4 * (r * Wd) := ⟨_, rfl⟩
    obtain ⟨qr, hqr⟩ : ∃ qr, qr = v * Ws := ⟨_, rfl⟩
    have hpn : pr + 4 * Wd ≤ n := by
      have h1 := Nat.mul_le_mul_right Wd (show r + 1 ≤ H by omega)
      rw [Nat.add_mul, Nat.one_mul] at h1
      have h2 := HD.out.len
      omega
    have hqm : qr + Ws ≤ m := by
      have h1 := Nat.mul_le_mul_right Ws (show v + 1 ≤ Hs by omega)
      rw [Nat.add_mul, Nat.one_mul] at h1
      have h2 := HS.out.len
      omega
    have hcap := HD.out.cap
    have hscap := HS.out.cap
    have e9 : IntKind.i64.wrap ((r : Int) * (4 * (Wd : Int))) = (pr : Int) := by
      have h1 := mul_in (a := (r : Int)) (b := (Wd : Int)) (A := 128) (B := 128) ⟨by omega, by omega⟩ ⟨by omega, by omega⟩
      have h2 : (r : Int) * (4 * (Wd : Int)) = 4 * ((r : Int) * (Wd : Int)) := Int.mul_left_comm ..
      rw [h2, IntWalk.i64_in _ (by omega), hpr]
      simp only [Int.natCast_mul]
      rfl
    have e10 : IntKind.i64.wrap ((v : Int) * (Ws : Int)) = (qr : Int) := by
      have h1 := mul_in (a := (v : Int)) (b := (Ws : Int)) (A := 128) (B := 128) ⟨by omega, by omega⟩ ⟨by omega, by omega⟩
      rw [IntWalk.i64_in _ (by omega), hqr]
      simp only [Int.natCast_mul]
    have hcp : ¬ cap = pr := by omega
    have hcq : ¬ scap = qr := by omega
    have HPR := hid hpr; have HQR := hid hqr; have HVV := hid hv
    have cD := (hon.blk DB.out (by simp [nD])).cells6
    have cS := (hon.blk SBk.out (by simp [nS])).cells6
    have HON := hid hon; have HROW' := hid hrow; have HPT := hid hpt
    clear hpr hqr hv hon hrow hpt
    go_wp2_with fail
    go_quiet (fail)
    go_wp2_with fail
    go_quiet (fail)
    go_wp2_with fail
    obtain ⟨wo, rfl⟩ : ∃ wo : World, wo = wr := ⟨_, rfl⟩
    clear cD cS
    go_loopw [16, 17] (fun s16 s17 wr => ∃ c : Nat, ca ≤ c ∧ c ≤ ce ∧ s16 = .int .i64 ((4 * c : Nat) : Int) ∧ s17 = .int .i64 ((ua + (c - ca) : Nat) : Int) ∧ Only [gp] W0 wr ∧ ∃ f', PixRow wr gp cap n f' ∧
      Painted Wd f (fun r c k => if k = 3 then 255 else fs ((va + (r - ra)) * Ws + (ua + (c - ca)))) (fun r' c' => inPart ca ra ce re r' c' ∧ (r' < r ∨ (r' = r ∧ c' < c))) f') (fun s16 _ _ => 4 * ce - (intOf s16).toNat)
    case atStart =>
      refine ⟨ca, by omega, by omega, by simp, by simp, ?_, f', HROW'.out, HPT.out.congr fun r' c' _ => ⟨fun h => ⟨h.1, Or.inl h.2⟩, fun h => ⟨h.1, ?_⟩⟩⟩
      · repeat apply Only.drewN
        exact HON.out
      · obtain ⟨⟨h1, h2, h3, h4⟩, h5⟩ := h
        omega
    case round =>
      clear HON HROW' HPT
      obtain ⟨c, hc1, hc2, rfl, rfl, hon, f', hrow, hpt⟩ := hrel
      by_cases hlc : c < ce
      case neg =>
        obtain rfl : c = ce := by omega
        go_wp2_with fail
        refine ⟨⟨r + 1, by omega, by omega, ?_, ?_, hon, f', hrow, hpt.congr fun r' c' _ => ⟨fun h => ⟨h.1, ?_⟩, fun h => ⟨h.1, ?_⟩⟩⟩, ?_⟩
        · congr 1
        · rw [HV.out, ← HVV.out]; congr 1
        · obtain ⟨⟨h1, h2, h3, h4⟩, h5⟩ := h
          omega
        · obtain ⟨⟨h1, h2, h3, h4⟩, h5⟩ := h
          omega
        · simp only [intOf]; omega
      have hk : ((4 * c : Nat) : Int) < ((4 * ce : Nat) : Int) := by omega
      have hk' : (4 * (c : Int)) < 4 * (ce : Int) := by omega
      obtain ⟨u, hu⟩ : ∃ u, u = ua + (c - ca) := ⟨_, rfl⟩
      have huW : u < Ws := by omega
      have HU : Hid (ua + (c + 1 - ca) = u + 1) := by show _ = _; omega
      rw [← hu]
      have HUU := hid hu
      clear hu
      have p0 := (SR.out.of_block (hon.block gq SR.out.lt (by simp; exact Ne.symm hne))).cell (j := qr + u) (by omega)
      have x0 := hrow.cell (j := pr + 4 * c) (by omega)
      have x1 := hrow.cell (j := pr + 4 * c + 1) (by omega)
      have x2 := hrow.cell (j := pr + 4 * c + 2) (by omega)
      have x3 := hrow.cell (j := pr + 4 * c + 3) (by omega)
      have z0 := hrow.frozen (pr + 4 * c)
      have z1 := hrow.frozen (pr + 4 * c + 1)
      have z2 := hrow.frozen (pr + 4 * c + 2)
      have z3 := hrow.frozen (pr + 4 * c + 3)
      have e4c : IntKind.i64.wrap (4 * (c : Int) + 4) = ((4 * c + 4 : Nat) : Int) := by rw [IntWalk.i64_in _ (by omega)]; omega
      have HON := hid hon; have HROW' := hid hrow; have HPT := hid hpt
      clear hon hrow hpt
      generalize hfs : fs (qr + u) = p at *
      have HFS := hid hfs
      clear hfs
      go_wp2_with fail
      have eN : (fun k : Nat => if k = 3 then (255 : Int) else fs ((va + (r - ra)) * Ws + (ua + (c - ca)))) = fun k => if k = 3 then (255 : Int) else p := by
        rw [← HVV.out, ← HUU.out, ← HQR.out, HFS.out]
      have eP : pos Wd r c 0 = pr + 4 * c := by
        have := HPR.out
        unfold pos
        omega
      refine ⟨⟨c + 1, by omega, by omega, ?_, ?_, ?_, _, HROW'.out.put4 (pr + 4 * c) (fun k => if k = 3 then 255 else p), ?_⟩, ?_⟩
      · congr 1
      · rw [HU.out]; congr 1
      · exact (((HON.out.setCell (Or.inl (by simp)) _).setCell (Or.inl (by simp)) _).setCell (Or.inl (by simp)) _).setCell (Or.inl (by simp)) _
      · have h := HPT.out.step (r0 := r) (c0 := c) (by omega)
        rw [eP, eN] at h
        refine h.congr fun r' c' _ => ⟨fun h => ?_, fun h => ?_⟩
        · rcases h with ⟨h1, h2⟩ | ⟨rfl, rfl⟩
          · exact ⟨h1, by omega⟩
          · exact ⟨⟨by omega, by omega, by omega, by omega⟩, by omega⟩
        · by_cases e : r' = r ∧ c' = c
          · exact Or.inr e
          · exact Or.inl ⟨h.1, by omega⟩
      · simp only [intOf]; omega
end Go.Proofs.Ytlnfcjaempojgaa
