/- Contract of drawFillSrc. Written by mk_FS.py. -/
import Derived.Test.YtlnfcjaempojgaaU2
import Derived.Test.YtlnfcjaempojgaaI3
import Derived.Test.YtlnfcjaempojgaaK3
import Derived.Deep.CutBlock
set_option linter.unusedVariables false
namespace Go.Proofs.Ytlnfcjaempojgaa
open Go.RowKit

theorem wpList_copy_pix2 {P : Program} {w : World} {ops : Array Oper} {rest : List Oper} {o : Oper} {a : Act} {Q : Exit → Act → World → Prop} (hgd : o.guard = none) (d s : Operand) (dT sT : TypeId)
    (ho : o.op = .call { callee := .builtin .copy, args := #[d, s], argTypes := #[dT, sT] }) (elem : TypeId) (hu : P.underlying dT = some (.slice elem)) (hsz : (P.info? elem).map (·.size) = some 1)
    (g off L dLen dCap : Nat) (gs offs sLen sCap : Nat) (hd : a.eval d = .slice (some ⟨g, off, none⟩) dLen dCap) (hs : a.eval s = .slice (some ⟨gs, offs, none⟩) sLen sCap) (hdl : dLen = L) (hsl : sLen = L)
    (cap n : Nat) (f v : Nat → Int) (hrow : PixRow w g cap n f) (hfit : off + L ≤ n) (hsrc : ∀ j, j < L → w.cell? ⟨gs, offs + j, none⟩ = some (.int .u8 (v j)))
    (h : ∀ w' u, Only [g] w w' → PixRow w' g cap n (fspan f off L v) → wpList P ops Q rest (a.put o.dst u) w') : wpList P ops Q (o :: rest) a w := by
  subst hdl
  subst hsl
  exact wpList_copy_pix hgd d s dT sT ho elem hu hsz g off _ dCap gs offs sCap hd hs cap n f v hrow hfit hsrc h

/-- What one color by Src makes of a pixel. -/
def fsrcP (D U : Nat → Int) (k : Nat) : Int := U k / 256

set_option maxRecDepth 20000 in
set_option maxHeartbeats 4000000 in
theorem drawFillSrc_any (gD gp cap n : Nat) (d1 d2 d3 d4 : Int) (Wd H : Nat) (f : Nat → Int) (U : Nat → Int) (ca ra ce re : Nat) (w : World)
    (hD : DstAt w gD gp cap n d1 d2 d3 d4 Wd H f) (h0 : ca < ce ∧ ra < re) (h1 : ce ≤ Wd) (h2 : re ≤ H)
    (rf : ∀ j, 0 ≤ f j ∧ f j ≤ 255) (rU : ∀ k, C16 (U k)) :
    Calls Try.prog 93 #[.pointer (some ⟨gD, 0, none⟩), rcV ⟨d1 + ca, d2 + ra, d1 + ce, d2 + re⟩, .int .u32 (U 0), .int .u32 (U 1), .int .u32 (U 2), .int .u32 (U 3)] w fun e w' =>
      (∃ v, e = .returned v) ∧ Only [gp] w w' ∧ ∃ f', PixRow w' gp cap n f' ∧ Painted Wd f (fun r c => fsrcP (fun k => f (pos Wd r c k)) U) (inPart ca ra ce re) f' := by
  have HD := hid hD; have RF := hid rf
  obtain ⟨nw, hnw⟩ : ∃ nw : Nat → Nat → Nat → Int, nw = fun r c => fsrcP (fun k => f (pos Wd r c k)) U := ⟨_, rfl⟩
  rw [← hnw]
  have HNW := hid hnw
  obtain ⟨wN, hwN⟩ : ∃ wN, wN = ce - ca := ⟨_, rfl⟩
  have HB12 : Hid ((-64 ≤ d1 ∧ d3 ≤ 64) ∧ (-64 ≤ d2 ∧ d4 ≤ 64) ∧ d3 = d1 + Wd ∧ d4 = d2 + H) := ⟨hD.b1, hD.b2, hD.w3, hD.w4⟩
  have HL : Wd ≤ 128 ∧ H ≤ 128 := by
    have := HB12.out
    exact ⟨by omega, by omega⟩
  have DX : Hid (∀ W, Calls Try.prog 80 #[rcV ⟨d1 + ca, d2 + ra, d1 + ce, d2 + re⟩] W fun e w' => e = .returned (.int .i64 (wN : Int)) ∧ Below W.heap.size W w') := fun W => by
    have := dx_any (d1 + ca) (d2 + ra) (d1 + ce) (d2 + re) W (by have := HB12.out; omega)
    rwa [show d1 + (ce : Int) - (d1 + ca) = (wN : Int) by omega] at this
  have HWN := hid hwN
  have hwl : wN ≤ 128 ∧ 0 < wN := ⟨by omega, by omega⟩
  obtain ⟨p0, hp0⟩ : ∃ x, x = U 0 := ⟨_, rfl⟩
  obtain ⟨p1, hp1⟩ : ∃ x, x = U 1 := ⟨_, rfl⟩
  obtain ⟨p2, hp2⟩ : ∃ x, x = U 2 := ⟨_, rfl⟩
  obtain ⟨p3, hp3⟩ : ∃ x, x = U 3 := ⟨_, rfl⟩
  have HUU : Hid (U 0 = p0 ∧ U 1 = p1 ∧ U 2 = p2 ∧ U 3 = p3) := ⟨hp0.symm, hp1.symm, hp2.symm, hp3.symm⟩
  have pr0 : 0 ≤ p0 ∧ p0 ≤ 65535 := by rw [hp0]; exact rU 0
  have pr1 : 0 ≤ p1 ∧ p1 ≤ 65535 := by rw [hp1]; exact rU 1
  have pr2 : 0 ≤ p2 ∧ p2 ≤ 65535 := by rw [hp2]; exact rU 2
  have pr3 : 0 ≤ p3 ∧ p3 ≤ 65535 := by rw [hp3]; exact rU 3
  rw [← hp0, ← hp1, ← hp2, ← hp3]
  have hgpw := hD.row.lt
  clear hD hnw rf hwN hp0 hp1 hp2 hp3 rU
  go_enter Try.func93, Try.ntmps93
  go_wp2_with fail
  obtain ⟨W0, hW0⟩ : ∃ W : World, W = (w.alloc (.cells #[iv (d1 + ca), iv (d2 + ra), iv (d1 + ce), iv (d2 + re)] 73)) := ⟨_, rfl⟩
  rw [← hW0]
  have B0 : Hid (Blk W0 (w.heap.size) 73 #[iv (d1 + ca), iv (d2 + ra), iv (d1 + ce), iv (d2 + re)]) := by rw [hW0]; exact Blk.new_at (W := w) (t := 73) (cs := #[iv (d1 + ca), iv (d2 + ra), iv (d1 + ce), iv (d2 + re)]) (by simp)
  have bW0 : Below w.heap.size w W0 := by rw [hW0]; go_grown
  have sW0 : W0.heap.size = w.heap.size + 1 := by rw [hW0]; simp
  have SW0 := hid sW0
  have zW0 : w.heap.size + 1 ≤ W0.heap.size := by omega
  clear sW0 hW0
  refine (pixo78 gD _ Wd ra ca d1 d2 d3 d4 _ _ _ (HD.out.blk.keep bW0) HB12.out.2.2.1 (by omega) (by omega) (by omega) (by have := HB12.out; omega) (by have := HB12.out; omega) rfl rfl).mono ?_
  rintro e W2 ⟨rfl, hb2⟩
  have F0 := hid (B0.out.keep hb2)
  have bw2 := bW0.trans (hb2.mono (by omega))
  have cB := F0.out.cells4.1
  have lB := F0.out.lt
  obtain ⟨pa, hpa⟩ : ∃ x, x = pos Wd ra ca 0 := ⟨_, rfl⟩
  rw [← hpa]
  have HPA := hid hpa
  have hpan : pa ≤ 131072 := by
    have h5 := Nat.mul_le_mul (show ra ≤ 128 by omega) HL.1
    unfold pos at hpa
    omega
  clear B0 hb2 bW0 hpa
  go_wp2_with fail
  refine (DX.out _).mono ?_
  rintro e W3 ⟨rfl, hb3⟩
  have bw3 := bw2.trans (hb3.mono bw2.size)
  have G0 := hid (F0.out.keep hb3)
  have cB := G0.out.cells4.1
  have lB := G0.out.lt
  obtain ⟨bN, hbN⟩ : ∃ x, x = 4 * wN := ⟨_, rfl⟩
  have e4 : IntKind.i64.wrap ((wN : Int) * 4) = (bN : Int) := by rw [IntWalk.i64_in _ (by omega)]; omega
  obtain ⟨pe, hpe⟩ : ∃ x, x = pa + bN := ⟨_, rfl⟩
  have e5 : IntKind.i64.wrap ((pa : Int) + (bN : Int)) = (pe : Int) := by rw [IntWalk.i64_in _ (by omega)]; omega
  have HPE := hid hpe
  have hpe2 : pe ≤ 131072 * 2 := by omega
  have hbl : bN ≤ 512 ∧ 0 < bN := by omega
  have HBN := hid hbN
  have hpan2 : pa + bN ≤ n := by
    have h1 := Nat.mul_le_mul_right Wd (show ra + 1 ≤ H by omega)
    rw [Nat.add_mul, Nat.one_mul] at h1
    have h2 := HD.out.len
    have h3 := HWN.out
    have h4 := HPA.out
    unfold pos at h4
    omega
  have hcap := HD.out.cap
  have hpen : pe ≤ n ∧ pa < pe := by omega
  clear hbN hpe
  have DB : Hid (Blk W3 gD 95 #[.slice (some ⟨gp, 0, none⟩) n cap, iv (4 * (Wd : Int)), iv d1, iv d2, iv d3, iv d4]) := by
    have h := HD.out.blk.keep bw3
    rwa [show d3 - d1 = (Wd : Int) by have := HB12.out; omega] at h
  have nD : gD ≠ gp := fun h => by
    obtain ⟨cur, hc, _⟩ := HD.out.row
    have := HD.out.blk
    rw [h] at this
    rw [this] at hc
    simp at hc
  have nB : w.heap.size ≠ gp := by omega
  have HROW := hid (HD.out.row.keep bw3)
  have HBW := hid bw3
  clear hb3 bw2 F0 bw3
  go_wp2_with fail
  clear cB lB e4 e5
  go_loopw [18] (fun s18 wr => ∃ k : Nat, k ≤ wN ∧ s18 = .int .i64 ((pa + 4 * k : Nat) : Int) ∧ Only [gp] W3 wr ∧ ∃ f', PixRow wr gp cap n f' ∧
    Painted Wd f nw (fun r' c' => inPart ca ra ce re r' c' ∧ r' = ra ∧ c' < ca + k) f') (fun s18 _ => pa + 4 * wN - (intOf s18).toNat)
  case atStart =>
    refine ⟨0, by omega, by simp, Only.refl _ _, f, HROW.out, Painted.start _ _ _ fun r c h => ?_⟩
    obtain ⟨⟨h1, h2, h3, h4⟩, h5, h6⟩ := h
    omega
  case round =>
    obtain ⟨k, hk2, rfl, hon, f', hrow, hpt⟩ := hrel
    obtain ⟨x, hx⟩ : ∃ x, x = pa + 4 * k := ⟨_, rfl⟩
    rw [← hx]
    have hbl2 := hon.blk G0.out (by simp [nB])
    have cB := hbl2.cells4.1
    have lB := hbl2.lt
    have cD := (hon.blk DB.out (by simp [nD])).cells6
    clear HROW hbl2
    by_cases hlc : k < wN
    case neg =>
      obtain rfl : k = wN := by omega
      obtain rfl : x = pe := by rw [hx, HPE.out, HBN.out]
      have hcp : ¬ cap = pa := by omega
      have b2 : -64 ≤ d2 ∧ d2 + (re : Int) ≤ 64 := by have := HB12.out; omega
      have HON := hid hon; have HROW' := hid hrow; have HPT := hid hpt
      clear hx hon hrow hpt
      go_wp2_with fail
      clear cB lB cD hcp
      go_loopw [16, 17, 20] (fun s16 s17 s20 wr => ∃ q : Nat, ra ≤ q ∧ q + 1 ≤ re ∧ s16 = .int .i64 ((pos Wd q ca 0 : Nat) : Int) ∧ s17 = .int .i64 ((pos Wd q ca 0 + bN : Nat) : Int) ∧ s20 = .int .i64 (d2 + ((q + 1 : Nat) : Int)) ∧ Only [gp] W3 wr ∧ ∃ f', PixRow wr gp cap n f' ∧
        Painted Wd f nw (fun r' c' => inPart ca ra ce re r' c' ∧ r' < q + 1) f') (fun _ _ s20 _ => (d2 + (re : Int) - intOf s20).toNat)
      case atStart =>
        refine ⟨ra, by omega, by omega, ?_, ?_, ?_, HON.out, f', HROW'.out, HPT.out.congr fun r' c' _ => ⟨fun h => ⟨h.1, ?_⟩, fun h => ⟨h.1, ?_⟩⟩⟩
        · rw [← HPA.out]
        · rw [← HPA.out, ← HPE.out]
        · first | rfl | (congr 1; done) | (congr 1; omega)
        · have := h.2.1; omega
        · obtain ⟨⟨h1, h2, h3, h4⟩, h5⟩ := h
          have := HWN.out
          omega
      case round =>
        clear HON HROW' HPT
        obtain ⟨q, hq1, hq2, rfl, rfl, rfl, hon, f', hrow, hpt⟩ := hrel
        have hbl2 := hon.blk G0.out (by simp [nB])
        have cB := hbl2.cells4.1
        have lB := hbl2.lt
        have cD := (hon.blk DB.out (by simp [nD])).cells6
        clear hbl2
        by_cases hlt : q + 1 < re
        case neg =>
          obtain rfl : re = q + 1 := by omega
          go_wp2_with fail
          go_end0
          exact ⟨⟨_, rfl⟩, (Only.of_below HBW.out).trans hon, f', hrow, hpt.congr fun r' c' _ => ⟨fun h => h.1, fun h => ⟨h, h.2.1⟩⟩⟩
        have hlt2 : d2 + ((q + 1 : Nat) : Int) < d2 + (re : Int) := by omega
        have hlt3 : d2 + ((q : Int) + 1) < d2 + (re : Int) := by omega
        have hlt4 : (q : Int) + 1 < (re : Int) := by omega
        obtain ⟨pd, hpd⟩ : ∃ pd, pd = pos Wd q ca 0 := ⟨_, rfl⟩
        rw [← hpd]
        obtain ⟨pq, hpq⟩ : ∃ x, x = pd + bN := ⟨_, rfl⟩
        rw [← hpq]
        obtain ⟨pn, hpn⟩ : ∃ x, x = pd + 4 * Wd := ⟨_, rfl⟩
        have hpo : pn = pos Wd (q + 1) ca 0 := by rw [hpn, hpd]; unfold pos; rw [Nat.add_mul]; omega
        have hpnn : pn + bN ≤ n ∧ pn ≤ 131072 := by
          have h1 := Nat.mul_le_mul_right Wd (show q + 1 + 1 ≤ H by omega)
          have h5 := Nat.mul_le_mul (show q + 1 + 1 ≤ 128 by omega) HL.1
          rw [Nat.add_mul (q + 1), Nat.one_mul] at h1 h5
          have h2 := HD.out.len
          have h3 := HWN.out
          have h6 := HBN.out
          unfold pos at hpo
          omega
        have e11 : IntKind.i64.wrap ((pd : Int) + 4 * (Wd : Int)) = (pn : Int) := by rw [IntWalk.i64_in _ (by omega)]; omega
        obtain ⟨pr, hpr⟩ : ∃ x, x = pn + bN := ⟨_, rfl⟩
        have e12 : IntKind.i64.wrap ((pq : Int) + 4 * (Wd : Int)) = (pr : Int) := by rw [IntWalk.i64_in _ (by omega)]; omega
        have HPR := hid hpr
        have hprn : pr ≤ n ∧ pn < pr := by omega
        have hcp : ¬ cap = pn := by omega
        have HPO := hid hpo
        have HON := hid hon; have HROW' := hid hrow; have HPT := hid hpt
        have hsrc : Hid (∀ j, j < bN → wr.cell? ⟨gp, pa + j, none⟩ = some (.int .u8 (f' (pa + j)))) := fun j hj => hrow.cell (by omega)
        have hfit : pn + bN ≤ n := hpnn.1
        clear hpd hpn hpo hon hrow hpt hpq hpr
        go_wp2_with (with_reducible refine wpList_copy_pix2 (o := ⟨some 122, _, _, _, _, _⟩) rfl (.tmp 120) (.tmp 121) 22 22 rfl 5 Try.underlying22 (by kernel_rfl) gp pn bN _ _ gp pa _ _ rfl rfl (by have := HPR.out; omega) (by have := HPE.out; omega) cap n f' (fun j => f' (pa + j)) HROW'.out hfit hsrc.out ?_)
        intro W5 u hO5 hrow5
        have HON5 := hid (HON.out.trans hO5)
        have HROW5 := hid hrow5
        clear hO5 hrow5 e11 e12 cB lB cD
        go_wp2_with fail
        refine ⟨⟨q + 1, by omega, by omega, ?_, ?_, ?_, HON5.out, _, HROW5.out, ?_⟩, ?_⟩
        · rw [← HPO.out]
        · rw [← HPO.out, ← HPR.out]
        · first | rfl | (congr 1; done) | (congr 1; omega)
        · rw [HBN.out]
          refine HPT.out.span (r0 := q + 1) (ca := ca) (by have := HWN.out; omega) HPO.out.symm (fun k j hk hj => ?_) fun r' c' hc' => ⟨fun h => ?_, fun h => ?_⟩
          · have h1 := (HPT.out ra (ca + k) j (by have := HWN.out; omega) hj).1 ⟨⟨by omega, by omega, by omega, by have := HWN.out; omega⟩, by omega⟩
            have h2 : pos Wd ra (ca + k) j = pa + (4 * k + j) := by rw [HPA.out]; unfold pos; omega
            rw [h2] at h1
            show f' (pa + (4 * k + j)) = nw (q + 1) (ca + k) j
            rw [h1, HNW.out]
            rfl
          · have := HWN.out
            rcases h with ⟨h1, h2⟩ | ⟨rfl, h1, h2⟩
            · exact ⟨h1, by omega⟩
            · exact ⟨⟨by omega, by omega, by omega, by omega⟩, by omega⟩
          · have := HWN.out
            obtain ⟨⟨h1, h2, h3, h4⟩, h5⟩ := h
            by_cases e : r' = q + 1
            · exact Or.inr ⟨e, h3, by omega⟩
            · exact Or.inl ⟨⟨h1, h2, h3, h4⟩, by omega⟩
        · simp only [intOf]; omega
    have hxl : x + 4 ≤ pe := by have := HBN.out; have := HPE.out; omega
    have hxx : (x : Int) < (pe : Int) := by omega
    obtain ⟨c, hc⟩ : ∃ c, c = ca + k := ⟨_, rfl⟩
    have hcc : c < ce ∧ c < Wd := by have := HWN.out; omega
    have eP : pos Wd ra c 0 = x := by
      rw [hx, HPA.out, hc]
      unfold pos
      omega
    have HEP := hid eP
    have x0 := hrow.cell (j := x) (by omega)
    have x1 := hrow.cell (j := x + 1) (by omega)
    have x2 := hrow.cell (j := x + 2) (by omega)
    have x3 := hrow.cell (j := x + 3) (by omega)
    have z0 := hrow.frozen x
    have z1 := hrow.frozen (x + 1)
    have z2 := hrow.frozen (x + 2)
    have z3 := hrow.frozen (x + 3)
    have ex1 : IntKind.i64.wrap ((x : Int) + 1) = ((x + 1 : Nat) : Int) := by rw [IntWalk.i64_in _ (by omega)]; omega
    have ex2 : IntKind.i64.wrap ((x : Int) + 2) = ((x + 2 : Nat) : Int) := by rw [IntWalk.i64_in _ (by omega)]; omega
    have ex3 : IntKind.i64.wrap ((x : Int) + 3) = ((x + 3 : Nat) : Int) := by rw [IntWalk.i64_in _ (by omega)]; omega
    have ex4 : IntKind.i64.wrap ((x : Int) + 4) = ((x + 4 : Nat) : Int) := by rw [IntWalk.i64_in _ (by omega)]; omega
    have HC := hid hc; have HX := hid hx
    have HON := hid hon; have HROW' := hid hrow; have HPT := hid hpt
    clear hon hrow hpt eP hc hx cB lB
    go_wp2_with fail
    refine ⟨⟨k + 1, by omega, ?_, ?_, _, HROW'.out.quad x _ _ _ _, HPT.out.step4 (r0 := ra) (c0 := c) (by omega) HEP.out ?_ fun r' c' _ => ⟨fun h => ?_, fun h => ?_⟩⟩, ?_⟩
    · rw [HX.out]; congr 1
    · exact (((HON.out.setCell (Or.inl (by simp)) _).setCell (Or.inl (by simp)) _).setCell (Or.inl (by simp)) _).setCell (Or.inl (by simp)) _
    · obtain ⟨q0, q1, q2, q3⟩ := HUU.out
      rw [HNW.out]
      simp only [fsrcP, q0, q1, q2, q3, and_self]
    · have := HC.out
      have := HWN.out
      rcases h with ⟨h1, h2⟩ | ⟨rfl, rfl⟩
      · exact ⟨h1, by omega⟩
      · exact ⟨⟨by omega, by omega, by omega, by omega⟩, by omega⟩
    · have := HC.out
      by_cases e : r' = ra ∧ c' = c
      · exact Or.inr e
      · exact Or.inl ⟨h.1, by omega⟩
    · simp only [intOf]; have := HX.out; omega
end Go.Proofs.Ytlnfcjaempojgaa
