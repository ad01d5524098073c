/- The parts under a mask; what is to be shown of the roads with a mask, from what the function does with one pixel. -/
import Derived.Test.YtlnfcjaempojgaaL4
import Derived.Test.YtlnfcjaempojgaaI4
set_option linter.unusedVariables false
namespace Go.Proofs.Ytlnfcjaempojgaa
open Go.RowKit

theorem parts_m {d1 d2 d3 d4 sx sy m1 m2 m3 m4 mx my : Int} {r sb C : Rc} {Wd H Wm Hm : Nat} (w3 : d3 = d1 + Wd) (w4 : d4 = d2 + H) (v3 : m3 = m1 + Wm) (v4 : m4 = m2 + Hm)
    (hC : C = ((r.common ⟨d1, d2, d3, d4⟩).common (sb.moved (r.a - sx) (r.b - sy))).common ((⟨m1, m2, m3, m4⟩ : Rc).moved (r.a - mx) (r.b - my))) (hE : C.emp = false) :
    ∃ ca ra ce re ua va : Nat, C = ⟨d1 + ca, d2 + ra, d1 + ce, d2 + re⟩ ∧ ca < ce ∧ ra < re ∧ ce ≤ Wd ∧ re ≤ H ∧ mx + (C.a - r.a) = m1 + ua ∧ my + (C.b - r.b) = m2 + va ∧ ua + (ce - ca) ≤ Wm ∧ va + (re - ra) ≤ Hm ∧
      (sb.a + (r.a - sx) ≤ C.a ∧ sb.b + (r.b - sy) ≤ C.b ∧ C.c ≤ sb.c + (r.a - sx) ∧ C.d ≤ sb.d + (r.b - sy)) := by
  rw [hC] at hE
  obtain ⟨⟨a1, a2, a3, a4⟩, ⟨b1, b2, b3, b4⟩, hE1, a5, a6⟩ := Rc.common_sub hE
  obtain ⟨⟨c1, c2, c3, c4⟩, ⟨e1, e2, e3, e4⟩, hE2, c5, c6⟩ := Rc.common_sub hE1
  obtain ⟨_, ⟨f1, f2, f3, f4⟩, _, f5, f6⟩ := Rc.common_sub hE2
  rw [← hC] at a1 a2 a3 a4 a5 a6 b1 b2 b3 b4
  have g1 : sb.a + (r.a - sx) ≤ ((r.common ⟨d1, d2, d3, d4⟩).common (sb.moved (r.a - sx) (r.b - sy))).a := e1
  have g2 : sb.b + (r.b - sy) ≤ ((r.common ⟨d1, d2, d3, d4⟩).common (sb.moved (r.a - sx) (r.b - sy))).b := e2
  have g3 : ((r.common ⟨d1, d2, d3, d4⟩).common (sb.moved (r.a - sx) (r.b - sy))).c ≤ sb.c + (r.a - sx) := e3
  have g4 : ((r.common ⟨d1, d2, d3, d4⟩).common (sb.moved (r.a - sx) (r.b - sy))).d ≤ sb.d + (r.b - sy) := e4
  clear e1 e2 e3 e4
  generalize (r.common ⟨d1, d2, d3, d4⟩).common (sb.moved (r.a - sx) (r.b - sy)) = Y at *
  unfold Rc.moved at b1 b2 b3 b4
  dsimp only at b1 b2 b3 b4 f1 f2 f3 f4
  clear hC hE hE1 hE2
  obtain ⟨ca, cb, cc, cd⟩ := C
  dsimp only at a1 a2 a3 a4 a5 a6 b1 b2 b3 b4 ⊢
  refine ⟨(ca - d1).toNat, (cb - d2).toNat, (cc - d1).toNat, (cd - d2).toNat, (mx + (ca - r.a) - m1).toNat, (my + (cb - r.b) - m2).toNat, ?_, by omega, by omega, by omega, by omega, by omega, by omega, by omega, by omega, ?_⟩
  · rw [Rc.mk.injEq]
    exact ⟨by omega, by omega, by omega, by omega⟩
  · exact ⟨by omega, by omega, by omega, by omega⟩

section
variable {fn : FuncId} {d1 d2 d3 d4 : Int} {dA : Option Addr} {n dc : Nat} {ds : List Int} {ra rb rc rd s1 s2 s3 s4 : Int} {sA : Option Addr} {sn sc : Nat} {ss : List Int} {sx sy m1 m2 m3 m4 : Int} {mA : Option Addr} {mn mc : Nat} {ms : List Int} {mx my : Int} {C : Rc} {Wd H : Nat} {w : World}
theorem at_mask (hmb : ByteSl w mA mn mc ms) (i : Nat) (x y : Int) (W : World) (hb : Below w.heap.size w W) (hF : AtF (1 : Int) m1 m2 m3 x y i) (hi : i + 1 ≤ mn) :
    Calls Try.prog 58 #[imgV 2 m1 m2 m3 m4 (.slice mA mn mc), iv x, iv y] W fun e w' => e = .returned (fourV (ms.getD i 0 * 257) (ms.getD i 0 * 257) (ms.getD i 0 * 257) (ms.getD i 0 * 257)) ∧ Below W.heap.size W w' := by
  obtain ⟨g, o, hA, hg, hcell⟩ := hmb.at_ (by omega)
  subst hA
  exact at_alpha m1 m2 m3 m4 x y g o mn mc i (ms.getD i 0) W hF hi hmb.le hmb.cap (Nat.lt_of_lt_of_le hg hb.size) ((hb.cell (p := ⟨g, o + i, none⟩) hg).trans (hcell i (by omega))) (hmb.rng i)

theorem core_mask_uni
    (hdb : ByteSl w dA n dc ds) (hsb : ByteSl w sA sn sc ss) (hmb : ByteSl w mA mn mc ms) (fd : n ≤ 2147483647) (fs : sn ≤ 2147483647) (fm : mn ≤ 2147483647) (hdv : ValidP 0 d1 d2 d3 d4 n ds) (hsv : ValidP 6 s1 s2 s3 s4 sn ss) (hmv : ValidP 2 m1 m2 m3 m4 mn ms) (hin : in4 ra rb rc rd) (hmx : -1000 ≤ mx ∧ mx ≤ 1000) (hmy : -1000 ≤ my ∧ my ≤ 1000)
    (hC : C = (((⟨ra, rb, rc, rd⟩ : Rc).common ⟨d1, d2, d3, d4⟩).common ((boundsOf 6 s1 s2 s3 s4).moved (ra - 0) (rb - 0))).common ((boundsOf 2 m1 m2 m3 m4).moved (ra - mx) (rb - my))) (hE : C.emp = false) (hW : d3 = d1 + Wd) (hH : d4 = d2 + H)
    (hdraw : ∀ (Wm Hm ca ra' ce re ua va gD gp cap gU gS gq scap : Nat) (px py : Int) (W : World), DstAt W gD gp cap n d1 d2 d3 d4 Wd H (fun j => ds.getD j 0) → Blk W gU 129 #[.iface 122 (colV ss)] → SrcAt 113 1 W gS gq scap mn (m3 - m1) m1 m2 m3 m4 Wm Hm (fun j => ms.getD j 0) → gp ≠ gq → ca < ce ∧ ra' < re → ce ≤ Wd → re ≤ H → ua + (ce - ca) ≤ Wm → va + (re - ra') ≤ Hm →
      Calls Try.prog fn #[.pointer (some ⟨gD, 0, none⟩), rcV ⟨d1 + ca, d2 + ra', d1 + ce, d2 + re⟩, .iface 103 (.pointer (some ⟨gU, 0, none⟩)), ptV px py, .iface 99 (.pointer (some ⟨gS, 0, none⟩)), ptV (m1 + ua) (m2 + va)] W fun e w' => (∃ v, e = .returned v) ∧ Only [gp] W w' ∧
        ∃ f', PixRow w' gp cap n f' ∧ Painted Wd (fun j => ds.getD j 0) (fun r c k => maskB (ds.getD (pos Wd r c k) 0) (uniC ss k) (uniC ss 3) (ms.getD ((va + (r - ra')) * Wm + (ua + (c - ca))) 0)) (inPart ca ra' ce re) f') :
    CoreM fn 6 d1 d2 d3 d4 n ds ra rb rc rd s1 s2 s3 s4 sA sn sc ss 0 0 m1 m2 m3 m4 mA mn mc ms mx my C Wd H w := by
  obtain ⟨Wd', H', hG⟩ := geo_of (z := 4) hdv (by omega) rfl
  obtain rfl : Wd' = Wd := by have := hG.w3; omega
  obtain rfl : H' = H := by have := hG.w4; omega
  obtain ⟨Wm, Hm, hM⟩ := geo_of (z := 1) hmv (by omega) rfl
  obtain rfl : sn = 8 := hsv.2.2.2.1 rfl
  have hU := uniV_of (k := 6) hsv hsb.len
  have hB : boundsOf 6 s1 s2 s3 s4 = ⟨-1000000000, -1000000000, 1000000000, 1000000000⟩ := by unfold boundsOf; rw [if_pos rfl]
  have hBm : boundsOf 2 m1 m2 m3 m4 = ⟨m1, m2, m3, m4⟩ := by unfold boundsOf; rw [if_neg (by omega)]
  rw [hB, hBm] at hC
  obtain ⟨ca, ra', ce, re, ua, va, e1, p1, p2, p3, p4, e2, e3, p5, p6, _⟩ := parts_m (r := ⟨ra, rb, rc, rd⟩) (sx := 0) (sy := 0) hW hH hM.w3 hM.w4 hC hE
  dsimp only at e2 e3
  have hw := hM.w3; have hw4 := hM.w4; have hb1 := hM.b1; have hb2 := hM.b2
  have hn0 : 0 < n := by
    have := pos_lt (W := Wd') (H := H') (r := ra') (c := ca) (k := 0) (by omega) (by omega) (by omega)
    have := hG.len
    omega
  have hm0 : 0 < mn := by
    have := place_lt (z := 1) (v := va) (Ws := Wm) (Hs := Hm) (u := ua) (by omega) (by omega)
    have := hM.len
    omega
  have hin' : (⟨ra, rb, rc, rd⟩ : Rc).in_ 1000 := hin
  have hsb' : (⟨-1000000000, -1000000000, 1000000000, 1000000000⟩ : Rc).in_ 1000000000 := ⟨by dsimp only; omega, by dsimp only; omega, by dsimp only; omega, by dsimp only; omega⟩
  have hmb' : (⟨m1, m2, m3, m4⟩ : Rc).in_ 1000000000 := ⟨by dsimp only; omega, by dsimp only; omega, by dsimp only; omega, by dsimp only; omega⟩
  have hU16 : ∀ k, 0 ≤ uniC ss k ∧ uniC ss k ≤ 65535 := uniC_in hsb.rng
  have hUk : ∀ k, k < 4 → uniC ss k ≤ uniC ss 3 := fun k hk => by
    have : k = 0 ∨ k = 1 ∨ k = 2 ∨ k = 3 := by omega
    rcases this with rfl | rfl | rfl | rfl
    · exact hU.1
    · exact hU.2.1
    · exact hU.2.2
    · exact Int.le_refl _
  refine ⟨fun j => ds.getD j 0, NewUni ss, NewSrc 99 113 1 mn (m3 - m1) m1 m2 m3 m4 Wm Hm (fun j => ms.getD j 0), Painted Wd' (fun j => ds.getD j 0) (fun r c k => maskB (ds.getD (pos Wd' r c k) 0) (uniC ss k) (uniC ss 3) (ms.getD ((va + (r - ra')) * Wm + (ua + (c - ca))) 0)) (inPart ca ra' ce re),
    fun A c base W hown => makes_dst hG hn0 hown fd, fun A c base W hown => makes6 hsb.rng hown, fun A c base W hown => makes2 hM hm0 fm hown, newUni_st, newSrc_st,
    clips_mask (sb := ⟨-1000000000, -1000000000, 1000000000, 1000000000⟩) (mb := ⟨m1, m2, m3, m4⟩) (fun S lo hi W h => hasb6 h) (fun M lo hi W h => ⟨by obtain ⟨g, gp, c, rfl, _⟩ := h; exact ⟨_, _, rfl⟩, hasb2 h⟩) hin' hsb' hmb' (by omega) (by omega) hmx hmy hC, ?_, fun f' hp => ⟨?_, ?_⟩⟩
  · intro W gD gp c S slo shi M mlo mhi hD hS' hne hM' hne'
    obtain ⟨gU, rfl, _, hblk⟩ := hS'
    obtain ⟨gS, gq, c', rfl, ⟨q1, q2⟩, ⟨q3, q4⟩, hsrc⟩ := hM'
    rw [e2, e3]
    have hx := hdraw Wm Hm ca ra' ce re ua va gD gp c gU gS gq c' (0 + (C.a - ra)) (0 + (C.b - rb)) W hD hblk hsrc (by omega) ⟨p1, p2⟩ p3 p4 p5 p6
    rw [← e1] at hx
    exact hx
  · rw [hG.len]
    exact painted_rng hp hdb.rng fun r c k hP hk => maskB_rng (hdb.rng _) (hU16 3) ⟨(hU16 k).1, hUk k hk⟩ (hmb.rng _)
  · refine allOkM_of hG.len e1 hp fun r c hr hc hP => ?_
    obtain ⟨a1, a2, a3, a4⟩ := hP
    obtain ⟨v, hv⟩ : ∃ v, v = va + (r - ra') := ⟨_, rfl⟩
    obtain ⟨u, hu⟩ : ∃ u, u = ua + (c - ca) := ⟨_, rfl⟩
    have hX : mx + C.a - ra + (d1 + (c : Int)) - C.a = m1 + (u : Int) := by rw [e1] at e2 ⊢; dsimp only at e2 ⊢; omega
    have hY : my + C.b - rb + (d2 + (r : Int)) - C.b = m2 + (v : Int) := by rw [e1] at e3 ⊢; dsimp only at e3 ⊢; omega
    rw [hX, hY, ← hv, ← hu]
    have hlt := place_lt (z := 1) (v := v) (Ws := Wm) (Hs := Hm) (u := u) (by omega) (by omega)
    have hlm : v * Wm + u + 1 ≤ mn := by have := hM.len; omega
    have mr := hmb.rng (v * Wm + u)
    have hF : AtF (1 : Int) m1 m2 m3 (m1 + (u : Int)) (m2 + (v : Int)) (v * Wm + u) := atFw (by omega) (by omega) (by omega) (by omega) (by have := pos_zz (z := 1) (v := v) (u := u) (s2 := m2) hw; rw [Nat.one_mul] at this; exact this) (by omega)
    have near : ∀ k, k < 4 → NearB (maskB (ds.getD (pos Wd' r c k) 0) (uniC ss k) (uniC ss 3) (ms.getD (v * Wm + u) 0)) (comp 0 (ds.getD (pos Wd' r c k) 0 * 257) (uniC ss k) (uniC ss 3) (ms.getD (v * Wm + u) 0 * 257)) := fun k hk => by
      have h := mask_near (t := ds.getD (pos Wd' r c k) 0) (u := uniC ss k) (a := uniC ss 3) (m := ms.getD (v * Wm + u) 0) (hdb.rng _) (hU16 3) ⟨(hU16 k).1, hUk k hk⟩ mr
      unfold NearB comp
      rw [if_pos rfl]
      exact h
    exact ⟨_, _, _, _, ⟨by omega, by omega⟩, fun W hb => at_mask hmb _ _ _ W hb hF hlm, _, _, _, _, ⟨uniC_in hsb.rng 0, uniC_in hsb.rng 1, uniC_in hsb.rng 2, uniC_in hsb.rng 3⟩, fun W hb => at_uni hsb rfl _ _ W hb, near 0 (by omega), near 1 (by omega), near 2 (by omega), near 3 (by omega)⟩
end
end Go.Proofs.Ytlnfcjaempojgaa
