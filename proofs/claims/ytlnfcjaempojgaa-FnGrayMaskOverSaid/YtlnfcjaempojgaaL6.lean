/- What is to be shown of a road with a mask whose source is an image of bytes. -/
import Derived.Test.YtlnfcjaempojgaaL5
set_option linter.unusedVariables false
namespace Go.Proofs.Ytlnfcjaempojgaa
open Go.RowKit

section
variable {fn : FuncId} {kd : Int} {T BT : TypeId} {z : Nat} {st d1 d2 d3 d4 : Int} {dA : Option Addr} {n dc : Nat} {ds : List Int} {ra rb rc rd s1 s2 s3 s4 : Int} {sA : Option Addr} {sn sc : Nat} {ss : List Int} {sx sy m1 m2 m3 m4 : Int} {mA : Option Addr} {mn mc : Nat} {ms : List Int} {mx my : Int} {C : Rc} {Wd H : Nat} {w : World}
theorem core_mask_src (col : (Nat → Int) → Nat → Int) (hk : kd ≠ 6) (hz : sizeI kd = (z : Int)) (hz0 : 0 < z)
    (hdb : ByteSl w dA n dc ds) (hsb : ByteSl w sA sn sc ss) (hmb : ByteSl w mA mn mc ms) (fd : n ≤ 2147483647) (fs : sn ≤ 2147483647) (fm : mn ≤ 2147483647) (hdv : ValidP 0 d1 d2 d3 d4 n ds) (hsv : ValidP kd s1 s2 s3 s4 sn ss) (hmv : ValidP 2 m1 m2 m3 m4 mn ms) (hin : in4 ra rb rc rd) (hsx : -1000 ≤ sx ∧ sx ≤ 1000) (hsy : -1000 ≤ sy ∧ sy ≤ 1000) (hmx : -1000 ≤ mx ∧ mx ≤ 1000) (hmy : -1000 ≤ my ∧ my ≤ 1000)
    (hC : C = (((⟨ra, rb, rc, rd⟩ : Rc).common ⟨d1, d2, d3, d4⟩).common ((boundsOf kd s1 s2 s3 s4).moved (ra - sx) (rb - sy))).common ((boundsOf 2 m1 m2 m3 m4).moved (ra - mx) (rb - my))) (hE : C.emp = false) (hW : d3 = d1 + Wd) (hH : d4 = d2 + H)
    (hmk : ∀ Ws Hs A c base W, Geo z sn s1 s2 s3 s4 Ws Hs → 0 < sn → W.ownsRow base 5 1 (.slice A sn c) sn (u8s ss) → Makes (imgV kd s1 s2 s3 s4 (.slice A sn c)) W (NewSrc T BT z sn st s1 s2 s3 s4 Ws Hs (fun j => ss.getD j 0)))
    (hhb : ∀ Ws Hs f S lo hi W, NewSrc T BT z sn st s1 s2 s3 s4 Ws Hs f S lo hi W → HasB W S ⟨s1, s2, s3, s4⟩)
    (hat : ∀ (x y : Int) (i g o : Nat) W, AtF (z : Int) s1 s2 s3 x y i → i + z ≤ sn → sA = some ⟨g, o, none⟩ → g < W.heap.size → (∀ j, j < z → W.cell? ⟨g, o + i + j, none⟩ = some (.int .u8 (ss.getD (i + j) 0))) →
      Calls Try.prog 58 #[imgV kd s1 s2 s3 s4 (.slice sA sn sc), iv x, iv y] W fun e w' => e = .returned (fourV (col (fun j => ss.getD (i + j) 0) 0) (col (fun j => ss.getD (i + j) 0) 1) (col (fun j => ss.getD (i + j) 0) 2) (col (fun j => ss.getD (i + j) 0) 3)) ∧ Below W.heap.size W w')
    (h16 : ∀ q k, z * q + z ≤ sn → C16 (col (fun j => ss.getD (z * q + j) 0) k)) (hle : ∀ q k, z * q + z ≤ sn → k < 4 → col (fun j => ss.getD (z * q + j) 0) k ≤ col (fun j => ss.getD (z * q + j) 0) 3)
    (hdraw : ∀ (Ws Hs Wm Hm ca ra' ce re ua va um vm gD gp cap gS gq scap gM gr mcap : Nat) (W : World), DstAt W gD gp cap n d1 d2 d3 d4 Wd H (fun j => ds.getD j 0) → SrcAt BT z W gS gq scap sn st s1 s2 s3 s4 Ws Hs (fun j => ss.getD j 0) → SrcAt 113 1 W gM gr mcap mn (m3 - m1) m1 m2 m3 m4 Wm Hm (fun j => ms.getD j 0) → gp ≠ gq → gp ≠ gr → ca < ce ∧ ra' < re → ce ≤ Wd → re ≤ H →
      ua + (ce - ca) ≤ Ws → va + (re - ra') ≤ Hs → um + (ce - ca) ≤ Wm → vm + (re - ra') ≤ Hm →
      Calls Try.prog fn #[.pointer (some ⟨gD, 0, none⟩), rcV ⟨d1 + ca, d2 + ra', d1 + ce, d2 + re⟩, .iface T (.pointer (some ⟨gS, 0, none⟩)), ptV (s1 + ua) (s2 + va), .iface 99 (.pointer (some ⟨gM, 0, none⟩)), ptV (m1 + um) (m2 + vm)] W fun e w' => (∃ v, e = .returned v) ∧ Only [gp] W w' ∧
        ∃ f', PixRow w' gp cap n f' ∧ Painted Wd (fun j => ds.getD j 0) (fun r c k => maskB (ds.getD (pos Wd r c k) 0) (col (fun j => ss.getD (z * ((va + (r - ra')) * Ws + (ua + (c - ca))) + j) 0) k) (col (fun j => ss.getD (z * ((va + (r - ra')) * Ws + (ua + (c - ca))) + j) 0) 3) (ms.getD ((vm + (r - ra')) * Wm + (um + (c - ca))) 0)) (inPart ca ra' ce re) f') :
    CoreM fn kd d1 d2 d3 d4 n ds ra rb rc rd s1 s2 s3 s4 sA sn sc ss sx sy m1 m2 m3 m4 mA mn mc ms mx my C Wd H w := by
  obtain ⟨Wd', H', hG⟩ := geo_of (z := 4) hdv (by omega) rfl
  obtain rfl : Wd' = Wd := by have := hG.w3; omega
  obtain rfl : H' = H := by have := hG.w4; omega
  obtain ⟨Ws, Hs, hS⟩ := geo_of hsv hk hz
  obtain ⟨Wm, Hm, hM⟩ := geo_of (z := 1) hmv (by omega) rfl
  have hB : boundsOf kd s1 s2 s3 s4 = ⟨s1, s2, s3, s4⟩ := by unfold boundsOf; rw [if_neg hk]
  have hBm : boundsOf 2 m1 m2 m3 m4 = ⟨m1, m2, m3, m4⟩ := by unfold boundsOf; rw [if_neg (by omega)]
  rw [hB, hBm] at hC
  obtain ⟨ca, ra', ce, re, um, vm, e1, p1, p2, p3, p4, e2, e3, p5, p6, g1, g2, g3, g4⟩ := parts_m (r := ⟨ra, rb, rc, rd⟩) hW hH hM.w3 hM.w4 hC hE
  dsimp only at e2 e3 g1 g2 g3 g4
  have hw := hS.w3; have hw4 := hS.w4; have hb1 := hS.b1; have hb2 := hS.b2
  have hmw := hM.w3; have hmw4 := hM.w4; have hmb1 := hM.b1; have hmb2 := hM.b2
  obtain ⟨ua, hua⟩ : ∃ ua : Nat, sx + (C.a - ra) = s1 + ua := ⟨(sx + (C.a - ra) - s1).toNat, by omega⟩
  obtain ⟨va, hva⟩ : ∃ va : Nat, sy + (C.b - rb) = s2 + va := ⟨(sy + (C.b - rb) - s2).toNat, by omega⟩
  have q5 : ua + (ce - ca) ≤ Ws := by rw [e1] at g3 hua; dsimp only at g3 hua; omega
  have q6 : va + (re - ra') ≤ Hs := by rw [e1] at g4 hva; dsimp only at g4 hva; omega
  have hn0 : 0 < n := by
    have := pos_lt (W := Wd') (H := H') (r := ra') (c := ca) (k := 0) (by omega) (by omega) (by omega)
    have := hG.len
    omega
  have hs0 : 0 < sn := by
    have := place_lt (z := z) (v := va) (Ws := Ws) (Hs := Hs) (u := ua) (by omega) (by omega)
    have := hS.len
    omega
  have hm0 : 0 < mn := by
    have := place_lt (z := 1) (v := vm) (Ws := Wm) (Hs := Hm) (u := um) (by omega) (by omega)
    have := hM.len
    omega
  have hin' : (⟨ra, rb, rc, rd⟩ : Rc).in_ 1000 := hin
  have hsb' : (⟨s1, s2, s3, s4⟩ : Rc).in_ 1000000000 := ⟨by dsimp only; omega, by dsimp only; omega, by dsimp only; omega, by dsimp only; omega⟩
  have hmb' : (⟨m1, m2, m3, m4⟩ : Rc).in_ 1000000000 := ⟨by dsimp only; omega, by dsimp only; omega, by dsimp only; omega, by dsimp only; omega⟩
  refine ⟨fun j => ds.getD j 0, NewSrc T BT z sn st s1 s2 s3 s4 Ws Hs (fun j => ss.getD j 0), NewSrc 99 113 1 mn (m3 - m1) m1 m2 m3 m4 Wm Hm (fun j => ms.getD j 0), Painted Wd' (fun j => ds.getD j 0) (fun r c k => maskB (ds.getD (pos Wd' r c k) 0) (col (fun j => ss.getD (z * ((va + (r - ra')) * Ws + (ua + (c - ca))) + j) 0) k) (col (fun j => ss.getD (z * ((va + (r - ra')) * Ws + (ua + (c - ca))) + j) 0) 3) (ms.getD ((vm + (r - ra')) * Wm + (um + (c - ca))) 0)) (inPart ca ra' ce re),
    fun A c base W hown => makes_dst hG hn0 hown fd, fun A c base W hown => hmk Ws Hs A c base W hS hs0 hown, fun A c base W hown => makes2 hM hm0 fm hown, newSrc_st, newSrc_st,
    clips_mask (sb := ⟨s1, s2, s3, s4⟩) (mb := ⟨m1, m2, m3, m4⟩) (fun S lo hi W h => hhb _ _ _ _ _ _ _ h) (fun M lo hi W h => ⟨by obtain ⟨g, gp, c, rfl, _⟩ := h; exact ⟨_, _, rfl⟩, hasb2 h⟩) hin' hsb' hmb' hsx hsy hmx hmy hC, ?_, fun f' hp => ⟨?_, ?_⟩⟩
  · intro W gD gp c S slo shi M mlo mhi hD hS' hne hM' hne'
    obtain ⟨gS, gq, c', rfl, ⟨q1, q2⟩, ⟨q3, q4⟩, hsrc⟩ := hS'
    obtain ⟨gM, gr, c2, rfl, ⟨r1, r2⟩, ⟨r3, r4⟩, hmsk⟩ := hM'
    rw [hua, hva, e2, e3]
    have hx := hdraw Ws Hs Wm Hm ca ra' ce re ua va um vm gD gp c gS gq c' gM gr c2 W hD hsrc hmsk (by omega) (by omega) ⟨p1, p2⟩ p3 p4 q5 q6 p5 p6
    rw [← e1] at hx
    exact hx
  · rw [hG.len]
    refine painted_rng hp hdb.rng fun r c k hP hk => ?_
    obtain ⟨a1, a2, a3, a4⟩ := hP
    have hl : z * ((va + (r - ra')) * Ws + (ua + (c - ca))) + z ≤ sn := by rw [hS.len]; exact place_lt (by omega) (by omega)
    exact maskB_rng (hdb.rng _) (h16 _ 3 hl) ⟨(h16 _ k hl).1, hle _ k hl hk⟩ (hmb.rng _)
  · refine allOkM_of hG.len e1 hp fun r c hr hc hP => ?_
    obtain ⟨a1, a2, a3, a4⟩ := hP
    obtain ⟨v, hv⟩ : ∃ v, v = va + (r - ra') := ⟨_, rfl⟩
    obtain ⟨u, hu⟩ : ∃ u, u = ua + (c - ca) := ⟨_, rfl⟩
    obtain ⟨v', hv'⟩ : ∃ v, v = vm + (r - ra') := ⟨_, rfl⟩
    obtain ⟨u', hu'⟩ : ∃ u, u = um + (c - ca) := ⟨_, rfl⟩
    have hX : mx + C.a - ra + (d1 + (c : Int)) - C.a = m1 + (u' : Int) := by rw [e1] at e2 ⊢; dsimp only at e2 ⊢; omega
    have hY : my + C.b - rb + (d2 + (r : Int)) - C.b = m2 + (v' : Int) := by rw [e1] at e3 ⊢; dsimp only at e3 ⊢; omega
    have hX2 : sx + C.a - ra + (d1 + (c : Int)) - C.a = s1 + (u : Int) := by rw [e1] at hua ⊢; dsimp only at hua ⊢; omega
    have hY2 : sy + C.b - rb + (d2 + (r : Int)) - C.b = s2 + (v : Int) := by rw [e1] at hva ⊢; dsimp only at hva ⊢; omega
    rw [hX, hY, hX2, hY2, ← hv, ← hu, ← hv', ← hu']
    have hlt := place_lt (z := 1) (v := v') (Ws := Wm) (Hs := Hm) (u := u') (by omega) (by omega)
    have hlm : v' * Wm + u' + 1 ≤ mn := by have := hM.len; omega
    have hls : z * (v * Ws + u) + z ≤ sn := by rw [hS.len]; exact place_lt (by omega) (by omega)
    have mr := hmb.rng (v' * Wm + u')
    have hF : AtF (1 : Int) m1 m2 m3 (m1 + (u' : Int)) (m2 + (v' : Int)) (v' * Wm + u') := atFw (by omega) (by omega) (by omega) (by omega) (by have := pos_zz (z := 1) (v := v') (u := u') (s2 := m2) hmw; rw [Nat.one_mul] at this; exact this) (by omega)
    have near : ∀ k, k < 4 → NearB (maskB (ds.getD (pos Wd' r c k) 0) (col (fun j => ss.getD (z * (v * Ws + u) + j) 0) k) (col (fun j => ss.getD (z * (v * Ws + u) + j) 0) 3) (ms.getD (v' * Wm + u') 0)) (comp 0 (ds.getD (pos Wd' r c k) 0 * 257) (col (fun j => ss.getD (z * (v * Ws + u) + j) 0) k) (col (fun j => ss.getD (z * (v * Ws + u) + j) 0) 3) (ms.getD (v' * Wm + u') 0 * 257)) := fun k hk => by
      have h := mask_near (t := ds.getD (pos Wd' r c k) 0) (u := col (fun j => ss.getD (z * (v * Ws + u) + j) 0) k) (a := col (fun j => ss.getD (z * (v * Ws + u) + j) 0) 3) (m := ms.getD (v' * Wm + u') 0) (hdb.rng _) (h16 _ 3 hls) ⟨(h16 _ k hls).1, hle _ k hls hk⟩ mr
      unfold NearB comp
      rw [if_pos rfl]
      exact h
    refine ⟨_, _, _, _, ⟨by omega, by omega⟩, fun W hb => at_mask hmb _ _ _ W hb hF hlm, _, _, _, _, ⟨h16 _ 0 hls, h16 _ 1 hls, h16 _ 2 hls, h16 _ 3 hls⟩, fun W hb => ?_, near 0 (by omega), near 1 (by omega), near 2 (by omega), near 3 (by omega)⟩
    obtain ⟨g, o, hA, hg, hcell⟩ := hsb.at_ hs0
    refine hat _ _ (z * (v * Ws + u)) g o W (atFw (by omega) (by omega) (by omega) (by omega) (pos_zz hw) (by omega)) hls hA (Nat.lt_of_lt_of_le hg hb.size) fun j hj => ?_
    have := (hb.cell (p := ⟨g, o + (z * (v * Ws + u) + j), none⟩) hg).trans (hcell _ (by omega))
    rw [show o + z * (v * Ws + u) + j = o + (z * (v * Ws + u) + j) by omega]
    exact this
end
end Go.Proofs.Ytlnfcjaempojgaa
