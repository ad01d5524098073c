/- What is to be shown of a road whose source is an image of bytes, from what its function does with one pixel. -/
import Derived.Test.YtlnfcjaempojgaaL1
set_option linter.unusedVariables false
namespace Go.Proofs.Ytlnfcjaempojgaa
open Go.RowKit

theorem pos_zz {z v Ws u : Nat} {s1 s2 s3 : Int} (h3 : s3 = s1 + Ws) : (z : Int) * ((s2 + (v : Int) - s2) * (s3 - s1) + (s1 + (u : Int)) - s1) = ((z * (v * Ws + u) : Nat) : Int) := by
  have e1 : s2 + (v : Int) - s2 = (v : Int) := by omega
  have e2 : s3 - s1 = (Ws : Int) := by omega
  rw [e1, e2]
  simp only [Int.natCast_add, Int.natCast_mul]
  have e3 : (v : Int) * (Ws : Int) + (s1 + (u : Int)) - s1 = (v : Int) * (Ws : Int) + (u : Int) := by omega
  rw [e3]

theorem place_lt {z v Ws Hs u : Nat} (hv : v < Hs) (hu : u < Ws) : z * (v * Ws + u) + z ≤ z * (Hs * Ws) := by
  have h1 := Nat.mul_le_mul_right Ws (show v + 1 ≤ Hs by omega)
  rw [Nat.add_mul, Nat.one_mul] at h1
  have h2 := Nat.mul_le_mul_left z (show v * Ws + u + 1 ≤ Hs * Ws by omega)
  rw [Nat.mul_add, Nat.mul_one] at h2
  exact h2

section
variable {fn : FuncId} {kd op : Int} {T BT : TypeId} {z : Nat} {st d1 d2 d3 d4 : Int} {dA : Option Addr} {n dc : Nat} {ds : List Int} {ra rb rc rd s1 s2 s3 s4 : Int} {sA : Option Addr} {sn sc : Nat} {ss : List Int} {sx sy : Int} {C : Rc} {Wd H : Nat} {w : World}
theorem core_src (pixf : (Nat → Int) → (Nat → Int) → Nat → Int) (col : (Nat → Int) → Nat → Int) (Vd : (Nat → Int) → Prop) (hk : kd ≠ 6) (hz : sizeI kd = (z : Int)) (hz0 : 0 < z)
    (hdb : ByteSl w dA n dc ds) (hsb : ByteSl w sA sn sc ss) (fd : n ≤ 2147483647) (fs : sn ≤ 2147483647) (hdv : ValidP 0 d1 d2 d3 d4 n ds) (hsv : ValidP kd s1 s2 s3 s4 sn ss) (hin : in4 ra rb rc rd) (hsx : -1000 ≤ sx ∧ sx ≤ 1000) (hsy : -1000 ≤ sy ∧ sy ≤ 1000)
    (hC : C = ((⟨ra, rb, rc, rd⟩ : Rc).common ⟨d1, d2, d3, d4⟩).common ((boundsOf kd s1 s2 s3 s4).moved (ra - sx) (rb - sy))) (hE : C.emp = false) (hW : d3 = d1 + Wd) (hH : d4 = d2 + H)
    (hmk : ∀ Ws Hs A c base W, Geo z sn s1 s2 s3 s4 Ws Hs → 0 < sn → W.ownsRow base 5 1 (.slice A sn c) sn (u8s ss) → Makes (imgV kd s1 s2 s3 s4 (.slice A sn c)) W (NewSrc T BT z sn st s1 s2 s3 s4 Ws Hs (fun j => ss.getD j 0)))
    (hhb : ∀ Ws Hs f S lo hi W, NewSrc T BT z sn st s1 s2 s3 s4 Ws Hs f S lo hi W → HasB W S ⟨s1, s2, s3, s4⟩)
    (hVd : ∀ q, z * q + z ≤ sn → Vd (fun j => ss.getD (z * q + j) 0))
    (hat : ∀ (x y : Int) (i g o : Nat) W, AtF (z : Int) s1 s2 s3 x y i → i + z ≤ sn → sA = some ⟨g, o, none⟩ → g < W.heap.size → (∀ j, j < z → W.cell? ⟨g, o + i + j, none⟩ = some (.int .u8 (ss.getD (i + j) 0))) →
      Calls Try.prog 58 #[imgV kd s1 s2 s3 s4 (.slice sA sn sc), iv x, iv y] W fun e w' => e = .returned (fourV (col (fun j => ss.getD (i + j) 0) 0) (col (fun j => ss.getD (i + j) 0) 1) (col (fun j => ss.getD (i + j) 0) 2) (col (fun j => ss.getD (i + j) 0) 3)) ∧ Below W.heap.size W w')
    (h16 : ∀ S k, (∀ j, 0 ≤ S j ∧ S j ≤ 255) → C16 (col S k))
    (hnear : ∀ D S k, (∀ j, 0 ≤ D j ∧ D j ≤ 255) → (∀ j, 0 ≤ S j ∧ S j ≤ 255) → Vd S → k < 4 → NearB (pixf D S k) (comp op (D k * 257) (col S k) (col S 3) 65535))
    (hrng : ∀ D S k, (∀ j, 0 ≤ D j ∧ D j ≤ 255) → (∀ j, 0 ≤ S j ∧ S j ≤ 255) → Vd S → k < 4 → 0 ≤ pixf D S k ∧ pixf D S k ≤ 255)
    (hdraw : ∀ (Ws Hs ca ra' ce re ua va gD gp cap gS gq scap : Nat) (M : Value) (mx my : Int) (W : World), DstAt W gD gp cap n d1 d2 d3 d4 Wd H (fun j => ds.getD j 0) → SrcAt BT z W gS gq scap sn st s1 s2 s3 s4 Ws Hs (fun j => ss.getD j 0) → gp ≠ gq → ca < ce ∧ ra' < re → ce ≤ Wd → re ≤ H → ua + (ce - ca) ≤ Ws → va + (re - ra') ≤ Hs →
      Calls Try.prog fn #[.pointer (some ⟨gD, 0, none⟩), rcV ⟨d1 + ca, d2 + ra', d1 + ce, d2 + re⟩, .iface T (.pointer (some ⟨gS, 0, none⟩)), ptV (s1 + ua) (s2 + va), M, ptV mx my] W fun e w' => (∃ v, e = .returned v) ∧ Only [gp] W w' ∧
        ∃ f', PixRow w' gp cap n f' ∧ Painted Wd (fun j => ds.getD j 0) (fun r c => pixf (fun k => ds.getD (pos Wd r c k) 0) (fun j => ss.getD (z * ((va + (r - ra')) * Ws + (ua + (c - ca))) + j) 0)) (inPart ca ra' ce re) f') :
    Core fn kd op d1 d2 d3 d4 n ds ra rb rc rd s1 s2 s3 s4 sA sn sc ss sx sy C Wd H w := by
  obtain ⟨Wd', H', hG⟩ := geo_of (z := 4) hdv (by omega) rfl
  obtain rfl : Wd' = Wd := by have := hG.w3; omega
  obtain rfl : H' = H := by have := hG.w4; omega
  obtain ⟨Ws, Hs, hS⟩ := geo_of hsv hk hz
  have hB : boundsOf kd s1 s2 s3 s4 = ⟨s1, s2, s3, s4⟩ := by unfold boundsOf; rw [if_neg hk]
  rw [hB] at hC
  obtain ⟨ca, ra', ce, re, ua, va, e1, p1, p2, p3, p4, e2, e3, p5, p6⟩ := parts_s (r := ⟨ra, rb, rc, rd⟩) hW hH hS.w3 hS.w4 hC hE
  dsimp only at e2 e3
  have hw := hS.w3; have hw4 := hS.w4; have hb1 := hS.b1; have hb2 := hS.b2
  have hn0 : 0 < n := by
    have := pos_lt (W := Wd') (H := H') (r := ra') (c := ca) (k := 0) (by omega) (by omega) (by omega)
    have := hG.len
    omega
  have hs0 : 0 < sn := by
    have := place_lt (z := z) (v := va) (Ws := Ws) (Hs := Hs) (u := ua) (by omega) (by omega)
    have := hS.len
    omega
  have hin' : (⟨ra, rb, rc, rd⟩ : Rc).in_ 1000 := hin
  have hsb' : (⟨s1, s2, s3, s4⟩ : Rc).in_ 1000000000 := ⟨by dsimp only; omega, by dsimp only; omega, by dsimp only; omega, by dsimp only; omega⟩
  refine ⟨fun j => ds.getD j 0, NewSrc T BT z sn st s1 s2 s3 s4 Ws Hs (fun j => ss.getD j 0), Painted Wd' (fun j => ds.getD j 0) (fun r c => pixf (fun k => ds.getD (pos Wd' r c k) 0) (fun j => ss.getD (z * ((va + (r - ra')) * Ws + (ua + (c - ca))) + j) 0)) (inPart ca ra' ce re),
    fun A c base W hown => makes_dst hG hn0 hown fd, fun A c base W hown => hmk Ws Hs A c base W hS hs0 hown, newSrc_st, clips_nil (sb := ⟨s1, s2, s3, s4⟩) (fun S lo hi W h => hhb _ _ _ _ _ _ _ h) hin' hsb' hsx hsy (by omega) (by omega) hC, ?_, fun f' hp => ⟨?_, ?_⟩⟩
  · intro W gD gp c S slo shi M mlo mhi hD hS' hne _ _
    obtain ⟨gS, gq, c', rfl, ⟨q1, q2⟩, ⟨q3, q4⟩, hsrc⟩ := hS'
    rw [e2, e3, e1]
    exact hdraw Ws Hs ca ra' ce re ua va gD gp c gS gq c' M _ _ W hD hsrc (by omega) ⟨p1, p2⟩ p3 p4 p5 p6
  · rw [hG.len]
    refine painted_rng hp hdb.rng fun r c k hP hk => hrng _ _ k (fun j => hdb.rng _) (fun j => hsb.rng _) (hVd _ ?_) hk
    obtain ⟨a1, a2, a3, a4⟩ := hP
    rw [hS.len]
    exact place_lt (by omega) (by omega)
  · refine allOk_of hG.len e1 hp fun r c hr hc hP => ?_
    obtain ⟨a1, a2, a3, a4⟩ := hP
    obtain ⟨v, hv⟩ : ∃ v, v = va + (r - ra') := ⟨_, rfl⟩
    obtain ⟨u, hu⟩ : ∃ u, u = ua + (c - ca) := ⟨_, rfl⟩
    have hX : sx + C.a - ra + (d1 + (c : Int)) - C.a = s1 + (u : Int) := by rw [e1] at e2 ⊢; dsimp only at e2 ⊢; omega
    have hY : sy + C.b - rb + (d2 + (r : Int)) - C.b = s2 + (v : Int) := by rw [e1] at e3 ⊢; dsimp only at e3 ⊢; omega
    rw [hX, hY, ← hv, ← hu]
    have hlt : z * (v * Ws + u) + z ≤ sn := by rw [hS.len]; exact place_lt (by omega) (by omega)
    have hV := hVd _ hlt
    have hS1 : ∀ j, 0 ≤ ss.getD (z * (v * Ws + u) + j) 0 ∧ ss.getD (z * (v * Ws + u) + j) 0 ≤ 255 := fun j => hsb.rng _
    have hD1 : ∀ k, 0 ≤ ds.getD (pos Wd' r c k) 0 ∧ ds.getD (pos Wd' r c k) 0 ≤ 255 := fun k => hdb.rng _
    refine ⟨_, _, _, _, ⟨h16 _ 0 hS1, h16 _ 1 hS1, h16 _ 2 hS1, h16 _ 3 hS1⟩, fun W hb => ?_, hnear _ _ 0 hD1 hS1 hV (by omega), hnear _ _ 1 hD1 hS1 hV (by omega), hnear _ _ 2 hD1 hS1 hV (by omega), hnear _ _ 3 hD1 hS1 hV (by omega)⟩
    obtain ⟨g, o, hA, hg, hcell⟩ := hsb.at_ hs0
    refine hat _ _ (z * (v * Ws + u)) g o W (atFw (by omega) (by omega) (by omega) (by omega) (pos_zz hw) (by omega)) hlt hA (Nat.lt_of_lt_of_le hg hb.size) fun j hj => ?_
    have := (hb.cell (p := ⟨g, o + (z * (v * Ws + u) + j), none⟩) hg).trans (hcell _ (by omega))
    rw [show o + z * (v * Ws + u) + j = o + (z * (v * Ws + u) + j) by omega]
    exact this
end

theorem src_near {y d a : Int} (hy : 0 ≤ y ∧ y ≤ 65535) : NearB (y / 256) (comp 1 d y a 65535) := by
  unfold NearB comp
  rw [if_neg (by omega)]
  omega
theorem over_near {t y a : Int} (ht : 0 ≤ t ∧ t ≤ 255) (ha : 0 ≤ a ∧ a ≤ 65535) (hy : 0 ≤ y ∧ y ≤ a) : NearB ((t * ((65535 - a) * 257) / 65535 + y) / 256) (comp 0 (t * 257) y a 65535) := by
  unfold NearB comp
  rw [if_pos rfl]
  have e : t * 257 * (4294836225 - a * 65535) = t * ((65535 - a) * 257) * 65535 := by
    rw [show (4294836225 : Int) - a * 65535 = (65535 - a) * 65535 by omega, ← Int.mul_assoc, Int.mul_assoc t 257 (65535 - a), Int.mul_comm 257 (65535 - a)]
  rw [e]
  have h1 : 0 ≤ t * ((65535 - a) * 257) ∧ t * ((65535 - a) * 257) / 65535 ≤ 65535 - a := by
    have e2 : t * ((65535 - a) * 257) = (t * 257) * (65535 - a) := by rw [Int.mul_comm (65535 - a) 257, ← Int.mul_assoc]
    have h1 := mul_in (a := t * 257) (b := 65535 - a) (A := 65535) (B := 65535 - a) ⟨by omega, by omega⟩ ⟨by omega, by omega⟩
    rw [e2]
    generalize t * 257 * (65535 - a) = x at *
    omega
  generalize t * ((65535 - a) * 257) = x at *
  omega
theorem over_rng {t y a : Int} (ht : 0 ≤ t ∧ t ≤ 255) (ha : 0 ≤ a ∧ a ≤ 65535) (hy : 0 ≤ y ∧ y ≤ a) : 0 ≤ (t * ((65535 - a) * 257) / 65535 + y) / 256 ∧ (t * ((65535 - a) * 257) / 65535 + y) / 256 ≤ 255 := by
  have h1 : 0 ≤ t * ((65535 - a) * 257) ∧ t * ((65535 - a) * 257) / 65535 ≤ 65535 - a := by
    have e2 : t * ((65535 - a) * 257) = (t * 257) * (65535 - a) := by rw [Int.mul_comm (65535 - a) 257, ← Int.mul_assoc]
    have h1 := mul_in (a := t * 257) (b := 65535 - a) (A := 65535) (B := 65535 - a) ⟨by omega, by omega⟩ ⟨by omega, by omega⟩
    rw [e2]
    generalize t * 257 * (65535 - a) = x at *
    omega
  generalize t * ((65535 - a) * 257) = x at *
  omega
end Go.Proofs.Ytlnfcjaempojgaa
