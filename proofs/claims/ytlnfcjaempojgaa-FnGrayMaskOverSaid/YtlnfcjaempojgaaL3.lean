/- What is to be shown of a road whose source is one color, from what its function does with one pixel. -/
import Derived.Test.YtlnfcjaempojgaaL2
set_option linter.unusedVariables false
namespace Go.Proofs.Ytlnfcjaempojgaa
open Go.RowKit

/-- The color of a Uniform: four numbers of 16 bits. -/
def uniC (ss : List Int) (k : Nat) : Int := w16 ss (2 * k)
theorem uniC_in {ss : List Int} (hr : ∀ j, 0 ≤ ss.getD j 0 ∧ ss.getD j 0 ≤ 255) (k : Nat) : C16 (uniC ss k) := by
  have h1 := hr (2 * k); have h2 := hr (2 * k + 1)
  unfold C16 uniC w16
  omega
def uniV (U : Nat → Int) : Prop := U 0 ≤ U 3 ∧ U 1 ≤ U 3 ∧ U 2 ≤ U 3
theorem uniV_of {k s1 s2 s3 s4 : Int} {n : Nat} {ss : List Int} (hv : ValidP 6 s1 s2 s3 s4 n ss) (hl : ss.length = n) : uniV (uniC ss) := by
  have h := (hv.2.2.1.2 (Or.inr rfl)) 0 (by have := hv.2.2.2.1 rfl; omega)
  exact h

section
variable {fn : FuncId} {op : Int} {d1 d2 d3 d4 : Int} {dA : Option Addr} {n dc : Nat} {ds : List Int} {ra rb rc rd s1 s2 s3 s4 : Int} {sA : Option Addr} {sn sc : Nat} {ss : List Int} {C : Rc} {Wd H : Nat} {w : World}
theorem at_uni (hsb : ByteSl w sA sn sc ss) (h8 : sn = 8) (x y : Int) (W : World) (hb : Below w.heap.size w W) :
    Calls Try.prog 58 #[imgV 6 s1 s2 s3 s4 (.slice sA sn sc), iv x, iv y] W fun e w' => e = .returned (fourV (uniC ss 0) (uniC ss 1) (uniC ss 2) (uniC ss 3)) ∧ Below W.heap.size W w' := by
  obtain ⟨g, o, hA, hg, hcell⟩ := hsb.at_ (by omega)
  subst hA
  have hc : ∀ j, j < 8 → W.cell? ⟨g, o + j, none⟩ = some (.int .u8 (ss.getD j 0)) := fun j hj => (hb.cell (p := ⟨g, o + j, none⟩) hg).trans (hcell j (by omega))
  exact at_uniform s1 s2 s3 s4 x y g o sn sc _ _ _ _ _ _ _ _ W (by omega) (Nat.lt_of_lt_of_le hg hb.size) (hc 0 (by omega)) (hc 1 (by omega)) (hc 2 (by omega)) (hc 3 (by omega)) (hc 4 (by omega)) (hc 5 (by omega)) (hc 6 (by omega)) (hc 7 (by omega))
    (hsb.rng 0) (hsb.rng 1) (hsb.rng 2) (hsb.rng 3) (hsb.rng 4) (hsb.rng 5) (hsb.rng 6) (hsb.rng 7)

theorem core_uni (pixf : (Nat → Int) → (Nat → Int) → Nat → Int)
    (hdb : ByteSl w dA n dc ds) (hsb : ByteSl w sA sn sc ss) (fd : n ≤ 2147483647) (fs : sn ≤ 2147483647) (hdv : ValidP 0 d1 d2 d3 d4 n ds) (hsv : ValidP 6 s1 s2 s3 s4 sn ss) (hin : in4 ra rb rc rd)
    (hC : C = ((⟨ra, rb, rc, rd⟩ : Rc).common ⟨d1, d2, d3, d4⟩).common ((boundsOf 6 s1 s2 s3 s4).moved (ra - 0) (rb - 0))) (hE : C.emp = false) (hW : d3 = d1 + Wd) (hH : d4 = d2 + H)
    (hnear : ∀ D k, (∀ j, 0 ≤ D j ∧ D j ≤ 255) → k < 4 → NearB (pixf D (uniC ss) k) (comp op (D k * 257) (uniC ss k) (uniC ss 3) 65535))
    (hrng : ∀ D k, (∀ j, 0 ≤ D j ∧ D j ≤ 255) → k < 4 → 0 ≤ pixf D (uniC ss) k ∧ pixf D (uniC ss) k ≤ 255)
    (hdraw : ∀ (ca ra' ce re gD gp cap gS : Nat) (M : Value) (px py mx my : Int) (W : World), DstAt W gD gp cap n d1 d2 d3 d4 Wd H (fun j => ds.getD j 0) → Blk W gS 129 #[.iface 122 (colV ss)] → ca < ce ∧ ra' < re → ce ≤ Wd → re ≤ H →
      Calls Try.prog fn #[.pointer (some ⟨gD, 0, none⟩), rcV ⟨d1 + ca, d2 + ra', d1 + ce, d2 + re⟩, .iface 103 (.pointer (some ⟨gS, 0, none⟩)), ptV px py, M, ptV mx my] W fun e w' => (∃ v, e = .returned v) ∧ Only [gp] W w' ∧
        ∃ f', PixRow w' gp cap n f' ∧ Painted Wd (fun j => ds.getD j 0) (fun r c => pixf (fun k => ds.getD (pos Wd r c k) 0) (uniC ss)) (inPart ca ra' ce re) f') :
    Core fn 6 op d1 d2 d3 d4 n ds ra rb rc rd s1 s2 s3 s4 sA sn sc ss 0 0 C Wd H w := by
  obtain ⟨Wd', H', hG⟩ := geo_of (z := 4) hdv (by omega) rfl
  obtain rfl : Wd' = Wd := by have := hG.w3; omega
  obtain rfl : H' = H := by have := hG.w4; omega
  obtain rfl : sn = 8 := hsv.2.2.2.1 rfl
  have hB : boundsOf 6 s1 s2 s3 s4 = ⟨-1000000000, -1000000000, 1000000000, 1000000000⟩ := by unfold boundsOf; rw [if_pos rfl]
  rw [hB] at hC
  obtain ⟨ca, ra', ce, re, e1, p1, p2, p3, p4⟩ := parts_u (r := ⟨ra, rb, rc, rd⟩) (sx := 0) (sy := 0) hW hH hC hE
  have hn0 : 0 < n := by
    have := pos_lt (W := Wd') (H := H') (r := ra') (c := ca) (k := 0) (by omega) (by omega) (by omega)
    have := hG.len
    omega
  have hin' : (⟨ra, rb, rc, rd⟩ : Rc).in_ 1000 := hin
  have hsb' : (⟨-1000000000, -1000000000, 1000000000, 1000000000⟩ : Rc).in_ 1000000000 := ⟨by dsimp only; omega, by dsimp only; omega, by dsimp only; omega, by dsimp only; omega⟩
  refine ⟨fun j => ds.getD j 0, NewUni ss, Painted Wd' (fun j => ds.getD j 0) (fun r c => pixf (fun k => ds.getD (pos Wd' r c k) 0) (uniC ss)) (inPart ca ra' ce re),
    fun A c base W hown => makes_dst hG hn0 hown fd, fun A c base W hown => makes6 hsb.rng hown, newUni_st, clips_nil (sb := ⟨-1000000000, -1000000000, 1000000000, 1000000000⟩) (fun S lo hi W h => hasb6 h) hin' hsb' (by omega) (by omega) (by omega) (by omega) hC, ?_, fun f' hp => ⟨?_, ?_⟩⟩
  · intro W gD gp c S slo shi M mlo mhi hD hS' hne _ _
    obtain ⟨gS, rfl, _, hblk⟩ := hS'
    have hx := hdraw ca ra' ce re gD gp c gS M (0 + (C.a - ra)) (0 + (C.b - rb)) (0 + (C.a - ra)) (0 + (C.b - rb)) W hD hblk ⟨p1, p2⟩ p3 p4
    rw [← e1] at hx
    exact hx
  · rw [hG.len]
    exact painted_rng hp hdb.rng fun r c k hP hk => hrng _ k (fun j => hdb.rng _) hk
  · refine allOk_of hG.len e1 hp fun r c hr hc hP => ?_
    have hD1 : ∀ k, 0 ≤ ds.getD (pos Wd' r c k) 0 ∧ ds.getD (pos Wd' r c k) 0 ≤ 255 := fun k => hdb.rng _
    exact ⟨_, _, _, _, ⟨uniC_in hsb.rng 0, uniC_in hsb.rng 1, uniC_in hsb.rng 2, uniC_in hsb.rng 3⟩, fun W hb => at_uni hsb rfl _ _ W hb, hnear _ 0 hD1 (by omega), hnear _ 1 hD1 (by omega), hnear _ 2 hD1 (by omega), hnear _ 3 hD1 (by omega)⟩
end
end Go.Proofs.Ytlnfcjaempojgaa
