/- What is to be shown of the road for Gray. -/
import Derived.Test.YtlnfcjaempojgaaL2
import Derived.Test.YtlnfcjaempojgaaK2
set_option linter.unusedVariables false
namespace Go.Proofs.Ytlnfcjaempojgaa
open Go.RowKit

def grayP (D S : Nat → Int) (k : Nat) : Int := if k = 3 then 255 else S 0
def grayC (S : Nat → Int) (k : Nat) : Int := if k = 3 then 65535 else S 0 * 257

theorem gray_near (D S : Nat → Int) (k : Nat) (hS : ∀ j, 0 ≤ S j ∧ S j ≤ 255) : NearB (grayP D S k) (comp 1 (D k * 257) (grayC S k) (grayC S 3) 65535) := by
  have := hS 0
  unfold NearB comp grayP grayC
  by_cases h : k = 3
  · simp only [h, if_true]; omega
  · simp only [h, if_false]
    rw [if_neg (by omega)]
    omega

theorem coreGray (d1 d2 d3 d4 : Int) (dA : Option Addr) (n dc : Nat) (ds : List Int) (ra rb rc rd s1 s2 s3 s4 : Int) (sA : Option Addr) (sn sc : Nat) (ss : List Int) (sx sy : Int) (w : World)
    (hdb : ByteSl w dA n dc ds) (hsb : ByteSl w sA sn sc ss) (fd : n ≤ 2147483647) (fs : sn ≤ 2147483647) (hdv : ValidP 0 d1 d2 d3 d4 n ds) (hsv : ValidP 3 s1 s2 s3 s4 sn ss) (hin : in4 ra rb rc rd) (hsx : -1000 ≤ sx ∧ sx ≤ 1000) (hsy : -1000 ≤ sy ∧ sy ≤ 1000)
    (C : Rc) (hC : C = ((⟨ra, rb, rc, rd⟩ : Rc).common ⟨d1, d2, d3, d4⟩).common ((boundsOf 3 s1 s2 s3 s4).moved (ra - sx) (rb - sy))) (hE : C.emp = false) (Wd H : Nat) (hW : d3 = d1 + Wd) (hH : d4 = d2 + H) :
    Core 71 3 1 d1 d2 d3 d4 n ds ra rb rc rd s1 s2 s3 s4 sA sn sc ss sx sy C Wd H w := by
  refine core_src (T := 86) (BT := 114) (z := 1) (st := s3 - s1) grayP grayC (fun _ => True) (by omega) rfl (by omega) hdb hsb fd fs hdv hsv hin hsx hsy hC hE hW hH (fun Ws Hs A c base W hG hn hown => makes3 hG hn fs hown) (fun _ _ _ _ _ _ _ h => hasb3 h) (fun _ _ => trivial) ?_ ?_ ?_ ?_ ?_
  · intro x y i g o W hF hi hA hg hcell
    subst hA
    have := at_gray s1 s2 s3 s4 x y g o sn sc i (ss.getD i 0) W hF hi hsb.le hsb.cap hg (hcell 0 (by omega)) (hsb.rng i)
    exact this
  · intro S k hS
    have := hS 0
    unfold C16 grayC
    split <;> omega
  · intro D S k _ hS _ _
    exact gray_near D S k hS
  · intro D S k _ hS _ _
    have := hS 0
    unfold grayP
    split <;> omega
  · intro Ws Hs ca ra' ce re ua va gD gp cap gS gq scap M mx my W hD hS hne h0 h1 h2 h3 h4
    refine (fnGray1_any gD gp cap n d1 d2 d3 d4 Wd H _ gS gq scap sn s1 s2 s3 s4 Ws Hs _ ca ra' ce re ua va M mx my W hD hS hne h0 h1 h2 h3 h4).mono ?_
    rintro e w' ⟨hv, hO, f', hrow, hp⟩
    refine ⟨hv, hO, f', hrow, ?_⟩
    have e : (fun r c k => if k = 3 then (255 : Int) else ss.getD ((va + (r - ra')) * Ws + (ua + (c - ca))) 0) = fun r c => grayP (fun k => ds.getD (pos Wd r c k) 0) (fun j => ss.getD (1 * ((va + (r - ra')) * Ws + (ua + (c - ca))) + j) 0) := by
      funext r c k
      unfold grayP
      rw [Nat.one_mul]
      rfl
    rw [← e]
    exact hp
end Go.Proofs.Ytlnfcjaempojgaa
