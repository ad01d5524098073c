/- New images as sources, what clip does with them, and where the pixels lie in the parts that are left: plain numbers but for the contracts that are named. -/
import Derived.Test.YtlnfcjaempojgaaK3
import Derived.Test.YtlnfcjaempojgaaJ2
import Derived.Test.YtlnfcjaempojgaaE4
set_option linter.unusedVariables false
namespace Go.Proofs.Ytlnfcjaempojgaa
open Go.RowKit

/-- A new source of z bytes a pixel. -/
def NewSrc (T BT : TypeId) (z n : Nat) (st s1 s2 s3 s4 : Int) (Ws Hs : Nat) (f : Nat → Int) (v : Value) (lo hi : Nat) (w : World) : Prop :=
  ∃ g gp c, v = .iface T (.pointer (some ⟨g, 0, none⟩)) ∧ (lo ≤ g ∧ g < hi) ∧ (lo ≤ gp ∧ gp < hi) ∧ SrcAt BT z w g gp c n st s1 s2 s3 s4 Ws Hs f
theorem newSrc_st {T BT : TypeId} {z n : Nat} {st s1 s2 s3 s4 : Int} {Ws Hs : Nat} {f : Nat → Int} : Plan.StableL (NewSrc T BT z n st s1 s2 s3 s4 Ws Hs f) := fun _ _ _ _ _ ⟨g, gp, c, hv, h1, h2, h3⟩ _ hb => ⟨g, gp, c, hv, h1, h2, h3.keep hb⟩
/-- A new image of one color. -/
def NewUni (bs : List Int) (v : Value) (lo hi : Nat) (w : World) : Prop := ∃ g, v = .iface 103 (.pointer (some ⟨g, 0, none⟩)) ∧ (lo ≤ g ∧ g < hi) ∧ Blk w g 129 #[.iface 122 (colV bs)]
theorem newUni_st {bs : List Int} : Plan.StableL (NewUni bs) := fun _ _ _ _ _ ⟨g, hv, h1, h2⟩ _ hb => ⟨g, hv, h1, h2.keep hb⟩
/-- No mask. -/
def NoMask (v : Value) (lo hi : Nat) (w : World) : Prop := v = .nilIface
theorem noMask_st : Plan.StableL NoMask := fun _ _ _ _ _ h _ _ => h

structure Geo (z n : Nat) (s1 s2 s3 s4 : Int) (Ws Hs : Nat) : Prop where
  w3 : s3 = s1 + Ws
  w4 : s4 = s2 + Hs
  len : n = z * (Hs * Ws)
  b1 : -64 ≤ s1 ∧ s3 ≤ 64
  b2 : -64 ≤ s2 ∧ s4 ≤ 64
theorem geo_of {k s1 s2 s3 s4 : Int} {n : Nat} {bs : List Int} {z : Nat} (hv : ValidP k s1 s2 s3 s4 n bs) (h6 : k ≠ 6) (hz : sizeI k = (z : Int)) : ∃ Ws Hs, Geo z n s1 s2 s3 s4 Ws Hs := by
  obtain ⟨h0, h7, _, _, hb⟩ := hv
  obtain ⟨b1, b2, b3, b4, b5, b6, b7⟩ := hb h6
  refine ⟨(s3 - s1).toNat, (s4 - s2).toNat, by omega, by omega, ?_, ⟨by omega, by omega⟩, ⟨by omega, by omega⟩⟩
  have e1 : s3 - s1 = ((s3 - s1).toNat : Int) := by omega
  have e2 : s4 - s2 = ((s4 - s2).toNat : Int) := by omega
  rw [hz, e1, e2] at b7
  generalize (s3 - s1).toNat = a at *
  generalize (s4 - s2).toNat = b at *
  have e3 : ((z * (b * a) : Nat) : Int) = (a : Int) * (b : Int) * (z : Int) := by
    simp only [Int.natCast_mul]
    rw [Int.mul_comm (a : Int) (b : Int), Int.mul_comm _ (z : Int)]
  omega

theorem own_cap {w : World} {base : Nat} {A : Option Addr} {n c : Nat} {xs : List Value} (h : w.ownsRow base 5 1 (.slice A n c) n xs) : c ≤ 9223372036854775807 := by
  obtain ⟨_, h | ⟨g, cap, cur, hv, _, _, _, hm, _⟩⟩ := h
  · obtain ⟨hv, _⟩ := h
    simp only [Value.slice.injEq] at hv
    omega
  · simp only [Value.slice.injEq] at hv
    obtain ⟨_, _, rfl⟩ := hv
    unfold maxLen at hm
    omega
/-- What append made, as a row. -/
theorem made_row {T S : TypeId} {st x0 y0 x1 y1 : Int} {n : Nat} {bs : List Int} {w w' : World} {e : Ending} (h : MadeImg T S st x0 y0 x1 y1 n bs w e w') (hn : 0 < n) :
    ∃ g gp c, e = .returned (.iface T (.pointer (some ⟨g, 0, none⟩))) ∧ Below w.heap.size w w' ∧ (w.heap.size ≤ g ∧ g < w'.heap.size) ∧ (w.heap.size ≤ gp ∧ gp < w'.heap.size) ∧ Blk w' g S #[.slice (some ⟨gp, 0, none⟩) n c, iv st, iv x0, iv y0, iv x1, iv y1] ∧ PixRow w' gp c n (fun j => bs.getD j 0) ∧ n ≤ c ∧ c ≤ 9223372036854775807 := by
  obtain ⟨g, A, c, he, hb, hg, hB, hown⟩ := h
  obtain ⟨gp, rfl, hgp, hrow, hnc, _⟩ := PixRow.of_own hown hn
  exact ⟨g, gp, c, he, hb, ⟨hg, hB.lt⟩, ⟨hgp, hrow.lt⟩, hB, hrow, hnc, own_cap hown⟩

theorem makes_dst {d1 d2 d3 d4 : Int} {A : Option Addr} {n c : Nat} {bs : List Int} {w : World} {base Wd H : Nat} (hG : Geo 4 n d1 d2 d3 d4 Wd H) (hn : 0 < n) (hown : w.ownsRow base 5 1 (.slice A n c) n (u8s bs)) (hfit : n ≤ 2147483647) :
    Makes (imgV 0 d1 d2 d3 d4 (.slice A n c)) w (NewDst n d1 d2 d3 d4 Wd H (fun j => bs.getD j 0)) := fun W hW => by
  have := hG.w3; have := hG.b1
  refine (make0_own d1 d2 d3 d4 (by omega) (by omega) A n c bs W base (ownsRow_below hown hW) hfit).mono fun e w' h => ?_
  obtain ⟨g, gp, c, he, hb, hg, hgp, hB, hrow, hnc⟩ := made_row h hn
  exact ⟨_, he, hb, g, gp, c, rfl, hg, hgp, ⟨hB, hrow, hnc, hG.w3, hG.w4, hG.len, hG.b1, hG.b2⟩⟩
theorem makes_of {k : Int} {T BT : TypeId} {z : Nat} {st s1 s2 s3 s4 : Int} {v : Value} {n : Nat} {bs : List Int} {w : World} {Ws Hs : Nat} (hG : Geo z n s1 s2 s3 s4 Ws Hs) (hn : 0 < n)
    (hmk : ∀ W, Below w.heap.size w W → Calls Try.prog 69 #[v] W (MadeImg T BT st s1 s2 s3 s4 n bs W)) : Makes v w (NewSrc T BT z n st s1 s2 s3 s4 Ws Hs (fun j => bs.getD j 0)) := fun W hW => by
  refine (hmk W hW).mono fun e w' h => ?_
  obtain ⟨g, gp, c, he, hb, hg, hgp, hB, hrow, hnc⟩ := made_row h hn
  exact ⟨_, he, hb, g, gp, c, rfl, hg, hgp, ⟨hB, hrow, hnc, hG.w3, hG.w4, hG.len, hG.b1, hG.b2⟩⟩
section
variable {s1 s2 s3 s4 : Int} {A : Option Addr} {n c : Nat} {bs : List Int} {w : World} {base Ws Hs : Nat}
theorem makes0 (hG : Geo 4 n s1 s2 s3 s4 Ws Hs) (hn : 0 < n) (hfit : n ≤ 2147483647) (hown : w.ownsRow base 5 1 (.slice A n c) n (u8s bs)) : Makes (imgV 0 s1 s2 s3 s4 (.slice A n c)) w (NewSrc 84 95 4 n (4 * (s3 - s1)) s1 s2 s3 s4 Ws Hs (fun j => bs.getD j 0)) :=
  makes_of (k := 0) hG hn fun W hW => make0_own s1 s2 s3 s4 (by have := hG.w3; have := hG.b1; omega) (by have := hG.w3; have := hG.b1; omega) A n c bs W base (ownsRow_below hown hW) hfit
theorem makes1 (hG : Geo 4 n s1 s2 s3 s4 Ws Hs) (hn : 0 < n) (hfit : n ≤ 2147483647) (hown : w.ownsRow base 5 1 (.slice A n c) n (u8s bs)) : Makes (imgV 1 s1 s2 s3 s4 (.slice A n c)) w (NewSrc 91 112 4 n (4 * (s3 - s1)) s1 s2 s3 s4 Ws Hs (fun j => bs.getD j 0)) :=
  makes_of (k := 1) hG hn fun W hW => make1_own s1 s2 s3 s4 (by have := hG.w3; have := hG.b1; omega) (by have := hG.w3; have := hG.b1; omega) A n c bs W base (ownsRow_below hown hW) hfit
theorem makes2 (hG : Geo 1 n s1 s2 s3 s4 Ws Hs) (hn : 0 < n) (hfit : n ≤ 2147483647) (hown : w.ownsRow base 5 1 (.slice A n c) n (u8s bs)) : Makes (imgV 2 s1 s2 s3 s4 (.slice A n c)) w (NewSrc 99 113 1 n (s3 - s1) s1 s2 s3 s4 Ws Hs (fun j => bs.getD j 0)) :=
  makes_of (k := 2) hG hn fun W hW => make2_own s1 s2 s3 s4 (by have := hG.w3; have := hG.b1; omega) (by have := hG.w3; have := hG.b1; omega) A n c bs W base (ownsRow_below hown hW) hfit
theorem makes3 (hG : Geo 1 n s1 s2 s3 s4 Ws Hs) (hn : 0 < n) (hfit : n ≤ 2147483647) (hown : w.ownsRow base 5 1 (.slice A n c) n (u8s bs)) : Makes (imgV 3 s1 s2 s3 s4 (.slice A n c)) w (NewSrc 86 114 1 n (s3 - s1) s1 s2 s3 s4 Ws Hs (fun j => bs.getD j 0)) :=
  makes_of (k := 3) hG hn fun W hW => make3_own s1 s2 s3 s4 (by have := hG.w3; have := hG.b1; omega) (by have := hG.w3; have := hG.b1; omega) A n c bs W base (ownsRow_below hown hW) hfit
theorem makes5 (hG : Geo 4 n s1 s2 s3 s4 Ws Hs) (hn : 0 < n) (hfit : n ≤ 2147483647) (hown : w.ownsRow base 5 1 (.slice A n c) n (u8s bs)) : Makes (imgV 5 s1 s2 s3 s4 (.slice A n c)) w (NewSrc 89 117 4 n (4 * (s3 - s1)) s1 s2 s3 s4 Ws Hs (fun j => bs.getD j 0)) :=
  makes_of (k := 5) hG hn fun W hW => make5_own s1 s2 s3 s4 (by have := hG.w3; have := hG.b1; omega) (by have := hG.w3; have := hG.b1; omega) A n c bs W base (ownsRow_below hown hW) hfit
theorem makes6 (hr : ∀ j, 0 ≤ bs.getD j 0 ∧ bs.getD j 0 ≤ 255) (hown : w.ownsRow base 5 1 (.slice A 8 c) 8 (u8s bs)) : Makes (imgV 6 s1 s2 s3 s4 (.slice A 8 c)) w (NewUni bs) := fun W hW =>
  (make6_own s1 s2 s3 s4 A c bs W base hr (ownsRow_below hown hW)).mono fun e w' ⟨g, he, hb, hg, hB⟩ => ⟨_, he, hb, g, rfl, ⟨hg, hB.lt⟩, hB⟩
end
theorem makes_none {w : World} : Makes (imgV (-1) 0 0 0 0 (.slice none 0 0)) w NoMask := fun W _ => (makeN_nil 0 0 0 0 W).mono fun _ _ ⟨he, hb⟩ => ⟨_, he, hb, rfl⟩

section
variable {d1 d2 d3 d4 : Int} {r : Rc} {sx sy mx my : Int} {SP MP : Value → Nat → Nat → World → Prop} {sb mb C : Rc}
theorem clips_nil (hS : ∀ S lo hi W, SP S lo hi W → HasB W S sb) (hr : r.in_ 1000) (hsb : sb.in_ 1000000000) (hsx : -1000 ≤ sx ∧ sx ≤ 1000) (hsy : -1000 ≤ sy ∧ sy ≤ 1000) (hmx : -1000 ≤ mx ∧ mx ≤ 1000) (hmy : -1000 ≤ my ∧ my ≤ 1000)
    (hC : C = (r.common ⟨d1, d2, d3, d4⟩).common (sb.moved (r.a - sx) (r.b - sy))) : Clips d1 d2 d3 d4 r sx sy mx my SP NoMask C := by
  intro W D S slo shi M mlo mhi g1 g2 g3 hD hSP hMP b1 b2 b3 n12 n13 n23
  obtain rfl : M = .nilIface := hMP
  exact clip_u D S _ sb g1 g2 g3 r sx sy mx my W hD (hS _ _ _ _ hSP) b1 b2 b3 n12 n13 n23 hr hsb hsx hsy hmx hmy C hC
theorem clips_mask (hS : ∀ S lo hi W, SP S lo hi W → HasB W S sb) (hM : ∀ M lo hi W, MP M lo hi W → (∃ t p, M = .iface t p) ∧ HasB W M mb) (hr : r.in_ 1000) (hsb : sb.in_ 1000000000) (hmb : mb.in_ 1000000000) (hsx : -1000 ≤ sx ∧ sx ≤ 1000) (hsy : -1000 ≤ sy ∧ sy ≤ 1000) (hmx : -1000 ≤ mx ∧ mx ≤ 1000) (hmy : -1000 ≤ my ∧ my ≤ 1000)
    (hC : C = ((r.common ⟨d1, d2, d3, d4⟩).common (sb.moved (r.a - sx) (r.b - sy))).common (mb.moved (r.a - mx) (r.b - my))) : Clips d1 d2 d3 d4 r sx sy mx my SP MP C := by
  intro W D S slo shi M mlo mhi g1 g2 g3 hD hSP hMP b1 b2 b3 n12 n13 n23
  obtain ⟨⟨t, p, rfl⟩, hB⟩ := hM _ _ _ _ hMP
  exact clip_m D S p t _ sb mb g1 g2 g3 r sx sy mx my W hD (hS _ _ _ _ hSP) hB b1 b2 b3 n12 n13 n23 hr hsb hmb hsx hsy hmx hmy C hC
end
section
variable {z n : Nat} {st s1 s2 s3 s4 : Int} {Ws Hs : Nat} {f : Nat → Int} {S : Value} {lo hi : Nat} {W : World}
theorem hasb0 (h : NewSrc 84 95 z n st s1 s2 s3 s4 Ws Hs f S lo hi W) : HasB W S ⟨s1, s2, s3, s4⟩ := by
  obtain ⟨g, gp, c, rfl, _, _, h⟩ := h
  exact hasB84 h.blk
theorem hasb1 (h : NewSrc 91 112 z n st s1 s2 s3 s4 Ws Hs f S lo hi W) : HasB W S ⟨s1, s2, s3, s4⟩ := by
  obtain ⟨g, gp, c, rfl, _, _, h⟩ := h
  exact hasB91 h.blk
theorem hasb2 (h : NewSrc 99 113 z n st s1 s2 s3 s4 Ws Hs f S lo hi W) : HasB W S ⟨s1, s2, s3, s4⟩ := by
  obtain ⟨g, gp, c, rfl, _, _, h⟩ := h
  exact hasB99 h.blk
theorem hasb3 (h : NewSrc 86 114 z n st s1 s2 s3 s4 Ws Hs f S lo hi W) : HasB W S ⟨s1, s2, s3, s4⟩ := by
  obtain ⟨g, gp, c, rfl, _, _, h⟩ := h
  exact hasB86 h.blk
theorem hasb5 (h : NewSrc 89 117 z n st s1 s2 s3 s4 Ws Hs f S lo hi W) : HasB W S ⟨s1, s2, s3, s4⟩ := by
  obtain ⟨g, gp, c, rfl, _, _, h⟩ := h
  exact hasB89 h.blk
theorem hasb6 {bs : List Int} (h : NewUni bs S lo hi W) : HasB W S ⟨-1000000000, -1000000000, 1000000000, 1000000000⟩ := by
  obtain ⟨g, rfl, _, _⟩ := h
  exact hasB103
end

/-- What is left lies in both. -/
theorem Rc.common_sub {r s : Rc} (h : (r.common s).emp = false) : (r.a ≤ (r.common s).a ∧ r.b ≤ (r.common s).b ∧ (r.common s).c ≤ r.c ∧ (r.common s).d ≤ r.d) ∧ (s.a ≤ (r.common s).a ∧ s.b ≤ (r.common s).b ∧ (r.common s).c ≤ s.c ∧ (r.common s).d ≤ s.d) ∧ r.emp = false ∧ (r.common s).a < (r.common s).c ∧ (r.common s).b < (r.common s).d := by
  have hx : ∀ a b, a ≤ imax a b ∧ b ≤ imax a b := fun a b => by rw [imax_eq]; omega
  have hn : ∀ a b, imin a b ≤ a ∧ imin a b ≤ b := fun a b => by rw [imin_eq]; omega
  by_cases he : (r.cut s).emp = true
  · have : r.common s = ⟨0, 0, 0, 0⟩ := by unfold Rc.common; rw [if_pos he]
    rw [this] at h
    cases h
  · have hc : r.common s = r.cut s := by unfold Rc.common; rw [if_neg he]
    rw [hc]
    have he' : (r.cut s).a < (r.cut s).c ∧ (r.cut s).b < (r.cut s).d := emptyB_not.1 (by simpa [Rc.emp] using he)
    have h1 := hx r.a s.a; have h2 := hx r.b s.b; have h3 := hn r.c s.c; have h4 := hn r.d s.d
    unfold Rc.cut at he' ⊢
    dsimp only at he' ⊢
    exact ⟨⟨h1.1, h2.1, h3.1, h4.1⟩, ⟨h1.2, h2.2, h3.2, h4.2⟩, emptyB_false ⟨by omega, by omega⟩, he'⟩

theorem parts_u {d1 d2 d3 d4 sx sy : Int} {r sb C : Rc} {Wd H : Nat} (w3 : d3 = d1 + Wd) (w4 : d4 = d2 + H) (hC : C = (r.common ⟨d1, d2, d3, d4⟩).common (sb.moved (r.a - sx) (r.b - sy))) (hE : C.emp = false) :
    ∃ ca ra ce re : Nat, C = ⟨d1 + ca, d2 + ra, d1 + ce, d2 + re⟩ ∧ ca < ce ∧ ra < re ∧ ce ≤ Wd ∧ re ≤ H := by
  rw [hC] at hE
  obtain ⟨⟨a1, a2, a3, a4⟩, _, hE1, a5, a6⟩ := Rc.common_sub hE
  obtain ⟨_, ⟨b1, b2, b3, b4⟩, _, b5, b6⟩ := Rc.common_sub hE1
  rw [← hC] at a1 a2 a3 a4 a5 a6
  dsimp only at b1 b2 b3 b4
  obtain ⟨ca, cb, cc, cd⟩ := C
  dsimp only at a1 a2 a3 a4 a5 a6
  refine ⟨(ca - d1).toNat, (cb - d2).toNat, (cc - d1).toNat, (cd - d2).toNat, ?_, by omega, by omega, by omega, by omega⟩
  rw [Rc.mk.injEq]
  exact ⟨by omega, by omega, by omega, by omega⟩
theorem parts_s {d1 d2 d3 d4 s1 s2 s3 s4 sx sy : Int} {r C : Rc} {Wd H Ws Hs : Nat} (w3 : d3 = d1 + Wd) (w4 : d4 = d2 + H) (v3 : s3 = s1 + Ws) (v4 : s4 = s2 + Hs) (hC : C = (r.common ⟨d1, d2, d3, d4⟩).common ((⟨s1, s2, s3, s4⟩ : Rc).moved (r.a - sx) (r.b - sy))) (hE : C.emp = false) :
    ∃ ca ra ce re ua va : Nat, C = ⟨d1 + ca, d2 + ra, d1 + ce, d2 + re⟩ ∧ ca < ce ∧ ra < re ∧ ce ≤ Wd ∧ re ≤ H ∧ sx + (C.a - r.a) = s1 + ua ∧ sy + (C.b - r.b) = s2 + va ∧ ua + (ce - ca) ≤ Ws ∧ va + (re - ra) ≤ Hs := by
  obtain ⟨ca, ra, ce, re, h1, h2, h3, h4, h5⟩ := parts_u w3 w4 hC hE
  have hE' := hE
  rw [hC] at hE'
  obtain ⟨_, ⟨a1, a2, a3, a4⟩, _⟩ := Rc.common_sub hE'
  rw [← hC, h1] at a1 a2 a3 a4
  unfold Rc.moved at a1 a2 a3 a4
  rw [h1]
  dsimp only at a1 a2 a3 a4 ⊢
  exact ⟨ca, ra, ce, re, (sx + (d1 + ca - r.a) - s1).toNat, (sy + (d2 + ra - r.b) - s2).toNat, rfl, h2, h3, h4, h5, by omega, by omega, by omega, by omega⟩

theorem PixOk.congr {w : World} {S : Value} {X Y op m : Int} {D G G' : Nat → Int} (h : PixOk w S X Y op m D G) (e : ∀ k, k < 4 → G k = G' k) : PixOk w S X Y op m D G' := by
  obtain ⟨s0, s1, s2, s3, hc, hs, n0, n1, n2, n3⟩ := h
  exact ⟨s0, s1, s2, s3, hc, hs, by rw [← e 0 (by omega)]; exact n0, by rw [← e 1 (by omega)]; exact n1, by rw [← e 2 (by omega)]; exact n2, by rw [← e 3 (by omega)]; exact n3⟩

theorem allOk_of {w : World} {S : Value} {d1 d2 : Int} {Wd H n : Nat} {C : Rc} {px py op : Int} {ds : List Int} {f' : Nat → Int} {new : Nat → Nat → Nat → Int} {ca ra ce re : Nat} (hn : n = 4 * (H * Wd)) (hC : C = ⟨d1 + ca, d2 + ra, d1 + ce, d2 + re⟩)
    (hp : Painted Wd (fun j => ds.getD j 0) new (inPart ca ra ce re) f')
    (hpix : ∀ r c, r < H → c < Wd → inPart ca ra ce re r c → PixOk w S (px + (d1 + c) - C.a) (py + (d2 + r) - C.b) op 65535 (fun k => ds.getD (pos Wd r c k) 0) (new r c)) : AllOk w S d1 d2 Wd H C px py op ds (listOf f' n) := by
  intro r c hr hc
  have hg : ∀ k, k < 4 → (listOf f' n).getD (pos Wd r c k) 0 = f' (pos Wd r c k) := fun k hk => listOf_getD f' (by rw [hn]; exact pos_lt hr hc hk)
  have hin : hasB C.a C.b C.c C.d (d1 + c) (d2 + r) = true ↔ inPart ca ra ce re r c := by
    rw [hasB_iff, hC]
    unfold inPart
    dsimp only
    omega
  refine ⟨fun h => ?_, fun h k hk => ?_⟩
  · exact (hpix r c hr hc (hin.1 h)).congr fun k hk => by rw [hg k hk]; exact ((hp r c k hc hk).1 (hin.1 h)).symm
  · have h' : ¬ inPart ca ra ce re r c := fun hh => by rw [hin.2 hh] at h; cases h
    rw [hg k hk]
    exact (hp r c k hc hk).2 h'

theorem painted_rng {Wd H : Nat} {old f' : Nat → Int} {new : Nat → Nat → Nat → Int} {P : Nat → Nat → Prop} (hp : Painted Wd old new P f') (ho : ∀ j, 0 ≤ old j ∧ old j ≤ 255) (hn : ∀ r c k, P r c → k < 4 → 0 ≤ new r c k ∧ new r c k ≤ 255) :
    ∀ j, j < 4 * (H * Wd) → 0 ≤ f' j ∧ f' j ≤ 255 := by
  intro j hj
  have hW : 0 < Wd := by
    rcases Nat.eq_zero_or_pos Wd with h | h
    · subst h; simp at hj
    · exact h
  have e : j = pos Wd (j / 4 / Wd) (j / 4 % Wd) (j % 4) := by
    unfold pos
    have h1 := Nat.div_add_mod (j / 4) Wd
    rw [Nat.mul_comm] at h1
    omega
  have hk : j % 4 < 4 := by omega
  have hc := Nat.mod_lt (j / 4) hW
  rw [e]
  by_cases h : P (j / 4 / Wd) (j / 4 % Wd)
  · rw [(hp _ _ _ hc hk).1 h]; exact hn _ _ _ h hk
  · rw [(hp _ _ _ hc hk).2 h]; exact ho _

theorem byteSlM_row {w : World} {g c n : Nat} {f : Nat → Int} (h : PixRow w g c n f) (hc : n ≤ c ∧ c ≤ 9223372036854775807) (hr : ∀ j, j < n → 0 ≤ f j ∧ f j ≤ 255) : ByteSlM w (some ⟨g, 0, none⟩) n c (listOf f n) :=
  ⟨listOf_length f n, hc.1, hc.2, fun j => by
    by_cases hj : j < n
    · rw [listOf_getD f hj]; exact hr j hj
    · have : (listOf f n).getD j 0 = 0 := by simp [listOf, hj]
      rw [this]; omega, fun _ => ⟨g, 0, rfl, h.lt, fun j hj => by rw [listOf_getD f hj, Nat.zero_add]; exact h.cell hj⟩⟩

/-- What the call of the function in the law has to hand back. -/
theorem runOk_of {w : World} {f : FuncId} {cap : Array Value} {S : Value} {d1 d2 : Int} {Wd H n : Nat} {C : Rc} {px py op : Int} {ds : List Int} {Res : (Nat → Int) → Prop}
    (h : ∀ W, Below w.heap.size w W → Calls Try.prog f cap W (Drew n Res W)) (hr : ∀ f', Res f' → (∀ j, j < n → 0 ≤ f' j ∧ f' j ≤ 255) ∧ AllOk w S d1 d2 Wd H C px py op ds (listOf f' n)) :
    RunOk w f cap S d1 d2 Wd H C px py op ds n := fun W hW => (h W hW).mono fun e w' ⟨v, he, hb, gp, c, f', hv, hrow, hres, hc⟩ =>
  ⟨some ⟨gp, 0, none⟩, c, listOf f' n, by rw [he, hv], hb, byteSlM_row hrow hc (hr f' hres).1, (hr f' hres).2⟩

/-- What is to be shown of each of these roads: how the images are made, what the function draws, and that this is as it should be. -/
def Core (fn : FuncId) (kd op : Int) (d1 d2 d3 d4 : Int) (n : Nat) (ds : List Int) (ra rb rc rd : Int) (s1 s2 s3 s4 : Int) (sA : Option Addr) (sn sc : Nat) (ss : List Int) (sx sy : Int) (C : Rc) (Wd H : Nat) (w : World) : Prop :=
  ∃ f SP Res, (∀ A c base W, W.ownsRow base 5 1 (.slice A n c) n (u8s ds) → Makes (imgV 0 d1 d2 d3 d4 (.slice A n c)) W (NewDst n d1 d2 d3 d4 Wd H f)) ∧ (∀ A c base W, W.ownsRow base 5 1 (.slice A sn c) sn (u8s ss) → Makes (imgV kd s1 s2 s3 s4 (.slice A sn c)) W SP) ∧ Plan.StableL SP ∧
    Clips d1 d2 d3 d4 ⟨ra, rb, rc, rd⟩ sx sy 0 0 SP NoMask C ∧ Draws fn n d1 d2 d3 d4 Wd H f SP NoMask C (sx + (C.a - ra)) (sy + (C.b - rb)) (0 + (C.a - ra)) (0 + (C.b - rb)) Res ∧
    ∀ f', Res f' → (∀ j, j < n → 0 ≤ f' j ∧ f' j ≤ 255) ∧ AllOk w (imgV kd s1 s2 s3 s4 (.slice sA sn sc)) d1 d2 Wd H C (sx + C.a - ra) (sy + C.b - rb) op ds (listOf f' n)
end Go.Proofs.Ytlnfcjaempojgaa
