/- What is to be shown of a road with a mask. -/
import Derived.Test.YtlnfcjaempojgaaL3
import Derived.Test.YtlnfcjaempojgaaJ3
set_option linter.unusedVariables false
namespace Go.Proofs.Ytlnfcjaempojgaa
open Go.RowKit

/-- How the images are made, what the function draws, and that this is as it should be. -/
def CoreM (fn : FuncId) (kd : Int) (d1 d2 d3 d4 : Int) (n : Nat) (ds : List Int) (ra rb rc rd : Int) (s1 s2 s3 s4 : Int) (sA : Option Addr) (sn sc : Nat) (ss : List Int) (sx sy : Int) (m1 m2 m3 m4 : Int) (mA : Option Addr) (mn mc : Nat) (ms : List Int) (mx my : Int) (C : Rc) (Wd H : Nat) (w : World) : Prop :=
  ∃ f SP MP Res, (∀ A c base W, W.ownsRow base 5 1 (.slice A n c) n (u8s ds) → Makes (imgV 0 d1 d2 d3 d4 (.slice A n c)) W (NewDst n d1 d2 d3 d4 Wd H f)) ∧ (∀ A c base W, W.ownsRow base 5 1 (.slice A sn c) sn (u8s ss) → Makes (imgV kd s1 s2 s3 s4 (.slice A sn c)) W SP) ∧
    (∀ A c base W, W.ownsRow base 5 1 (.slice A mn c) mn (u8s ms) → Makes (imgV 2 m1 m2 m3 m4 (.slice A mn c)) W MP) ∧ Plan.StableL SP ∧ Plan.StableL MP ∧
    Clips d1 d2 d3 d4 ⟨ra, rb, rc, rd⟩ sx sy mx my SP MP C ∧ Draws fn n d1 d2 d3 d4 Wd H f SP MP C (sx + (C.a - ra)) (sy + (C.b - rb)) (mx + (C.a - ra)) (my + (C.b - rb)) Res ∧
    ∀ f', Res f' → (∀ j, j < n → 0 ≤ f' j ∧ f' j ≤ 255) ∧ AllOkM w (imgV kd s1 s2 s3 s4 (.slice sA sn sc)) (imgV 2 m1 m2 m3 m4 (.slice mA mn mc)) d1 d2 Wd H C (sx + C.a - ra) (sy + C.b - rb) (mx + C.a - ra) (my + C.b - rb) 0 ds (listOf f' n)

theorem PixOkM.congr {w : World} {S M : Value} {X Y MX MY op : Int} {D G G' : Nat → Int} (h : PixOkM w S M X Y MX MY op D G) (e : ∀ k, k < 4 → G k = G' k) : PixOkM w S M X Y MX MY op D G' := by
  obtain ⟨a0, a1, a2, m, h1, h2, h3⟩ := h
  exact ⟨a0, a1, a2, m, h1, h2, h3.congr e⟩
theorem allOkM_of {w : World} {S M : Value} {d1 d2 : Int} {Wd H n : Nat} {C : Rc} {px py qx qy op : Int} {ds : List Int} {f' : Nat → Int} {new : Nat → Nat → Nat → Int} {ca ra ce re : Nat} (hn : n = 4 * (H * Wd)) (hC : C = ⟨d1 + ca, d2 + ra, d1 + ce, d2 + re⟩)
    (hp : Painted Wd (fun j => ds.getD j 0) new (inPart ca ra ce re) f')
    (hpix : ∀ r c, r < H → c < Wd → inPart ca ra ce re r c → PixOkM w S M (px + (d1 + c) - C.a) (py + (d2 + r) - C.b) (qx + (d1 + c) - C.a) (qy + (d2 + r) - C.b) op (fun k => ds.getD (pos Wd r c k) 0) (new r c)) : AllOkM w S M d1 d2 Wd H C px py qx qy op ds (listOf f' n) := by
  intro r c hr hc
  have hg : ∀ k, k < 4 → (listOf f' n).getD (pos Wd r c k) 0 = f' (pos Wd r c k) := fun k hk => listOf_getD f' (by rw [hn]; exact pos_lt hr hc hk)
  have hin : hasB C.a C.b C.c C.d (d1 + c) (d2 + r) = true ↔ inPart ca ra ce re r c := by
    rw [hasB_iff, hC]
    unfold inPart
    dsimp only
    omega
  refine ⟨fun h => ?_, fun h k hk => ?_⟩
  · exact (hpix r c hr hc (hin.1 h)).congr fun k hk => by rw [hg k hk]; exact ((hp r c k hc hk).1 (hin.1 h)).symm
  · have h' : ¬ inPart ca ra ce re r c := fun hh => by rw [hin.2 hh] at h; cases h
    rw [hg k hk]
    exact (hp r c k hc hk).2 h'
end Go.Proofs.Ytlnfcjaempojgaa
