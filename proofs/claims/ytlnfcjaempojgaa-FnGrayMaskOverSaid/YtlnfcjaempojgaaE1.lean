/- What make makes, as the callers of clip want it. -/
import Derived.Test.YtlnfcjaempojgaaD5
set_option linter.unusedVariables false
namespace Go.Proofs.Ytlnfcjaempojgaa
open Go.RowKit

theorem clip_u (D S : Value) (db sb : Rc) (g1 g2 g3 : Nat) (r : Rc) (sx sy mx my : Int) (w : World) (hD : HasB w D db) (hS : HasB w S sb)
    (h1 : Blk w g1 73 #[iv r.a, iv r.b, iv r.c, iv r.d]) (h2 : Blk w g2 71 #[iv sx, iv sy]) (h3 : Blk w g3 71 #[iv mx, iv my]) (n12 : g1 ≠ g2) (n13 : g1 ≠ g3) (n23 : g2 ≠ g3)
    (hr : r.in_ 1000) (hsb : sb.in_ 1000000000) (hsx : -1000 ≤ sx ∧ sx ≤ 1000) (hsy : -1000 ≤ sy ∧ sy ≤ 1000) (hmx : -1000 ≤ mx ∧ mx ≤ 1000) (hmy : -1000 ≤ my ∧ my ≤ 1000)
    (C : Rc) (hC : C = (r.common db).common (sb.moved (r.a - sx) (r.b - sy))) :
    Calls Try.prog 68 #[D, .pointer (some ⟨g1, 0, none⟩), S, .pointer (some ⟨g2, 0, none⟩), .nilIface, .pointer (some ⟨g3, 0, none⟩)] w (ClipPost g1 g2 g3 C (sx + (C.a - r.a)) (sy + (C.b - r.b)) (mx + (C.a - r.a)) (my + (C.b - r.b)) w) := by
  have hm0 : (⟨0, 0, 0, 0⟩ : Rc).in_ 1000000000 := by unfold Rc.in_; dsimp only; omega
  by_cases hmv : C.a = r.a ∧ C.b = r.b
  · exact clip_u_still D S db sb ⟨0, 0, 0, 0⟩ g1 g2 g3 r sx sy mx my w hD hS h1 h2 h3 n12 n13 n23 hr hsb hm0 hsx hsy hmx hmy _ C _ rfl hC rfl hmv
  · exact clip_u_moved D S db sb ⟨0, 0, 0, 0⟩ g1 g2 g3 r sx sy mx my w hD hS h1 h2 h3 n12 n13 n23 hr hsb hm0 hsx hsy hmx hmy _ C _ rfl hC rfl hmv

theorem clip_m (D S mp : Value) (mt : TypeId) (db sb mb : Rc) (g1 g2 g3 : Nat) (r : Rc) (sx sy mx my : Int) (w : World) (hD : HasB w D db) (hS : HasB w S sb) (hM : HasB w (.iface mt mp) mb)
    (h1 : Blk w g1 73 #[iv r.a, iv r.b, iv r.c, iv r.d]) (h2 : Blk w g2 71 #[iv sx, iv sy]) (h3 : Blk w g3 71 #[iv mx, iv my]) (n12 : g1 ≠ g2) (n13 : g1 ≠ g3) (n23 : g2 ≠ g3)
    (hr : r.in_ 1000) (hsb : sb.in_ 1000000000) (hmb : mb.in_ 1000000000) (hsx : -1000 ≤ sx ∧ sx ≤ 1000) (hsy : -1000 ≤ sy ∧ sy ≤ 1000) (hmx : -1000 ≤ mx ∧ mx ≤ 1000) (hmy : -1000 ≤ my ∧ my ≤ 1000)
    (C : Rc) (hC : C = ((r.common db).common (sb.moved (r.a - sx) (r.b - sy))).common (mb.moved (r.a - mx) (r.b - my))) :
    Calls Try.prog 68 #[D, .pointer (some ⟨g1, 0, none⟩), S, .pointer (some ⟨g2, 0, none⟩), .iface mt mp, .pointer (some ⟨g3, 0, none⟩)] w (ClipPost g1 g2 g3 C (sx + (C.a - r.a)) (sy + (C.b - r.b)) (mx + (C.a - r.a)) (my + (C.b - r.b)) w) := by
  by_cases hmv : C.a = r.a ∧ C.b = r.b
  · exact clip_m_still D S mp mt db sb mb g1 g2 g3 r sx sy mx my w hD hS hM h1 h2 h3 n12 n13 n23 hr hsb hmb hsx hsy hmx hmy _ _ C rfl rfl hC hmv
  · exact clip_m_moved D S mp mt db sb mb g1 g2 g3 r sx sy mx my w hD hS hM h1 h2 h3 n12 n13 n23 hr hsb hmb hsx hsy hmx hmy _ _ C rfl rfl hC hmv

/-- An image value behind an interface; one that can be drawn onto. -/
def IsImg (V : Value) : Prop := ∃ t p, V = .iface t p
def IsDst (V : Value) : Prop := ∃ t g, V = .iface t (.pointer (some ⟨g, 0, none⟩)) ∧ (t = 84 ∨ t = 91 ∨ t = 99 ∨ t = 86 ∨ t = 115 ∨ t = 89)
theorem assert_dst {V : Value} (h : IsDst V) (w : World) : (Instr.typeAssert V 79 77 false).run Try.prog w = .ok V w := by
  obtain ⟨t, g, rfl, h⟩ := h
  rcases h with rfl | rfl | rfl | rfl | rfl | rfl <;> kernel_rfl
theorem exec_assert {ρ : Operand → Value} {x : Operand} {dst : Option Tmp} {type a b : TypeId} {pos : String} {after : Array Edge} {guard : Option (Nat × Bool)} {V V' : Value} {w : World} (hx : ρ x = V) (h : (Instr.typeAssert V a b false).run Try.prog w = .ok V' w) :
    (execOp ρ { dst, op := .typeAssert x a b false, type, pos, after, guard }).run Try.prog w = .ok (.value V') w := by
  simp only [execOp, hx]
  simp [h, Result.andThen]

/-- make, handed v, makes an image with the bounds b. -/
def MkD (v : Value) (w : World) (b : Rc) : Prop := ∀ W, Below w.heap.size w W → Calls Try.prog 69 #[v] W fun e w' => ∃ V, e = .returned V ∧ Below W.heap.size W w' ∧ IsDst V ∧ HasB w' V b
def MkI (v : Value) (w : World) (b : Rc) : Prop := ∀ W, Below w.heap.size w W → Calls Try.prog 69 #[v] W fun e w' => ∃ V, e = .returned V ∧ Below W.heap.size W w' ∧ IsImg V ∧ HasB w' V b
def MkN (v : Value) (w : World) : Prop := ∀ W, Below w.heap.size w W → Calls Try.prog 69 #[v] W fun e w' => ∃ V, e = .returned V ∧ Below W.heap.size W w' ∧ V = .nilIface
theorem MkD.keep {v : Value} {w W : World} {b : Rc} (h : MkD v w b) (hb : Below w.heap.size w W) : MkD v W b := fun W' hW => h W' (hb.trans (hW.mono hb.size))
theorem MkI.keep {v : Value} {w W : World} {b : Rc} (h : MkI v w b) (hb : Below w.heap.size w W) : MkI v W b := fun W' hW => h W' (hb.trans (hW.mono hb.size))
theorem MkN.keep {v : Value} {w W : World} (h : MkN v w) (hb : Below w.heap.size w W) : MkN v W := fun W' hW => h W' (hb.trans (hW.mono hb.size))
theorem MkD.img {v : Value} {w : World} {b : Rc} (h : MkD v w b) : MkI v w b := fun W hW => (h W hW).mono fun _ _ ⟨V, he, hb, ⟨t, g, hV, _⟩, hB⟩ => ⟨V, he, hb, ⟨t, _, hV⟩, hB⟩

/-- The bounds of an image of kind k. -/
def boundsOf (k x0 y0 x1 y1 : Int) : Rc := if k = 6 then ⟨-1000000000, -1000000000, 1000000000, 1000000000⟩ else ⟨x0, y0, x1, y1⟩

theorem mkD0 {x0 y0 x1 y1 : Int} (hx0 : -1000 ≤ x0 ∧ x0 ≤ 1000) (hx1 : -1000 ≤ x1 ∧ x1 ≤ 1000) {A : Option Addr} {n c : Nat} {bs : List Int} {w : World} {base : Nat} (hown : w.ownsRow base 5 1 (.slice A n c) n (u8s bs)) (hfit : n ≤ 2147483647) :
    MkD (imgV 0 x0 y0 x1 y1 (.slice A n c)) w ⟨x0, y0, x1, y1⟩ := fun W hW => (make0_own x0 y0 x1 y1 hx0 hx1 A n c bs W base (ownsRow_below hown hW) hfit).mono fun e w' ⟨g, A', c', he, hb, _, hB, _⟩ => ⟨_, he, hb, ⟨84, g, rfl, by simp⟩, hasB84 hB⟩
theorem mkD1 {x0 y0 x1 y1 : Int} (hx0 : -1000 ≤ x0 ∧ x0 ≤ 1000) (hx1 : -1000 ≤ x1 ∧ x1 ≤ 1000) {A : Option Addr} {n c : Nat} {bs : List Int} {w : World} {base : Nat} (hown : w.ownsRow base 5 1 (.slice A n c) n (u8s bs)) (hfit : n ≤ 2147483647) :
    MkD (imgV 1 x0 y0 x1 y1 (.slice A n c)) w ⟨x0, y0, x1, y1⟩ := fun W hW => (make1_own x0 y0 x1 y1 hx0 hx1 A n c bs W base (ownsRow_below hown hW) hfit).mono fun e w' ⟨g, A', c', he, hb, _, hB, _⟩ => ⟨_, he, hb, ⟨91, g, rfl, by simp⟩, hasB91 hB⟩
theorem mkD2 {x0 y0 x1 y1 : Int} (hx0 : -1000 ≤ x0 ∧ x0 ≤ 1000) (hx1 : -1000 ≤ x1 ∧ x1 ≤ 1000) {A : Option Addr} {n c : Nat} {bs : List Int} {w : World} {base : Nat} (hown : w.ownsRow base 5 1 (.slice A n c) n (u8s bs)) (hfit : n ≤ 2147483647) :
    MkD (imgV 2 x0 y0 x1 y1 (.slice A n c)) w ⟨x0, y0, x1, y1⟩ := fun W hW => (make2_own x0 y0 x1 y1 hx0 hx1 A n c bs W base (ownsRow_below hown hW) hfit).mono fun e w' ⟨g, A', c', he, hb, _, hB, _⟩ => ⟨_, he, hb, ⟨99, g, rfl, by simp⟩, hasB99 hB⟩
theorem mkD3 {x0 y0 x1 y1 : Int} (hx0 : -1000 ≤ x0 ∧ x0 ≤ 1000) (hx1 : -1000 ≤ x1 ∧ x1 ≤ 1000) {A : Option Addr} {n c : Nat} {bs : List Int} {w : World} {base : Nat} (hown : w.ownsRow base 5 1 (.slice A n c) n (u8s bs)) (hfit : n ≤ 2147483647) :
    MkD (imgV 3 x0 y0 x1 y1 (.slice A n c)) w ⟨x0, y0, x1, y1⟩ := fun W hW => (make3_own x0 y0 x1 y1 hx0 hx1 A n c bs W base (ownsRow_below hown hW) hfit).mono fun e w' ⟨g, A', c', he, hb, _, hB, _⟩ => ⟨_, he, hb, ⟨86, g, rfl, by simp⟩, hasB86 hB⟩
theorem mkD4 {x0 y0 x1 y1 : Int} (hx0 : -1000 ≤ x0 ∧ x0 ≤ 1000) (hx1 : -1000 ≤ x1 ∧ x1 ≤ 1000) {A : Option Addr} {n c : Nat} {bs : List Int} {w : World} {base : Nat} (hown : w.ownsRow base 5 1 (.slice A n c) n (u8s bs)) (hfit : n ≤ 2147483647) :
    MkD (imgV 4 x0 y0 x1 y1 (.slice A n c)) w ⟨x0, y0, x1, y1⟩ := fun W hW => (make4_own x0 y0 x1 y1 hx0 hx1 A n c bs W base (ownsRow_below hown hW) hfit).mono fun e w' ⟨g, A', c', he, hb, _, hB, _⟩ => ⟨_, he, hb, ⟨115, g, rfl, by simp⟩, hasB115 hB⟩
theorem mkD5 {x0 y0 x1 y1 : Int} (hx0 : -1000 ≤ x0 ∧ x0 ≤ 1000) (hx1 : -1000 ≤ x1 ∧ x1 ≤ 1000) {A : Option Addr} {n c : Nat} {bs : List Int} {w : World} {base : Nat} (hown : w.ownsRow base 5 1 (.slice A n c) n (u8s bs)) (hfit : n ≤ 2147483647) :
    MkD (imgV 5 x0 y0 x1 y1 (.slice A n c)) w ⟨x0, y0, x1, y1⟩ := fun W hW => (make5_own x0 y0 x1 y1 hx0 hx1 A n c bs W base (ownsRow_below hown hW) hfit).mono fun e w' ⟨g, A', c', he, hb, _, hB, _⟩ => ⟨_, he, hb, ⟨89, g, rfl, by simp⟩, hasB89 hB⟩
theorem mkI6 {x0 y0 x1 y1 : Int} {A : Option Addr} {c : Nat} {bs : List Int} {w : World} {base : Nat} (hr : ∀ j, 0 ≤ bs.getD j 0 ∧ bs.getD j 0 ≤ 255) (hown : w.ownsRow base 5 1 (.slice A 8 c) 8 (u8s bs)) :
    MkI (imgV 6 x0 y0 x1 y1 (.slice A 8 c)) w ⟨-1000000000, -1000000000, 1000000000, 1000000000⟩ := fun W hW => (make6_own x0 y0 x1 y1 A c bs W base hr (ownsRow_below hown hW)).mono fun e w' ⟨g, he, hb, _, _⟩ => ⟨_, he, hb, ⟨103, _, rfl⟩, hasB103⟩
theorem mkN {x0 y0 x1 y1 : Int} {A : Option Addr} {n c : Nat} {bs : List Int} {w : World} {base : Nat} (hown : w.ownsRow base 5 1 (.slice A n c) n (u8s bs)) (hfit : n ≤ 2147483647) :
    MkN (imgV (-1) x0 y0 x1 y1 (.slice A n c)) w := fun W hW => (makeN_own x0 y0 x1 y1 A n c bs W base (ownsRow_below hown hW) hfit).mono fun e w' ⟨he, hb⟩ => ⟨_, he, hb, rfl⟩

/-- A valid image but a Uniform can be drawn onto. -/
theorem mkD_any {k x0 y0 x1 y1 : Int} {A : Option Addr} {n c : Nat} {bs : List Int} {w : World} {base : Nat} (hv : ValidP k x0 y0 x1 y1 n bs) (h6 : k ≠ 6) (hown : w.ownsRow base 5 1 (.slice A n c) n (u8s bs)) (hfit : n ≤ 2147483647) :
    MkD (imgV k x0 y0 x1 y1 (.slice A n c)) w ⟨x0, y0, x1, y1⟩ := by
  obtain ⟨h0, h7, _, _, hb⟩ := hv
  obtain ⟨b1, b2, b3, b4, b5, b6, _⟩ := hb h6
  have hx0 : -1000 ≤ x0 ∧ x0 ≤ 1000 := by omega
  have hx1 : -1000 ≤ x1 ∧ x1 ≤ 1000 := by omega
  have hk : k = 0 ∨ k = 1 ∨ k = 2 ∨ k = 3 ∨ k = 4 ∨ k = 5 := by omega
  rcases hk with rfl | rfl | rfl | rfl | rfl | rfl
  · exact mkD0 hx0 hx1 hown hfit
  · exact mkD1 hx0 hx1 hown hfit
  · exact mkD2 hx0 hx1 hown hfit
  · exact mkD3 hx0 hx1 hown hfit
  · exact mkD4 hx0 hx1 hown hfit
  · exact mkD5 hx0 hx1 hown hfit
theorem mkI_any {k x0 y0 x1 y1 : Int} {A : Option Addr} {n c : Nat} {bs : List Int} {w : World} {base : Nat} (hv : ValidP k x0 y0 x1 y1 n bs) (hr : ∀ j, 0 ≤ bs.getD j 0 ∧ bs.getD j 0 ≤ 255) (hown : w.ownsRow base 5 1 (.slice A n c) n (u8s bs)) (hfit : n ≤ 2147483647) :
    MkI (imgV k x0 y0 x1 y1 (.slice A n c)) w (boundsOf k x0 y0 x1 y1) := by
  by_cases h6 : k = 6
  · subst h6
    obtain rfl := hv.2.2.2.1 rfl
    exact mkI6 hr hown
  · unfold boundsOf
    rw [if_neg h6]
    exact (mkD_any hv h6 hown hfit).img

end Go.Proofs.Ytlnfcjaempojgaa
