/- Contracts of spec.Rect.Common, spec.Image.Bounds, laws.rect, laws.fine, laws.zzFits1. -/
import Derived.Test.YtlnfcjaempojgaaA1
namespace Go.Proofs.Ytlnfcjaempojgaa
open Go.RowKit

abbrev fourV (a b c d : Int) : Value := .agg #[.int .i64 a, .int .i64 b, .int .i64 c, .int .i64 d]
abbrev imgV (k a b c d : Int) (s : Value) : Value := .agg #[.int .i64 k, .int .i64 a, .int .i64 b, .int .i64 c, .int .i64 d, s]

def imax (x y : Int) : Int := if y > x then y else x
def imin (x y : Int) : Int := if y < x then y else x
theorem imax_eq (x y : Int) : imax x y = max x y := by unfold imax; split <;> omega
theorem imin_eq (x y : Int) : imin x y = min x y := by unfold imin; split <;> omega
theorem run_imax (P : Program) (w : World) (ts : Array TypeId) (t : TypeId) (k k' : IntKind) (x y : Int) : (Builtin.max_ ts t #[.int k x, .int k' y]).run P w = .ok (.int k (imax x y)) w := run_max_int2 w ts t k k' x y
theorem run_imin (P : Program) (w : World) (ts : Array TypeId) (t : TypeId) (k k' : IntKind) (x y : Int) : (Builtin.min_ ts t #[.int k x, .int k' y]).run P w = .ok (.int k (imin x y)) w := run_min_int2 w ts t k k' x y
attribute [local go_sem high] run_imax run_imin


/-- Block g of the world holds just the cells cs, of element type t, and none of them is frozen. -/
def Blk (w : World) (g : Nat) (t : TypeId) (cs : Array Value) : Prop := w.heap[g]? = some (.cells cs t (0, 0))
section
variable {w w' : World} {g : Nat} {t : TypeId} {cs : Array Value}
theorem Blk.lt (h : Blk w g t cs) : g < w.heap.size := by
  rcases Nat.lt_or_ge g w.heap.size with hlt | hge
  · exact hlt
  · unfold Blk at h; rw [Array.getElem?_eq_none hge] at h; cases h
theorem Blk.cell (h : Blk w g t cs) (i : Nat) : w.cell? ⟨g, i, none⟩ = cs[i]? := cell_of_row w g i cs t (0, 0) h
theorem Blk.frozen (h : Blk w g t cs) (i : Nat) : w.frozen? ⟨g, i, none⟩ = false := by
  unfold Blk at h
  simp [World.frozen?, h]
theorem Blk.new (w : World) (t : TypeId) (cs : Array Value) : Blk (w.alloc (.cells cs t)) w.heap.size t cs := heap_alloc_new w _
theorem Blk.drew (h : Blk w g t cs) : Blk w.drew g t cs := h
theorem Blk.drewN (h : Blk w g t cs) (n : Nat) : Blk (w.drewN n) g t cs := h
theorem Blk.alloc (h : Blk w g t cs) (o : Obj) : Blk (w.alloc o) g t cs := (Below.heap_alloc w o g h.lt).trans h
theorem Blk.set_ (h : Blk w g t cs) (i : Nat) (u : Value) : Blk (w.setCell ⟨g, i, none⟩ u) g t (cs.setIfInBounds i u) := by
  unfold Blk at h ⊢
  simp [World.setCell, Array.getElem?_modify, h]
theorem Blk.far (h : Blk w g t cs) {p : Addr} (hp : g ≠ p.block) (u : Value) : Blk (w.setCell p u) g t cs := (Below.heap_setCell w p u g hp).trans h
theorem Blk.below {B : Nat} (h : Blk w g t cs) (hb : Below B w w') (hg : g < B) : Blk w' g t cs := (hb.block g hg).trans h
theorem Blk.keep (h : Blk w g t cs) (hb : Below w.heap.size w w') : Blk w' g t cs := h.below hb h.lt
theorem Blk.cells4 {a b c d : Value} (h : Blk w g t #[a, b, c, d]) : (w.cell? ⟨g, 0, none⟩ = some a ∧ w.cell? ⟨g, 1, none⟩ = some b ∧ w.cell? ⟨g, 2, none⟩ = some c ∧ w.cell? ⟨g, 3, none⟩ = some d) ∧
   (w.frozen? ⟨g, 0, none⟩ = false ∧ w.frozen? ⟨g, 1, none⟩ = false ∧ w.frozen? ⟨g, 2, none⟩ = false ∧ w.frozen? ⟨g, 3, none⟩ = false) := ⟨⟨h.cell 0, h.cell 1, h.cell 2, h.cell 3⟩, ⟨h.frozen 0, h.frozen 1, h.frozen 2, h.frozen 3⟩⟩
end

theorem common_some (a b c d a' b' c' d' : Int) (w : World) (h : emptyB (imax a a') (imax b b') (imin c c') (imin d d') = false) :
    Calls Try.prog 47 #[rectV a b c d, rectV a' b' c' d'] w fun e w' => e = .returned (rectV (imax a a') (imax b b') (imin c c') (imin d d')) ∧ Below w.heap.size w w' := by
  go_enter Try.func47, Try.ntmps47
  go_wp2_with fail
  refine (empty_any _ _ _ _ _).mono ?_
  rintro e w1 ⟨rfl, hb⟩
  have b4 : Blk w1 (w.heap.size + 1 + 1) 28 #[iv 0, iv 0, iv 0, iv 0] := Blk.keep (Blk.alloc (by simpa using Blk.new ((w.alloc _).alloc _) _ _) _) hb
  have b5 : Blk w1 (w.heap.size + 1 + 1 + 1) 28 #[iv (imax a a'), iv (imax b b'), iv (imin c c'), iv (imin d d')] := Blk.keep (by simpa using Blk.new (((w.alloc _).alloc _).alloc _) _ _) hb
  obtain ⟨b4c, b4f⟩ := b4.cells4
  obtain ⟨b5c, b5f⟩ := b5.cells4
  go_wp2
  refine bodyPost_ret (v := rectV (imax a a') (imax b b') (imin c c') (imin d d')) (by simp [results, Try.results47, go_sem, b4c]) rfl ⟨rfl, ?_⟩
  refine Below.setCell (Below.setCell (Below.setCell (Below.setCell (Below.trans ?_ (hb.mono ?_)) ?_ _) ?_ _) ?_ _) ?_ _
  all_goals go_grown

theorem common_none (a b c d a' b' c' d' : Int) (w : World) (h : emptyB (imax a a') (imax b b') (imin c c') (imin d d') = true) :
    Calls Try.prog 47 #[rectV a b c d, rectV a' b' c' d'] w fun e w' => e = .returned (rectV 0 0 0 0) ∧ Below w.heap.size w w' := by
  go_enter Try.func47, Try.ntmps47
  go_wp2_with fail
  refine (empty_any _ _ _ _ _).mono ?_
  rintro e w1 ⟨rfl, hb⟩
  have b4 : Blk w1 (w.heap.size + 1 + 1) 28 #[iv 0, iv 0, iv 0, iv 0] := Blk.keep (Blk.alloc (by simpa using Blk.new ((w.alloc _).alloc _) _ _) _) hb
  have b5 : Blk w1 (w.heap.size + 1 + 1 + 1) 28 #[iv (imax a a'), iv (imax b b'), iv (imin c c'), iv (imin d d')] := Blk.keep (by simpa using Blk.new (((w.alloc _).alloc _).alloc _) _ _) hb
  obtain ⟨b4c, b4f⟩ := b4.cells4
  obtain ⟨b5c, b5f⟩ := b5.cells4
  go_wp2
  refine bodyPost_ret (v := rectV 0 0 0 0) (by simp [results, Try.results47, go_sem, b4c]) rfl ⟨rfl, ?_⟩
  refine Below.setCell (Below.setCell (Below.setCell (Below.setCell (Below.trans ?_ (hb.mono ?_)) ?_ _) ?_ _) ?_ _) ?_ _
  all_goals go_grown

end Go.Proofs.Ytlnfcjaempojgaa
