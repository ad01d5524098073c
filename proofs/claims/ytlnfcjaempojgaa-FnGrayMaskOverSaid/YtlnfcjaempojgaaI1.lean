/- Rows of bytes that are written, and pixels by row and column. No program in sight. -/
import Derived.Test.YtlnfcjaempojgaaC1
set_option linter.unusedVariables false
namespace Go.Proofs.Ytlnfcjaempojgaa
open Go.RowKit

/-- Block g is a row of cap cells of bytes; the first n hold f. -/
def PixRow (w : World) (g cap n : Nat) (f : Nat → Int) : Prop := ∃ cur : Array Value, w.heap[g]? = some (.cells cur 5 (0, 0)) ∧ cur.size = cap ∧ n ≤ cap ∧ ∀ j, j < n → cur[j]? = some (.int .u8 (f j))

section
variable {w W : World} {g cap n : Nat} {f : Nat → Int}
theorem PixRow.lt (h : PixRow w g cap n f) : g < w.heap.size := by
  obtain ⟨cur, h, _⟩ := h
  exact (Array.getElem?_eq_some_iff.1 h).1
theorem PixRow.cell (h : PixRow w g cap n f) {j : Nat} (hj : j < n) : w.cell? ⟨g, j, none⟩ = some (.int .u8 (f j)) := by
  obtain ⟨cur, h, _, _, hc⟩ := h
  simp [World.cell?, h, hc j hj]
theorem PixRow.frozen (h : PixRow w g cap n f) (j : Nat) : w.frozen? ⟨g, j, none⟩ = false := by
  obtain ⟨cur, h, _⟩ := h
  simp [World.frozen?, h]
theorem PixRow.of_block (h : PixRow w g cap n f) (e : W.heap[g]? = w.heap[g]?) : PixRow W g cap n f := by
  obtain ⟨cur, h, r⟩ := h
  exact ⟨cur, e.trans h, r⟩
theorem PixRow.below {B : Nat} (h : PixRow w g cap n f) (hb : Below B w W) (hg : g < B) : PixRow W g cap n f := h.of_block (hb.block g hg)
theorem PixRow.keep (h : PixRow w g cap n f) (hb : Below w.heap.size w W) : PixRow W g cap n f := h.below hb h.lt
theorem PixRow.drew (h : PixRow w g cap n f) : PixRow w.drew g cap n f := h
theorem PixRow.alloc (h : PixRow w g cap n f) (o : Obj) : PixRow (w.alloc o) g cap n f := h.of_block (Below.heap_alloc w o g h.lt)
theorem PixRow.far (h : PixRow w g cap n f) {p : Addr} (hp : g ≠ p.block) (u : Value) : PixRow (w.setCell p u) g cap n f := h.of_block (Below.heap_setCell w p u g hp)
theorem PixRow.congr (h : PixRow w g cap n f) {f' : Nat → Int} (e : ∀ j, j < n → f j = f' j) : PixRow w g cap n f' := by
  obtain ⟨cur, h1, h2, h3, h4⟩ := h
  exact ⟨cur, h1, h2, h3, fun j hj => by rw [← e j hj]; exact h4 j hj⟩
theorem PixRow.set (h : PixRow w g cap n f) (i : Nat) (v : Int) : PixRow (w.setCell ⟨g, i, none⟩ (.int .u8 v)) g cap n (fun j => if j = i then v else f j) := by
  obtain ⟨cur, h1, h2, h3, h4⟩ := h
  refine ⟨cur.setIfInBounds i (.int .u8 v), ?_, by simp [h2], h3, fun j hj => ?_⟩
  · simp [World.setCell, Array.getElem?_modify, h1]
  · by_cases e : j = i
    · subst e
      simp [h2, Nat.lt_of_lt_of_le hj h3]
    · show _ = some (Value.int .u8 (if j = i then v else f j))
      rw [Array.getElem?_setIfInBounds_ne (Ne.symm e), if_neg e]
      exact h4 j hj
/-- What append made is such a row. -/
theorem PixRow.of_own {base c : Nat} {A : Option Addr} {bs : List Int} (h : w.ownsRow base 5 1 (.slice A n c) n (u8s bs)) (hn : 0 < n) : ∃ g, A = some ⟨g, 0, none⟩ ∧ base ≤ g ∧ PixRow w g c n (fun j => bs.getD j 0) ∧ n ≤ c ∧ bs.length = n := by
  obtain ⟨hl, h | ⟨g, cap, cur, hv, hg, hh, hnc, _, hsz, htk⟩⟩ := h
  · omega
  · simp only [Value.slice.injEq] at hv
    obtain ⟨rfl, _, rfl⟩ := hv
    have hl' : bs.length = n := by simpa using hl
    refine ⟨g, rfl, hg, ⟨cur, hh, by omega, hnc, fun j hj => ?_⟩, hnc, hl'⟩
    have e := congrArg (fun l => l[j]?) htk
    simp only [Nat.mul_one, List.getElem?_take, hj, if_true] at e
    rw [Array.getElem?_toList] at e
    rw [e]
    simp [hl', hj]
end

/-- Four bytes stored one behind the other. -/
def put4 (w : World) (g i : Nat) (a b c d : Int) : World := (((w.setCell ⟨g, i, none⟩ (.int .u8 a)).setCell ⟨g, i + 1, none⟩ (.int .u8 b)).setCell ⟨g, i + 2, none⟩ (.int .u8 c)).setCell ⟨g, i + 3, none⟩ (.int .u8 d)
def fput (f : Nat → Int) (i : Nat) (v : Nat → Int) : Nat → Int := fun j => if i ≤ j ∧ j < i + 4 then v (j - i) else f j
theorem PixRow.put4 {w : World} {g cap n : Nat} {f : Nat → Int} (h : PixRow w g cap n f) (i : Nat) (v : Nat → Int) : PixRow (put4 w g i (v 0) (v 1) (v 2) (v 3)) g cap n (fput f i v) := by
  refine ((((h.set i (v 0)).set (i + 1) (v 1)).set (i + 2) (v 2)).set (i + 3) (v 3)).congr fun j _ => ?_
  unfold fput
  by_cases h0 : j = i
  · subst h0; simp
  by_cases h1 : j = i + 1
  · subst h1; simp
  by_cases h2 : j = i + 2
  · subst h2; simp
  by_cases h3 : j = i + 3
  · subst h3; simp
  rw [if_neg h3, if_neg h2, if_neg h1, if_neg h0, if_neg (by omega)]

/-- Where byte k of the pixel at row r, column c lies. -/
def pos (W r c k : Nat) : Nat := 4 * (r * W + c) + k
theorem pos_inj {W r c k r' c' k' : Nat} (hc : c < W) (hc' : c' < W) (hk : k < 4) (hk' : k' < 4) (h : pos W r c k = pos W r' c' k') : r = r' ∧ c = c' ∧ k = k' := by
  unfold pos at h
  have hk2 : k = k' := by omega
  have h2 : r * W + c = r' * W + c' := by omega
  have hr : r = r' := by
    rcases Nat.lt_trichotomy r r' with hlt | he | hlt
    · have := Nat.mul_le_mul_right W (show r + 1 ≤ r' by omega)
      rw [Nat.add_mul, Nat.one_mul] at this
      omega
    · exact he
    · have := Nat.mul_le_mul_right W (show r' + 1 ≤ r by omega)
      rw [Nat.add_mul, Nat.one_mul] at this
      omega
  subst hr
  exact ⟨rfl, by omega, hk2⟩
theorem pos_lt {W H r c k : Nat} (hr : r < H) (hc : c < W) (hk : k < 4) : pos W r c k < 4 * (H * W) := by
  unfold pos
  have := Nat.mul_le_mul_right W (show r + 1 ≤ H by omega)
  rw [Nat.add_mul, Nat.one_mul] at this
  omega

/-- The pixels for which P holds are painted, all others are as they were. -/
def Painted (W : Nat) (old : Nat → Int) (new : Nat → Nat → Nat → Int) (P : Nat → Nat → Prop) (f : Nat → Int) : Prop :=
  ∀ r c k, c < W → k < 4 → (P r c → f (pos W r c k) = new r c k) ∧ (¬ P r c → f (pos W r c k) = old (pos W r c k))
theorem Painted.start (W : Nat) (old : Nat → Int) (new : Nat → Nat → Nat → Int) {P : Nat → Nat → Prop} (h : ∀ r c, ¬ P r c) : Painted W old new P old := fun r c k _ _ => ⟨fun hp => absurd hp (h r c), fun _ => rfl⟩
theorem Painted.congr {W : Nat} {old : Nat → Int} {new : Nat → Nat → Nat → Int} {P P' : Nat → Nat → Prop} {f : Nat → Int} (h : Painted W old new P f) (e : ∀ r c, c < W → (P r c ↔ P' r c)) : Painted W old new P' f := fun r c k hc hk =>
  ⟨fun hp => (h r c k hc hk).1 ((e r c hc).2 hp), fun hp => (h r c k hc hk).2 fun hp' => hp ((e r c hc).1 hp')⟩
theorem Painted.step {W : Nat} {old : Nat → Int} {new : Nat → Nat → Nat → Int} {P : Nat → Nat → Prop} {f : Nat → Int} (h : Painted W old new P f) {r0 c0 : Nat} (hc0 : c0 < W) : Painted W old new (fun r c => P r c ∨ (r = r0 ∧ c = c0)) (fput f (pos W r0 c0 0) (new r0 c0)) := fun r c k hc hk => by
  by_cases he : r = r0 ∧ c = c0
  · obtain ⟨rfl, rfl⟩ := he
    refine ⟨fun _ => ?_, fun hp => absurd (Or.inr ⟨rfl, rfl⟩) hp⟩
    unfold fput
    have e1 : pos W r c k = pos W r c 0 + k := by unfold pos; omega
    rw [if_pos (by omega), e1, Nat.add_sub_cancel_left]
  · have hne : fput f (pos W r0 c0 0) (new r0 c0) (pos W r c k) = f (pos W r c k) := by
      unfold fput
      rw [if_neg]
      intro hin
      have hd : pos W r c k = pos W r0 c0 (pos W r c k - pos W r0 c0 0) := by
        have : pos W r0 c0 (pos W r c k - pos W r0 c0 0) = pos W r0 c0 0 + (pos W r c k - pos W r0 c0 0) := by unfold pos; omega
        omega
      obtain ⟨a, b, _⟩ := pos_inj hc hc0 hk (by omega) hd
      exact he ⟨a, b⟩
    rw [hne]
    refine ⟨fun hp => (h r c k hc hk).1 (hp.resolve_right he), fun hp => (h r c k hc hk).2 fun hp' => hp (Or.inl hp')⟩

/-- The bytes of a row as a list. -/
def listOf (f : Nat → Int) (n : Nat) : List Int := (List.range n).map f
theorem listOf_length (f : Nat → Int) (n : Nat) : (listOf f n).length = n := by simp [listOf]
theorem listOf_getD (f : Nat → Int) {n j : Nat} (hj : j < n) : (listOf f n).getD j 0 = f j := by simp [listOf, hj]
end Go.Proofs.Ytlnfcjaempojgaa
