/- What the arguments of these laws are: images, four numbers, numbers, a flag. -/
import Derived.Test.YtlnfcjaempojgaaRows
import Derived.Test.YtlnfcjaempojgaaC1
import Derived.WalkKit
import Derived.ProofKit
import Derived.OpenShut
import Derived.SizedLaws
import Derived.Carry
import Derived.Below
import Derived.ChangeOld
import Derived.Lib.SmallJoins
import Derived.Laws.IdiomArrays
set_option linter.unusedVariables false
namespace Go.Proofs.Ytlnfcjaempojgaa
open Go.ChangeShapes Go.WideShapes Go.ChangeAt Go.RowKit

theorem own : ownKnob Try.prog.godebug = none := by kernel_rfl
theorem laidOut : laidOutB Try.prog = true := by kernel_rfl
theorem cells24 : Try.prog.cellsOf 24 = 6 := by kernel_rfl
theorem cells25 : Try.prog.cellsOf 25 = 4 := by kernel_rfl
theorem cells22 : Try.prog.cellsOf 22 = 1 := by kernel_rfl
theorem cells3 : Try.prog.cellsOf 3 = 1 := by kernel_rfl
theorem cells5 : Try.prog.cellsOf 5 = 1 := by kernel_rfl
theorem bytes5 : Try.prog.bytesOf 5 = 1 := by kernel_rfl
theorem list_of6 {α : Type} {cs : Array α} (h : cs.size = 6) : ∃ a b c d e f, cs = #[a, b, c, d, e, f] := by
  obtain ⟨l⟩ := cs
  match l, h with
  | [a, b, c, d, e, f], _ => exact ⟨a, b, c, d, e, f, rfl⟩
theorem list_is6 {α : Type} {l : List α} (h : l.length = 6) : ∃ a b c d e f, l = [a, b, c, d, e, f] := by
  match l, h with
  | [a, b, c, d, e, f], _ => exact ⟨a, b, c, d, e, f, rfl⟩
theorem array_of4 {α : Type} {cs : Array α} (h : cs.size = 4) : ∃ a b c d, cs = #[a, b, c, d] := by
  obtain ⟨l⟩ := cs
  match l, h with
  | [a, b, c, d], _ => exact ⟨a, b, c, d, rfl⟩

section
variable {H : Type} {enc : TypeId × Value → H} {W : World} {base : Nat} {v : Value} {d : DataW H} {p : List MemPlace}

/-- A byte slice that came in. -/
theorem open_bytes {fuel : Nat} {u : Value} {x : DataW H × List MemPlace} (h : DataW.trod enc Try.prog W 0 (fun _ => true) true fuel 22 [u] = some x) (hcap : ∀ A n c, u = .slice A n c → ∀ es sp, x.1 = .slice es sp → es.length + sp.length = c → c ≤ 140737488355328) :
    ∃ A n c bs, u = .slice A n c ∧ ByteSl W A n c bs := by
  rcases open_ints Try.underlying22 Try.underlying5 cells5 h with ⟨hcs, _⟩ | ⟨x, l, c, zs, hcs, _, hl, hm, hz, hx, hcell, hwz⟩
  · simp only [List.cons.injEq, and_true] at hcs
    subst hcs
    exact ⟨none, 0, 0, [], rfl, rfl, Nat.le_refl _, by omega, fun j => by simp, fun _ => ⟨rfl, rfl⟩, fun h => absurd h (by omega)⟩
  · simp only [List.cons.injEq, and_true] at hcs
    subst hcs
    simp only [if_true] at hz
    have hr : ∀ j, 0 ≤ zs.getD j 0 ∧ zs.getD j 0 ≤ 255 := fun j => by
      by_cases hj : j < zs.length
      · have := hwz (zs[j]) (List.getElem_mem hj)
        have e : zs.getD j 0 = zs[j] := by simp [hj]
        rw [e]
        have m1 : IntKind.u8.min = 0 := by decide
        have m2 : IntKind.u8.max = 255 := by decide
        simp [Lit.wf, m1, m2] at this
        omega
      · have e : zs.getD j 0 = 0 := by simp [List.getElem?_eq_none (by omega : zs.length ≤ j)]
        rw [e]; omega
    have htk : ∀ j, j < l → (zs.take l).getD j 0 = zs.getD j 0 := fun j hj => by simp [hj]
    refine ⟨some x, l, c, zs.take l, rfl, by simp; omega, hl, hcap _ _ _ rfl _ _ (congrArg Prod.fst hx) (by simp [lits]; omega), fun j => ?_, fun h => (by cases h), fun hn => ?_⟩
    · by_cases hj : j < l
      · rw [htk j hj]; exact hr j
      · have e : (zs.take l).getD j 0 = 0 := by simp [List.getElem?_take, hj]
        rw [e]; omega
    · obtain ⟨b, o, spot⟩ := x
      have h0 := hcell 0 (by omega)
      have hspot : spot = none := by simpa [Addr.add] using World.cell?_spot h0
      subst hspot
      refine ⟨b, o, rfl, ?_, fun j hj => ?_⟩
      · have h0' : W.cell? ⟨b, o, none⟩ = some (.int .u8 (zs.getD 0 0)) := by simpa [Addr.add] using h0
        rcases Nat.lt_or_ge b W.heap.size with h | h
        · exact h
        · exfalso
          simp [World.cell?, Array.getElem?_eq_none h] at h0'
      · rw [htk j hj]
        by_cases hj0 : j = 0
        · subst hj0; simpa [Addr.add] using h0
        · simpa [Addr.add, hj0] using hcell j (by omega)

set_option maxRecDepth 100000 in
/-- An image that came in. -/
theorem open_img {ts : List TypeId} {ds : List (DataW H)} (j : Nat) (hv : Value.okWide Try.prog W .any base 24 v) (h : DataW.Trod enc Try.prog W 0 (fun _ => true) true 24 v d p)
    (hsz : (DataW.weightsEach Try.prog ts ds).all (· ≤ reachBytes) = true) (ht : ts[j]? = some 24) (hd : ds[j]? = some d) :
    ∃ k x0 y0 x1 y1 A n c bs, v = imgV k x0 y0 x1 y1 (.slice A n c) ∧ ByteSl W A n c bs := by
  obtain ⟨cs, rfl, hn⟩ := okWide_struct Try.underlying24 hv
  obtain ⟨c0, c1, c2, c3, c4, c5, rfl⟩ := list_of6 (hn.trans cells24)
  obtain ⟨fuel, hf⟩ := h
  obtain ⟨xs, n, _, hx, _, hlen, hg⟩ := DataW.trod_struct Try.underlying24 hf
  obtain ⟨z0, z1, z2, z3, z4, z5, rfl⟩ := list_is6 hlen
  have g0 := hg 0 _ rfl
  have g1 := hg 1 _ rfl
  have g2 := hg 2 _ rfl
  have g3 := hg 3 _ rfl
  have g4 := hg 4 _ rfl
  have g5 := hg 5 _ rfl
  simp [Value.cells, cells3, cells22] at g0 g1 g2 g3 g4 g5
  obtain ⟨m0, e0, y0, _⟩ := DataW.trod_int Try.underlying3 g0
  obtain ⟨m1, e1, y1, _⟩ := DataW.trod_int Try.underlying3 g1
  obtain ⟨m2, e2, y2, _⟩ := DataW.trod_int Try.underlying3 g2
  obtain ⟨m3, e3, y3, _⟩ := DataW.trod_int Try.underlying3 g3
  obtain ⟨m4, e4, y4, _⟩ := DataW.trod_int Try.underlying3 g4
  simp only [List.cons.injEq, and_true] at e0 e1 e2 e3 e4
  subst e0 e1 e2 e3 e4 y0 y1 y2 y3 y4
  simp only [Prod.mk.injEq] at hx
  obtain ⟨A, l, c, bs, rfl, hb⟩ := open_bytes g5 fun A l c hA es sp hes hlen => by
    have hmem : (es.length + sp.length) * Try.prog.bytesOf 5 ∈ DataW.weights Try.prog 24 d := by
      rw [hx.1]
      simp [DataW.weights, DataW.weightsEach, Try.underlying24, Try.underlying22, hes]
    have := List.all_eq_true.1 hsz _ (DataW.weights_mem_each ht hd _ hmem)
    rw [bytes5] at this
    simp [reachBytes] at this
    omega
  exact ⟨m0, m1, m2, m3, m4, A, l, c, bs, rfl, hb⟩

set_option maxRecDepth 100000 in
/-- Four numbers that came in. -/
theorem open_four (hv : Value.okWide Try.prog W .any base 25 v) (h : DataW.Trod enc Try.prog W 0 (fun _ => true) true 25 v d p) : ∃ a b c e, v = fourV a b c e := by
  obtain ⟨cs, rfl, hsz, _⟩ : ∃ cs, v = .agg cs ∧ cs.size = Try.prog.cellsOf 25 ∧ Row.okWide Try.prog W .any base 25 cs := by simpa [Value.okWide, Try.underlying25] using hv
  obtain ⟨c0, c1, c2, c3, rfl⟩ := array_of4 (hsz.trans cells25)
  obtain ⟨fuel, hf⟩ := h
  obtain ⟨y0, y1, y2, y3, m, hx, hy0, hy1, hy2, hy3⟩ := trod_array4 Try.underlying25 cells3 hf
  obtain ⟨x0, e0, _⟩ := DataW.trod_int Try.underlying3 hy0
  obtain ⟨x1, e1, _⟩ := DataW.trod_int Try.underlying3 hy1
  obtain ⟨x2, e2, _⟩ := DataW.trod_int Try.underlying3 hy2
  obtain ⟨x3, e3, _⟩ := DataW.trod_int Try.underlying3 hy3
  simp only [List.cons.injEq, and_true] at e0 e1 e2 e3
  subst e0 e1 e2 e3
  exact ⟨x0, x1, x2, x3, rfl⟩
end
end Go.Proofs.Ytlnfcjaempojgaa
