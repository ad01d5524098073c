/- Contract of impl.image: the image with its pixels copied. -/
import Derived.Test.YtlnfcjaempojgaaB1
namespace Go.Proofs.Ytlnfcjaempojgaa
open Go.RowKit

theorem info5 : (Try.prog.info? 5).map (fun i => (i.zero, i.size, i.bytes)) = some (some (.int .u8 0), 1, 1) := by kernel_rfl

abbrev u8s (bs : List Int) : List Value := bs.map (Value.int .u8)
def InB (bs : List Int) : Prop := ∀ j, 0 ≤ bs.getD j 0 ∧ bs.getD j 0 ≤ 255

theorem Blk.grown {w w' : World} {g : Nat} {t : TypeId} {cs : Array Value} {row : Option Nat} (h : Blk w g t cs) (hb : w.grownBy w' row) (hg : some g ≠ row) : Blk w' g t cs := (hb.block g h.lt hg).trans h
theorem grown_below {w w' : World} (hb : w.grownBy w' none) : Below w.heap.size w w' := ⟨hb.os, hb.tape, hb.output, hb.size, fun k hk => hb.block k hk (by simp)⟩

/-- What impl.image hands back: the image, its pixels in new memory. -/
def ImgRet (k x0 y0 x1 y1 : Int) (n : Nat) (bs : List Int) (w : World) (e : Ending) (w' : World) : Prop :=
  ∃ A c, e = .returned (imgV k x0 y0 x1 y1 (.slice A n c)) ∧ Below w.heap.size w w' ∧ w'.ownsRow w.heap.size 5 1 (.slice A n c) n (u8s bs)

theorem ownsRow_below {w w' : World} {base : Nat} {e : TypeId} {size : Nat} {v : Value} {n : Nat} {xs : List Value} (h : w.ownsRow base e size v n xs) (hb : Below w.heap.size w w') : w'.ownsRow base e size v n xs := by
  obtain ⟨h1, h2⟩ := h
  refine ⟨h1, ?_⟩
  rcases h2 with h2 | ⟨g, cap, cur, hv, hg, hh, r⟩
  · exact .inl h2
  · refine .inr ⟨g, cap, cur, hv, hg, ?_, r⟩
    have : g < w.heap.size := Blk.lt (w := w) (t := e) (cs := cur) hh
    rw [hb.block g this]; exact hh
theorem ownsRow_mono {w : World} {base base' : Nat} {e : TypeId} {size : Nat} {v : Value} {n : Nat} {xs : List Value} (h : w.ownsRow base e size v n xs) (hb : base' ≤ base) : w.ownsRow base' e size v n xs := by
  obtain ⟨h1, h2⟩ := h
  refine ⟨h1, ?_⟩
  rcases h2 with h2 | ⟨g, cap, cur, hv, hg, r⟩
  · exact .inl h2
  · exact .inr ⟨g, cap, cur, hv, by omega, r⟩

theorem ownsRow_slice {w : World} {base : Nat} {e : TypeId} {size : Nat} {v : Value} {n : Nat} {xs : List Value} (h : w.ownsRow base e size v n xs) : ∃ A c, v = .slice A n c := by
  obtain ⟨_, h2⟩ := h
  rcases h2 with ⟨rfl, rfl⟩ | ⟨g, cap, cur, hv, _⟩
  · exact ⟨none, 0, rfl⟩
  · exact ⟨_, cap, hv⟩

set_option maxHeartbeats 1000000 in
theorem image_some (k x0 y0 x1 y1 : Int) (ad : Addr) (n c : Nat) (bs : List Int) (w : World) (hlen : bs.length = n) (hfit : n ≤ 2147483647) (hlt : 0 < n → ad.block < w.heap.size)
    (hcell : ∀ j u, (u8s bs)[j]? = some u → w.cell? (ad.add j) = some u) :
    Calls Try.prog 50 #[imgV k x0 y0 x1 y1 (.slice (some ad) n c)] w (ImgRet k x0 y0 x1 y1 n bs w) := by
  obtain ⟨i5, hi, hz0, hz1, hz2⟩ := info_parts info5
  have HC := hid hcell
  have HL := hid hlen
  clear hcell hlen
  go_enter Try.func50, Try.ntmps50
  go_wp2_with (at_builtin; refine wpList_append_own _ rfl _ _ 22 rfl (w.heap.size + 2) 5 i5 (.int .u8 0) 1 1 Try.underlying22 hi hz0 hz1 hz2 rfl (by decide) _ _ _ rfl (World.ownsRow_nil _ _ _ _) ad n c (u8s bs) rfl ?c1 ?c2 ?c3 ?c4 ?c5 ?c6 ?_)
  case c1 => simp [HL.out]
  case c2 =>
    intro j u hu
    have hb : (ad.add j).block = ad.block := by unfold Addr.add; split <;> rfl
    have hj : j < (u8s bs).length := (List.getElem?_eq_some_iff.1 hu).1
    have hn : 0 < n := by rw [List.length_map, HL.out] at hj; omega
    have hlt' := hlt hn
    rw [World.cell?_alloc_lt _ _ _ (by rw [hb]; simp; omega), World.cell?_alloc_lt _ _ _ (by rw [hb]; exact hlt')]
    exact HC.out j u hu
  case c3 =>
    intro u hu
    obtain ⟨b, _, rfl⟩ := List.mem_map.1 hu
    rfl
  case c4 => unfold maxLen; omega
  case c5 => omega
  case c6 => simp
  intro v' w1 hown hgr _
  have hgn := hgr
  simp only [Value.ownBlock] at hgn
  have E0 : Blk w1 w.heap.size 24 #[iv k, iv x0, iv y0, iv x1, iv y1, .slice (some ad) n c] := Blk.grown (Blk.alloc (Blk.new _ _ _) _) hgn (by simp)
  have E1 : Blk w1 (w.heap.size + 1) 59 #[iv 0, iv 0, iv 0, iv 0, iv 0, .slice none 0 0] := Blk.grown (Blk.new_at (by simp)) hgn (by simp)
  have hb1 : Below w.heap.size w w1 := below_via (grown_below hgn) (by (repeat' (first | (with_reducible exact Below.refl _ _) | (with_reducible assumption) | (with_reducible refine drewN_below ?_ _) | (with_reducible refine Below.drew ?_) | (with_reducible refine Below.alloc ?_ ?_ _) | (with_reducible refine Below.setCell ?_ ?_ _) | (with_reducible refine below_via (by with_reducible assumption) ?_ ?_) | go_size))) (by simp; omega)
  obtain ⟨A, c', rfl⟩ : ∃ A c', v' = .slice A n c' := ownsRow_slice hown
  have hsz := E1.lt
  have C0 := E0.cells6
  have C1 := E1.cells6
  have f0 := E0.frozen
  have f1 := E1.frozen
  have g05 := f0 5
  have g10 := f1 0
  have g11 := f1 1
  have g12 := f1 2
  have g13 := f1 3
  have g14 := f1 4
  have g15 := f1 5
  have HO := hid hown
  have HE := hid (And.intro E0 E1)
  clear hown hgr hgn f0 f1 E0 E1
  go_wp2
  refine bodyPost_ret (v := imgV k x0 y0 x1 y1 (.slice A n c')) (by simp [results, Try.results50, go_sem, C1]) rfl ⟨A, c', rfl, ?_, ?_⟩
  · (repeat' (first | (with_reducible exact Below.refl _ _) | (with_reducible assumption) | (with_reducible refine drewN_below ?_ _) | (with_reducible refine Below.drew ?_) | (with_reducible refine Below.alloc ?_ ?_ _) | (with_reducible refine Below.setCell ?_ ?_ _) | (with_reducible refine below_via (by with_reducible assumption) ?_ ?_) | go_size))
  · refine ownsRow_mono (base := w.heap.size + 2) ?_ (by omega)
    (repeat refine ownsRow_setCell_below ?_ (by show _ < _; simp only []; omega) _)
    exact HO.out

set_option maxHeartbeats 1000000 in
theorem image_none (k x0 y0 x1 y1 : Int) (w : World) :
    Calls Try.prog 50 #[imgV k x0 y0 x1 y1 (.slice none 0 0)] w (ImgRet k x0 y0 x1 y1 0 [] w) := by
  go_enter Try.func50, Try.ntmps50
  go_wp2
  refine bodyPost_ret (v := imgV k x0 y0 x1 y1 (.slice none 0 0)) (by simp [results, Try.results50, go_sem]) rfl ⟨none, 0, rfl, ?_, World.ownsRow_nil _ _ _ _⟩
  (repeat' (first | (with_reducible exact Below.refl _ _) | (with_reducible assumption) | (with_reducible refine drewN_below ?_ _) | (with_reducible refine Below.drew ?_) | (with_reducible refine Below.alloc ?_ ?_ _) | (with_reducible refine Below.setCell ?_ ?_ _) | (with_reducible refine below_via (by with_reducible assumption) ?_ ?_) | go_size))

/-- A slice of bytes that came in: it is nil, or its n bytes read as bs. -/
structure ByteSl (w : World) (A : Option Addr) (n c : Nat) (bs : List Int) : Prop where
  len : bs.length = n
  le : n ≤ c
  cap : c ≤ 140737488355328
  rng : ∀ j, 0 ≤ bs.getD j 0 ∧ bs.getD j 0 ≤ 255
  nil : A = none → n = 0 ∧ c = 0
  at_ : 0 < n → ∃ g o, A = some ⟨g, o, none⟩ ∧ g < w.heap.size ∧ ∀ j, j < n → w.cell? ⟨g, o + j, none⟩ = some (.int .u8 (bs.getD j 0))

theorem ByteSl.bytes {w : World} {A : Option Addr} {n c : Nat} {bs : List Int} (h : ByteSl w A n c bs) : Bytes w A n bs := ⟨h.len, h.rng, h.at_⟩
theorem ByteSl.keep {w W : World} {A : Option Addr} {n c : Nat} {bs : List Int} (h : ByteSl w A n c bs) (hW : Below w.heap.size w W) : ByteSl W A n c bs :=
  ⟨h.len, h.le, h.cap, h.rng, h.nil, fun hn => by
    obtain ⟨g, o, hA, hg, hcell⟩ := h.at_ hn
    exact ⟨g, o, hA, Nat.lt_of_lt_of_le hg hW.size, fun j hj => (hW.cell (p := ⟨g, o + j, none⟩) hg).trans (hcell j hj)⟩⟩

theorem image_any (k x0 y0 x1 y1 : Int) (A : Option Addr) (n c : Nat) (bs : List Int) (w : World) (h : ByteSl w A n c bs) (hfit : n ≤ 2147483647) :
    Calls Try.prog 50 #[imgV k x0 y0 x1 y1 (.slice A n c)] w (ImgRet k x0 y0 x1 y1 n bs w) := by
  cases A with
  | none =>
    obtain ⟨rfl, rfl⟩ := h.nil rfl
    have : bs = [] := List.eq_nil_of_length_eq_zero h.len
    subst this
    exact image_none k x0 y0 x1 y1 w
  | some ad =>
    refine image_some k x0 y0 x1 y1 ad n c bs w h.len hfit (fun hn => ?_) (fun j u hu => ?_)
    · obtain ⟨g, o, hA, hg, _⟩ := h.at_ hn
      obtain rfl : ad = ⟨g, o, none⟩ := Option.some.inj hA
      exact hg
    · have hj : j < (u8s bs).length := (List.getElem?_eq_some_iff.1 hu).1
      have hj' : j < n := by rw [List.length_map, h.len] at hj; exact hj
      have hn : 0 < n := Nat.lt_of_le_of_lt (Nat.zero_le _) hj'
      obtain ⟨g, o, hA, hg, hc⟩ := h.at_ hn
      obtain rfl : ad = ⟨g, o, none⟩ := Option.some.inj hA
      rw [Addr.add_lit, hc j hj']
      have hjb : j < bs.length := by rw [h.len]; exact hj'
      rw [List.getElem?_map, List.getElem?_eq_getElem hjb] at hu
      simp only [Option.map_some, Option.some.injEq] at hu
      rw [← hu]
      simp [hjb]

end Go.Proofs.Ytlnfcjaempojgaa
