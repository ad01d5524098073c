/- Contracts of ZZImage.make at the kinds 0 to 5: a new image of that kind, its pixels copied. Written by mk_C2.py. -/
import Derived.Test.YtlnfcjaempojgaaC1
namespace Go.Proofs.Ytlnfcjaempojgaa
open Go.RowKit

/-- A new image: a pointer of type T to a block of type S that holds the pixels' slice, the stride and the bounds. -/
def MadeImg (T S : TypeId) (st x0 y0 x1 y1 : Int) (n : Nat) (bs : List Int) (w : World) (e : Ending) (w' : World) : Prop :=
  ∃ g A c, e = .returned (.iface T (.pointer (some ⟨g, 0, none⟩))) ∧ Below w.heap.size w w' ∧ w.heap.size ≤ g ∧ Blk w' g S #[.slice A n c, iv st, iv x0, iv y0, iv x1, iv y1] ∧ w'.ownsRow w.heap.size 5 1 (.slice A n c) n (u8s bs)


theorem own_cases {w : World} {base : Nat} {A : Option Addr} {n c : Nat} {bs : List Int} (h : w.ownsRow base 5 1 (.slice A n c) n (u8s bs)) :
    (A = none ∧ n = 0 ∧ c = 0 ∧ bs = []) ∨ ∃ g, A = some ⟨g, 0, none⟩ ∧ bs.length = n ∧ g < w.heap.size ∧ ∀ j u, (u8s bs)[j]? = some u → w.cell? ((⟨g, 0, none⟩ : Addr).add j) = some u := by
  have h' := h
  obtain ⟨h1, h2⟩ := h
  have hl : bs.length = n := by simpa using h1
  rcases h2 with ⟨hv, rfl⟩ | ⟨g, cap, cur, hv, hg, hh, _⟩
  · simp only [Value.slice.injEq] at hv
    exact .inl ⟨hv.1, rfl, hv.2.2, List.eq_nil_of_length_eq_zero hl⟩
  · simp only [Value.slice.injEq] at hv
    obtain ⟨rfl, _, rfl⟩ := hv
    exact .inr ⟨g, rfl, hl, Blk.lt (w := w) (t := 5) (cs := cur) hh, h'.cells rfl⟩

set_option maxHeartbeats 1000000 in
theorem make0_some (x0 y0 x1 y1 : Int) (hx0 : -1000 ≤ x0 ∧ x0 ≤ 1000) (hx1 : -1000 ≤ x1 ∧ x1 ≤ 1000) (ad : Addr) (n c : Nat) (bs : List Int) (w : World) (hlen : bs.length = n) (hfit : n ≤ 2147483647) (hlt : 0 < n → ad.block < w.heap.size)
    (hcell : ∀ j u, (u8s bs)[j]? = some u → w.cell? (ad.add j) = some u) :
    Calls Try.prog 69 #[imgV 0 x0 y0 x1 y1 (.slice (some ad) n c)] w (MadeImg 84 95 (4 * (x1 - x0)) x0 y0 x1 y1 n bs w) := by
  obtain ⟨i5, hi, hz0, hz1, hz2⟩ := info_parts info5
  have HC := hid hcell
  have HL := hid hlen
  clear hcell hlen
  go_enter Try.func69, Try.ntmps69
  go_wp2_with (at_builtin; refine wpList_append_own _ rfl _ _ 22 rfl (w.heap.size + 2) 5 i5 (.int .u8 0) 1 1 Try.underlying22 hi hz0 hz1 hz2 rfl (by decide) _ _ _ rfl (World.ownsRow_nil _ _ _ _) ad n c (u8s bs) rfl ?c1 ?c2 ?c3 ?c4 ?c5 ?c6 ?_)
  case c1 => simp [HL.out]
  case c2 =>
    intro j u hu
    have hb : (ad.add j).block = ad.block := by unfold Addr.add; split <;> rfl
    have hj : j < (u8s bs).length := (List.getElem?_eq_some_iff.1 hu).1
    have hn : 0 < n := by rw [List.length_map, HL.out] at hj; omega
    have hlt' := hlt hn
    rw [World.cell?_alloc_lt _ _ _ (by rw [hb]; simp; omega), World.cell?_alloc_lt _ _ _ (by rw [hb]; exact hlt')]
    exact HC.out j u hu
  case c3 =>
    intro u hu
    obtain ⟨b, _, rfl⟩ := List.mem_map.1 hu
    rfl
  case c4 => unfold maxLen; omega
  case c5 => omega
  case c6 => simp
  intro v' w1 hown hgr hvn
  clear hvn
  have hgn := hgr
  simp only [Value.ownBlock] at hgn
  have E0 : Blk w1 w.heap.size 59 #[iv 0, iv x0, iv y0, iv x1, iv y1, .slice (some ad) n c] := Blk.grown (Blk.alloc (Blk.new _ _ _) _) hgn (by simp)
  have E1 : Blk w1 (w.heap.size + 1) 73 #[iv x0, iv y0, iv x1, iv y1] := Blk.grown (Blk.new_at (by simp)) hgn (by simp)
  have hb1 : Below w.heap.size w w1 := below_via (grown_below hgn) (by (repeat' (first | (with_reducible exact Below.refl _ _) | (with_reducible assumption) | (with_reducible refine drewN_below ?_ _) | (with_reducible refine Below.drew ?_) | (with_reducible refine Below.alloc ?_ ?_ _) | (with_reducible refine Below.setCell ?_ ?_ _) | (with_reducible refine below_via (by with_reducible assumption) ?_ ?_) | go_size))) (by simp; omega)
  obtain ⟨A, c', rfl⟩ : ∃ A c', v' = .slice A n c' := ownsRow_slice hown
  have hsz := E1.lt
  have hsz0 := E0.lt
  have C0 := E0.cells6
  have C1 := E1.cells4.1
  have HO := hid hown
  clear hown hgr hgn E0 E1 hlt
  go_wp2
  go_returns
  refine ⟨w1.heap.size + 1, A, c', rfl, by (repeat' (first | (with_reducible exact Below.refl _ _) | (with_reducible assumption) | (with_reducible refine drewN_below ?_ _) | (with_reducible refine Below.drew ?_) | (with_reducible refine Below.alloc ?_ ?_ _) | (with_reducible refine Below.setCell ?_ ?_ _) | (with_reducible refine below_via (by with_reducible assumption) ?_ ?_) | go_size)), by omega, Blk.new_at (by simp), ?_⟩
  exact ownsRow_mono ((HO.out.alloc _).alloc _) (by omega)

set_option maxRecDepth 20000 in
set_option maxHeartbeats 1000000 in
theorem make0_none (x0 y0 x1 y1 : Int) (hx0 : -1000 ≤ x0 ∧ x0 ≤ 1000) (hx1 : -1000 ≤ x1 ∧ x1 ≤ 1000) (w : World) :
    Calls Try.prog 69 #[imgV 0 x0 y0 x1 y1 (.slice none 0 0)] w (MadeImg 84 95 (4 * (x1 - x0)) x0 y0 x1 y1 0 [] w) := by
  go_enter Try.func69, Try.ntmps69
  go_wp2
  go_returns
  refine ⟨w.heap.size + 1 + 1 + 1, none, 0, rfl, by (repeat' (first | (with_reducible exact Below.refl _ _) | (with_reducible assumption) | (with_reducible refine drewN_below ?_ _) | (with_reducible refine Below.drew ?_) | (with_reducible refine Below.alloc ?_ ?_ _) | (with_reducible refine Below.setCell ?_ ?_ _) | (with_reducible refine below_via (by with_reducible assumption) ?_ ?_) | go_size)), by omega, Blk.new_at (by simp), World.ownsRow_nil _ _ _ _⟩

theorem make0_own (x0 y0 x1 y1 : Int) (hx0 : -1000 ≤ x0 ∧ x0 ≤ 1000) (hx1 : -1000 ≤ x1 ∧ x1 ≤ 1000) (A : Option Addr) (n c : Nat) (bs : List Int) (w : World) (base : Nat) (hown : w.ownsRow base 5 1 (.slice A n c) n (u8s bs)) (hfit : n ≤ 2147483647) :
    Calls Try.prog 69 #[imgV 0 x0 y0 x1 y1 (.slice A n c)] w (MadeImg 84 95 (4 * (x1 - x0)) x0 y0 x1 y1 n bs w) := by
  rcases own_cases hown with ⟨rfl, rfl, rfl, rfl⟩ | ⟨g, rfl, hlen, hg, hcell⟩
  · exact make0_none x0 y0 x1 y1 hx0 hx1 w
  · exact make0_some x0 y0 x1 y1 hx0 hx1 _ n c bs w hlen hfit (fun _ => hg) hcell


set_option maxHeartbeats 1000000 in
theorem make1_some (x0 y0 x1 y1 : Int) (hx0 : -1000 ≤ x0 ∧ x0 ≤ 1000) (hx1 : -1000 ≤ x1 ∧ x1 ≤ 1000) (ad : Addr) (n c : Nat) (bs : List Int) (w : World) (hlen : bs.length = n) (hfit : n ≤ 2147483647) (hlt : 0 < n → ad.block < w.heap.size)
    (hcell : ∀ j u, (u8s bs)[j]? = some u → w.cell? (ad.add j) = some u) :
    Calls Try.prog 69 #[imgV 1 x0 y0 x1 y1 (.slice (some ad) n c)] w (MadeImg 91 112 (4 * (x1 - x0)) x0 y0 x1 y1 n bs w) := by
  obtain ⟨i5, hi, hz0, hz1, hz2⟩ := info_parts info5
  have HC := hid hcell
  have HL := hid hlen
  clear hcell hlen
  go_enter Try.func69, Try.ntmps69
  go_wp2_with (at_builtin; refine wpList_append_own _ rfl _ _ 22 rfl (w.heap.size + 2) 5 i5 (.int .u8 0) 1 1 Try.underlying22 hi hz0 hz1 hz2 rfl (by decide) _ _ _ rfl (World.ownsRow_nil _ _ _ _) ad n c (u8s bs) rfl ?c1 ?c2 ?c3 ?c4 ?c5 ?c6 ?_)
  case c1 => simp [HL.out]
  case c2 =>
    intro j u hu
    have hb : (ad.add j).block = ad.block := by unfold Addr.add; split <;> rfl
    have hj : j < (u8s bs).length := (List.getElem?_eq_some_iff.1 hu).1
    have hn : 0 < n := by rw [List.length_map, HL.out] at hj; omega
    have hlt' := hlt hn
    rw [World.cell?_alloc_lt _ _ _ (by rw [hb]; simp; omega), World.cell?_alloc_lt _ _ _ (by rw [hb]; exact hlt')]
    exact HC.out j u hu
  case c3 =>
    intro u hu
    obtain ⟨b, _, rfl⟩ := List.mem_map.1 hu
    rfl
  case c4 => unfold maxLen; omega
  case c5 => omega
  case c6 => simp
  intro v' w1 hown hgr hvn
  clear hvn
  have hgn := hgr
  simp only [Value.ownBlock] at hgn
  have E0 : Blk w1 w.heap.size 59 #[iv 1, iv x0, iv y0, iv x1, iv y1, .slice (some ad) n c] := Blk.grown (Blk.alloc (Blk.new _ _ _) _) hgn (by simp)
  have E1 : Blk w1 (w.heap.size + 1) 73 #[iv x0, iv y0, iv x1, iv y1] := Blk.grown (Blk.new_at (by simp)) hgn (by simp)
  have hb1 : Below w.heap.size w w1 := below_via (grown_below hgn) (by (repeat' (first | (with_reducible exact Below.refl _ _) | (with_reducible assumption) | (with_reducible refine drewN_below ?_ _) | (with_reducible refine Below.drew ?_) | (with_reducible refine Below.alloc ?_ ?_ _) | (with_reducible refine Below.setCell ?_ ?_ _) | (with_reducible refine below_via (by with_reducible assumption) ?_ ?_) | go_size))) (by simp; omega)
  obtain ⟨A, c', rfl⟩ : ∃ A c', v' = .slice A n c' := ownsRow_slice hown
  have hsz := E1.lt
  have hsz0 := E0.lt
  have C0 := E0.cells6
  have C1 := E1.cells4.1
  have HO := hid hown
  clear hown hgr hgn E0 E1 hlt
  go_wp2
  go_returns
  refine ⟨w1.heap.size + 1, A, c', rfl, by (repeat' (first | (with_reducible exact Below.refl _ _) | (with_reducible assumption) | (with_reducible refine drewN_below ?_ _) | (with_reducible refine Below.drew ?_) | (with_reducible refine Below.alloc ?_ ?_ _) | (with_reducible refine Below.setCell ?_ ?_ _) | (with_reducible refine below_via (by with_reducible assumption) ?_ ?_) | go_size)), by omega, Blk.new_at (by simp), ?_⟩
  exact ownsRow_mono ((HO.out.alloc _).alloc _) (by omega)

set_option maxRecDepth 20000 in
set_option maxHeartbeats 1000000 in
theorem make1_none (x0 y0 x1 y1 : Int) (hx0 : -1000 ≤ x0 ∧ x0 ≤ 1000) (hx1 : -1000 ≤ x1 ∧ x1 ≤ 1000) (w : World) :
    Calls Try.prog 69 #[imgV 1 x0 y0 x1 y1 (.slice none 0 0)] w (MadeImg 91 112 (4 * (x1 - x0)) x0 y0 x1 y1 0 [] w) := by
  go_enter Try.func69, Try.ntmps69
  go_wp2
  go_returns
  refine ⟨w.heap.size + 1 + 1 + 1, none, 0, rfl, by (repeat' (first | (with_reducible exact Below.refl _ _) | (with_reducible assumption) | (with_reducible refine drewN_below ?_ _) | (with_reducible refine Below.drew ?_) | (with_reducible refine Below.alloc ?_ ?_ _) | (with_reducible refine Below.setCell ?_ ?_ _) | (with_reducible refine below_via (by with_reducible assumption) ?_ ?_) | go_size)), by omega, Blk.new_at (by simp), World.ownsRow_nil _ _ _ _⟩

theorem make1_own (x0 y0 x1 y1 : Int) (hx0 : -1000 ≤ x0 ∧ x0 ≤ 1000) (hx1 : -1000 ≤ x1 ∧ x1 ≤ 1000) (A : Option Addr) (n c : Nat) (bs : List Int) (w : World) (base : Nat) (hown : w.ownsRow base 5 1 (.slice A n c) n (u8s bs)) (hfit : n ≤ 2147483647) :
    Calls Try.prog 69 #[imgV 1 x0 y0 x1 y1 (.slice A n c)] w (MadeImg 91 112 (4 * (x1 - x0)) x0 y0 x1 y1 n bs w) := by
  rcases own_cases hown with ⟨rfl, rfl, rfl, rfl⟩ | ⟨g, rfl, hlen, hg, hcell⟩
  · exact make1_none x0 y0 x1 y1 hx0 hx1 w
  · exact make1_some x0 y0 x1 y1 hx0 hx1 _ n c bs w hlen hfit (fun _ => hg) hcell


set_option maxHeartbeats 1000000 in
theorem make2_some (x0 y0 x1 y1 : Int) (hx0 : -1000 ≤ x0 ∧ x0 ≤ 1000) (hx1 : -1000 ≤ x1 ∧ x1 ≤ 1000) (ad : Addr) (n c : Nat) (bs : List Int) (w : World) (hlen : bs.length = n) (hfit : n ≤ 2147483647) (hlt : 0 < n → ad.block < w.heap.size)
    (hcell : ∀ j u, (u8s bs)[j]? = some u → w.cell? (ad.add j) = some u) :
    Calls Try.prog 69 #[imgV 2 x0 y0 x1 y1 (.slice (some ad) n c)] w (MadeImg 99 113 (x1 - x0) x0 y0 x1 y1 n bs w) := by
  obtain ⟨i5, hi, hz0, hz1, hz2⟩ := info_parts info5
  have HC := hid hcell
  have HL := hid hlen
  clear hcell hlen
  go_enter Try.func69, Try.ntmps69
  go_wp2_with (at_builtin; refine wpList_append_own _ rfl _ _ 22 rfl (w.heap.size + 2) 5 i5 (.int .u8 0) 1 1 Try.underlying22 hi hz0 hz1 hz2 rfl (by decide) _ _ _ rfl (World.ownsRow_nil _ _ _ _) ad n c (u8s bs) rfl ?c1 ?c2 ?c3 ?c4 ?c5 ?c6 ?_)
  case c1 => simp [HL.out]
  case c2 =>
    intro j u hu
    have hb : (ad.add j).block = ad.block := by unfold Addr.add; split <;> rfl
    have hj : j < (u8s bs).length := (List.getElem?_eq_some_iff.1 hu).1
    have hn : 0 < n := by rw [List.length_map, HL.out] at hj; omega
    have hlt' := hlt hn
    rw [World.cell?_alloc_lt _ _ _ (by rw [hb]; simp; omega), World.cell?_alloc_lt _ _ _ (by rw [hb]; exact hlt')]
    exact HC.out j u hu
  case c3 =>
    intro u hu
    obtain ⟨b, _, rfl⟩ := List.mem_map.1 hu
    rfl
  case c4 => unfold maxLen; omega
  case c5 => omega
  case c6 => simp
  intro v' w1 hown hgr hvn
  clear hvn
  have hgn := hgr
  simp only [Value.ownBlock] at hgn
  have E0 : Blk w1 w.heap.size 59 #[iv 2, iv x0, iv y0, iv x1, iv y1, .slice (some ad) n c] := Blk.grown (Blk.alloc (Blk.new _ _ _) _) hgn (by simp)
  have E1 : Blk w1 (w.heap.size + 1) 73 #[iv x0, iv y0, iv x1, iv y1] := Blk.grown (Blk.new_at (by simp)) hgn (by simp)
  have hb1 : Below w.heap.size w w1 := below_via (grown_below hgn) (by (repeat' (first | (with_reducible exact Below.refl _ _) | (with_reducible assumption) | (with_reducible refine drewN_below ?_ _) | (with_reducible refine Below.drew ?_) | (with_reducible refine Below.alloc ?_ ?_ _) | (with_reducible refine Below.setCell ?_ ?_ _) | (with_reducible refine below_via (by with_reducible assumption) ?_ ?_) | go_size))) (by simp; omega)
  obtain ⟨A, c', rfl⟩ : ∃ A c', v' = .slice A n c' := ownsRow_slice hown
  have hsz := E1.lt
  have hsz0 := E0.lt
  have C0 := E0.cells6
  have C1 := E1.cells4.1
  have HO := hid hown
  clear hown hgr hgn E0 E1 hlt
  go_wp2
  go_returns
  refine ⟨w1.heap.size + 1, A, c', rfl, by (repeat' (first | (with_reducible exact Below.refl _ _) | (with_reducible assumption) | (with_reducible refine drewN_below ?_ _) | (with_reducible refine Below.drew ?_) | (with_reducible refine Below.alloc ?_ ?_ _) | (with_reducible refine Below.setCell ?_ ?_ _) | (with_reducible refine below_via (by with_reducible assumption) ?_ ?_) | go_size)), by omega, Blk.new_at (by simp), ?_⟩
  exact ownsRow_mono ((HO.out.alloc _).alloc _) (by omega)

set_option maxRecDepth 20000 in
set_option maxHeartbeats 1000000 in
theorem make2_none (x0 y0 x1 y1 : Int) (hx0 : -1000 ≤ x0 ∧ x0 ≤ 1000) (hx1 : -1000 ≤ x1 ∧ x1 ≤ 1000) (w : World) :
    Calls Try.prog 69 #[imgV 2 x0 y0 x1 y1 (.slice none 0 0)] w (MadeImg 99 113 (x1 - x0) x0 y0 x1 y1 0 [] w) := by
  go_enter Try.func69, Try.ntmps69
  go_wp2
  go_returns
  refine ⟨w.heap.size + 1 + 1 + 1, none, 0, rfl, by (repeat' (first | (with_reducible exact Below.refl _ _) | (with_reducible assumption) | (with_reducible refine drewN_below ?_ _) | (with_reducible refine Below.drew ?_) | (with_reducible refine Below.alloc ?_ ?_ _) | (with_reducible refine Below.setCell ?_ ?_ _) | (with_reducible refine below_via (by with_reducible assumption) ?_ ?_) | go_size)), by omega, Blk.new_at (by simp), World.ownsRow_nil _ _ _ _⟩

theorem make2_own (x0 y0 x1 y1 : Int) (hx0 : -1000 ≤ x0 ∧ x0 ≤ 1000) (hx1 : -1000 ≤ x1 ∧ x1 ≤ 1000) (A : Option Addr) (n c : Nat) (bs : List Int) (w : World) (base : Nat) (hown : w.ownsRow base 5 1 (.slice A n c) n (u8s bs)) (hfit : n ≤ 2147483647) :
    Calls Try.prog 69 #[imgV 2 x0 y0 x1 y1 (.slice A n c)] w (MadeImg 99 113 (x1 - x0) x0 y0 x1 y1 n bs w) := by
  rcases own_cases hown with ⟨rfl, rfl, rfl, rfl⟩ | ⟨g, rfl, hlen, hg, hcell⟩
  · exact make2_none x0 y0 x1 y1 hx0 hx1 w
  · exact make2_some x0 y0 x1 y1 hx0 hx1 _ n c bs w hlen hfit (fun _ => hg) hcell


set_option maxHeartbeats 1000000 in
theorem make3_some (x0 y0 x1 y1 : Int) (hx0 : -1000 ≤ x0 ∧ x0 ≤ 1000) (hx1 : -1000 ≤ x1 ∧ x1 ≤ 1000) (ad : Addr) (n c : Nat) (bs : List Int) (w : World) (hlen : bs.length = n) (hfit : n ≤ 2147483647) (hlt : 0 < n → ad.block < w.heap.size)
    (hcell : ∀ j u, (u8s bs)[j]? = some u → w.cell? (ad.add j) = some u) :
    Calls Try.prog 69 #[imgV 3 x0 y0 x1 y1 (.slice (some ad) n c)] w (MadeImg 86 114 (x1 - x0) x0 y0 x1 y1 n bs w) := by
  obtain ⟨i5, hi, hz0, hz1, hz2⟩ := info_parts info5
  have HC := hid hcell
  have HL := hid hlen
  clear hcell hlen
  go_enter Try.func69, Try.ntmps69
  go_wp2_with (at_builtin; refine wpList_append_own _ rfl _ _ 22 rfl (w.heap.size + 2) 5 i5 (.int .u8 0) 1 1 Try.underlying22 hi hz0 hz1 hz2 rfl (by decide) _ _ _ rfl (World.ownsRow_nil _ _ _ _) ad n c (u8s bs) rfl ?c1 ?c2 ?c3 ?c4 ?c5 ?c6 ?_)
  case c1 => simp [HL.out]
  case c2 =>
    intro j u hu
    have hb : (ad.add j).block = ad.block := by unfold Addr.add; split <;> rfl
    have hj : j < (u8s bs).length := (List.getElem?_eq_some_iff.1 hu).1
    have hn : 0 < n := by rw [List.length_map, HL.out] at hj; omega
    have hlt' := hlt hn
    rw [World.cell?_alloc_lt _ _ _ (by rw [hb]; simp; omega), World.cell?_alloc_lt _ _ _ (by rw [hb]; exact hlt')]
    exact HC.out j u hu
  case c3 =>
    intro u hu
    obtain ⟨b, _, rfl⟩ := List.mem_map.1 hu
    rfl
  case c4 => unfold maxLen; omega
  case c5 => omega
  case c6 => simp
  intro v' w1 hown hgr hvn
  clear hvn
  have hgn := hgr
  simp only [Value.ownBlock] at hgn
  have E0 : Blk w1 w.heap.size 59 #[iv 3, iv x0, iv y0, iv x1, iv y1, .slice (some ad) n c] := Blk.grown (Blk.alloc (Blk.new _ _ _) _) hgn (by simp)
  have E1 : Blk w1 (w.heap.size + 1) 73 #[iv x0, iv y0, iv x1, iv y1] := Blk.grown (Blk.new_at (by simp)) hgn (by simp)
  have hb1 : Below w.heap.size w w1 := below_via (grown_below hgn) (by (repeat' (first | (with_reducible exact Below.refl _ _) | (with_reducible assumption) | (with_reducible refine drewN_below ?_ _) | (with_reducible refine Below.drew ?_) | (with_reducible refine Below.alloc ?_ ?_ _) | (with_reducible refine Below.setCell ?_ ?_ _) | (with_reducible refine below_via (by with_reducible assumption) ?_ ?_) | go_size))) (by simp; omega)
  obtain ⟨A, c', rfl⟩ : ∃ A c', v' = .slice A n c' := ownsRow_slice hown
  have hsz := E1.lt
  have hsz0 := E0.lt
  have C0 := E0.cells6
  have C1 := E1.cells4.1
  have HO := hid hown
  clear hown hgr hgn E0 E1 hlt
  go_wp2
  go_returns
  refine ⟨w1.heap.size + 1, A, c', rfl, by (repeat' (first | (with_reducible exact Below.refl _ _) | (with_reducible assumption) | (with_reducible refine drewN_below ?_ _) | (with_reducible refine Below.drew ?_) | (with_reducible refine Below.alloc ?_ ?_ _) | (with_reducible refine Below.setCell ?_ ?_ _) | (with_reducible refine below_via (by with_reducible assumption) ?_ ?_) | go_size)), by omega, Blk.new_at (by simp), ?_⟩
  exact ownsRow_mono ((HO.out.alloc _).alloc _) (by omega)

set_option maxRecDepth 20000 in
set_option maxHeartbeats 1000000 in
theorem make3_none (x0 y0 x1 y1 : Int) (hx0 : -1000 ≤ x0 ∧ x0 ≤ 1000) (hx1 : -1000 ≤ x1 ∧ x1 ≤ 1000) (w : World) :
    Calls Try.prog 69 #[imgV 3 x0 y0 x1 y1 (.slice none 0 0)] w (MadeImg 86 114 (x1 - x0) x0 y0 x1 y1 0 [] w) := by
  go_enter Try.func69, Try.ntmps69
  go_wp2
  go_returns
  refine ⟨w.heap.size + 1 + 1 + 1, none, 0, rfl, by (repeat' (first | (with_reducible exact Below.refl _ _) | (with_reducible assumption) | (with_reducible refine drewN_below ?_ _) | (with_reducible refine Below.drew ?_) | (with_reducible refine Below.alloc ?_ ?_ _) | (with_reducible refine Below.setCell ?_ ?_ _) | (with_reducible refine below_via (by with_reducible assumption) ?_ ?_) | go_size)), by omega, Blk.new_at (by simp), World.ownsRow_nil _ _ _ _⟩

theorem make3_own (x0 y0 x1 y1 : Int) (hx0 : -1000 ≤ x0 ∧ x0 ≤ 1000) (hx1 : -1000 ≤ x1 ∧ x1 ≤ 1000) (A : Option Addr) (n c : Nat) (bs : List Int) (w : World) (base : Nat) (hown : w.ownsRow base 5 1 (.slice A n c) n (u8s bs)) (hfit : n ≤ 2147483647) :
    Calls Try.prog 69 #[imgV 3 x0 y0 x1 y1 (.slice A n c)] w (MadeImg 86 114 (x1 - x0) x0 y0 x1 y1 n bs w) := by
  rcases own_cases hown with ⟨rfl, rfl, rfl, rfl⟩ | ⟨g, rfl, hlen, hg, hcell⟩
  · exact make3_none x0 y0 x1 y1 hx0 hx1 w
  · exact make3_some x0 y0 x1 y1 hx0 hx1 _ n c bs w hlen hfit (fun _ => hg) hcell


set_option maxHeartbeats 1000000 in
theorem make4_some (x0 y0 x1 y1 : Int) (hx0 : -1000 ≤ x0 ∧ x0 ≤ 1000) (hx1 : -1000 ≤ x1 ∧ x1 ≤ 1000) (ad : Addr) (n c : Nat) (bs : List Int) (w : World) (hlen : bs.length = n) (hfit : n ≤ 2147483647) (hlt : 0 < n → ad.block < w.heap.size)
    (hcell : ∀ j u, (u8s bs)[j]? = some u → w.cell? (ad.add j) = some u) :
    Calls Try.prog 69 #[imgV 4 x0 y0 x1 y1 (.slice (some ad) n c)] w (MadeImg 115 116 (8 * (x1 - x0)) x0 y0 x1 y1 n bs w) := by
  obtain ⟨i5, hi, hz0, hz1, hz2⟩ := info_parts info5
  have HC := hid hcell
  have HL := hid hlen
  clear hcell hlen
  go_enter Try.func69, Try.ntmps69
  go_wp2_with (at_builtin; refine wpList_append_own _ rfl _ _ 22 rfl (w.heap.size + 2) 5 i5 (.int .u8 0) 1 1 Try.underlying22 hi hz0 hz1 hz2 rfl (by decide) _ _ _ rfl (World.ownsRow_nil _ _ _ _) ad n c (u8s bs) rfl ?c1 ?c2 ?c3 ?c4 ?c5 ?c6 ?_)
  case c1 => simp [HL.out]
  case c2 =>
    intro j u hu
    have hb : (ad.add j).block = ad.block := by unfold Addr.add; split <;> rfl
    have hj : j < (u8s bs).length := (List.getElem?_eq_some_iff.1 hu).1
    have hn : 0 < n := by rw [List.length_map, HL.out] at hj; omega
    have hlt' := hlt hn
    rw [World.cell?_alloc_lt _ _ _ (by rw [hb]; simp; omega), World.cell?_alloc_lt _ _ _ (by rw [hb]; exact hlt')]
    exact HC.out j u hu
  case c3 =>
    intro u hu
    obtain ⟨b, _, rfl⟩ := List.mem_map.1 hu
    rfl
  case c4 => unfold maxLen; omega
  case c5 => omega
  case c6 => simp
  intro v' w1 hown hgr hvn
  clear hvn
  have hgn := hgr
  simp only [Value.ownBlock] at hgn
  have E0 : Blk w1 w.heap.size 59 #[iv 4, iv x0, iv y0, iv x1, iv y1, .slice (some ad) n c] := Blk.grown (Blk.alloc (Blk.new _ _ _) _) hgn (by simp)
  have E1 : Blk w1 (w.heap.size + 1) 73 #[iv x0, iv y0, iv x1, iv y1] := Blk.grown (Blk.new_at (by simp)) hgn (by simp)
  have hb1 : Below w.heap.size w w1 := below_via (grown_below hgn) (by (repeat' (first | (with_reducible exact Below.refl _ _) | (with_reducible assumption) | (with_reducible refine drewN_below ?_ _) | (with_reducible refine Below.drew ?_) | (with_reducible refine Below.alloc ?_ ?_ _) | (with_reducible refine Below.setCell ?_ ?_ _) | (with_reducible refine below_via (by with_reducible assumption) ?_ ?_) | go_size))) (by simp; omega)
  obtain ⟨A, c', rfl⟩ : ∃ A c', v' = .slice A n c' := ownsRow_slice hown
  have hsz := E1.lt
  have hsz0 := E0.lt
  have C0 := E0.cells6
  have C1 := E1.cells4.1
  have HO := hid hown
  clear hown hgr hgn E0 E1 hlt
  go_wp2
  go_returns
  refine ⟨w1.heap.size + 1, A, c', rfl, by (repeat' (first | (with_reducible exact Below.refl _ _) | (with_reducible assumption) | (with_reducible refine drewN_below ?_ _) | (with_reducible refine Below.drew ?_) | (with_reducible refine Below.alloc ?_ ?_ _) | (with_reducible refine Below.setCell ?_ ?_ _) | (with_reducible refine below_via (by with_reducible assumption) ?_ ?_) | go_size)), by omega, Blk.new_at (by simp), ?_⟩
  exact ownsRow_mono ((HO.out.alloc _).alloc _) (by omega)

set_option maxRecDepth 20000 in
set_option maxHeartbeats 1000000 in
theorem make4_none (x0 y0 x1 y1 : Int) (hx0 : -1000 ≤ x0 ∧ x0 ≤ 1000) (hx1 : -1000 ≤ x1 ∧ x1 ≤ 1000) (w : World) :
    Calls Try.prog 69 #[imgV 4 x0 y0 x1 y1 (.slice none 0 0)] w (MadeImg 115 116 (8 * (x1 - x0)) x0 y0 x1 y1 0 [] w) := by
  go_enter Try.func69, Try.ntmps69
  go_wp2
  go_returns
  refine ⟨w.heap.size + 1 + 1 + 1, none, 0, rfl, by (repeat' (first | (with_reducible exact Below.refl _ _) | (with_reducible assumption) | (with_reducible refine drewN_below ?_ _) | (with_reducible refine Below.drew ?_) | (with_reducible refine Below.alloc ?_ ?_ _) | (with_reducible refine Below.setCell ?_ ?_ _) | (with_reducible refine below_via (by with_reducible assumption) ?_ ?_) | go_size)), by omega, Blk.new_at (by simp), World.ownsRow_nil _ _ _ _⟩

theorem make4_own (x0 y0 x1 y1 : Int) (hx0 : -1000 ≤ x0 ∧ x0 ≤ 1000) (hx1 : -1000 ≤ x1 ∧ x1 ≤ 1000) (A : Option Addr) (n c : Nat) (bs : List Int) (w : World) (base : Nat) (hown : w.ownsRow base 5 1 (.slice A n c) n (u8s bs)) (hfit : n ≤ 2147483647) :
    Calls Try.prog 69 #[imgV 4 x0 y0 x1 y1 (.slice A n c)] w (MadeImg 115 116 (8 * (x1 - x0)) x0 y0 x1 y1 n bs w) := by
  rcases own_cases hown with ⟨rfl, rfl, rfl, rfl⟩ | ⟨g, rfl, hlen, hg, hcell⟩
  · exact make4_none x0 y0 x1 y1 hx0 hx1 w
  · exact make4_some x0 y0 x1 y1 hx0 hx1 _ n c bs w hlen hfit (fun _ => hg) hcell


set_option maxHeartbeats 1000000 in
theorem make5_some (x0 y0 x1 y1 : Int) (hx0 : -1000 ≤ x0 ∧ x0 ≤ 1000) (hx1 : -1000 ≤ x1 ∧ x1 ≤ 1000) (ad : Addr) (n c : Nat) (bs : List Int) (w : World) (hlen : bs.length = n) (hfit : n ≤ 2147483647) (hlt : 0 < n → ad.block < w.heap.size)
    (hcell : ∀ j u, (u8s bs)[j]? = some u → w.cell? (ad.add j) = some u) :
    Calls Try.prog 69 #[imgV 5 x0 y0 x1 y1 (.slice (some ad) n c)] w (MadeImg 89 117 (4 * (x1 - x0)) x0 y0 x1 y1 n bs w) := by
  obtain ⟨i5, hi, hz0, hz1, hz2⟩ := info_parts info5
  have HC := hid hcell
  have HL := hid hlen
  clear hcell hlen
  go_enter Try.func69, Try.ntmps69
  go_wp2_with (at_builtin; refine wpList_append_own _ rfl _ _ 22 rfl (w.heap.size + 2) 5 i5 (.int .u8 0) 1 1 Try.underlying22 hi hz0 hz1 hz2 rfl (by decide) _ _ _ rfl (World.ownsRow_nil _ _ _ _) ad n c (u8s bs) rfl ?c1 ?c2 ?c3 ?c4 ?c5 ?c6 ?_)
  case c1 => simp [HL.out]
  case c2 =>
    intro j u hu
    have hb : (ad.add j).block = ad.block := by unfold Addr.add; split <;> rfl
    have hj : j < (u8s bs).length := (List.getElem?_eq_some_iff.1 hu).1
    have hn : 0 < n := by rw [List.length_map, HL.out] at hj; omega
    have hlt' := hlt hn
    rw [World.cell?_alloc_lt _ _ _ (by rw [hb]; simp; omega), World.cell?_alloc_lt _ _ _ (by rw [hb]; exact hlt')]
    exact HC.out j u hu
  case c3 =>
    intro u hu
    obtain ⟨b, _, rfl⟩ := List.mem_map.1 hu
    rfl
  case c4 => unfold maxLen; omega
  case c5 => omega
  case c6 => simp
  intro v' w1 hown hgr hvn
  clear hvn
  have hgn := hgr
  simp only [Value.ownBlock] at hgn
  have E0 : Blk w1 w.heap.size 59 #[iv 5, iv x0, iv y0, iv x1, iv y1, .slice (some ad) n c] := Blk.grown (Blk.alloc (Blk.new _ _ _) _) hgn (by simp)
  have E1 : Blk w1 (w.heap.size + 1) 73 #[iv x0, iv y0, iv x1, iv y1] := Blk.grown (Blk.new_at (by simp)) hgn (by simp)
  have hb1 : Below w.heap.size w w1 := below_via (grown_below hgn) (by (repeat' (first | (with_reducible exact Below.refl _ _) | (with_reducible assumption) | (with_reducible refine drewN_below ?_ _) | (with_reducible refine Below.drew ?_) | (with_reducible refine Below.alloc ?_ ?_ _) | (with_reducible refine Below.setCell ?_ ?_ _) | (with_reducible refine below_via (by with_reducible assumption) ?_ ?_) | go_size))) (by simp; omega)
  obtain ⟨A, c', rfl⟩ : ∃ A c', v' = .slice A n c' := ownsRow_slice hown
  have hsz := E1.lt
  have hsz0 := E0.lt
  have C0 := E0.cells6
  have C1 := E1.cells4.1
  have HO := hid hown
  clear hown hgr hgn E0 E1 hlt
  go_wp2
  go_returns
  refine ⟨w1.heap.size + 1, A, c', rfl, by (repeat' (first | (with_reducible exact Below.refl _ _) | (with_reducible assumption) | (with_reducible refine drewN_below ?_ _) | (with_reducible refine Below.drew ?_) | (with_reducible refine Below.alloc ?_ ?_ _) | (with_reducible refine Below.setCell ?_ ?_ _) | (with_reducible refine below_via (by with_reducible assumption) ?_ ?_) | go_size)), by omega, Blk.new_at (by simp), ?_⟩
  exact ownsRow_mono ((HO.out.alloc _).alloc _) (by omega)

set_option maxRecDepth 20000 in
set_option maxHeartbeats 1000000 in
theorem make5_none (x0 y0 x1 y1 : Int) (hx0 : -1000 ≤ x0 ∧ x0 ≤ 1000) (hx1 : -1000 ≤ x1 ∧ x1 ≤ 1000) (w : World) :
    Calls Try.prog 69 #[imgV 5 x0 y0 x1 y1 (.slice none 0 0)] w (MadeImg 89 117 (4 * (x1 - x0)) x0 y0 x1 y1 0 [] w) := by
  go_enter Try.func69, Try.ntmps69
  go_wp2
  go_returns
  refine ⟨w.heap.size + 1 + 1 + 1, none, 0, rfl, by (repeat' (first | (with_reducible exact Below.refl _ _) | (with_reducible assumption) | (with_reducible refine drewN_below ?_ _) | (with_reducible refine Below.drew ?_) | (with_reducible refine Below.alloc ?_ ?_ _) | (with_reducible refine Below.setCell ?_ ?_ _) | (with_reducible refine below_via (by with_reducible assumption) ?_ ?_) | go_size)), by omega, Blk.new_at (by simp), World.ownsRow_nil _ _ _ _⟩

theorem make5_own (x0 y0 x1 y1 : Int) (hx0 : -1000 ≤ x0 ∧ x0 ≤ 1000) (hx1 : -1000 ≤ x1 ∧ x1 ≤ 1000) (A : Option Addr) (n c : Nat) (bs : List Int) (w : World) (base : Nat) (hown : w.ownsRow base 5 1 (.slice A n c) n (u8s bs)) (hfit : n ≤ 2147483647) :
    Calls Try.prog 69 #[imgV 5 x0 y0 x1 y1 (.slice A n c)] w (MadeImg 89 117 (4 * (x1 - x0)) x0 y0 x1 y1 n bs w) := by
  rcases own_cases hown with ⟨rfl, rfl, rfl, rfl⟩ | ⟨g, rfl, hlen, hg, hcell⟩
  · exact make5_none x0 y0 x1 y1 hx0 hx1 w
  · exact make5_some x0 y0 x1 y1 hx0 hx1 _ n c bs w hlen hfit (fun _ => hg) hcell

end Go.Proofs.Ytlnfcjaempojgaa
