/- Contracts of spec.Image.multiplied at every kind, and of spec.Image.Valid. -/
import Derived.Test.YtlnfcjaempojgaaA8
namespace Go.Proofs.Ytlnfcjaempojgaa
open Go.RowKit
attribute [local go_sem high] run_imax run_imin run_imax3

def Mult (kd : Int) (bs : List Int) : Prop := (kd = 0 → Mult4 bs) ∧ (kd = 4 ∨ kd = 6 → Mult8 bs)

theorem mult_else (kd x0 y0 x1 y1 : Int) (s : Value) (w : World) (h0 : (kd == 0) = false) (h4 : (kd == 4) = false) (h6 : (kd == 6) = false) :
    Calls Try.prog 46 #[imgV kd x0 y0 x1 y1 s] w fun e w' => e = .returned (.bool true) ∧ Below w.heap.size w w' := by
  go_enter Try.func46, Try.ntmps46
  go_wp2
  go_returns
  exact ⟨rfl, by (repeat' (first | (with_reducible exact Below.refl _ _) | (with_reducible assumption) | (with_reducible refine drewN_below ?_ _) | (with_reducible refine Below.drew ?_) | (with_reducible refine Below.alloc ?_ ?_ _) | (with_reducible refine Below.setCell ?_ ?_ _) | (with_reducible refine below_via (by with_reducible assumption) ?_ ?_) | go_size))⟩

theorem mult_empty (kd x0 y0 x1 y1 : Int) (A : Option Addr) (c : Nat) (w : World) (h : kd = 0 ∨ kd = 4 ∨ kd = 6) :
    Calls Try.prog 46 #[imgV kd x0 y0 x1 y1 (.slice A 0 c)] w fun e w' => e = .returned (.bool true) ∧ Below w.heap.size w w' := by
  rcases h with rfl | rfl | rfl
  all_goals
    go_enter Try.func46, Try.ntmps46
    go_wp2
    refine wp_loop_rounds 1 ?_
    rw [rounds_succ]
    go_wp2
    go_returns
    exact ⟨rfl, by (repeat' (first | (with_reducible exact Below.refl _ _) | (with_reducible assumption) | (with_reducible refine drewN_below ?_ _) | (with_reducible refine Below.drew ?_) | (with_reducible refine Below.alloc ?_ ?_ _) | (with_reducible refine Below.setCell ?_ ?_ _) | (with_reducible refine below_via (by with_reducible assumption) ?_ ?_) | go_size))⟩

theorem mult_any (kd x0 y0 x1 y1 : Int) (A : Option Addr) (n c : Nat) (bs : List Int) (w : World) (hb : Bytes w A n bs) (hnc : n ≤ c) (hc : c ≤ 140737488355328) :
    Calls Try.prog 46 #[imgV kd x0 y0 x1 y1 (.slice A n c)] w (SomeB (fun b => b = true → Mult kd bs) w) := by
  obtain ⟨hl, hr, hp⟩ := hb
  by_cases hk : kd = 0 ∨ kd = 4 ∨ kd = 6
  · by_cases hn : n = 0
    · subst hn
      refine (mult_empty kd x0 y0 x1 y1 A c w hk).mono ?_
      rintro e w' ⟨rfl, hb⟩
      refine ⟨true, rfl, fun _ => ⟨fun _ k h => ?_, fun _ k h => ?_⟩, hb⟩
      · omega
      · omega
    · have hn' : 0 < n := Nat.pos_of_ne_zero hn
      obtain ⟨g, o, rfl, hg, hc'⟩ := hp hn'
      clear hp
      by_cases h0 : kd = 0
      · subst h0
        refine (mult_rgba x0 y0 x1 y1 g o n c bs w hl hr hnc hc hg hc').mono ?_
        rintro e w' ⟨b, rfl, hb, hbel⟩
        exact ⟨b, rfl, fun h => ⟨fun _ => hb h, fun h => by omega⟩, hbel⟩
      · have h46 : kd = 4 ∨ kd = 6 := by omega
        refine (mult_wide kd x0 y0 x1 y1 h46 g o n c bs w hl hr hnc hc hg hc').mono ?_
        rintro e w' ⟨b, rfl, hb, hbel⟩
        exact ⟨b, rfl, fun h => ⟨fun h0' => absurd h0' h0, fun _ => hb h⟩, hbel⟩
  · clear hp
    refine (mult_else kd x0 y0 x1 y1 _ w (by simp; omega) (by simp; omega) (by simp; omega)).mono ?_
    rintro e w' ⟨rfl, hb⟩
    exact ⟨true, rfl, fun _ => ⟨fun h => by omega, fun h => by omega⟩, hb⟩

/-- What spec.Image.Valid(64) says of an image. -/
def ValidP (kd x0 y0 x1 y1 : Int) (n : Nat) (bs : List Int) : Prop :=
  0 ≤ kd ∧ kd < 7 ∧ Mult kd bs ∧ (kd = 6 → n = 8) ∧ (kd ≠ 6 → x0 ≤ x1 ∧ y0 ≤ y1 ∧ -64 ≤ x0 ∧ -64 ≤ y0 ∧ x1 ≤ 64 ∧ y1 ≤ 64 ∧ (n : Int) = (x1 - x0) * (y1 - y0) * sizeI kd)

theorem valid_kind (kd x0 y0 x1 y1 : Int) (s : Value) (w : World) (h : kd < 0 ∨ 7 ≤ kd) :
    Calls Try.prog 17 #[imgV kd x0 y0 x1 y1 s, iv 64] w fun e w' => e = .returned (.bool false) ∧ Below w.heap.size w w' := by
  rcases h with h | h
  · go_enter Try.func17, Try.ntmps17
    go_wp2
    go_returns
    exact ⟨rfl, by (repeat' (first | (with_reducible exact Below.refl _ _) | (with_reducible assumption) | (with_reducible refine drewN_below ?_ _) | (with_reducible refine Below.drew ?_) | (with_reducible refine Below.alloc ?_ ?_ _) | (with_reducible refine Below.setCell ?_ ?_ _) | (with_reducible refine below_via (by with_reducible assumption) ?_ ?_) | go_size))⟩
  · have h' : 0 ≤ kd := by omega
    go_enter Try.func17, Try.ntmps17
    go_wp2
    go_returns
    exact ⟨rfl, by (repeat' (first | (with_reducible exact Below.refl _ _) | (with_reducible assumption) | (with_reducible refine drewN_below ?_ _) | (with_reducible refine Below.drew ?_) | (with_reducible refine Below.alloc ?_ ?_ _) | (with_reducible refine Below.setCell ?_ ?_ _) | (with_reducible refine below_via (by with_reducible assumption) ?_ ?_) | go_size))⟩

theorem Bytes.keep {w W : World} {A : Option Addr} {n : Nat} {bs : List Int} (h : Bytes w A n bs) (hW : Below w.heap.size w W) : Bytes W A n bs := by
  obtain ⟨h1, h2, h3⟩ := h
  refine ⟨h1, h2, fun hn => ?_⟩
  obtain ⟨g, o, hA, hg, hcell⟩ := h3 hn
  exact ⟨g, o, hA, Nat.lt_of_lt_of_le hg hW.size, fun j hj => (hW.cell (p := ⟨g, o + j, none⟩) hg).trans (hcell j hj)⟩

theorem valid_uniform (x0 y0 x1 y1 : Int) (A : Option Addr) (n c : Nat) (bs : List Int) (w : World) (hb : Bytes w A n bs) (hnc : n ≤ c) (hc : c ≤ 140737488355328) :
    Calls Try.prog 17 #[imgV 6 x0 y0 x1 y1 (.slice A n c), iv 64] w (SomeB (fun b => b = true → ValidP 6 x0 y0 x1 y1 n bs) w) := by
  have HM := hid (fun W (hW : Below w.heap.size w W) => mult_any 6 x0 y0 x1 y1 A n c bs W (hb.keep hW) hnc hc)
  have hs6 : sizeI 6 = 8 := rfl
  by_cases h8 : (n : Int) = 8
  · have h8' : ((n : Int) == 8) = true := by simpa using h8
    have H8 := hid h8; clear h8
    go_enter Try.func17, Try.ntmps17
    go_wp2_with (go_at_call 45; refine (size_any _ _).mono ?_; rintro e w' ⟨rfl, rfl⟩)
    refine (HM.out _ (by (repeat' (first | (with_reducible exact Below.refl _ _) | (with_reducible assumption) | (with_reducible refine drewN_below ?_ _) | (with_reducible refine Below.drew ?_) | (with_reducible refine Below.alloc ?_ ?_ _) | (with_reducible refine Below.setCell ?_ ?_ _) | (with_reducible refine below_via (by with_reducible assumption) ?_ ?_) | go_size)))).mono ?_
    rintro e w1 ⟨b, rfl, hb, hbel⟩
    have HB := hid hb; clear hb
    go_wp2
    go_returns
    refine ⟨b, rfl, fun h => ⟨by omega, by omega, HB.out h, fun _ => by have := H8.out; omega, fun h => absurd rfl h⟩, by (repeat' (first | (with_reducible exact Below.refl _ _) | (with_reducible assumption) | (with_reducible refine drewN_below ?_ _) | (with_reducible refine Below.drew ?_) | (with_reducible refine Below.alloc ?_ ?_ _) | (with_reducible refine Below.setCell ?_ ?_ _) | (with_reducible refine below_via (by with_reducible assumption) ?_ ?_) | go_size))⟩
  · have h8' : ((n : Int) == 8) = false := by simpa using h8
    go_enter Try.func17, Try.ntmps17
    go_wp2_with (go_at_call 45; refine (size_any _ _).mono ?_; rintro e w' ⟨rfl, rfl⟩)
    go_returns
    exact ⟨false, rfl, fun h => (by cases h), by (repeat' (first | (with_reducible exact Below.refl _ _) | (with_reducible assumption) | (with_reducible refine drewN_below ?_ _) | (with_reducible refine Below.drew ?_) | (with_reducible refine Below.alloc ?_ ?_ _) | (with_reducible refine Below.setCell ?_ ?_ _) | (with_reducible refine below_via (by with_reducible assumption) ?_ ?_) | go_size))⟩

end Go.Proofs.Ytlnfcjaempojgaa
