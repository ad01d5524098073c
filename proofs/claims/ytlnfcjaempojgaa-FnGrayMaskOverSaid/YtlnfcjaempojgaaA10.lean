/- Contract of spec.Image.Valid. -/
import Derived.Test.YtlnfcjaempojgaaA9
namespace Go.Proofs.Ytlnfcjaempojgaa
open Go.RowKit
attribute [local go_sem high] run_imax run_imin run_imax3

def boxOk (x0 y0 x1 y1 : Int) : Prop := x0 ≤ x1 ∧ y0 ≤ y1 ∧ -64 ≤ x0 ∧ -64 ≤ y0 ∧ x1 ≤ 64 ∧ y1 ≤ 64

theorem sizeI_range (k : Int) : 1 ≤ sizeI k ∧ sizeI k ≤ 8 := by unfold sizeI; split <;> (try split) <;> (try split) <;> (try split) <;> omega

theorem box_cases {x0 y0 x1 y1 : Int} (h : ¬ boxOk x0 y0 x1 y1) : x1 < x0 ∨ (x0 ≤ x1 ∧ y1 < y0) ∨ (x0 ≤ x1 ∧ y0 ≤ y1 ∧ x0 < -64) ∨ (x0 ≤ x1 ∧ y0 ≤ y1 ∧ -64 ≤ x0 ∧ y0 < -64) ∨ (x0 ≤ x1 ∧ y0 ≤ y1 ∧ -64 ≤ x0 ∧ -64 ≤ y0 ∧ 64 < x1) ∨ (x0 ≤ x1 ∧ y0 ≤ y1 ∧ -64 ≤ x0 ∧ -64 ≤ y0 ∧ x1 ≤ 64 ∧ 64 < y1) := by
  unfold boxOk at h; omega

set_option maxHeartbeats 800000 in
theorem valid_box (kd x0 y0 x1 y1 : Int) (A : Option Addr) (n c : Nat) (w : World) (hk : 0 ≤ kd ∧ kd < 6) (h : ¬ boxOk x0 y0 x1 y1) :
    Calls Try.prog 17 #[imgV kd x0 y0 x1 y1 (.slice A n c), iv 64] w fun e w' => e = .returned (.bool false) ∧ Below w.heap.size w w' := by
  have h6 : (kd == 6) = false := by simp; omega
  obtain ⟨hk0, hk6⟩ := hk
  rcases box_cases h with h | ⟨h1, h⟩ | ⟨h1, h2, h⟩ | ⟨h1, h2, h3, h⟩ | ⟨h1, h2, h3, h4, h⟩ | ⟨h1, h2, h3, h4, h5, h⟩
  all_goals
    go_enter Try.func17, Try.ntmps17
    go_wp2_with (go_at_call 45; refine (size_any _ _).mono ?_; rintro e w' ⟨rfl, rfl⟩)
    refine (bounds_plain kd x0 y0 x1 y1 _ _ (by omega)).mono ?_
    rintro e w1 ⟨rfl, hb⟩
    have hsz := hb.size
    simp at hsz
    go_wp2
    go_returns
    exact ⟨rfl, by (repeat' (first | (with_reducible exact Below.refl _ _) | (with_reducible assumption) | (with_reducible refine drewN_below ?_ _) | (with_reducible refine Below.drew ?_) | (with_reducible refine Below.alloc ?_ ?_ _) | (with_reducible refine Below.setCell ?_ ?_ _) | (with_reducible refine below_via (by with_reducible assumption) ?_ ?_) | go_size))⟩

set_option maxHeartbeats 800000 in
theorem valid_plain (kd x0 y0 x1 y1 : Int) (A : Option Addr) (n c : Nat) (bs : List Int) (w : World) (hb : Bytes w A n bs) (hnc : n ≤ c) (hc : c ≤ 140737488355328) (hk : 0 ≤ kd ∧ kd < 6) (h : boxOk x0 y0 x1 y1) :
    Calls Try.prog 17 #[imgV kd x0 y0 x1 y1 (.slice A n c), iv 64] w (SomeB (fun b => b = true → ValidP kd x0 y0 x1 y1 n bs) w) := by
  have h6 : (kd == 6) = false := by simp; omega
  have HM := hid (fun W (hW : Below w.heap.size w W) => mult_any kd x0 y0 x1 y1 A n c bs W (hb.keep hW) hnc hc)
  have HB0 := hid hb; clear hb
  obtain ⟨hk0, hk6⟩ := hk
  have HX := hid h
  obtain ⟨h1, h2, h3, h4, h5, h7⟩ := h
  have hS := sizeI_range kd
  generalize hSe : sizeI kd = S at *
  have HS := hid hSe; clear hSe
  obtain ⟨hS1, hS8⟩ := hS
  have hP1 : 0 ≤ (x1 - x0) * (y1 - y0) := Int.mul_nonneg (by omega) (by omega)
  have hP2 : (x1 - x0) * (y1 - y0) ≤ 16384 := Int.le_trans (Int.mul_le_mul (by omega : x1 - x0 ≤ 128) (by omega : y1 - y0 ≤ 128) (by omega) (by omega)) (by omega)
  have hQ1 : 0 ≤ (x1 - x0) * (y1 - y0) * S := Int.mul_nonneg hP1 (by omega)
  have hQ2 : (x1 - x0) * (y1 - y0) * S ≤ 131072 := Int.le_trans (Int.mul_le_mul hP2 hS8 (by omega) (by omega)) (by omega)
  have SZ : ∀ W : World, Hid (Calls Try.prog 45 #[iv kd] W fun e w' => e = .returned (iv S) ∧ W = w') := fun W => by have := size_any kd W; rw [HS.out] at this; exact this
  by_cases hn : (n : Int) = (x1 - x0) * (y1 - y0) * S
  · have hn' : ((n : Int) == (x1 - x0) * (y1 - y0) * S) = true := by rw [beq_iff_eq]; exact hn
    have HN := hid hn; clear hn
    go_enter Try.func17, Try.ntmps17
    go_wp2_with (go_at_call 45; refine ((SZ _).out).mono ?_; rintro e w' ⟨rfl, rfl⟩)
    refine (bounds_plain kd x0 y0 x1 y1 _ _ (by omega)).mono ?_
    rintro e w1 ⟨rfl, hb⟩
    have B2 : Blk w1 w.heap.size 31 #[iv kd, iv x0, iv y0, iv x1, iv y1, .slice A n c] := (Blk.new _ _ _).keep hb
    have C2 := B2.cells6
    have hsz := B2.lt
    have B2' := hid B2; clear B2
    go_wp2_with fail
    refine (HM.out _ (by (repeat' (first | (with_reducible exact Below.refl _ _) | (with_reducible assumption) | (with_reducible refine drewN_below ?_ _) | (with_reducible refine Below.drew ?_) | (with_reducible refine Below.alloc ?_ ?_ _) | (with_reducible refine Below.setCell ?_ ?_ _) | (with_reducible refine below_via (by with_reducible assumption) ?_ ?_) | go_size)))).mono ?_
    rintro e w2 ⟨b, rfl, hbb, hbel⟩
    have HBB := hid hbb; clear hbb
    go_wp2
    go_returns
    exact ⟨b, rfl, fun h => ⟨by omega, by omega, HBB.out h, fun h => by omega, fun _ => ⟨h1, h2, h3, h4, h5, h7, by rw [HS.out]; exact HN.out⟩⟩, by (repeat' (first | (with_reducible exact Below.refl _ _) | (with_reducible assumption) | (with_reducible refine drewN_below ?_ _) | (with_reducible refine Below.drew ?_) | (with_reducible refine Below.alloc ?_ ?_ _) | (with_reducible refine Below.setCell ?_ ?_ _) | (with_reducible refine below_via (by with_reducible assumption) ?_ ?_) | go_size))⟩
  · have hn' : ((n : Int) == (x1 - x0) * (y1 - y0) * S) = false := by rw [beq_eq_false_iff_ne]; exact hn
    clear hn
    go_enter Try.func17, Try.ntmps17
    go_wp2_with (go_at_call 45; refine ((SZ _).out).mono ?_; rintro e w' ⟨rfl, rfl⟩)
    refine (bounds_plain kd x0 y0 x1 y1 _ _ (by omega)).mono ?_
    rintro e w1 ⟨rfl, hb⟩
    have B2 : Blk w1 w.heap.size 31 #[iv kd, iv x0, iv y0, iv x1, iv y1, .slice A n c] := (Blk.new _ _ _).keep hb
    have C2 := B2.cells6
    have hsz := B2.lt
    have B2' := hid B2; clear B2
    go_wp2_with fail
    go_returns
    exact ⟨false, rfl, fun h => (by cases h), by (repeat' (first | (with_reducible exact Below.refl _ _) | (with_reducible assumption) | (with_reducible refine drewN_below ?_ _) | (with_reducible refine Below.drew ?_) | (with_reducible refine Below.alloc ?_ ?_ _) | (with_reducible refine Below.setCell ?_ ?_ _) | (with_reducible refine below_via (by with_reducible assumption) ?_ ?_) | go_size))⟩

theorem valid_any (kd x0 y0 x1 y1 : Int) (A : Option Addr) (n c : Nat) (bs : List Int) (w : World) (hb : Bytes w A n bs) (hnc : n ≤ c) (hc : c ≤ 140737488355328) :
    Calls Try.prog 17 #[imgV kd x0 y0 x1 y1 (.slice A n c), iv 64] w (SomeB (fun b => b = true → ValidP kd x0 y0 x1 y1 n bs) w) := by
  by_cases hk : kd < 0 ∨ 7 ≤ kd
  · refine (valid_kind kd x0 y0 x1 y1 _ w hk).mono ?_
    rintro e w' ⟨rfl, hb⟩
    exact ⟨false, rfl, fun h => (by cases h), hb⟩
  · by_cases h6 : kd = 6
    · subst h6; exact valid_uniform x0 y0 x1 y1 A n c bs w hb hnc hc
    · by_cases h : boxOk x0 y0 x1 y1
      · exact valid_plain kd x0 y0 x1 y1 A n c bs w hb hnc hc (by omega) h
      · refine (valid_box kd x0 y0 x1 y1 A n c w (by omega) h).mono ?_
        rintro e w' ⟨rfl, hb⟩
        exact ⟨false, rfl, fun h => (by cases h), hb⟩

end Go.Proofs.Ytlnfcjaempojgaa
