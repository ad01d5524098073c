/- The walk of laws.FnClip. Written by mk_F1.py. -/
import Derived.Test.YtlnfcjaempojgaaE4
import Derived.Test.YtlnfcjaempojgaaB2
set_option linter.unusedVariables false
namespace Go.Proofs.Ytlnfcjaempojgaa
open Go.RowKit

def set2 (w : World) (g : Nat) (a b : Value) : World := (w.setCell ⟨g, 0, none⟩ a).setCell ⟨g, 1, none⟩ b
theorem Blk.set2_ {w : World} {g : Nat} {t : TypeId} {x y : Value} (h : Blk w g t #[x, y]) (a b : Value) : Blk (set2 w g a b) g t #[a, b] := (h.set_ 0 a).set_ 1 b
theorem Blk.far2 {w : World} {g g' : Nat} {t : TypeId} {cs : Array Value} (h : Blk w g t cs) (hne : g ≠ g') (a b : Value) : Blk (set2 w g' a b) g t cs := (h.far (p := ⟨g', 0, none⟩) hne a).far (p := ⟨g', 1, none⟩) hne b
theorem below2 {B : Nat} {a w : World} (h : Below B a w) {g : Nat} (hg : B ≤ g) (x y : Value) : Below B a (set2 w g x y) := (h.setCell (p := ⟨g, 0, none⟩) hg x).setCell (p := ⟨g, 1, none⟩) hg y

@[go_sem] theorem eq34 (a b c d : Int) (w : World) : (Op.equalIn 10000 34 (.agg #[.int .i64 a, .int .i64 b]) (.agg #[.int .i64 c, .int .i64 d])).run Try.prog w = .ok (a == c && b == d) w := by
  have u3 := Try.underlying3
  have a3 := Try.isAgg3
  have z3 := Try.sizeOf3
  rw [show (10000 : Nat) = 9999 + 1 from rfl, Op.equalIn]
  simp only [Sem.run_bind, run_underlying Try.underlying34, Result.andThen_ok]
  simp only [Std.Legacy.Range.forIn_eq_forIn_range', Std.Legacy.Range.size, Nat.sub_zero, Nat.add_sub_cancel, Nat.div_one, List.range'_succ, List.range'_zero, List.forIn_cons, List.forIn_nil]
  go_simp
  by_cases h1 : a = c <;> by_cases h2 : b = d <;> simp [h1, h2]
theorem eq34_iv (a b c d : Int) (w : World) : (Op.equalIn 10000 34 (.agg #[iv a, iv b]) (.agg #[iv c, iv d])).run Try.prog w = .ok (a == c && b == d) w := eq34 a b c d w
attribute [local go_sem] eq34_iv

theorem fits_yes (k x0 y0 x1 y1 : Int) (A : Option Addr) (n c : Nat) (w : World) (h : n ≤ 2147483647) :
    Calls Try.prog 15 #[imgV k x0 y0 x1 y1 (.slice A n c)] w fun e w' => e = .returned (.bool true) ∧ w.alloc (.cells #[iv k, iv x0, iv y0, iv x1, iv y1, .slice A n c] 24) = w' := by
  have h' : (n : Int) ≤ 2147483647 := by omega
  clear h
  go_enter Try.func15, Try.ntmps15
  go_wp2
  go_returns
  exact ⟨rfl, rfl⟩
theorem fits_no (k x0 y0 x1 y1 : Int) (A : Option Addr) (n c : Nat) (w : World) (h : ¬ n ≤ 2147483647) :
    Calls Try.prog 15 #[imgV k x0 y0 x1 y1 (.slice A n c)] w fun e w' => e = .returned (.bool false) ∧ w.alloc (.cells #[iv k, iv x0, iv y0, iv x1, iv y1, .slice A n c] 24) = w' := by
  have h' : (2147483647 : Int) < (n : Int) := by omega
  clear h
  go_enter Try.func15, Try.ntmps15
  go_wp2
  go_returns
  exact ⟨rfl, rfl⟩

theorem boundsv_any (k x0 y0 x1 y1 : Int) (s : Value) (w : World) :
    Calls Try.prog 20 #[imgV k x0 y0 x1 y1 s] w fun e w' => e = .returned (rcV (boundsOf k x0 y0 x1 y1)) ∧ Below w.heap.size w w' := by
  unfold boundsOf
  by_cases h : k = 6
  · subst h; exact bounds_uniform x0 y0 x1 y1 s w
  · rw [if_neg h]; exact bounds_plain k x0 y0 x1 y1 s w h

set_option maxHeartbeats 1000000 in
theorem clip_unfit_true (dk d1 d2 d3 d4 : Int) (dA : Option Addr) (dn dc : Nat) (ds : List Int) (ra rb rc rd : Int) (sk s1 s2 s3 s4 : Int) (sA : Option Addr) (sn sc : Nat) (ss : List Int) (sx sy : Int) (mk m1 m2 m3 m4 : Int) (mA : Option Addr) (mn mc : Nat) (ms : List Int) (mx my : Int) (w : World)
    (hdb : ByteSl w dA dn dc ds) (hsb : ByteSl w sA sn sc ss) (hmb : ByteSl w mA mn mc ms) (h : ¬ (dn ≤ 2147483647 ∧ sn ≤ 2147483647 ∧ mn ≤ 2147483647)) :
    Calls Try.prog 3 #[imgV dk d1 d2 d3 d4 (.slice dA dn dc), fourV ra rb rc rd, imgV sk s1 s2 s3 s4 (.slice sA sn sc), iv sx, iv sy, imgV mk m1 m2 m3 m4 (.slice mA mn mc), .bool true, iv mx, iv my] w fun e w' => e = .returned (.bool true) ∧ Below w.heap.size w w' := by
  by_cases h1 : dn ≤ 2147483647
  · by_cases h2 : sn ≤ 2147483647
    · have h3 : ¬ mn ≤ 2147483647 := fun h3 => h ⟨h1, h2, h3⟩
      clear h hdb hsb hmb
      go_enter Try.func3, Try.ntmps3
      go_wp2_with fail
      refine (fits_yes _ _ _ _ _ _ _ _ _ h1).mono ?_
      rintro e w' ⟨rfl, rfl⟩
      go_wp2_with fail
      refine (fits_yes _ _ _ _ _ _ _ _ _ h2).mono ?_
      rintro e w' ⟨rfl, rfl⟩
      go_wp2_with fail
      refine (fits_no _ _ _ _ _ _ _ _ _ h3).mono ?_
      rintro e w' ⟨rfl, rfl⟩
      go_wp2_with fail
      go_returns; exact ⟨rfl, by (repeat' (first | (with_reducible exact Below.refl _ _) | (with_reducible assumption) | (with_reducible refine drewN_below ?_ _) | (with_reducible refine Below.drew ?_) | (with_reducible refine Below.alloc ?_ ?_ _) | (with_reducible refine Below.setCell ?_ ?_ _) | (with_reducible refine below_via (by with_reducible assumption) ?_ ?_) | go_size))⟩
    · clear h hdb hsb hmb
      go_enter Try.func3, Try.ntmps3
      go_wp2_with fail
      refine (fits_yes _ _ _ _ _ _ _ _ _ h1).mono ?_
      rintro e w' ⟨rfl, rfl⟩
      go_wp2_with fail
      refine (fits_no _ _ _ _ _ _ _ _ _ h2).mono ?_
      rintro e w' ⟨rfl, rfl⟩
      go_wp2_with fail
      go_returns; exact ⟨rfl, by (repeat' (first | (with_reducible exact Below.refl _ _) | (with_reducible assumption) | (with_reducible refine drewN_below ?_ _) | (with_reducible refine Below.drew ?_) | (with_reducible refine Below.alloc ?_ ?_ _) | (with_reducible refine Below.setCell ?_ ?_ _) | (with_reducible refine below_via (by with_reducible assumption) ?_ ?_) | go_size))⟩
  · clear h hdb hsb hmb
    go_enter Try.func3, Try.ntmps3
    go_wp2_with fail
    refine (fits_no _ _ _ _ _ _ _ _ _ h1).mono ?_
    rintro e w' ⟨rfl, rfl⟩
    go_wp2_with fail
    go_returns; exact ⟨rfl, by (repeat' (first | (with_reducible exact Below.refl _ _) | (with_reducible assumption) | (with_reducible refine drewN_below ?_ _) | (with_reducible refine Below.drew ?_) | (with_reducible refine Below.alloc ?_ ?_ _) | (with_reducible refine Below.setCell ?_ ?_ _) | (with_reducible refine below_via (by with_reducible assumption) ?_ ?_) | go_size))⟩

set_option maxHeartbeats 1000000 in
theorem clip_unfit_false (dk d1 d2 d3 d4 : Int) (dA : Option Addr) (dn dc : Nat) (ds : List Int) (ra rb rc rd : Int) (sk s1 s2 s3 s4 : Int) (sA : Option Addr) (sn sc : Nat) (ss : List Int) (sx sy : Int) (mk m1 m2 m3 m4 : Int) (mA : Option Addr) (mn mc : Nat) (ms : List Int) (mx my : Int) (w : World)
    (hdb : ByteSl w dA dn dc ds) (hsb : ByteSl w sA sn sc ss) (hmb : ByteSl w mA mn mc ms) (h : ¬ (dn ≤ 2147483647 ∧ sn ≤ 2147483647 ∧ mn ≤ 2147483647)) :
    Calls Try.prog 3 #[imgV dk d1 d2 d3 d4 (.slice dA dn dc), fourV ra rb rc rd, imgV sk s1 s2 s3 s4 (.slice sA sn sc), iv sx, iv sy, imgV mk m1 m2 m3 m4 (.slice mA mn mc), .bool false, iv mx, iv my] w fun e w' => e = .returned (.bool true) ∧ Below w.heap.size w w' := by
  by_cases h1 : dn ≤ 2147483647
  · by_cases h2 : sn ≤ 2147483647
    · have h3 : ¬ mn ≤ 2147483647 := fun h3 => h ⟨h1, h2, h3⟩
      clear h hdb hsb hmb
      go_enter Try.func3, Try.ntmps3
      go_wp2_with fail
      refine (fits_yes _ _ _ _ _ _ _ _ _ h1).mono ?_
      rintro e w' ⟨rfl, rfl⟩
      go_wp2_with fail
      refine (fits_yes _ _ _ _ _ _ _ _ _ h2).mono ?_
      rintro e w' ⟨rfl, rfl⟩
      go_wp2_with fail
      refine (fits_no _ _ _ _ _ _ _ _ _ h3).mono ?_
      rintro e w' ⟨rfl, rfl⟩
      go_wp2_with fail
      go_returns; exact ⟨rfl, by (repeat' (first | (with_reducible exact Below.refl _ _) | (with_reducible assumption) | (with_reducible refine drewN_below ?_ _) | (with_reducible refine Below.drew ?_) | (with_reducible refine Below.alloc ?_ ?_ _) | (with_reducible refine Below.setCell ?_ ?_ _) | (with_reducible refine below_via (by with_reducible assumption) ?_ ?_) | go_size))⟩
    · clear h hdb hsb hmb
      go_enter Try.func3, Try.ntmps3
      go_wp2_with fail
      refine (fits_yes _ _ _ _ _ _ _ _ _ h1).mono ?_
      rintro e w' ⟨rfl, rfl⟩
      go_wp2_with fail
      refine (fits_no _ _ _ _ _ _ _ _ _ h2).mono ?_
      rintro e w' ⟨rfl, rfl⟩
      go_wp2_with fail
      go_returns; exact ⟨rfl, by (repeat' (first | (with_reducible exact Below.refl _ _) | (with_reducible assumption) | (with_reducible refine drewN_below ?_ _) | (with_reducible refine Below.drew ?_) | (with_reducible refine Below.alloc ?_ ?_ _) | (with_reducible refine Below.setCell ?_ ?_ _) | (with_reducible refine below_via (by with_reducible assumption) ?_ ?_) | go_size))⟩
  · clear h hdb hsb hmb
    go_enter Try.func3, Try.ntmps3
    go_wp2_with fail
    refine (fits_no _ _ _ _ _ _ _ _ _ h1).mono ?_
    rintro e w' ⟨rfl, rfl⟩
    go_wp2_with fail
    go_returns; exact ⟨rfl, by (repeat' (first | (with_reducible exact Below.refl _ _) | (with_reducible assumption) | (with_reducible refine drewN_below ?_ _) | (with_reducible refine Below.drew ?_) | (with_reducible refine Below.alloc ?_ ?_ _) | (with_reducible refine Below.setCell ?_ ?_ _) | (with_reducible refine below_via (by with_reducible assumption) ?_ ?_) | go_size))⟩

set_option maxRecDepth 20000 in
set_option maxHeartbeats 4000000 in
theorem clip_law_false (dk d1 d2 d3 d4 : Int) (dA : Option Addr) (dn dc : Nat) (ds : List Int) (ra rb rc rd : Int) (sk s1 s2 s3 s4 : Int) (sA : Option Addr) (sn sc : Nat) (ss : List Int) (sx sy : Int) (mk m1 m2 m3 m4 : Int) (mA : Option Addr) (mn mc : Nat) (ms : List Int) (mx my : Int) (w : World)
    (hdb : ByteSl w dA dn dc ds) (hsb : ByteSl w sA sn sc ss) (hmb : ByteSl w mA mn mc ms) (h1 : dn ≤ 2147483647) (h2 : sn ≤ 2147483647) (h3 : mn ≤ 2147483647) :
    Calls Try.prog 3 #[imgV dk d1 d2 d3 d4 (.slice dA dn dc), fourV ra rb rc rd, imgV sk s1 s2 s3 s4 (.slice sA sn sc), iv sx, iv sy, imgV mk m1 m2 m3 m4 (.slice mA mn mc), .bool false, iv mx, iv my] w fun e w' => e = .returned (.bool true) ∧ Below w.heap.size w w' := by
  have HDB := hid hdb; have HSB := hid hsb; have HMB := hid hmb
  clear hdb hsb hmb
  go_enter Try.func3, Try.ntmps3
  go_wp2_with fail
  refine (fits_yes _ _ _ _ _ _ _ _ _ h1).mono ?_
  rintro e w' ⟨rfl, rfl⟩
  go_wp2_with fail
  refine (fits_yes _ _ _ _ _ _ _ _ _ h2).mono ?_
  rintro e w' ⟨rfl, rfl⟩
  go_wp2_with fail
  refine (fits_yes _ _ _ _ _ _ _ _ _ h3).mono ?_
  rintro e w' ⟨rfl, rfl⟩
  go_wp2_with fail
  obtain ⟨W0, hW0⟩ : ∃ W : World, W = (((((((w.alloc (.cells #[iv dk, iv d1, iv d2, iv d3, iv d4, .slice dA dn dc] 24)).alloc (.cells #[iv ra, iv rb, iv rc, iv rd] 25)).alloc (.cells #[iv sk, iv s1, iv s2, iv s3, iv s4, .slice sA sn sc] 24)).alloc (.cells #[iv mk, iv m1, iv m2, iv m3, iv m4, .slice mA mn mc] 24)).alloc (.cells #[iv dk, iv d1, iv d2, iv d3, iv d4, .slice dA dn dc] 24)).alloc (.cells #[iv sk, iv s1, iv s2, iv s3, iv s4, .slice sA sn sc] 24)).alloc (.cells #[iv mk, iv m1, iv m2, iv m3, iv m4, .slice mA mn mc] 24)) := ⟨_, rfl⟩
  rw [← hW0]
  have Z0 : Hid (Blk W0 (w.heap.size) 24 #[iv dk, iv d1, iv d2, iv d3, iv d4, .slice dA dn dc]) := by rw [hW0]; exact Blk.alloc (Blk.alloc (Blk.alloc (Blk.alloc (Blk.alloc (Blk.alloc (Blk.new_at (W := w) (t := 24) (cs := #[iv dk, iv d1, iv d2, iv d3, iv d4, .slice dA dn dc]) (by simp)) _) _) _) _) _) _
  have Z1 : Hid (Blk W0 (w.heap.size + 1) 25 #[iv ra, iv rb, iv rc, iv rd]) := by rw [hW0]; exact Blk.alloc (Blk.alloc (Blk.alloc (Blk.alloc (Blk.alloc (Blk.new_at (W := (w.alloc (.cells #[iv dk, iv d1, iv d2, iv d3, iv d4, .slice dA dn dc] 24))) (t := 25) (cs := #[iv ra, iv rb, iv rc, iv rd]) (by simp)) _) _) _) _) _
  have Z2 : Hid (Blk W0 (w.heap.size + 1 + 1) 24 #[iv sk, iv s1, iv s2, iv s3, iv s4, .slice sA sn sc]) := by rw [hW0]; exact Blk.alloc (Blk.alloc (Blk.alloc (Blk.alloc (Blk.new_at (W := ((w.alloc (.cells #[iv dk, iv d1, iv d2, iv d3, iv d4, .slice dA dn dc] 24)).alloc (.cells #[iv ra, iv rb, iv rc, iv rd] 25))) (t := 24) (cs := #[iv sk, iv s1, iv s2, iv s3, iv s4, .slice sA sn sc]) (by simp)) _) _) _) _
  have Z3 : Hid (Blk W0 (w.heap.size + 1 + 1 + 1) 24 #[iv mk, iv m1, iv m2, iv m3, iv m4, .slice mA mn mc]) := by rw [hW0]; exact Blk.alloc (Blk.alloc (Blk.alloc (Blk.new_at (W := (((w.alloc (.cells #[iv dk, iv d1, iv d2, iv d3, iv d4, .slice dA dn dc] 24)).alloc (.cells #[iv ra, iv rb, iv rc, iv rd] 25)).alloc (.cells #[iv sk, iv s1, iv s2, iv s3, iv s4, .slice sA sn sc] 24))) (t := 24) (cs := #[iv mk, iv m1, iv m2, iv m3, iv m4, .slice mA mn mc]) (by simp)) _) _) _
  have Z4 : Hid (Blk W0 (w.heap.size + 1 + 1 + 1 + 1) 24 #[iv dk, iv d1, iv d2, iv d3, iv d4, .slice dA dn dc]) := by rw [hW0]; exact Blk.alloc (Blk.alloc (Blk.new_at (W := ((((w.alloc (.cells #[iv dk, iv d1, iv d2, iv d3, iv d4, .slice dA dn dc] 24)).alloc (.cells #[iv ra, iv rb, iv rc, iv rd] 25)).alloc (.cells #[iv sk, iv s1, iv s2, iv s3, iv s4, .slice sA sn sc] 24)).alloc (.cells #[iv mk, iv m1, iv m2, iv m3, iv m4, .slice mA mn mc] 24))) (t := 24) (cs := #[iv dk, iv d1, iv d2, iv d3, iv d4, .slice dA dn dc]) (by simp)) _) _
  have Z5 : Hid (Blk W0 (w.heap.size + 1 + 1 + 1 + 1 + 1) 24 #[iv sk, iv s1, iv s2, iv s3, iv s4, .slice sA sn sc]) := by rw [hW0]; exact Blk.alloc (Blk.new_at (W := (((((w.alloc (.cells #[iv dk, iv d1, iv d2, iv d3, iv d4, .slice dA dn dc] 24)).alloc (.cells #[iv ra, iv rb, iv rc, iv rd] 25)).alloc (.cells #[iv sk, iv s1, iv s2, iv s3, iv s4, .slice sA sn sc] 24)).alloc (.cells #[iv mk, iv m1, iv m2, iv m3, iv m4, .slice mA mn mc] 24)).alloc (.cells #[iv dk, iv d1, iv d2, iv d3, iv d4, .slice dA dn dc] 24))) (t := 24) (cs := #[iv sk, iv s1, iv s2, iv s3, iv s4, .slice sA sn sc]) (by simp)) _
  have Z6 : Hid (Blk W0 (w.heap.size + 1 + 1 + 1 + 1 + 1 + 1) 24 #[iv mk, iv m1, iv m2, iv m3, iv m4, .slice mA mn mc]) := by rw [hW0]; exact Blk.new_at (W := ((((((w.alloc (.cells #[iv dk, iv d1, iv d2, iv d3, iv d4, .slice dA dn dc] 24)).alloc (.cells #[iv ra, iv rb, iv rc, iv rd] 25)).alloc (.cells #[iv sk, iv s1, iv s2, iv s3, iv s4, .slice sA sn sc] 24)).alloc (.cells #[iv mk, iv m1, iv m2, iv m3, iv m4, .slice mA mn mc] 24)).alloc (.cells #[iv dk, iv d1, iv d2, iv d3, iv d4, .slice dA dn dc] 24)).alloc (.cells #[iv sk, iv s1, iv s2, iv s3, iv s4, .slice sA sn sc] 24))) (t := 24) (cs := #[iv mk, iv m1, iv m2, iv m3, iv m4, .slice mA mn mc]) (by simp)
  have bW0 : Below w.heap.size w W0 := by rw [hW0]; go_grown
  have sW0 : W0.heap.size = w.heap.size + 7 := by rw [hW0]; simp
  have SW0 := hid sW0
  have zW0 : w.heap.size + 7 ≤ W0.heap.size := by omega
  clear sW0 hW0
  have D0 := Z0; have R0 := Z1; have S0 := Z2; have M0 := Z3
  clear Z0 Z1 Z2 Z3 Z4 Z5 Z6
  have zw : w.heap.size + 7 ≤ W0.heap.size := zW0
  by_cases hin : in4 ra rb rc rd
  case neg =>
    refine (rect_bad _ _ _ _ _ hin).mono ?_
    rintro e w1 ⟨rfl, hb⟩
    have zz : W0.heap.size ≤ w1.heap.size := hb.size
    go_wp2_with fail
    go_returns; exact ⟨rfl, by (repeat' (first | (with_reducible exact Below.refl _ _) | (with_reducible assumption) | (with_reducible refine drewN_below ?_ _) | (with_reducible refine Below.drew ?_) | (with_reducible refine Below.alloc ?_ ?_ _) | (with_reducible refine Below.setCell ?_ ?_ _) | (with_reducible refine below_via (by with_reducible assumption) ?_ ?_) | go_size))⟩
  refine (rect_ok _ _ _ _ _ hin.1 hin.2.1 hin.2.2.1 hin.2.2.2).mono ?_
  rintro e w1 ⟨rfl, hb1⟩
  have bw1 := bW0.trans (hb1.mono (by omega))
  have z1 := hb1.size
  have D1 := hid (D0.out.keep hb1)
  have R1 := hid (R0.out.keep hb1)
  have S1 := hid (S0.out.keep hb1)
  have M1 := hid (M0.out.keep hb1)
  have cD := D1.out.cells6
  have cS := S1.out.cells6
  have cM := M1.out.cells6
  have lD := D1.out.lt
  have lR := R1.out.lt
  have lS := S1.out.lt
  have lM := M1.out.lt
  have hin' := hid hin
  clear hb1 hin
  by_cases hk6 : dk = 6
  case pos =>
    have k6 : (dk == 6) = true := by simpa using hk6
    go_wp2_with fail
    go_returns; exact ⟨rfl, by (repeat' (first | (with_reducible exact Below.refl _ _) | (with_reducible assumption) | (with_reducible refine drewN_below ?_ _) | (with_reducible refine Below.drew ?_) | (with_reducible refine Below.alloc ?_ ?_ _) | (with_reducible refine Below.setCell ?_ ?_ _) | (with_reducible refine below_via (by with_reducible assumption) ?_ ?_) | go_size))⟩
  have k6 : (dk == 6) = false := by simpa using hk6
  have HK6 := hid hk6
  clear hk6
  go_wp2_with fail
  -- the rectangle's block
  obtain ⟨a0, ha0⟩ : ∃ n, n = w1.heap.size := ⟨_, rfl⟩
  have A1 : Hid (Blk (w1.alloc (.cells #[iv ra, iv rb, iv rc, iv rd] 28)) a0 28 #[iv ra, iv rb, iv rc, iv rd]) := by rw [ha0]; exact Blk.new _ _ _
  obtain ⟨W1, hW1⟩ : ∃ W : World, W = w1.alloc (.cells #[iv ra, iv rb, iv rc, iv rd] 28) := ⟨_, rfl⟩
  rw [← ha0, ← hW1]
  rw [← hW1] at A1
  have D2 := hid (D1.out.alloc (.cells #[iv ra, iv rb, iv rc, iv rd] 28)); rw [← hW1] at D2
  have R2 := hid (R1.out.alloc (.cells #[iv ra, iv rb, iv rc, iv rd] 28)); rw [← hW1] at R2
  have S2 := hid (S1.out.alloc (.cells #[iv ra, iv rb, iv rc, iv rd] 28)); rw [← hW1] at S2
  have M2 := hid (M1.out.alloc (.cells #[iv ra, iv rb, iv rc, iv rd] 28)); rw [← hW1] at M2
  have A2 := A1
  have bw2 : Below w.heap.size w W1 := by rw [hW1]; exact bw1.alloc (by omega) _
  have z2 : w.heap.size + 7 ≤ a0 ∧ a0 < W1.heap.size := ⟨by omega, A1.out.lt⟩
  clear hW1 ha0 bw1 z1 cD cS cM lD lR lS lM D0 R0 S0 M0 D1 R1 S1 M1 A1
  refine (valid_any dk d1 d2 d3 d4 dA dn dc ds _ (HDB.out.keep bw2).bytes HDB.out.le HDB.out.cap).mono ?_
  rintro e w3 ⟨b, rfl, hv, hb3⟩
  have bw3 := bw2.trans (hb3.mono (by omega))
  have z3 := hb3.size
  have D3 := hid (D2.out.keep hb3)
  have R3 := hid (R2.out.keep hb3)
  have S3 := hid (S2.out.keep hb3)
  have M3 := hid (M2.out.keep hb3)
  have A3 := hid (A2.out.keep hb3)
  have cD := D3.out.cells6
  have cS := S3.out.cells6
  have cM := M3.out.cells6
  have lD := D3.out.lt
  have lR := R3.out.lt
  have lS := S3.out.lt
  have lM := M3.out.lt
  have lA := A3.out.lt
  have HV := hid hv
  clear hv hb3 bw2 D2 R2 S2 M2 A2
  cases b with
  | false =>
    go_wp2_with fail
    go_returns; exact ⟨rfl, by (repeat' (first | (with_reducible exact Below.refl _ _) | (with_reducible assumption) | (with_reducible refine drewN_below ?_ _) | (with_reducible refine Below.drew ?_) | (with_reducible refine Below.alloc ?_ ?_ _) | (with_reducible refine Below.setCell ?_ ?_ _) | (with_reducible refine below_via (by with_reducible assumption) ?_ ?_) | go_size))⟩
  | true =>
  go_wp2_with fail
  clear cD cS cM lD lR lS lM lA
  refine (valid_any sk s1 s2 s3 s4 sA sn sc ss _ (HSB.out.keep bw3).bytes HSB.out.le HSB.out.cap).mono ?_
  rintro e w4 ⟨b, rfl, hv, hb4⟩
  have bw4 := bw3.trans (hb4.mono (by omega))
  have z4 := hb4.size
  have D4 := hid (D3.out.keep hb4)
  have R4 := hid (R3.out.keep hb4)
  have S4 := hid (S3.out.keep hb4)
  have M4 := hid (M3.out.keep hb4)
  have A4 := hid (A3.out.keep hb4)
  have cD := D4.out.cells6
  have cS := S4.out.cells6
  have cM := M4.out.cells6
  have lD := D4.out.lt
  have lR := R4.out.lt
  have lS := S4.out.lt
  have lM := M4.out.lt
  have lA := A4.out.lt
  have SV := hid hv
  clear hv hb4 bw3 D3 R3 S3 M3 A3
  cases b with
  | false =>
    go_wp2_with fail
    go_returns; exact ⟨rfl, by (repeat' (first | (with_reducible exact Below.refl _ _) | (with_reducible assumption) | (with_reducible refine drewN_below ?_ _) | (with_reducible refine Below.drew ?_) | (with_reducible refine Below.alloc ?_ ?_ _) | (with_reducible refine Below.setCell ?_ ?_ _) | (with_reducible refine below_via (by with_reducible assumption) ?_ ?_) | go_size))⟩
  | true =>
  go_wp2_with fail
  clear cD cS cM lD lR lS lM lA
  have ff := (Blk.new w4 3 #[iv sx, iv sy, iv mx, iv my]).cells4.1
  refine (fine4_any _ _ _ _ _ _ ff.1 ff.2.1 ff.2.2.1 ff.2.2.2).mono ?_
  rintro e w' ⟨rfl, rfl⟩
  clear ff
  obtain ⟨W5, hW5⟩ : ∃ W : World, W = w4.alloc (.cells #[iv sx, iv sy, iv mx, iv my] 3) := ⟨_, rfl⟩
  rw [← hW5]
  have b5 : Below w4.heap.size w4 W5 := by rw [hW5]; go_grown
  have D5_ := hid (D4.out.keep b5)
  have R5_ := hid (R4.out.keep b5)
  have S5_ := hid (S4.out.keep b5)
  have M5_ := hid (M4.out.keep b5)
  have A5_ := hid (A4.out.keep b5)
  have bw5 := bw4.trans (b5.mono (by omega))
  have z5 := b5.size
  clear hW5 b5 bw4 D4 R4 S4 M4 A4
  have cD := D5_.out.cells6
  have cS := S5_.out.cells6
  have cM := M5_.out.cells6
  have lD := D5_.out.lt
  have lR := R5_.out.lt
  have lS := S5_.out.lt
  have lM := M5_.out.lt
  have lA := A5_.out.lt
  cases hf : fineB4 sx sy mx my with
  | false =>
    go_wp2_with fail
    go_returns; exact ⟨rfl, by (repeat' (first | (with_reducible exact Below.refl _ _) | (with_reducible assumption) | (with_reducible refine drewN_below ?_ _) | (with_reducible refine Below.drew ?_) | (with_reducible refine Below.alloc ?_ ?_ _) | (with_reducible refine Below.setCell ?_ ?_ _) | (with_reducible refine below_via (by with_reducible assumption) ?_ ?_) | go_size))⟩
  | true =>
  obtain ⟨hsx, hsy, hmx, hmy⟩ := fineB4_iff.1 hf
  clear hf
  have fM0 := M5_.out.frozen 0
  go_wp2_with fail
  clear cD cS cM lD lR lS lM lA fM0
  have D6 := hid (D5_.out.far (p := ⟨w.heap.size + 1 + 1 + 1, 0, none⟩) (by simp; try omega) (iv (-1)))
  have R6 := hid (R5_.out.far (p := ⟨w.heap.size + 1 + 1 + 1, 0, none⟩) (by simp; try omega) (iv (-1)))
  have S6 := hid (S5_.out.far (p := ⟨w.heap.size + 1 + 1 + 1, 0, none⟩) (by simp; try omega) (iv (-1)))
  have A6 := hid (A5_.out.far (p := ⟨w.heap.size + 1 + 1 + 1, 0, none⟩) (by simp; omega) (iv (-1)))
  have M6 : Hid (Blk (W5.setCell ⟨w.heap.size + 1 + 1 + 1, 0, none⟩ (iv (-1))) (w.heap.size + 1 + 1 + 1) 24 #[iv (-1), iv m1, iv m2, iv m3, iv m4, .slice mA mn mc]) := M5_.out.set_ 0 (iv (-1))
  have bw6 : Below w.heap.size w (W5.setCell ⟨w.heap.size + 1 + 1 + 1, 0, none⟩ (iv (-1))) := bw5.setCell (by simp; omega) _
  change Code.wp _ _ _ _ (W5.setCell ⟨w.heap.size + 1 + 1 + 1, 0, none⟩ (iv (-1)))
  generalize W5.setCell ⟨w.heap.size + 1 + 1 + 1, 0, none⟩ (iv (-1)) = W6 at *
  clear D5_ R5_ S5_ M5_ A5_ bw5
  have z6 : w.heap.size + 7 ≤ W6.heap.size := by have := A6.out.lt; omega
  have hDB : Hid (boundsOf dk d1 d2 d3 d4 = ⟨d1, d2, d3, d4⟩) := by unfold boundsOf; rw [if_neg HK6.out]; rfl
  obtain ⟨C, hC⟩ : ∃ C : Rc, C = (((⟨ra, rb, rc, rd⟩ : Rc).common ⟨d1, d2, d3, d4⟩).common ((boundsOf sk s1 s2 s3 s4).moved (ra - sx) (rb - sy))) := ⟨_, rfl⟩
  have HC := hid hC
  clear hC
  have hr : Hid ((⟨ra, rb, rc, rd⟩ : Rc).in_ 1000) := hin'.out
  have SB : Hid ((boundsOf sk s1 s2 s3 s4).in_ 4000000000) := by obtain ⟨a, b, c, d⟩ := bounds_in (by first | exact SV.out rfl | exact SV.out trivial); exact ⟨by omega, by omega, by omega, by omega⟩
  have bA : Hid (∀ k x0 y0 x1 y1 s, ∀ W : World, Calls Try.prog 20 #[imgV k x0 y0 x1 y1 s] W fun e w' => e = .returned (rcV (boundsOf k x0 y0 x1 y1)) ∧ Below W.heap.size W w') := boundsv_any
  have bD : Hid (∀ W : World, Calls Try.prog 20 #[imgV dk d1 d2 d3 d4 (.slice dA dn dc)] W fun e w' => e = .returned (rcV ⟨d1, d2, d3, d4⟩) ∧ Below W.heap.size W w') := fun W => by have := boundsv_any dk d1 d2 d3 d4 (.slice dA dn dc) W; rwa [hDB.out] at this
  refine Plan.wp_region_steps 20 [15, 16] [imgV dk d1 d2 d3 d4 (.slice dA dn dc), rcV ⟨d1, d2, d3, d4⟩, rcV ⟨ra, rb, rc, rd⟩, imgV sk s1 s2 s3 s4 (.slice sA sn sc), rcV (boundsOf sk s1 s2 s3 s4), iv sx, iv sy, imgV (-1) m1 m2 m3 m4 (.slice mA mn mc), rcV (boundsOf (-1) m1 m2 m3 m4), .bool false, iv mx, iv my, .tuple #[rcV C, ptV (sx + C.a - ra) (sy + C.b - rb), ptV (mx + C.a - ra) (my + C.b - rb)], .tuple #[rcV C, ptV (sx + C.a - ra) (sy + C.b - rb), ptV (mx + C.a - ra) (my + C.b - rb)], rcV C, ptV (sx + C.a - ra) (sy + C.b - rb), ptV (mx + C.a - ra) (my + C.b - rb), undef, undef, undef] [(17, 28, #[iv 0, iv 0, iv 0, iv 0]), (18, 34, #[iv 0, iv 0]), (19, 34, #[iv 0, iv 0])] (by kernel_rfl) (by kernel_rfl) (fun _ _ _ _ _ h => h) ?_ ?_
  · refine ⟨?_, ?_, ?_, ?_, ?_, ?_, ?_, ?_, ?_, ?_, ?_, ?_, ?_, ?_, ?_, ?_, ?_, ?_, ?_, ?_, trivial⟩
    · -- 0: Op.load 24 (Operand.tmp 9)
      intro a W hold hdep hb
      have e9 : a.tmps[9]?.getD undef = .pointer (some ⟨w.heap.size, 0, none⟩) := Plan.ev (hold 9 (by kernel_rfl))
      have C := ((D6.out).drew.keep hb).cells6
      clear hold hdep
      exact Plan.step_const rfl rfl (by go_simp <;> exact IntWalk.i64_in _ (by omega))
    · -- 1: Op.call { callee := Callee.value (Operand.func 20), args := #[Operand.
      intro a W hold hdep hb
      have e84 : a.tmps[84]?.getD undef = imgV dk d1 d2 d3 d4 (.slice dA dn dc) := Plan.ev (Plan.dep_const (by rfl) (hdep 0 (by kernel_rfl)))
      clear hold hdep
      exact Plan.step_call (f := 20) (args := #[imgV dk d1 d2 d3 d4 (.slice dA dn dc)]) rfl rfl (by go_simp) (bD.out W)
    · -- 2: Op.load 28 (Operand.tmp 19)
      intro a W hold hdep hb
      have e19 : a.tmps[19]?.getD undef = .pointer (some ⟨a0, 0, none⟩) := Plan.ev (hold 19 (by kernel_rfl))
      have C := ((A6.out).drew.keep hb).cells4.1
      clear hold hdep
      exact Plan.step_const rfl rfl (by go_simp <;> exact IntWalk.i64_in _ (by omega))
    · -- 3: Op.load 24 (Operand.tmp 11)
      intro a W hold hdep hb
      have e11 : a.tmps[11]?.getD undef = .pointer (some ⟨w.heap.size + 1 + 1, 0, none⟩) := Plan.ev (hold 11 (by kernel_rfl))
      have C := ((S6.out).drew.keep hb).cells6
      clear hold hdep
      exact Plan.step_const rfl rfl (by go_simp <;> exact IntWalk.i64_in _ (by omega))
    · -- 4: Op.call { callee := Callee.value (Operand.func 20), args := #[Operand.
      intro a W hold hdep hb
      have e87 : a.tmps[87]?.getD undef = imgV sk s1 s2 s3 s4 (.slice sA sn sc) := Plan.ev (Plan.dep_const (by rfl) (hdep 3 (by kernel_rfl)))
      clear hold hdep
      exact Plan.step_call (f := 20) (args := #[imgV sk s1 s2 s3 s4 (.slice sA sn sc)]) rfl rfl (by go_simp) (bA.out _ _ _ _ _ _ W)
    · -- 5: Op.move (Operand.tmp 3)
      intro a W hold hdep hb
      have e3 : a.tmps[3]?.getD undef = iv sx := Plan.ev (hold 3 (by kernel_rfl))
      clear hold hdep
      exact Plan.step_const rfl rfl (by go_simp <;> exact IntWalk.i64_in _ (by omega))
    · -- 6: Op.move (Operand.tmp 4)
      intro a W hold hdep hb
      have e4 : a.tmps[4]?.getD undef = iv sy := Plan.ev (hold 4 (by kernel_rfl))
      clear hold hdep
      exact Plan.step_const rfl rfl (by go_simp <;> exact IntWalk.i64_in _ (by omega))
    · -- 7: Op.load 24 (Operand.tmp 14)
      intro a W hold hdep hb
      have e14 : a.tmps[14]?.getD undef = .pointer (some ⟨w.heap.size + 1 + 1 + 1, 0, none⟩) := Plan.ev (hold 14 (by kernel_rfl))
      have C := ((M6.out).drew.keep hb).cells6
      clear hold hdep
      exact Plan.step_const rfl rfl (by go_simp <;> exact IntWalk.i64_in _ (by omega))
    · -- 8: Op.call { callee := Callee.value (Operand.func 20), args := #[Operand.
      intro a W hold hdep hb
      have e91 : a.tmps[91]?.getD undef = imgV (-1) m1 m2 m3 m4 (.slice mA mn mc) := Plan.ev (Plan.dep_const (by rfl) (hdep 7 (by kernel_rfl)))
      clear hold hdep
      exact Plan.step_call (f := 20) (args := #[imgV (-1) m1 m2 m3 m4 (.slice mA mn mc)]) rfl rfl (by go_simp) (bA.out _ _ _ _ _ _ W)
    · -- 9: Op.move (Operand.tmp 6)
      intro a W hold hdep hb
      have e6 : a.tmps[6]?.getD undef = .bool false := Plan.ev (hold 6 (by kernel_rfl))
      clear hold hdep
      exact Plan.step_const rfl rfl (by go_simp <;> exact IntWalk.i64_in _ (by omega))
    · -- 10: Op.move (Operand.tmp 7)
      intro a W hold hdep hb
      have e7 : a.tmps[7]?.getD undef = iv mx := Plan.ev (hold 7 (by kernel_rfl))
      clear hold hdep
      exact Plan.step_const rfl rfl (by go_simp <;> exact IntWalk.i64_in _ (by omega))
    · -- 11: Op.move (Operand.tmp 8)
      intro a W hold hdep hb
      have e8 : a.tmps[8]?.getD undef = iv my := Plan.ev (hold 8 (by kernel_rfl))
      clear hold hdep
      exact Plan.step_const rfl rfl (by go_simp <;> exact IntWalk.i64_in _ (by omega))
    · -- 12: Op.call { callee := Callee.value (Operand.func 19), args := #[Operand.
      intro a W hold hdep hb
      have e85 : a.tmps[85]?.getD undef = rcV ⟨d1, d2, d3, d4⟩ := Plan.ev (Plan.dep_const (by rfl) (hdep 1 (by kernel_rfl)))
      have e86 : a.tmps[86]?.getD undef = rcV ⟨ra, rb, rc, rd⟩ := Plan.ev (Plan.dep_const (by rfl) (hdep 2 (by kernel_rfl)))
      have e88 : a.tmps[88]?.getD undef = rcV (boundsOf sk s1 s2 s3 s4) := Plan.ev (Plan.dep_const (by rfl) (hdep 4 (by kernel_rfl)))
      have e89 : a.tmps[89]?.getD undef = iv sx := Plan.ev (Plan.dep_const (by rfl) (hdep 5 (by kernel_rfl)))
      have e90 : a.tmps[90]?.getD undef = iv sy := Plan.ev (Plan.dep_const (by rfl) (hdep 6 (by kernel_rfl)))
      have e92 : a.tmps[92]?.getD undef = rcV (boundsOf (-1) m1 m2 m3 m4) := Plan.ev (Plan.dep_const (by rfl) (hdep 8 (by kernel_rfl)))
      have e93 : a.tmps[93]?.getD undef = .bool false := Plan.ev (Plan.dep_const (by rfl) (hdep 9 (by kernel_rfl)))
      have e94 : a.tmps[94]?.getD undef = iv mx := Plan.ev (Plan.dep_const (by rfl) (hdep 10 (by kernel_rfl)))
      have e95 : a.tmps[95]?.getD undef = iv my := Plan.ev (Plan.dep_const (by rfl) (hdep 11 (by kernel_rfl)))
      clear hold hdep
      exact Plan.step_call (f := 19) (args := #[rcV ⟨d1, d2, d3, d4⟩, rcV ⟨ra, rb, rc, rd⟩, rcV (boundsOf sk s1 s2 s3 s4), iv sx, iv sy, rcV (boundsOf (-1) m1 m2 m3 m4), .bool false, iv mx, iv my]) rfl rfl (by go_simp) (clip_plain ⟨d1, d2, d3, d4⟩ ⟨ra, rb, rc, rd⟩ (boundsOf sk s1 s2 s3 s4) (boundsOf (-1) m1 m2 m3 m4) sx sy mx my W hr.out SB.out hsx hsy hmx hmy C HC.out)
    · -- 13: Op.move (Operand.tmp 96)
      intro a W hold hdep hb
      have e96 : a.tmps[96]?.getD undef = .tuple #[rcV C, ptV (sx + C.a - ra) (sy + C.b - rb), ptV (mx + C.a - ra) (my + C.b - rb)] := Plan.ev (Plan.dep_const (by rfl) (hdep 12 (by kernel_rfl)))
      clear hold hdep
      exact Plan.step_const rfl rfl (by go_simp <;> exact IntWalk.i64_in _ (by omega))
    · -- 14: Op.extract (Operand.tmp 83) 0
      intro a W hold hdep hb
      have e83 : a.tmps[83]?.getD undef = .tuple #[rcV C, ptV (sx + C.a - ra) (sy + C.b - rb), ptV (mx + C.a - ra) (my + C.b - rb)] := Plan.ev (Plan.dep_const (by rfl) (hdep 13 (by kernel_rfl)))
      clear hold hdep
      exact Plan.step_const rfl rfl (by go_simp <;> exact IntWalk.i64_in _ (by omega))
    · -- 15: Op.extract (Operand.tmp 83) 1
      intro a W hold hdep hb
      have e83 : a.tmps[83]?.getD undef = .tuple #[rcV C, ptV (sx + C.a - ra) (sy + C.b - rb), ptV (mx + C.a - ra) (my + C.b - rb)] := Plan.ev (Plan.dep_const (by rfl) (hdep 13 (by kernel_rfl)))
      clear hold hdep
      exact Plan.step_eager rfl rfl (fun _ => by go_simp)
    · -- 16: Op.extract (Operand.tmp 83) 2
      intro a W hold hdep hb
      have e83 : a.tmps[83]?.getD undef = .tuple #[rcV C, ptV (sx + C.a - ra) (sy + C.b - rb), ptV (mx + C.a - ra) (my + C.b - rb)] := Plan.ev (Plan.dep_const (by rfl) (hdep 13 (by kernel_rfl)))
      clear hold hdep
      exact Plan.step_eager rfl rfl (fun _ => by go_simp)
    · -- 17: Op.alloc 28
      intro a W hold hdep hb
      clear hold hdep
      exact Plan.step_alloc rfl rfl (by go_simp)
    · -- 18: Op.alloc 34
      intro a W hold hdep hb
      clear hold hdep
      exact Plan.step_alloc rfl rfl (by go_simp)
    · -- 19: Op.alloc 34
      intro a W hold hdep hb
      clear hold hdep
      exact Plan.step_alloc rfl rfl (by go_simp)
  intro vs W7 lo hi hD
  change wpList _ _ _ _ { tmps := (Array.setIfInBounds (Array.setIfInBounds (Array.setIfInBounds (Array.setIfInBounds (Array.setIfInBounds (Array.setIfInBounds (Array.setIfInBounds (Array.setIfInBounds (Array.setIfInBounds (Array.setIfInBounds (Array.setIfInBounds (Array.setIfInBounds (Array.setIfInBounds (Array.setIfInBounds (Array.setIfInBounds (Array.setIfInBounds (Array.setIfInBounds (Array.setIfInBounds (Array.setIfInBounds (Array.setIfInBounds _ 84 (vs 0)) 85 (vs 1)) 86 (vs 2)) 87 (vs 3)) 88 (vs 4)) 89 (vs 5)) 90 (vs 6)) 91 (vs 7)) 92 (vs 8)) 93 (vs 9)) 94 (vs 10)) 95 (vs 11)) 96 (vs 12)) 83 (vs 13)) 97 (vs 14)) 98 (vs 15)) 99 (vs 16)) 21 (vs 17)) 22 (vs 18)) 23 (vs 19)), defers := _ } _
  simp only [Plan.putAll_zero, List.setIfInBounds_toArray, List.set_cons_zero, List.set_cons_succ, List.drop_succ_cons, List.drop_zero]
  have p0 : vs 0 = imgV dk d1 d2 d3 d4 (.slice dA dn dc) := (hD.facts 0 (by omega)).2.2.2
  have p1 : vs 1 = rcV ⟨d1, d2, d3, d4⟩ := (hD.facts 1 (by omega)).2.2.2
  have p2 : vs 2 = rcV ⟨ra, rb, rc, rd⟩ := (hD.facts 2 (by omega)).2.2.2
  have p3 : vs 3 = imgV sk s1 s2 s3 s4 (.slice sA sn sc) := (hD.facts 3 (by omega)).2.2.2
  have p4 : vs 4 = rcV (boundsOf sk s1 s2 s3 s4) := (hD.facts 4 (by omega)).2.2.2
  have p5 : vs 5 = iv sx := (hD.facts 5 (by omega)).2.2.2
  have p6 : vs 6 = iv sy := (hD.facts 6 (by omega)).2.2.2
  have p7 : vs 7 = imgV (-1) m1 m2 m3 m4 (.slice mA mn mc) := (hD.facts 7 (by omega)).2.2.2
  have p8 : vs 8 = rcV (boundsOf (-1) m1 m2 m3 m4) := (hD.facts 8 (by omega)).2.2.2
  have p9 : vs 9 = .bool false := (hD.facts 9 (by omega)).2.2.2
  have p10 : vs 10 = iv mx := (hD.facts 10 (by omega)).2.2.2
  have p11 : vs 11 = iv my := (hD.facts 11 (by omega)).2.2.2
  have p12 : vs 12 = .tuple #[rcV C, ptV (sx + C.a - ra) (sy + C.b - rb), ptV (mx + C.a - ra) (my + C.b - rb)] := (hD.facts 12 (by omega)).2.2.2
  have p13 : vs 13 = .tuple #[rcV C, ptV (sx + C.a - ra) (sy + C.b - rb), ptV (mx + C.a - ra) (my + C.b - rb)] := (hD.facts 13 (by omega)).2.2.2
  have p14 : vs 14 = rcV C := (hD.facts 14 (by omega)).2.2.2
  have p15 : vs 15 = ptV (sx + C.a - ra) (sy + C.b - rb) := (hD.facts 15 (by omega)).2.2.2
  have p16 : vs 16 = ptV (mx + C.a - ra) (my + C.b - rb) := (hD.facts 16 (by omega)).2.2.2
  obtain ⟨p17, q17, b17⟩ : vs 17 = .pointer (some ⟨lo 17, 0, none⟩) ∧ hi 17 = lo 17 + 1 ∧ Blk W7 (lo 17) 28 #[iv 0, iv 0, iv 0, iv 0] := (hD.facts 17 (by omega)).2.2.2
  have l17 := (hD.facts 17 (by omega)).1
  obtain ⟨p18, q18, b18⟩ : vs 18 = .pointer (some ⟨lo 18, 0, none⟩) ∧ hi 18 = lo 18 + 1 ∧ Blk W7 (lo 18) 34 #[iv 0, iv 0] := (hD.facts 18 (by omega)).2.2.2
  have l18 := (hD.facts 18 (by omega)).1
  obtain ⟨p19, q19, b19⟩ : vs 19 = .pointer (some ⟨lo 19, 0, none⟩) ∧ hi 19 = lo 19 + 1 ∧ Blk W7 (lo 19) 34 #[iv 0, iv 0] := (hD.facts 19 (by omega)).2.2.2
  have l19 := (hD.facts 19 (by omega)).1
  have d17_18 : lo 17 ≠ lo 18 := by have := hD.apart 17 18 (by omega) (by omega) (by omega); omega
  have d17_19 : lo 17 ≠ lo 19 := by have := hD.apart 17 19 (by omega) (by omega) (by omega); omega
  have d18_19 : lo 18 ≠ lo 19 := by have := hD.apart 18 19 (by omega) (by omega) (by omega); omega
  simp only [p0, p1, p2, p3, p4, p5, p6, p7, p8, p9, p10, p11, p12, p13, p14, p15, p16, p17, p18, p19]
  clear p0 p1 p2 p3 p4 p5 p6 p7 p8 p9 p10 p11 p12 p13 p14 p15 p16 p17 p18 p19
  have hW7 := hD.bel
  generalize lo 17 = g17 at *
  generalize lo 18 = g18 at *
  generalize lo 19 = g19 at *
  clear hD q17 q18 q19 lo hi vs
  have w17 := b17.cells4
  have w18 := b18.cells2
  have w19 := b19.cells2
  have z7 : W6.heap.size ≤ W7.heap.size := hW7.size
  have z17 := b17.lt
  have z18 := b18.lt
  have z19 := b19.lt
  have lD := (D6.out.drew.keep hW7).lt
  have cD := (D6.out.drew.keep hW7).cells6
  have cR := (R6.out.drew.keep hW7).cells4.1
  have lR := (R6.out.drew.keep hW7).lt
  have cS := (S6.out.drew.keep hW7).cells6
  have lS := (S6.out.drew.keep hW7).lt
  have cM := (M6.out.drew.keep hW7).cells6
  have lM := (M6.out.drew.keep hW7).lt
  have y17 : W6.heap.size ≤ g17 := l17
  have y18 : W6.heap.size ≤ g18 := l18
  have y19 : W6.heap.size ≤ g19 := l19
  clear l17 l18 l19
  go_wp2_with fail
  -- the three results stored
  have B17 := hid (((b17.set4_ (iv C.a) (iv C.b) (iv C.c) (iv C.d)).far2 d17_18 (iv (sx + C.a - ra)) (iv (sy + C.b - rb))).far2 d17_19 (iv (mx + C.a - ra)) (iv (my + C.b - rb)))
  have B18 := hid (((b18.far4 (Ne.symm d17_18) (iv C.a) (iv C.b) (iv C.c) (iv C.d)).set2_ (iv (sx + C.a - ra)) (iv (sy + C.b - rb))).far2 d18_19 (iv (mx + C.a - ra)) (iv (my + C.b - rb)))
  have B19 := hid (((b19.far4 (Ne.symm d17_19) (iv C.a) (iv C.b) (iv C.c) (iv C.d)).far2 (Ne.symm d18_19) (iv (sx + C.a - ra)) (iv (sy + C.b - rb))).set2_ (iv (mx + C.a - ra)) (iv (my + C.b - rb)))
  have bw8 : Below w.heap.size w (set2 (set2 (set4 W7 g17 (iv C.a) (iv C.b) (iv C.c) (iv C.d)) g18 (iv (sx + C.a - ra)) (iv (sy + C.b - rb))) g19 (iv (mx + C.a - ra)) (iv (my + C.b - rb))) := below2 (below2 (below4 (bw6.trans ((stay_below hW7).mono (by omega))) (by omega) _ _ _ _) (by omega) _ _) (by omega) _ _
  change Calls _ _ _ (set2 (set2 (set4 W7 g17 (iv C.a) (iv C.b) (iv C.c) (iv C.d)) g18 (iv (sx + C.a - ra)) (iv (sy + C.b - rb))) g19 (iv (mx + C.a - ra)) (iv (my + C.b - rb))) _
  clear hW7 bw6 b17 b18 b19 w17 w18 w19 z17 z18 z19 lD lR lS lM cD cR cS cM D6 R6 S6 M6 A6
  generalize set2 (set2 (set4 W7 g17 (iv C.a) (iv C.b) (iv C.c) (iv C.d)) g18 (iv (sx + C.a - ra)) (iv (sy + C.b - rb))) g19 (iv (mx + C.a - ra)) (iv (my + C.b - rb)) = W8 at *
  refine (implclip_u dk d1 d2 d3 d4 dA dn dc ds sk s1 s2 s3 s4 sA sn sc ss (-1) m1 m2 m3 m4 mA mn mc ms ⟨ra, rb, rc, rd⟩ sx sy mx my W8 (HDB.out.keep bw8) (HSB.out.keep bw8) (HMB.out.keep bw8) h1 h2 h3 (by first | exact HV.out rfl | exact HV.out trivial) HK6.out (by first | exact SV.out rfl | exact SV.out trivial) rfl hr.out hsx hsy hmx hmy C HC.out).mono ?_
  rintro e w9 ⟨rfl, hb9⟩
  have ea : sx + (C.a - ra) = sx + C.a - ra := by omega
  have eb : sy + (C.b - rb) = sy + C.b - rb := by omega
  have ec : mx + (C.a - ra) = mx + C.a - ra := by omega
  have ed : my + (C.b - rb) = my + C.b - rb := by omega
  rw [show (⟨ra, rb, rc, rd⟩ : Rc).a = ra from rfl, show (⟨ra, rb, rc, rd⟩ : Rc).b = rb from rfl, ea, eb, ec, ed]
  clear ea eb ec ed
  have C17 := hid (B17.out.keep hb9)
  have C18 := hid (B18.out.keep hb9)
  have C19 := hid (B19.out.keep hb9)
  have bw9 := bw8.trans (hb9.mono (by have := bw8.size; omega))
  have c17 := C17.out.cells4.1
  have c18 := C18.out.cells2.1
  have c19 := C19.out.cells2.1
  have l17 := C17.out.lt
  have l18 := C18.out.lt
  have l19 := C19.out.lt
  have l17a : g17 < w9.heap.size + 1 := by omega
  have l17b : g17 < w9.heap.size + 1 + 1 := by omega
  have l17c : g17 < w9.heap.size + 1 + 1 + 1 := by omega
  have n17 : g17 ≠ w9.heap.size := by omega
  have n17a : g17 ≠ w9.heap.size + 1 := by omega
  have n17b : g17 ≠ w9.heap.size + 1 + 1 := by omega
  have n17c : g17 ≠ w9.heap.size + 1 + 1 + 1 := by omega
  clear hb9 bw8 B17 B18 B19 d17_18 d17_19 d18_19 y17 y18 y19
  go_wp2_with fail
  clear l17a l17b l17c n17 n17a n17b n17c c17 c18 c19
  obtain ⟨W10, hW10⟩ : ∃ W : World, W = ((((w9.alloc (.cells #[iv C.a, iv C.b, iv C.c, iv C.d] 25)).alloc (.cells #[iv (sx + C.a - ra), iv (sy + C.b - rb)] 34)).alloc (.cells #[iv (mx + C.a - ra), iv (my + C.b - rb)] 34)).alloc (.cells #[iv C.a, iv C.b, iv C.c, iv C.d] 28)) := ⟨_, rfl⟩
  rw [← hW10]
  have X0 : Hid (Blk W10 (w9.heap.size) 25 #[iv C.a, iv C.b, iv C.c, iv C.d]) := by rw [hW10]; exact Blk.alloc (Blk.alloc (Blk.alloc (Blk.new_at (W := w9) (t := 25) (cs := #[iv C.a, iv C.b, iv C.c, iv C.d]) (by simp)) _) _) _
  have X1 : Hid (Blk W10 (w9.heap.size + 1) 34 #[iv (sx + C.a - ra), iv (sy + C.b - rb)]) := by rw [hW10]; exact Blk.alloc (Blk.alloc (Blk.new_at (W := (w9.alloc (.cells #[iv C.a, iv C.b, iv C.c, iv C.d] 25))) (t := 34) (cs := #[iv (sx + C.a - ra), iv (sy + C.b - rb)]) (by simp)) _) _
  have X2 : Hid (Blk W10 (w9.heap.size + 1 + 1) 34 #[iv (mx + C.a - ra), iv (my + C.b - rb)]) := by rw [hW10]; exact Blk.alloc (Blk.new_at (W := ((w9.alloc (.cells #[iv C.a, iv C.b, iv C.c, iv C.d] 25)).alloc (.cells #[iv (sx + C.a - ra), iv (sy + C.b - rb)] 34))) (t := 34) (cs := #[iv (mx + C.a - ra), iv (my + C.b - rb)]) (by simp)) _
  have X3 : Hid (Blk W10 (w9.heap.size + 1 + 1 + 1) 28 #[iv C.a, iv C.b, iv C.c, iv C.d]) := by rw [hW10]; exact Blk.new_at (W := (((w9.alloc (.cells #[iv C.a, iv C.b, iv C.c, iv C.d] 25)).alloc (.cells #[iv (sx + C.a - ra), iv (sy + C.b - rb)] 34)).alloc (.cells #[iv (mx + C.a - ra), iv (my + C.b - rb)] 34))) (t := 28) (cs := #[iv C.a, iv C.b, iv C.c, iv C.d]) (by simp)
  have bW10 : Below w9.heap.size w9 W10 := by rw [hW10]; go_grown
  have sW10 : W10.heap.size = w9.heap.size + 4 := by rw [hW10]; simp
  have SW10 := hid sW10
  have zW10 : w9.heap.size + 4 ≤ W10.heap.size := by omega
  clear sW10 hW10
  have C17' := hid (C17.out.keep bW10)
  have C18' := hid (C18.out.keep bW10)
  have C19' := hid (C19.out.keep bW10)
  clear C17 C18 C19
  refine (empty_any C.a C.b C.c C.d _).mono ?_
  rintro e w11 ⟨rfl, hb11⟩
  have c17 := (C17'.out.keep hb11).cells4.1
  have c18 := (C18'.out.keep hb11).cells2.1
  have c19 := (C19'.out.keep hb11).cells2.1
  have cX1 := (X1.out.keep hb11).cells2.1
  have cX2 := (X2.out.keep hb11).cells2.1
  have cX3 := (X3.out.keep hb11).cells4.1
  have bw11 : Below w.heap.size w w11 := (bw9.trans (bW10.mono (by have := bw9.size; omega))).trans (hb11.mono (by have := bw9.size; omega))
  clear hb11 bW10 bw9 X0 X1 X2 X3 C17' C18' C19'
  cases hE : emptyB C.a C.b C.c C.d with
  | true =>
    go_wp2_with fail
    refine (empty_any C.a C.b C.c C.d _).mono ?_
    rintro e w12 ⟨rfl, hb12⟩
    have bw12 : Below w.heap.size w w12 := bw11.trans (hb12.mono (by have := bw11.size; omega))
    rw [hE]
    go_wp2_with fail
    go_returns
    exact ⟨rfl, by (repeat' (first | (with_reducible exact Below.refl _ _) | (with_reducible assumption) | (with_reducible refine drewN_below ?_ _) | (with_reducible refine Below.drew ?_) | (with_reducible refine Below.alloc ?_ ?_ _) | (with_reducible refine Below.setCell ?_ ?_ _) | (with_reducible refine below_via (by with_reducible assumption) ?_ ?_) | go_size))⟩
  | false =>
  go_wp2_with fail
  go_returns
  exact ⟨rfl, by (repeat' (first | (with_reducible exact Below.refl _ _) | (with_reducible assumption) | (with_reducible refine drewN_below ?_ _) | (with_reducible refine Below.drew ?_) | (with_reducible refine Below.alloc ?_ ?_ _) | (with_reducible refine Below.setCell ?_ ?_ _) | (with_reducible refine below_via (by with_reducible assumption) ?_ ?_) | go_size))⟩

end Go.Proofs.Ytlnfcjaempojgaa
