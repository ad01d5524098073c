/- The statement on laws.FnFillSrc: the contract of the law, and the frame. Written by mk_law.py. -/
import Derived.Test.YtlnfcjaempojgaaMFSrc
import Derived.Test.YtlnfcjaempojgaaQFSrc
import Derived.Test.YtlnfcjaempojgaaG1
set_option linter.unusedVariables false
namespace Go.Proofs.Ytlnfcjaempojgaa
open Go.ChangeShapes Go.WideShapes Go.ChangeAt Go.RowKit

set_option maxRecDepth 20000 in
set_option maxHeartbeats 1000000 in
theorem unfit13 (dk d1 d2 d3 d4 : Int) (dA : Option Addr) (dn dc : Nat) (ds : List Int) (ra rb rc rd : Int) (sk s1 s2 s3 s4 : Int) (sA : Option Addr) (sn sc : Nat) (ss : List Int) (w : World)
    (hdb : ByteSl w dA dn dc ds) (hsb : ByteSl w sA sn sc ss) (h : ¬ (dn ≤ 2147483647 ∧ sn ≤ 2147483647)) :
    Calls Try.prog 13 #[imgV dk d1 d2 d3 d4 (.slice dA dn dc), fourV ra rb rc rd, imgV sk s1 s2 s3 s4 (.slice sA sn sc)] w fun e w' => e = .returned (.bool true) ∧ Below w.heap.size w w' := by
  by_cases h1 : dn ≤ 2147483647
  · have h2 : ¬ sn ≤ 2147483647 := fun h2 => h ⟨h1, h2⟩
    clear h hdb hsb
    go_enter Try.func13, Try.ntmps13
    go_wp2_with fail
    refine (fits_yes _ _ _ _ _ _ _ _ _ h1).mono ?_
    rintro e w' ⟨rfl, rfl⟩
    go_wp2_with fail
    refine (fits_no _ _ _ _ _ _ _ _ _ h2).mono ?_
    rintro e w' ⟨rfl, rfl⟩
    go_wp2_with fail
    go_returns; exact ⟨rfl, by (repeat' (first | (with_reducible exact Below.refl _ _) | (with_reducible assumption) | (with_reducible refine drewN_below ?_ _) | (with_reducible refine Below.drew ?_) | (with_reducible refine Below.alloc ?_ ?_ _) | (with_reducible refine Below.setCell ?_ ?_ _) | (with_reducible refine below_via (by with_reducible assumption) ?_ ?_) | go_size))⟩
  · clear h hdb hsb
    go_enter Try.func13, Try.ntmps13
    go_wp2_with fail
    refine (fits_no _ _ _ _ _ _ _ _ _ h1).mono ?_
    rintro e w' ⟨rfl, rfl⟩
    go_wp2_with fail
    go_returns; exact ⟨rfl, by (repeat' (first | (with_reducible exact Below.refl _ _) | (with_reducible assumption) | (with_reducible refine drewN_below ?_ _) | (with_reducible refine Below.drew ?_) | (with_reducible refine Below.alloc ?_ ?_ _) | (with_reducible refine Below.setCell ?_ ?_ _) | (with_reducible refine below_via (by with_reducible assumption) ?_ ?_) | go_size))⟩

set_option maxRecDepth 20000 in
set_option maxHeartbeats 2000000 in
theorem fit13 (dk d1 d2 d3 d4 : Int) (dA : Option Addr) (dn dc : Nat) (ds : List Int) (ra rb rc rd : Int) (sk s1 s2 s3 s4 : Int) (sA : Option Addr) (sn sc : Nat) (ss : List Int) (w : World)
    (hdb : ByteSl w dA dn dc ds) (hsb : ByteSl w sA sn sc ss) (h1 : dn ≤ 2147483647) (h2 : sn ≤ 2147483647) :
    Calls Try.prog 13 #[imgV dk d1 d2 d3 d4 (.slice dA dn dc), fourV ra rb rc rd, imgV sk s1 s2 s3 s4 (.slice sA sn sc)] w fun e w' => e = .returned (.bool true) ∧ Below w.heap.size w w' := by
  have HDB := hid hdb; have HSB := hid hsb
  clear hdb hsb
  go_enter Try.func13, Try.ntmps13
  go_wp2_with fail
  refine (fits_yes _ _ _ _ _ _ _ _ _ h1).mono ?_
  rintro e w' ⟨rfl, rfl⟩
  go_wp2_with fail
  refine (fits_yes _ _ _ _ _ _ _ _ _ h2).mono ?_
  rintro e w' ⟨rfl, rfl⟩
  go_wp2_with fail
  obtain ⟨W0, hW0⟩ : ∃ W : World, W = (((((w.alloc (.cells #[iv dk, iv d1, iv d2, iv d3, iv d4, .slice dA dn dc] 24)).alloc (.cells #[iv ra, iv rb, iv rc, iv rd] 25)).alloc (.cells #[iv sk, iv s1, iv s2, iv s3, iv s4, .slice sA sn sc] 24)).alloc (.cells #[iv dk, iv d1, iv d2, iv d3, iv d4, .slice dA dn dc] 24)).alloc (.cells #[iv sk, iv s1, iv s2, iv s3, iv s4, .slice sA sn sc] 24)) := ⟨_, rfl⟩
  rw [← hW0]
  have B0 : Hid (Blk W0 (w.heap.size) 24 #[iv dk, iv d1, iv d2, iv d3, iv d4, .slice dA dn dc]) := by rw [hW0]; exact Blk.alloc (Blk.alloc (Blk.alloc (Blk.alloc (Blk.new_at (W := w) (t := 24) (cs := #[iv dk, iv d1, iv d2, iv d3, iv d4, .slice dA dn dc]) (by simp)) _) _) _) _
  have B1 : Hid (Blk W0 (w.heap.size + 1) 25 #[iv ra, iv rb, iv rc, iv rd]) := by rw [hW0]; exact Blk.alloc (Blk.alloc (Blk.alloc (Blk.new_at (W := (w.alloc (.cells #[iv dk, iv d1, iv d2, iv d3, iv d4, .slice dA dn dc] 24))) (t := 25) (cs := #[iv ra, iv rb, iv rc, iv rd]) (by simp)) _) _) _
  have B2 : Hid (Blk W0 (w.heap.size + 1 + 1) 24 #[iv sk, iv s1, iv s2, iv s3, iv s4, .slice sA sn sc]) := by rw [hW0]; exact Blk.alloc (Blk.alloc (Blk.new_at (W := ((w.alloc (.cells #[iv dk, iv d1, iv d2, iv d3, iv d4, .slice dA dn dc] 24)).alloc (.cells #[iv ra, iv rb, iv rc, iv rd] 25))) (t := 24) (cs := #[iv sk, iv s1, iv s2, iv s3, iv s4, .slice sA sn sc]) (by simp)) _) _
  have B3 : Hid (Blk W0 (w.heap.size + 1 + 1 + 1) 24 #[iv dk, iv d1, iv d2, iv d3, iv d4, .slice dA dn dc]) := by rw [hW0]; exact Blk.alloc (Blk.new_at (W := (((w.alloc (.cells #[iv dk, iv d1, iv d2, iv d3, iv d4, .slice dA dn dc] 24)).alloc (.cells #[iv ra, iv rb, iv rc, iv rd] 25)).alloc (.cells #[iv sk, iv s1, iv s2, iv s3, iv s4, .slice sA sn sc] 24))) (t := 24) (cs := #[iv dk, iv d1, iv d2, iv d3, iv d4, .slice dA dn dc]) (by simp)) _
  have B4 : Hid (Blk W0 (w.heap.size + 1 + 1 + 1 + 1) 24 #[iv sk, iv s1, iv s2, iv s3, iv s4, .slice sA sn sc]) := by rw [hW0]; exact Blk.new_at (W := ((((w.alloc (.cells #[iv dk, iv d1, iv d2, iv d3, iv d4, .slice dA dn dc] 24)).alloc (.cells #[iv ra, iv rb, iv rc, iv rd] 25)).alloc (.cells #[iv sk, iv s1, iv s2, iv s3, iv s4, .slice sA sn sc] 24)).alloc (.cells #[iv dk, iv d1, iv d2, iv d3, iv d4, .slice dA dn dc] 24))) (t := 24) (cs := #[iv sk, iv s1, iv s2, iv s3, iv s4, .slice sA sn sc]) (by simp)
  have bW0 : Below w.heap.size w W0 := by rw [hW0]; go_grown
  have sW0 : W0.heap.size = w.heap.size + 5 := by rw [hW0]; simp
  have SW0 := hid sW0
  have zW0 : w.heap.size + 5 ≤ W0.heap.size := by omega
  clear sW0 hW0
  refine (part_any dk d1 d2 d3 d4 dA dn dc ds ra rb rc rd sk s1 s2 s3 s4 sA sn sc ss 0 0 6 1 42 #[.pointer (some ⟨w.heap.size, 0, none⟩), .pointer (some ⟨w.heap.size + 1, 0, none⟩), .pointer (some ⟨w.heap.size + 1 + 1, 0, none⟩)] W0 (HDB.out.keep bW0) (HSB.out.keep bW0) (by omega) (by intros; kernel_rfl) _ rfl ?hrun).mono ?_
  case hrun =>
    intro Wd H hdk hsk hin hdv hsv hsx hsy hE hW hH
    subst hdk hsk
    obtain ⟨f, SP, Res, hD, hS, sS, hcl, hdr, hres⟩ := coreFSrc d1 d2 d3 d4 dA dn dc ds ra rb rc rd s1 s2 s3 s4 sA sn sc ss W0 (HDB.out.keep bW0) (HSB.out.keep bW0) h1 h2 hdv hsv hin _ rfl hE Wd H hW hH
    refine runOk_of (fun W hb => ?_) hres
    exact clo42_any w.heap.size (w.heap.size + 1) (w.heap.size + 1 + 1) 0 0 d1 d2 d3 d4 _ dn ra rb rc rd _ s1 s2 s3 s4 _ Res W (B0.out.keep hb) (B1.out.keep hb) (B2.out.keep hb) fun W' hb' =>
      impl43_any d1 d2 d3 d4 dA dn dc ds Wd H f ⟨ra, rb, rc, rd⟩ _ s1 s2 s3 s4 sA sn sc ss SP _ Res W' ((HDB.out.keep bW0).keep (hb.trans (hb'.mono hb.size))) ((HSB.out.keep bW0).keep (hb.trans (hb'.mono hb.size))) h1 h2 hD hS sS hcl hE hdr
  rintro e w1 ⟨rfl, hb1⟩
  have bw1 := bW0.trans (hb1.mono (by omega))
  clear hb1 B0 B1 B2 B3 B4
  go_wp2_with fail
  go_returns
  exact ⟨rfl, bw1⟩

theorem law13 (dk d1 d2 d3 d4 : Int) (dA : Option Addr) (dn dc : Nat) (ds : List Int) (ra rb rc rd : Int) (sk s1 s2 s3 s4 : Int) (sA : Option Addr) (sn sc : Nat) (ss : List Int) (w : World)
    (hdb : ByteSl w dA dn dc ds) (hsb : ByteSl w sA sn sc ss) :
    Calls Try.prog 13 #[imgV dk d1 d2 d3 d4 (.slice dA dn dc), fourV ra rb rc rd, imgV sk s1 s2 s3 s4 (.slice sA sn sc)] w fun e w' => e = .returned (.bool true) ∧ Below w.heap.size w w' := by
  by_cases h : dn ≤ 2147483647 ∧ sn ≤ 2147483647
  · exact fit13 dk d1 d2 d3 d4 dA dn dc ds ra rb rc rd sk s1 s2 s3 s4 sA sn sc ss w hdb hsb h.1 h.2
  · exact unfit13 dk d1 d2 d3 d4 dA dn dc ds ra rb rc rd sk s1 s2 s3 s4 sA sn sc ss w hdb hsb h

set_option maxRecDepth 100000 in
theorem lifted13 (os : Os) (started : os.Started) (H : Type) (enc : TypeId × Value → H) :
    ReturnsInHanded {} Try.checked os 13 .any (Rows.fnFillSrcSpec.pre6 enc Try.prog Try.f13 Rows.fnFillSrcRow.domain false) (Rows.fnFillSrcSpec.post enc Try.prog Try.f13 false true false false) := by
  refine returnsInHanded_of_change_sized (C := Try.checked) own started (by kernel_rfl) Try.func13
    (ChangeSpec.witness6 (enc := enc) (C := Try.checked) false ⟨#[], #[.agg #[.int .i64 0, .int .i64 0, .int .i64 0, .int .i64 0, .int .i64 0, .slice none 0 0], .agg #[.int .i64 0, .int .i64 0, .int .i64 0, .int .i64 0], .agg #[.int .i64 0, .int .i64 0, .int .i64 0, .int .i64 0, .int .i64 0, .slice none 0 0]], []⟩ 8 (by kernel_rfl) (by kernel_rfl) (by kernel_rfl) (by kernel_rfl)) ?_
  intro W base args ds gs before hval0 hW hcnd hsz0 _
  have hval : ∀ (j : Nat) t v, Try.f13.params[j]? = some t → args[j]? = some v → Value.okWide Try.prog W .any base t v := hval0
  have hsz : (DataW.weightsEach Try.prog (Try.f13.params.toList ++ Rows.fnFillSrcSpec.plain.varTypes Try.prog) (ds ++ gs)).all (· ≤ reachBytes) = true := hsz0
  have hW' := hW
  obtain ⟨p, q, hA0, hV, rfl, hfz, hnd⟩ := hW
  have hA : DataW.TrodAll enc Try.prog W 0 (fun _ => true) true Try.f13.params.toList args.toList ds p := hA0
  rw [Try.params13] at hA hval hsz
  obtain ⟨v0, vs0, d0, ds0, p0, q0, hargs, rfl, rfl, h0, r0⟩ := trodAll_cons hA
  obtain ⟨v1, vs1, d1, ds1, p1, q1, rfl, rfl, rfl, h1, r1⟩ := trodAll_cons r0
  obtain ⟨v2, vs2, d2, ds2, p2, q2, rfl, rfl, rfl, h2, r2⟩ := trodAll_cons r1
  obtain ⟨rfl, rfl, rfl⟩ := trodAll_nil r2
  obtain rfl : args = #[v0, v1, v2] := by cases args; simp_all
  obtain ⟨rfl, rfl⟩ := trodVars_none hV
  have lt : ∀ {t : TypeId} {v : Value} {d : DataW H} {p : List MemPlace}, DataW.Trod enc Try.prog W 0 (fun _ => true) true t v d p → ∀ x ∈ p, x.block < W.heap.size := by
    rintro t v d p ⟨m, hm⟩
    exact DataW.trod_lt m _ _ _ hm
  obtain ⟨dk, i1, i2, i3, i4, dA, dn, dc, dbs, rfl, B0⟩ := open_img 0 (hval 0 24 v0 rfl rfl) h0 hsz rfl rfl
  obtain ⟨ra, rb, rc, rd, rfl⟩ := open_four (hval 1 25 v1 rfl rfl) h1
  obtain ⟨sk, s1, s2, s3, s4, sA, sn, sc, ss, rfl, B2⟩ := open_img 2 (hval 2 24 v2 rfl rfl) h2 hsz rfl rfl
  clear hA0 hval0 hsz0
  refine (law13 dk i1 i2 i3 i4 dA dn dc dbs ra rb rc rd sk s1 s2 s3 s4 sA sn sc ss W B0 B2).mono fun e W' ⟨he, bel⟩ => ?_
  subst he
  exact ⟨_, rfl, _, _, _, [], _, [], hW', trodAll_mk1 (shut_bool Try.underlying4 _),
    (trodAll_cons_mk (Below.trod laidOut (by kernel_rfl) (of_decide_eq_true (by kernel_rfl)) h0 bel (lt h0)) (trodAll_cons_mk (Below.trod laidOut (by kernel_rfl) (of_decide_eq_true (by kernel_rfl)) h1 bel (lt h1)) (trodAll_cons_mk (Below.trod laidOut (by kernel_rfl) (of_decide_eq_true (by kernel_rfl)) h2 bel (lt h2))
      trodAll_mk0))),
    rfl, bel.frame _, fun h => by cases h⟩

theorem over13 : Rows.fnFillSrcRow.holds Try.pinned (OpenSpec.ofChange Rows.fnFillSrcSpec) :=
  OpenClaim.holds_of_wide 13 Try.f13 rfl rfl rfl rfl rfl rfl rfl ⟨rfl, rfl, rfl, rfl, rfl⟩ rfl rfl rfl rfl rfl (by kernel_rfl) Try.func13 (by kernel_rfl)
    (of_decide_eq_true (by kernel_rfl)) (by unfold Func.isWrapper; first | (rw [if_pos (by decide +kernel)]; kernel_rfl) | (rw [if_neg (by decide +kernel)]; exact ⟨rfl, rfl⟩))
    (fun os started H enc _ => lifted13 os started H enc)

/-- The statement. -/
theorem fnFillSrc_proved : Rows.FnFillSrcSaid := over13
#print axioms fnFillSrc_proved
end Go.Proofs.Ytlnfcjaempojgaa
