/- Contract of ZZImage.make at kind 6 (Uniform) and below 0. -/
import Derived.Test.YtlnfcjaempojgaaC2
namespace Go.Proofs.Ytlnfcjaempojgaa
open Go.RowKit

theorem ofInt_u16 (a : Nat) (ha : a < 65536) : (BitVec.ofInt 16 (a : Int)).toNat = a := by
  rw [BitVec.ofInt_natCast, BitVec.toNat_ofNat]; exact Nat.mod_eq_of_lt (by omega)
theorem u16_or_nat (a b : Nat) (ha : a < 65536) (hb : b < 65536) : bits .or .u16 (a : Int) (b : Int) = ((a ||| b : Nat) : Int) := by
  have hx : a ||| b < 2 ^ 16 := Nat.or_lt_two_pow (by omega) (by omega)
  show IntKind.u16.wrap ((BitVec.ofInt 16 (a : Int) ||| BitVec.ofInt 16 (b : Int)).toNat : Int) = _
  rw [BitVec.toNat_or, ofInt_u16 a ha, ofInt_u16 b hb, IntWalk.u16_in _ (by omega)]
theorem or16u {a b : Int} (ha : 0 ≤ a ∧ a ≤ 255) (hb : 0 ≤ b ∧ b ≤ 255) : bits .or .u16 (a * 256) b = a * 256 + b := by
  obtain ⟨x, rfl⟩ := Int.eq_ofNat_of_zero_le ha.1
  obtain ⟨y, rfl⟩ := Int.eq_ofNat_of_zero_le hb.1
  have e : ((x : Int) * 256) = ((x * 256 : Nat) : Int) := by omega
  rw [e, u16_or_nat _ _ (by omega) (by omega)]
  have h := Nat.shiftLeft_add_eq_or_of_lt (i := 8) (b := y) (by omega) x
  rw [Nat.shiftLeft_eq] at h
  rw [show (2 : Nat) ^ 8 = 256 from rfl] at h
  rw [← h]
  omega

theorem clo_any (K : Int) (k : Nat) (hK : K = (k : Int)) (hk : k < 4) (p g c : Nat) (bs : List Int) (w : World) (hp : w.cell? ⟨p, 0, none⟩ = some (.slice (some ⟨g, 0, none⟩) 8 c))
    (hr : ∀ j, 0 ≤ bs.getD j 0 ∧ bs.getD j 0 ≤ 255) (hcell : ∀ j, j < 8 → w.cell? ⟨g, j, none⟩ = some (.int .u8 (bs.getD j 0))) :
    Calls Try.prog 99 #[iv K, .pointer (some ⟨p, 0, none⟩)] w fun e w' => e = .returned (.int .u16 (w16 bs (2 * k))) ∧ Below w.heap.size w w' := by
  subst hK
  have c0 : w.cell? ⟨g, 2 * k, none⟩ = some (.int .u8 (bs.getD (2 * k) 0)) := hcell (2 * k) (by omega)
  have c1 : w.cell? ⟨g, 2 * k + 1, none⟩ = some (.int .u8 (bs.getD (2 * k + 1) 0)) := hcell (2 * k + 1) (by omega)
  have r0 := hr (2 * k)
  have r1 := hr (2 * k + 1)
  have hw : w16 bs (2 * k) = bs.getD (2 * k) 0 * 256 + bs.getD (2 * k + 1) 0 := rfl
  rw [hw]
  clear hw hcell hr
  generalize bs.getD (2 * k) 0 = a at *
  generalize bs.getD (2 * k + 1) 0 = b at *
  have hk0 : (0 : Int) ≤ (k : Int) := by omega
  have v1 : IntKind.i64.wrap (2 * (k : Int)) = 2 * (k : Int) := IntWalk.i64_in _ (by omega)
  have v2 : IntKind.i64.wrap (2 * (k : Int) + 1) = 2 * (k : Int) + 1 := IntWalk.i64_in _ (by omega)
  have v3 : (2 * (k : Int)).toNat = 2 * k := by omega
  have v4 : (2 * (k : Int) + 1).toNat = 2 * k + 1 := by omega
  go_enter Try.func99, Try.ntmps99
  go_wp2
  go_quiet (fail)
  go_wp2
  go_returns
  exact ⟨congrArg (fun x => Ending.returned (.int .u16 x)) (or16u r0 r1), by (repeat' (first | (with_reducible exact Below.refl _ _) | (with_reducible assumption) | (with_reducible refine drewN_below ?_ _) | (with_reducible refine Below.drew ?_) | (with_reducible refine Below.alloc ?_ ?_ _) | (with_reducible refine Below.setCell ?_ ?_ _) | (with_reducible refine below_via (by with_reducible assumption) ?_ ?_) | go_size))⟩

/-- What the closure v of make reads. -/
structure Clo (w : World) (p g c : Nat) (bs : List Int) : Prop where
  ph : p < w.heap.size
  gh : g < w.heap.size
  pc : w.cell? ⟨p, 0, none⟩ = some (.slice (some ⟨g, 0, none⟩) 8 c)
  gc : ∀ j, j < 8 → w.cell? ⟨g, j, none⟩ = some (.int .u8 (bs.getD j 0))
theorem Clo.keep {w W : World} {p g c : Nat} {bs : List Int} (h : Clo w p g c bs) (hb : Below w.heap.size w W) : Clo W p g c bs :=
  ⟨Nat.lt_of_lt_of_le h.ph hb.size, Nat.lt_of_lt_of_le h.gh hb.size, (hb.cell (p := ⟨p, 0, none⟩) h.ph).trans h.pc, fun j hj => (hb.cell (p := ⟨g, j, none⟩) h.gh).trans (h.gc j hj)⟩

theorem newUni_any (v : Value) (T : TypeId) (w : World) :
    Calls Try.prog 100 #[.iface T v] w fun e w' => e = .returned (.pointer (some ⟨w.heap.size, 0, none⟩)) ∧ w.alloc (.cells #[.iface T v] 129) = w' := by
  go_enter Try.func100, Try.ntmps100
  go_wp2
  go_returns
  exact ⟨rfl, rfl⟩

abbrev colV (bs : List Int) : Value := .agg #[.int .u16 (w16 bs 0), .int .u16 (w16 bs 2), .int .u16 (w16 bs 4), .int .u16 (w16 bs 6)]
/-- A new Uniform image of the color of the eight bytes bs. -/
def MadeUni (bs : List Int) (w : World) (e : Ending) (w' : World) : Prop :=
  ∃ g, e = .returned (.iface 103 (.pointer (some ⟨g, 0, none⟩))) ∧ Below w.heap.size w w' ∧ w.heap.size ≤ g ∧ Blk w' g 129 #[.iface 122 (colV bs)]

set_option maxHeartbeats 1000000 in
theorem make6_some (x0 y0 x1 y1 : Int) (ad : Addr) (c : Nat) (bs : List Int) (w : World) (hlen : bs.length = 8) (hr : ∀ j, 0 ≤ bs.getD j 0 ∧ bs.getD j 0 ≤ 255) (hlt : ad.block < w.heap.size)
    (hcell : ∀ j u, (u8s bs)[j]? = some u → w.cell? (ad.add j) = some u) :
    Calls Try.prog 69 #[imgV 6 x0 y0 x1 y1 (.slice (some ad) 8 c)] w (MadeUni bs w) := by
  obtain ⟨i5, hi, hz0, hz1, hz2⟩ := info_parts info5
  have HC := hid hcell
  have HL := hid hlen
  have HR := hid hr
  clear hcell hlen hr
  go_enter Try.func69, Try.ntmps69
  go_wp2_with (at_builtin; refine wpList_append_own _ rfl _ _ 22 rfl (w.heap.size + 2) 5 i5 (.int .u8 0) 1 1 Try.underlying22 hi hz0 hz1 hz2 rfl (by decide) _ _ _ rfl (World.ownsRow_nil _ _ _ _) ad 8 c (u8s bs) rfl ?c1 ?c2 ?c3 ?c4 ?c5 ?c6 ?_)
  case c1 => simp [HL.out]
  case c2 =>
    intro j u hu
    have hb : (ad.add j).block = ad.block := by unfold Addr.add; split <;> rfl
    rw [World.cell?_alloc_lt _ _ _ (by rw [hb]; simp; omega), World.cell?_alloc_lt _ _ _ (by rw [hb]; exact hlt)]
    exact HC.out j u hu
  case c3 =>
    intro u hu
    obtain ⟨b, _, rfl⟩ := List.mem_map.1 hu
    rfl
  case c4 => unfold maxLen; omega
  case c5 => omega
  case c6 => simp
  intro v' w1 hown hgr hvn
  clear hvn
  have hgn := hgr
  simp only [Value.ownBlock] at hgn
  have E0 : Blk w1 w.heap.size 59 #[iv 6, iv x0, iv y0, iv x1, iv y1, .slice (some ad) 8 c] := Blk.grown (Blk.alloc (Blk.new _ _ _) _) hgn (by simp)
  have E1 : Blk w1 (w.heap.size + 1) 73 #[iv x0, iv y0, iv x1, iv y1] := Blk.grown (Blk.new_at (by simp)) hgn (by simp)
  have hb1 : Below w.heap.size w w1 := below_via (grown_below hgn) (by (repeat' (first | (with_reducible exact Below.refl _ _) | (with_reducible assumption) | (with_reducible refine drewN_below ?_ _) | (with_reducible refine Below.drew ?_) | (with_reducible refine Below.alloc ?_ ?_ _) | (with_reducible refine Below.setCell ?_ ?_ _) | (with_reducible refine below_via (by with_reducible assumption) ?_ ?_) | go_size))) (by simp; omega)
  obtain ⟨A, c', rfl⟩ : ∃ A c', v' = .slice A 8 c' := ownsRow_slice hown
  obtain ⟨g, rfl, hg, hgc⟩ : ∃ g, A = some ⟨g, 0, none⟩ ∧ g < w1.heap.size ∧ ∀ j, j < 8 → w1.cell? ⟨g, j, none⟩ = some (.int .u8 (bs.getD j 0)) := by
    rcases own_cases hown with ⟨_, h, _⟩ | ⟨g, rfl, hl, hg, hc⟩
    · omega
    · refine ⟨g, rfl, hg, fun j hj => ?_⟩
      have hjl : j < bs.length := by omega
      have := hc j (.int .u8 (bs.getD j 0)) (by rw [List.getElem?_map, List.getElem?_eq_getElem hjl]; simp [hjl])
      rw [Addr.add_lit] at this
      simpa using this
  have hsz := E1.lt
  have hsz0 := E0.lt
  have C0 := E0.cells6
  have C1 := E1.cells4.1
  have HG := hid hgc
  clear hown hgr hgn E0 E1 hlt hgc
  go_wp2_with fail
  have K0 : Clo (w1.alloc (.cells #[.slice (some ⟨g, 0, none⟩) 8 c'] 22)) w1.heap.size g c' bs := ⟨by simp, by simp; omega, (Blk.new w1 22 #[.slice (some ⟨g, 0, none⟩) 8 c']).cell 0, fun j hj => by
    rw [World.cell?_alloc_lt _ _ _ hg]; exact HG.out j hj⟩
  have hB0 : Below w.heap.size w (w1.alloc (.cells #[.slice (some ⟨g, 0, none⟩) 8 c'] 22)) := by (repeat' (first | (with_reducible exact Below.refl _ _) | (with_reducible assumption) | (with_reducible refine drewN_below ?_ _) | (with_reducible refine Below.drew ?_) | (with_reducible refine Below.alloc ?_ ?_ _) | (with_reducible refine Below.setCell ?_ ?_ _) | (with_reducible refine below_via (by with_reducible assumption) ?_ ?_) | go_size))
  have hs0 : w.heap.size ≤ (w1.alloc (.cells #[.slice (some ⟨g, 0, none⟩) 8 c'] 22)).heap.size := hB0.size
  clear C0 C1 hb1 hi hz0 hz1 hz2 HG
  refine (clo_any 0 0 rfl (by omega) _ g c' bs _ K0.pc HR.out K0.gc).mono ?_
  rintro e W1 ⟨rfl, hb0⟩
  have K1 := K0.keep hb0
  have hB1 := hB0.trans (hb0.mono hs0)
  have hs1 := hB1.size
  clear hb0 K0 hB0 hs0
  go_wp2_with fail
  refine (clo_any 1 1 rfl (by omega) _ g c' bs _ K1.pc HR.out K1.gc).mono ?_
  rintro e W2 ⟨rfl, hb1⟩
  have K2 := K1.keep hb1
  have hB2 := hB1.trans (hb1.mono hs1)
  have hs2 := hB2.size
  clear hb1 K1 hB1 hs1
  go_wp2_with fail
  refine (clo_any 2 2 rfl (by omega) _ g c' bs _ K2.pc HR.out K2.gc).mono ?_
  rintro e W3 ⟨rfl, hb2⟩
  have K3 := K2.keep hb2
  have hB3 := hB2.trans (hb2.mono hs2)
  have hs3 := hB3.size
  clear hb2 K2 hB2 hs2
  go_wp2_with fail
  refine (clo_any 3 3 rfl (by omega) _ g c' bs _ K3.pc HR.out K3.gc).mono ?_
  rintro e W4 ⟨rfl, hb3⟩
  have K4 := K3.keep hb3
  have hB4 := hB3.trans (hb3.mono hs3)
  have hs4 := hB4.size
  clear hb3 K3 hB3 hs3
  go_wp2_with fail
  refine (newUni_any _ 122 _).mono ?_
  rintro e w' ⟨rfl, rfl⟩
  go_wp2
  go_returns
  exact ⟨W4.heap.size, rfl, by (repeat' (first | (with_reducible exact Below.refl _ _) | (with_reducible assumption) | (with_reducible refine drewN_below ?_ _) | (with_reducible refine Below.drew ?_) | (with_reducible refine Below.alloc ?_ ?_ _) | (with_reducible refine Below.setCell ?_ ?_ _) | (with_reducible refine below_via (by with_reducible assumption) ?_ ?_) | go_size)), by omega, Blk.new _ _ _⟩

theorem make6_own (x0 y0 x1 y1 : Int) (A : Option Addr) (c : Nat) (bs : List Int) (w : World) (base : Nat) (hr : ∀ j, 0 ≤ bs.getD j 0 ∧ bs.getD j 0 ≤ 255) (hown : w.ownsRow base 5 1 (.slice A 8 c) 8 (u8s bs)) :
    Calls Try.prog 69 #[imgV 6 x0 y0 x1 y1 (.slice A 8 c)] w (MadeUni bs w) := by
  rcases own_cases hown with ⟨_, h, _⟩ | ⟨g, rfl, hlen, hg, hcell⟩
  · omega
  · exact make6_some x0 y0 x1 y1 _ c bs w hlen hr hg hcell

set_option maxRecDepth 20000 in
set_option maxHeartbeats 1000000 in
theorem makeN_nil (x0 y0 x1 y1 : Int) (w : World) :
    Calls Try.prog 69 #[imgV (-1) x0 y0 x1 y1 (.slice none 0 0)] w fun e w' => e = .returned .nilIface ∧ Below w.heap.size w w' := by
  go_enter Try.func69, Try.ntmps69
  go_wp2
  go_returns
  exact ⟨rfl, by (repeat' (first | (with_reducible exact Below.refl _ _) | (with_reducible assumption) | (with_reducible refine drewN_below ?_ _) | (with_reducible refine Below.drew ?_) | (with_reducible refine Below.alloc ?_ ?_ _) | (with_reducible refine Below.setCell ?_ ?_ _) | (with_reducible refine below_via (by with_reducible assumption) ?_ ?_) | go_size))⟩

set_option maxHeartbeats 1000000 in
theorem makeN_some (x0 y0 x1 y1 : Int) (ad : Addr) (n c : Nat) (bs : List Int) (w : World) (hlen : bs.length = n) (hfit : n ≤ 2147483647) (hlt : 0 < n → ad.block < w.heap.size)
    (hcell : ∀ j u, (u8s bs)[j]? = some u → w.cell? (ad.add j) = some u) :
    Calls Try.prog 69 #[imgV (-1) x0 y0 x1 y1 (.slice (some ad) n c)] w fun e w' => e = .returned .nilIface ∧ Below w.heap.size w w' := by
  obtain ⟨i5, hi, hz0, hz1, hz2⟩ := info_parts info5
  have HC := hid hcell
  have HL := hid hlen
  clear hcell hlen
  go_enter Try.func69, Try.ntmps69
  go_wp2_with (at_builtin; refine wpList_append_own _ rfl _ _ 22 rfl (w.heap.size + 2) 5 i5 (.int .u8 0) 1 1 Try.underlying22 hi hz0 hz1 hz2 rfl (by decide) _ _ _ rfl (World.ownsRow_nil _ _ _ _) ad n c (u8s bs) rfl ?c1 ?c2 ?c3 ?c4 ?c5 ?c6 ?_)
  case c1 => simp [HL.out]
  case c2 =>
    intro j u hu
    have hb : (ad.add j).block = ad.block := by unfold Addr.add; split <;> rfl
    have hj : j < (u8s bs).length := (List.getElem?_eq_some_iff.1 hu).1
    have hn : 0 < n := by rw [List.length_map, HL.out] at hj; omega
    have hlt' := hlt hn
    rw [World.cell?_alloc_lt _ _ _ (by rw [hb]; simp; omega), World.cell?_alloc_lt _ _ _ (by rw [hb]; exact hlt')]
    exact HC.out j u hu
  case c3 =>
    intro u hu
    obtain ⟨b, _, rfl⟩ := List.mem_map.1 hu
    rfl
  case c4 => unfold maxLen; omega
  case c5 => omega
  case c6 => simp
  intro v' w1 hown hgr hvn
  clear hvn
  have hgn := hgr
  simp only [Value.ownBlock] at hgn
  have E0 : Blk w1 w.heap.size 59 #[iv (-1), iv x0, iv y0, iv x1, iv y1, .slice (some ad) n c] := Blk.grown (Blk.alloc (Blk.new _ _ _) _) hgn (by simp)
  have hb1 : Below w.heap.size w w1 := below_via (grown_below hgn) (by (repeat' (first | (with_reducible exact Below.refl _ _) | (with_reducible assumption) | (with_reducible refine drewN_below ?_ _) | (with_reducible refine Below.drew ?_) | (with_reducible refine Below.alloc ?_ ?_ _) | (with_reducible refine Below.setCell ?_ ?_ _) | (with_reducible refine below_via (by with_reducible assumption) ?_ ?_) | go_size))) (by simp; omega)
  obtain ⟨A, c', rfl⟩ : ∃ A c', v' = .slice A n c' := ownsRow_slice hown
  have hsz0 := E0.lt
  have C0 := E0.cells6
  clear hown hgr hgn E0 hlt
  go_wp2
  go_returns
  exact ⟨rfl, by (repeat' (first | (with_reducible exact Below.refl _ _) | (with_reducible assumption) | (with_reducible refine drewN_below ?_ _) | (with_reducible refine Below.drew ?_) | (with_reducible refine Below.alloc ?_ ?_ _) | (with_reducible refine Below.setCell ?_ ?_ _) | (with_reducible refine below_via (by with_reducible assumption) ?_ ?_) | go_size))⟩

theorem makeN_own (x0 y0 x1 y1 : Int) (A : Option Addr) (n c : Nat) (bs : List Int) (w : World) (base : Nat) (hown : w.ownsRow base 5 1 (.slice A n c) n (u8s bs)) (hfit : n ≤ 2147483647) :
    Calls Try.prog 69 #[imgV (-1) x0 y0 x1 y1 (.slice A n c)] w fun e w' => e = .returned .nilIface ∧ Below w.heap.size w w' := by
  rcases own_cases hown with ⟨rfl, rfl, rfl, rfl⟩ | ⟨g, rfl, hlen, hg, hcell⟩
  · exact makeN_nil x0 y0 x1 y1 w
  · exact makeN_some x0 y0 x1 y1 _ n c bs w hlen hfit (fun _ => hg) hcell

end Go.Proofs.Ytlnfcjaempojgaa
