/- Integers without the bits of another: it proves what Int.AndNot answers of two integers below 0, of a word each. Conditions: the receiver is the first, its words lie in a row of their own. -/
import Derived.Test.YtbopmkjfmikmdaaGreatDoorNot2
namespace Go.Proofs.YtbopmkjfmikmdaaGreatDoor
open Go.RowKit

/-- nat.andNot of such as AndNot hands it. -/
theorem andNot_any (r n c N : Nat) (A B : Option Addr) (n1 c1 n2 c2 Y X Z : Nat) (w : World) (ho : OwnN w r n c N) (h1 : Rd .u64 w A n1 c1 (digs W64 Y)) (h2 : Rd .u64 w B n2 c2 (digs W64 X)) (h0 : 0 < Y) (hY : Y < W64) (hX : X < W64) (hZ : Z < W64)
    (hz0 : X = 0 → Z = Y) (hz : 0 < X → bits BinOp.andNot IntKind.u64 (Y : Int) (X : Int) = (Z : Int)) :
    Calls Tryz.prog 57 #[.slice (some ⟨r, 0, none⟩) n c, .slice A n1 c1, .slice B n2 c2] w fun e w' => (∃ m, e = .returned (.slice (some ⟨r, 0, none⟩) m c) ∧ OwnN w' r m c Z) ∧ w.grownBy w' (some r) := by
  rw [digs_word Y h0 hY] at h1
  obtain rfl : n1 = 1 := h1.len.symm
  rcases Nat.eq_zero_or_pos X with hX0 | hX0
  · subst hX0
    rw [digs_zero] at h2
    obtain rfl : n2 = 0 := h2.len.symm
    rw [hz0 rfl]
    exact andNot_none r n c N A B c1 c2 Y w ho h1 hY
  · rw [digs_word X hX0 hX] at h2
    obtain rfl : n2 = 1 := h2.len.symm
    exact andNot_word r n c N A B c1 c2 Y X Z w ho h1 h2 hZ (hz hX0)

/-- The call hands back the integer at g, which is now N; only what lies from B on has turned. -/
def SetIn (B : Nat) (w0 : World) (g : Nat) (neg : Bool) (N : Nat) (e : Ending) (w' : World) : Prop :=
  e = .returned (.pointer (some ⟨g, 0, none⟩)) ∧ IntAt w' g neg N ∧ Below B w0 w'

theorem own_store2 {B : Nat} {w0 w1 : World} {g : Nat} {x y : Value} {neg : Bool} {r n c N : Nat} (hB : Box w1 g 95 #[x, y]) (hb : Below B w0 w1) (hBg : B ≤ g) (ho : OwnN w1 r n c N) (hne : r ≠ g) :
    IntAt ((w1.setCell ⟨g, 1, none⟩ (.slice (some ⟨r, 0, none⟩) n c)).setCell ⟨g, 0, none⟩ (.bool neg)) g neg N ∧ Below B w0 ((w1.setCell ⟨g, 1, none⟩ (.slice (some ⟨r, 0, none⟩) n c)).setCell ⟨g, 0, none⟩ (.bool neg)) :=
  ⟨⟨_, n, c, (hB.set 1 _).set 0 _, (ho.grown (grown_set (grown_set (grown_refl _ _) 1 _) 0 _) hne).rd⟩, (hb.setCell hBg _).setCell hBg _⟩

set_option maxRecDepth 100000 in
set_option maxHeartbeats 1600000 in
/-- Int.AndNot of two integers below 0. -/
theorem andNotInt_any (B : Nat) (w0 : World) (g g2 M P Z : Nat) (w : World) (hb : Below B w0 w) (hBg : B ≤ g) (hI : IntOwn B w g true M) (hI2 : IntAt w g2 true P) (hM0 : 0 < M) (hM : M < W64) (hP0 : 1 < P) (hP : P < W64) (hZ : Z < W64)
    (hz0 : M - 1 = 0 → Z = P - 1) (hz : 0 < M - 1 → bits BinOp.andNot IntKind.u64 ((P - 1 : Nat) : Int) ((M - 1 : Nat) : Int) = (Z : Int)) :
    Calls Tryz.prog 33 #[.pointer (some ⟨g, 0, none⟩), .pointer (some ⟨g, 0, none⟩), .pointer (some ⟨g2, 0, none⟩)] w (SetIn B w0 g false Z) := by
  obtain ⟨r, n, c, hB, ho, hne, hBr⟩ := hI
  obtain ⟨A2, n2, c2, hB2, hr2⟩ := hI2
  obtain ⟨k0, k1, f0, f1, hlt⟩ := hB.two
  obtain ⟨i0, i1, _, _, hlt2⟩ := hB2.two
  have HX := Lib.hid (fun w' D c (hr' : Rd .u64 w' (some ⟨r, 0, none⟩) n c (digs W64 M)) d (h2 : Rd .u64 w' D 1 d [1]) => sub_one _ D n c d M w' hr' hM0 hM h2)
  have HY := Lib.hid (fun w' D (hr' : Rd .u64 w' A2 n2 c2 (digs W64 P)) d (h2 : Rd .u64 w' D 1 d [1]) => sub_one A2 D n2 c2 d P w' hr' (by omega) hP h2)
  have HA := Lib.hid (fun w' A B n1 c1 n3 c3 (ho' : OwnN w' r n c M) (h1 : Rd .u64 w' A n1 c1 (digs W64 (P - 1))) (h2 : Rd .u64 w' B n3 c3 (digs W64 (M - 1))) => andNot_any r n c M A B n1 c1 n3 c3 (P - 1) (M - 1) Z w' ho' h1 h2 (by omega) (by omega) (by omega) hZ hz0 hz)
  have HB := Lib.hid hB
  have HB2 := Lib.hid hB2
  have HO := Lib.hid ho
  have HR := Lib.hid ho.rd
  have HR2 := Lib.hid hr2
  have HBL := Lib.hid hb
  have hrl := ho.lt
  clear hB hB2 ho hr2 hb hM0 hM hP0 hP hZ hz0 hz
  go_enter Tryz.func33, Tryz.ntmps33
  go_wp2_with fail
  go_quiet (fail)
  go_wp2_with fail
  have hb0 : Below w.heap.size w (w.drewN nq) := below_drewN (Below.refl _ _) nq
  obtain ⟨s0, s1⟩ := cells_two hb0 HB.out HB2.out
  generalize w.drewN nq = wa at *
  go_region_held3 (fun w' => w'.cell? ⟨g, 1, none⟩ = some (.slice (some ⟨r, 0, none⟩) n c)) (first | exact s0 | exact hS1.1 | exact hS2.1) (first | (go_at_call 55; refine (natOne_rd _).mono ?_; rintro e w1 ⟨B1, d1, rfl, hr1, hb1'⟩; have hb1 := hb0.trans ((below_of_drew hb1').mono hb0.size); clear hb1'; have hS1 := cells_two hb1 HB.out HB2.out) | (go_at_call 54; refine (HX.out _ _ _ (HR.out.below hb1) _ hr1).mono ?_; rintro e w2 ⟨r3, n3, c3, rfl, ho3, hge3, hb2'⟩; have hb2 := hb1.trans (hb2'.mono hb1.size); clear hb2'; have hS2 := cells_two hb2 HB.out HB2.out))
  have hx1 := Lib.hid ho3.rd
  have hz2 := hb2.size
  clear hr1 ho3 hge3
  go_wp2_with fail
  go_region_held3 (fun w' => w'.cell? ⟨g2, 1, none⟩ = some (.slice A2 n2 c2)) (first | exact hS2.2 | exact hS3.2 | exact hS4.2) (first | (go_at_call 55; refine (natOne_rd _).mono ?_; rintro e w3 ⟨B3, d3, rfl, hr3, hb3'⟩; have hb3'' := below_of_drew hb3'; clear hb3'; have hb3 := hb2.trans (hb3''.mono hz2); have hS3 := cells_two hb3 HB.out HB2.out) | (go_at_call 54; refine (HY.out _ _ (HR2.out.below hb3) _ hr3).mono ?_; rintro e w4 ⟨r5, n5, c5, rfl, ho5, hge5, hb4'⟩; have hb4 := hb3.trans (hb4'.mono hb3.size); have hS4 := cells_two hb4 HB.out HB2.out))
  have hy1 := Lib.hid ho5.rd
  have hx2 := Lib.hid ((hx1.out.below hb3'').below hb4')
  have hBx := HB.out.below hb4 hlt
  obtain ⟨t0, t1, u0, u1, hlt4⟩ := hBx.two
  have ho4 := Lib.hid (HO.out.below hb4)
  have HB4 := Lib.hid hb4
  have HBX := Lib.hid hBx
  clear hr3 ho5 hge5 hb3'' hb4' hb4 hb3 hBx
  go_wp2_with fail
  refine (HA.out _ _ _ _ _ _ _ ho4.out hy1.out hx2.out).mono ?_
  rintro e w5 ⟨⟨m, rfl, ho6⟩, hg6⟩
  have hB6 := HBX.out.grown hg6 (fun e => hne e.symm)
  obtain ⟨v0, v1, y0, y1, hlt5⟩ := hB6.two
  have hb5 := below_of_grown (HBL.out.trans (HB4.out.mono (by omega))) hg6 (by have := HB4.out.size; omega) hBr
  have HF := Lib.hid (own_store2 (neg := false) hB6 hb5 hBg ho6 hne)
  clear ho6 hg6 hB6 hb5
  go_wp2
  go_ret
  exact ⟨rfl, HF.out.1, HF.out.2⟩
end Go.Proofs.YtbopmkjfmikmdaaGreatDoor
