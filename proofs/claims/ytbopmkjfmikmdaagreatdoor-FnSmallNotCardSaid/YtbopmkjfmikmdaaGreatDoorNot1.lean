/- Integers turned: it proves what Int.Not answers of an integer of at most 64 bits, and nat.andNot, Int.AndNot of such as UnaryOp hands them on. Conditions stand at each. -/
import Derived.Test.YtbopmkjfmikmdaaGreatDoorNat2
namespace Go.Proofs.YtbopmkjfmikmdaaGreatDoor
open Go.RowKit

/-- An integer in memory whose words are a row of their own, from B on. -/
def IntOwn (B : Nat) (w : World) (g : Nat) (neg : Bool) (N : Nat) : Prop := ∃ r n c, Box w g 95 #[.bool neg, .slice (some ⟨r, 0, none⟩) n c] ∧ OwnN w r n c N ∧ r ≠ g ∧ B ≤ r
theorem IntOwn.int {B : Nat} {w : World} {g : Nat} {neg : Bool} {N : Nat} (h : IntOwn B w g neg N) : IntAt w g neg N := by
  obtain ⟨r, n, c, h1, h2, _⟩ := h
  exact ⟨_, _, _, h1, h2.rd⟩
theorem OwnN.grown {w w' : World} {r n c N g : Nat} (h : OwnN w r n c N) (hg : w.grownBy w' (some g)) (hne : r ≠ g) : OwnN w' r n c N := by
  obtain ⟨l, h1, h2⟩ := h
  exact ⟨l, Box.grown h1 hg hne, h2⟩
theorem OwnN.below {w w' : World} {r n c N : Nat} (h : OwnN w r n c N) (hb : Below w.heap.size w w') : OwnN w' r n c N := by
  obtain ⟨l, h1, h2⟩ := h
  exact ⟨l, Box.below h1 hb (Box.lt h1), h2⟩
theorem OwnN.lt {w : World} {r n c N : Nat} (h : OwnN w r n c N) : r < w.heap.size := by
  obtain ⟨l, h1, h2⟩ := h
  exact Box.lt h1
theorem IntOwn.below {B : Nat} {w w' : World} {g : Nat} {neg : Bool} {N : Nat} (h : IntOwn B w g neg N) (hb : Below w.heap.size w w') : IntOwn B w' g neg N := by
  obtain ⟨r, n, c, h1, h2, h3⟩ := h
  exact ⟨r, n, c, h1.below hb h1.lt, h2.below hb, h3⟩
/-- The call hands back the integer at g, which is now N with a sign, in a row of its own. -/
def SetOwn (g : Nat) (neg : Bool) (N : Nat) (w : World) (e : Ending) (w' : World) : Prop :=
  e = .returned (.pointer (some ⟨g, 0, none⟩)) ∧ IntOwn w.heap.size w' g neg N ∧ w.grownBy w' (some g)

/-- Both fields of an integer are stored. -/
theorem own_store {w w1 : World} {g : Nat} {x y : Value} {neg : Bool} {r n c N : Nat} (hB : Box w1 g 95 #[x, y]) (hg : w.grownBy w1 (some g)) (ho : OwnN w1 r n c N) (hne : r ≠ g) (hr : w.heap.size ≤ r) :
    IntOwn w.heap.size ((w1.setCell ⟨g, 1, none⟩ (.slice (some ⟨r, 0, none⟩) n c)).setCell ⟨g, 0, none⟩ (.bool neg)) g neg N ∧ w.grownBy ((w1.setCell ⟨g, 1, none⟩ (.slice (some ⟨r, 0, none⟩) n c)).setCell ⟨g, 0, none⟩ (.bool neg)) (some g) :=
  ⟨⟨r, n, c, (hB.set 1 _).set 0 _, ho.grown (grown_set (grown_set (grown_refl _ _) 1 _) 0 _) hne, hne, hr⟩, grown_set (grown_set hg 1 _) 0 _⟩

/-- The call hands back a slice that reads as 1. -/
def GotOne1 (w : World) (e : Ending) (w' : World) : Prop := ∃ A c, e = .returned (.slice A 1 c) ∧ Rd .u64 w' A 1 c [1] ∧ Below w.heap.size w w'
theorem natOne_rd (w : World) : Calls Tryz.prog 55 #[] w (GotOne1 w) :=
  (natOne_any w).mono fun e w' ⟨he, hw⟩ => ⟨_, _, he, by rw [hw]; exact rd_new _ _ _ _ _ rfl, by rw [hw]; exact (Below.refl _ _).alloc (Nat.le_refl _) _⟩
theorem cells_two {w w1 : World} {g g2 : Nat} {t : TypeId} {x y x2 y2 : Value} (hb : Below w.heap.size w w1) (hB : Box w g t #[x, y]) (hB2 : Box w g2 t #[x2, y2]) : w1.cell? ⟨g, 1, none⟩ = some y ∧ w1.cell? ⟨g2, 1, none⟩ = some y2 :=
  ⟨(hB.below hb hB.lt).two.2.1, (hB2.below hb hB2.lt).two.2.1⟩

set_option maxRecDepth 100000 in
set_option maxHeartbeats 800000 in
/-- Int.Not to a new integer, of a number that is not below 0. -/
theorem not_pos (g g2 N : Nat) (w : World) (hB : Box w g 95 #[.bool false, .slice none 0 0]) (hI : IntAt w g2 false N) (hN : N < 9223372036854775808) :
    Calls Tryz.prog 32 #[.pointer (some ⟨g, 0, none⟩), .pointer (some ⟨g2, 0, none⟩)] w (SetOwn g true (N + 1) w) := by
  obtain ⟨A, n, c, hB2, hr⟩ := hI
  obtain ⟨k0, k1, f0, f1, hlt⟩ := hB.two
  obtain ⟨i0, i1, _, _, hlt2⟩ := hB2.two
  have H := Lib.hid (fun w' B c2 (hr' : Rd .u64 w' A n c (digs W64 N)) (h2 : Rd .u64 w' B 1 c2 [1]) => add_one A B n c c2 N w' hr' (by omega) h2)
  have HB := Lib.hid hB
  have HB2 := Lib.hid hB2
  have HR := Lib.hid hr
  clear hr hB hB2 hN
  go_enter Tryz.func32, Tryz.ntmps32
  go_wp2_with fail
  go_region_with (first | (go_at_call 55; refine (natOne_rd _).mono ?_; rintro e w1 ⟨B, c2, rfl, hr1, hb1'⟩; have hb1 := below_of_drew hb1'; clear hb1'; obtain ⟨s0, s1⟩ := cells_two hb1 HB.out HB2.out) | (go_at_call 56; refine (H.out _ _ _ (HR.out.below hb1) hr1).mono ?_; rintro e w2 ⟨r, n2, c3, rfl, ho, hge, hb2'⟩; have hb2 := hb1.trans (hb2'.mono hb1.size); have hz1 := hb1.size; clear hb2'; have hB2' := HB.out.below hb2 hlt; obtain ⟨j0, j1, e0, e1, hlt3⟩ := hB2'.two))
  all_goals
    have HF := Lib.hid (own_store (neg := true) hB2' (grown_below hb2 _) ho (by omega) (by omega))
    clear ho hb1 hb2 hB2' hr1
    go_wp2
    go_ret
    exact ⟨rfl, HF.out.1, HF.out.2⟩
set_option maxRecDepth 100000 in
set_option maxHeartbeats 800000 in
/-- Int.Not to a new integer, of a number below 0. -/
theorem not_neg (g g2 N : Nat) (w : World) (hB : Box w g 95 #[.bool false, .slice none 0 0]) (hI : IntAt w g2 true N) (h0 : 0 < N) (hN : N < W64) :
    Calls Tryz.prog 32 #[.pointer (some ⟨g, 0, none⟩), .pointer (some ⟨g2, 0, none⟩)] w (SetOwn g false (N - 1) w) := by
  obtain ⟨A, n, c, hB2, hr⟩ := hI
  obtain ⟨k0, k1, f0, f1, hlt⟩ := hB.two
  obtain ⟨i0, i1, _, _, hlt2⟩ := hB2.two
  have H := Lib.hid (fun w' B c2 (hr' : Rd .u64 w' A n c (digs W64 N)) (h2 : Rd .u64 w' B 1 c2 [1]) => sub_one A B n c c2 N w' hr' h0 hN h2)
  have HB := Lib.hid hB
  have HB2 := Lib.hid hB2
  have HR := Lib.hid hr
  clear hr hB hB2 hN h0
  go_enter Tryz.func32, Tryz.ntmps32
  go_wp2_with fail
  go_region_with (first | (go_at_call 55; refine (natOne_rd _).mono ?_; rintro e w1 ⟨B, c2, rfl, hr1, hb1'⟩; have hb1 := below_of_drew hb1'; clear hb1'; obtain ⟨s0, s1⟩ := cells_two hb1 HB.out HB2.out) | (go_at_call 54; refine (H.out _ _ _ (HR.out.below hb1) hr1).mono ?_; rintro e w2 ⟨r, n2, c3, rfl, ho, hge, hb2'⟩; have hb2 := hb1.trans (hb2'.mono hb1.size); have hz1 := hb1.size; clear hb2'; have hB2' := HB.out.below hb2 hlt; obtain ⟨j0, j1, e0, e1, hlt3⟩ := hB2'.two))
  all_goals
    have HF := Lib.hid (own_store (neg := false) hB2' (grown_below hb2 _) ho (by omega) (by omega))
    clear ho hb1 hb2 hB2' hr1
    go_wp2
    go_ret
    exact ⟨rfl, HF.out.1, HF.out.2⟩
end Go.Proofs.YtbopmkjfmikmdaaGreatDoor
