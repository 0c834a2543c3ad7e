/- Integers shifted: it proves what Int.Lsh and Int.Rsh answer. Conditions: the shift is not 0; Lsh: the receiver has no room, or is the number itself; Rsh: the receiver is new, the number not below 0. -/
import Derived.Test.YtbopmkjfmikmdaaGreatDoorShift5
namespace Go.Proofs.YtbopmkjfmikmdaaGreatDoor
open Go.RowKit

set_option maxRecDepth 100000 in
set_option maxHeartbeats 800000 in
/-- Int.Lsh of an integer onto itself. -/
theorem intLsh_same (g : Nat) (neg : Bool) (A : Option Addr) (n c X s : Nat) (w : World) (hB : Box w g 95 #[.bool neg, .slice A n c]) (hc : c ≤ 1) (hr : Rd .u64 w A n c (digs W64 X)) (hs0 : 0 < s) (hs : s ≤ 100000) :
    Calls Tryz.prog 34 #[.pointer (some ⟨g, 0, none⟩), .pointer (some ⟨g, 0, none⟩), .int .u64 (s : Int)] w (SetTo g neg (X * 2 ^ s) w) := by
  obtain ⟨k0, k1, f0, f1, hlt⟩ := hB.two
  have hn : n ≤ 10000 := by have := hr.cap; omega
  have H := Lib.hid (fun w' (hr' : Rd .u64 w' A n c (digs W64 X)) => lsh_any A n c hc A n c X s w' hr' hn hs0 hs)
  have HB := Lib.hid hB
  have HR := Lib.hid hr
  clear hr hB
  go_enter Tryz.func34, Tryz.ntmps34
  go_wp2
  go_region_with (go_at_call 60; refine (H.out _ HR.out.drew).mono ?_; rintro e w1 ⟨A1, n1, c1, rfl, hr1, hb1⟩; have hB1 := HB.out.below (below_of_drew hb1) hlt; obtain ⟨j0, j1, e0, e1, hlt1⟩ := hB1.two)
  all_goals
    have hs1 := int_set (neg := neg) hB1 (by simp [notInt]) hr1
    have hg1 := grown_trans (grown_below (below_of_drew hb1) _) hs1.2
    have HF := Lib.hid (And.intro hs1.1 hg1)
    clear hs1 hg1 hr1 hb1 hB1
    go_wp2
    go_ret
    exact ⟨rfl, HF.out.1, HF.out.2⟩

set_option maxRecDepth 100000 in
set_option maxHeartbeats 800000 in
/-- Int.Lsh to a new integer. -/
theorem intLsh_new (g g2 : Nat) (neg : Bool) (X s : Nat) (w : World) (hB : Box w g 95 #[.bool false, .slice none 0 0]) (hI : IntAt w g2 neg X) (hX : (digs W64 X).length ≤ 10000) (hs0 : 0 < s) (hs : s ≤ 100000) :
    Calls Tryz.prog 34 #[.pointer (some ⟨g, 0, none⟩), .pointer (some ⟨g2, 0, none⟩), .int .u64 (s : Int)] w (SetTo g neg (X * 2 ^ s) w) := by
  obtain ⟨A, n, c, hB2, hr⟩ := hI
  obtain ⟨k0, k1, f0, f1, hlt⟩ := hB.two
  obtain ⟨i0, i1, _, _, hlt2⟩ := hB2.two
  have hn : n ≤ 10000 := by rw [← hr.len]; exact hX
  have H := Lib.hid (fun w' (hr' : Rd .u64 w' A n c (digs W64 X)) => lsh_any none 0 0 (by omega) A n c X s w' hr' hn hs0 hs)
  have HB := Lib.hid hB
  have HB2 := Lib.hid hB2
  have HR := Lib.hid hr
  clear hr hB hB2 hX
  go_enter Tryz.func34, Tryz.ntmps34
  go_wp2
  go_region_with (go_at_call 60; refine (H.out _ HR.out.drew).mono ?_; rintro e w1 ⟨A1, n1, c1, rfl, hr1, hb1⟩; have hB1 := HB.out.below (below_of_drew hb1) hlt; obtain ⟨j0, j1, e0, e1, hlt1⟩ := hB1.two; obtain ⟨l0, l1, _, _, hlt3⟩ := (HB2.out.below (below_of_drew hb1) hlt2).two)
  all_goals
    have hs1 := int_set (neg := neg) hB1 (by simp [notInt]) hr1
    have hg1 := grown_trans (grown_below (below_of_drew hb1) _) hs1.2
    have HF := Lib.hid (And.intro hs1.1 hg1)
    clear hs1 hg1 hr1 hb1 hB1
    go_wp2
    go_ret
    exact ⟨rfl, HF.out.1, HF.out.2⟩

end Go.Proofs.YtbopmkjfmikmdaaGreatDoor
