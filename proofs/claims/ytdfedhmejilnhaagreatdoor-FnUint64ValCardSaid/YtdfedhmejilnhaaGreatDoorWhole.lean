/- The reference's whole numbers: it proves that Whole answers a natural number with a sign as a fraction. Conditions: the slice reads as digits. -/
import Derived.Test.YtdfedhmejilnhaaGreatDoorSpec3
namespace Go.Proofs.YtdfedhmejilnhaaGreatDoor
open Go.RowKit

set_option maxRecDepth 100000 in
set_option maxHeartbeats 400000 in
/-- spec.Whole. -/
theorem whole_any (neg : Bool) (A : Option Addr) (n c N : Nat) (w : World) (h : Rd .i64 w A n c (digs 65536 N)) :
    Calls Tryz.prog 25 #[.bool neg, .slice A n c] w (GotRat (neg && decide (0 < N)) N 1 w) := by
  have hpos := digs_length_pos 65536 (by omega) N
  rw [h.len] at hpos
  rw [show decide (0 < N) = decide (0 < n) from decide_eq_decide.2 hpos.symm]
  clear hpos
  cases neg
  · rw [Bool.false_and]
    go_enter Tryz.func25, Tryz.ntmps25
    go_wp2_with fail
    refine (small_any 1 (by omega) _).mono ?_
    rintro e w2 ⟨A2, n2, c2, rfl, hr2, hb2⟩
    have hB2 : Box w2 w.heap.size 31 #[.bool false, .slice none 0 0, .slice none 0 0] := (Box.new w _ _ _ rfl).below hb2 (by simp)
    have hr' := (h.alloc (.cells #[.bool false, .slice none 0 0, .slice none 0 0] 31)).below hb2
    obtain ⟨k0, k1, k2, f0, f1, f2, hlt⟩ := hB2.three
    have hbel : Below w.heap.size w w2 := ((Below.refl _ w).alloc (Nat.le_refl _) _).trans (hb2.mono (by simp))
    go_wp2
    have hend := rat_end (neg := false) hB2 (by simp [notInt]) hr' hr2 hbel (Nat.le_refl w.heap.size) _ rfl
    obtain ⟨r0, r1, r2, hgot⟩ := hend
    exact bodyPost_ret (v := .agg #[.bool false, .slice A n c, .slice A2 n2 c2]) (by simp [results, Tryz.results25, go_sem, r0, r1, r2]) rfl hgot
  · rw [Bool.true_and]
    by_cases hn : 0 < n
    · rw [decide_eq_true hn]
      have hd : decide ((0 : Int) < (n : Int)) = true := decide_eq_true (by omega)
      go_enter Tryz.func25, Tryz.ntmps25
      go_wp2_with fail
      refine (small_any 1 (by omega) _).mono ?_
      rintro e w2 ⟨A2, n2, c2, rfl, hr2, hb2⟩
      have hB2 : Box w2 w.heap.size 31 #[.bool false, .slice none 0 0, .slice none 0 0] := (Box.new w _ _ _ rfl).below hb2 (by simp)
      have hr' := (h.alloc (.cells #[.bool false, .slice none 0 0, .slice none 0 0] 31)).below hb2
      obtain ⟨k0, k1, k2, f0, f1, f2, hlt⟩ := hB2.three
      have hbel : Below w.heap.size w w2 := ((Below.refl _ w).alloc (Nat.le_refl _) _).trans (hb2.mono (by simp))
      go_wp2
      have hend := rat_end (neg := true) hB2 (by simp [notInt]) hr' hr2 hbel (Nat.le_refl w.heap.size) _ rfl
      obtain ⟨r0, r1, r2, hgot⟩ := hend
      exact bodyPost_ret (v := .agg #[.bool true, .slice A n c, .slice A2 n2 c2]) (by simp [results, Tryz.results25, go_sem, r0, r1, r2]) rfl hgot
    · rw [decide_eq_false hn]
      obtain rfl : n = 0 := by omega
      go_enter Tryz.func25, Tryz.ntmps25
      go_wp2_with fail
      refine (small_any 1 (by omega) _).mono ?_
      rintro e w2 ⟨A2, n2, c2, rfl, hr2, hb2⟩
      have hB2 : Box w2 w.heap.size 31 #[.bool false, .slice none 0 0, .slice none 0 0] := (Box.new w _ _ _ rfl).below hb2 (by simp)
      have hr' := (h.alloc (.cells #[.bool false, .slice none 0 0, .slice none 0 0] 31)).below hb2
      obtain ⟨k0, k1, k2, f0, f1, f2, hlt⟩ := hB2.three
      have hbel : Below w.heap.size w w2 := ((Below.refl _ w).alloc (Nat.le_refl _) _).trans (hb2.mono (by simp))
      go_wp2
      have hend := rat_end (neg := false) hB2 (by simp [notInt]) hr' hr2 hbel (Nat.le_refl w.heap.size) _ rfl
      obtain ⟨r0, r1, r2, hgot⟩ := hend
      exact bodyPost_ret (v := .agg #[.bool false, .slice A 0 c, .slice A2 n2 c2]) (by simp [results, Tryz.results25, go_sem, r0, r1, r2]) rfl hgot
end Go.Proofs.YtdfedhmejilnhaaGreatDoor
