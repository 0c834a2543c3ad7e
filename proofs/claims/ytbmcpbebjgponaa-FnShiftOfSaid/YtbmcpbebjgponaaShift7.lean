/- A number of 64 bits as an integer with no room: it proves that i64toi answers an integer of at most one word, with a capacity of at most 1. Conditions: the number is not below 0. -/
import Derived.Test.YtbmcpbebjgponaaShift6
import Derived.Test.YtbmcpbebjgponaaConst2
namespace Go.Proofs.Ytbmcpbebjgponaa
open Go.RowKit

/-- A slice in new memory, with a capacity of at most 1. -/
def GotOne (N : Nat) (w : World) (e : Ending) (w' : World) : Prop :=
  ∃ A n c, e = .returned (.slice A n c) ∧ c ≤ 1 ∧ Rd .u64 w' A n c (digs W64 N) ∧ Below w.heap.size w w'
/-- The integer at g, whose words have a capacity of at most 1. -/
def SetOne (g : Nat) (N : Nat) (w : World) (e : Ending) (w' : World) : Prop :=
  e = .returned (.pointer (some ⟨g, 0, none⟩)) ∧ (∃ A n c, Box w' g 101 #[.bool false, .slice A n c] ∧ c ≤ 1 ∧ Rd .u64 w' A n c (digs W64 N)) ∧ w.grownBy w' (some g)

set_option maxRecDepth 100000 in
set_option maxHeartbeats 400000 in
/-- nat.make of one word. -/
theorem make_one (w : World) : Calls Try.prog 69 #[.slice none 0 0, .int .i64 1] w fun e w' => e = .returned (.slice (some ⟨w.heap.size, 0, none⟩) 1 1) ∧ w' = w.alloc (.cells (cellsOf .u64 [0]) 90) := by
  obtain ⟨i0, hi, hz0, hz1, hz2⟩ := info_parts Try.infoWord
  have H1 : ∀ w : World, (Instr.makeSlice 99 (.int .i64 1) (.int .i64 1)).run Try.prog w = .ok (.slice (some ⟨w.heap.size, 0, none⟩) 1 1) (w.alloc (.cells (cellsOf .u64 (List.replicate 1 0)) 90)) :=
    fun w => run_makeNums 99 90 i0 .u64 Try.underlying99 hi hz0 hz1 (by omega) .i64 .i64 1 1 (Nat.le_refl _) (by omega) w
  go_enter Try.func69, Try.ntmps69
  go_wp2
  go_ret
  exact ⟨rfl, rfl⟩

set_option maxRecDepth 100000 in
set_option maxHeartbeats 400000 in
theorem setWord_one (x : Nat) (hx : x < W64) (w : World) : Calls Try.prog 68 #[.slice none 0 0, .int .u64 (x : Int)] w (GotOne x w) := by
  by_cases h0 : x = 0
  · subst h0
    show Calls Try.prog 68 #[.slice none 0 0, .int .u64 0] w (GotOne 0 w)
    clear hx
    go_enter Try.func68, Try.ntmps68
    go_wp2
    go_ret
    exact ⟨_, _, _, rfl, by omega, by rw [digs_zero]; exact Rd.nil _ _ (by simp), Below.refl _ _⟩
  · have hd := Lib.hid (digs_word x (by omega) hx)
    have hb0 : ((x : Int) == 0) = false := by simp; omega
    clear hx
    go_enter Try.func68, Try.ntmps68
    go_wp2_with fail
    refine (make_one _).mono ?_
    rintro e w1 ⟨rfl, hw1⟩
    have hr : Row .u64 90 w1 w.heap.size [0] := by rw [hw1]; exact Row.new _ _ _ _ _ rfl
    have hb : Below w.heap.size w w1 := by rw [hw1]; exact (Below.refl _ _).alloc (Nat.le_refl _) _
    clear hw1
    have hz := hr.lt
    have hcell : w1.cell? ⟨w.heap.size, 0, none⟩ = some (.int .u64 0) := by rw [hr.cell (by simp)]; simp
    have hfr := hr.free 0
    go_wp2
    go_ret
    refine ⟨_, _, _, rfl, by omega, ?_, hb.setCell (Nat.le_refl _) _⟩
    have hr2 := hr.set 0 x
    have hr3 := hr2.rd (n := 1) (by simp) (by simp [maxLen])
    rw [hd.out]
    simpa using hr3

set_option maxRecDepth 100000 in
set_option maxHeartbeats 400000 in
theorem setUint64_one (x : Nat) (hx : x < W64) (w : World) : Calls Try.prog 60 #[.slice none 0 0, .int .u64 (x : Int)] w (GotOne x w) := by
  have H := Lib.hid (setWord_one x hx)
  clear hx
  go_enter Try.func60, Try.ntmps60
  go_wp2_with fail
  refine (H.out _).mono ?_
  rintro e w1 ⟨A, n, c, rfl, hc1, hr, hb⟩
  go_wp2
  go_ret
  exact ⟨_, _, _, rfl, hc1, hr, hb⟩

set_option maxRecDepth 100000 in
set_option maxHeartbeats 400000 in
theorem setInt64_one (g : Nat) (x : Nat) (hx : x < 9223372036854775808) (w : World) (hB : Box w g 101 #[.bool false, .slice none 0 0]) :
    Calls Try.prog 57 #[.pointer (some ⟨g, 0, none⟩), .int .i64 (x : Int)] w (SetOne g x w) := by
  obtain ⟨k0, k1, f0, f1, hlt⟩ := hB.two
  have H := Lib.hid (setUint64_one x (show x < 18446744073709551616 by omega))
  have hn : ¬ (x : Int) < 0 := by omega
  have hle : (x : Int) ≤ 9223372036854775807 := by omega
  clear hx
  go_enter Try.func57, Try.ntmps57
  go_wp2_with fail
  refine (H.out _).mono ?_
  rintro e w1 ⟨A, n, c, rfl, hc1, hr, hb⟩
  have hB1 := hB.below hb hlt
  obtain ⟨j0, j1, e0, e1, hlt1⟩ := hB1.two
  go_wp2
  go_ret
  have hs := int_set (neg := false) hB1 (by simp [notInt]) hr
  exact ⟨rfl, ⟨A, n, c, (hB1.set 1 _).set 0 _, hc1, hr.grown hB1 (by simp [notInt]) hs.2⟩, grown_trans (grown_below hb _) hs.2⟩

/-- A new integer, whose words have a capacity of at most 1. -/
def NewOne (N : Nat) (w : World) (e : Ending) (w' : World) : Prop :=
  ∃ g, e = .returned (.agg #[.pointer (some ⟨g, 0, none⟩)]) ∧ (∃ A n c, Box w' g 101 #[.bool false, .slice A n c] ∧ c ≤ 1 ∧ Rd .u64 w' A n c (digs W64 N)) ∧ Below w.heap.size w w' ∧ w.heap.size ≤ g

theorem i64toi_end2 {w w2 : World} {g N : Nat} {x : Value} (hI : ∃ A n c, Box w2 g 101 #[.bool false, .slice A n c] ∧ c ≤ 1 ∧ Rd .u64 w2 A n c (digs W64 N)) (hB : Box w2 w.heap.size 74 #[x]) (hx : notInt x = true) (hb : Below w.heap.size w w2) (hg : w.heap.size < g) :
    ∀ w3, w3 = w2.setCell ⟨w.heap.size, 0, none⟩ (.pointer (some ⟨g, 0, none⟩)) → w3.cell? ⟨w.heap.size, 0, none⟩ = some (.pointer (some ⟨g, 0, none⟩)) ∧ NewOne N w (.returned (.agg #[.pointer (some ⟨g, 0, none⟩)])) w3 := by
  rintro w3 rfl
  have hB3 := hB.set 0 (.pointer (some ⟨g, 0, none⟩))
  obtain ⟨k0, _⟩ := Box.one (x := .pointer (some ⟨g, 0, none⟩)) hB3
  obtain ⟨A, n, c, hBi, hc, hr⟩ := hI
  have hgr := grown_set (grown_refl w2 (some w.heap.size)) 0 (.pointer (some ⟨g, 0, none⟩))
  exact ⟨k0, g, rfl, ⟨A, n, c, hBi.grown hgr (by omega), hc, hr.grown hB (by simp [hx]) hgr⟩, hb.setCell (Nat.le_refl _) _, by omega⟩

set_option maxRecDepth 100000 in
set_option maxHeartbeats 400000 in
/-- constant.i64toi of a number that is not below 0. -/
theorem i64toi_one (N : Nat) (hN : N < 9223372036854775808) (w : World) : Calls Try.prog 45 #[.int .i64 (N : Int)] w (NewOne N w) := by
  have HS := Lib.hid (fun g w hB => setInt64_one g N hN w hB)
  clear hN
  go_enter Try.func45, Try.ntmps45
  go_wp2_with fail
  refine (newInt_any _).mono ?_
  rintro e w1 ⟨rfl, rfl⟩
  go_wp2_with fail
  refine (HS.out _ _ (Box.new _ _ _ _ (by simp))).mono ?_
  rintro e w2 ⟨rfl, hI, hg⟩
  have hB0 := ((Box.new w 74 #[.pointer none] w.heap.size rfl).alloc (.cells #[.bool false, .slice none 0 0] 101)).grown hg (by simp)
  have hb0 : Below w.heap.size w w2 := below_of_grown (((Below.refl _ w).alloc (Nat.le_refl _) _).alloc (by simp) _) hg (by simp; omega) (by omega)
  obtain ⟨k0, f0, hlt⟩ := hB0.one
  go_wp2
  have hend := i64toi_end2 hI hB0 (by simp [notInt]) hb0 (by simp) _ rfl
  obtain ⟨r0, hgot⟩ := hend
  exact bodyPost_ret (v := .agg #[.pointer (some ⟨w.heap.size + 1, 0, none⟩)]) (by simp [results, Try.results45, go_sem, r0]) rfl hgot
end Go.Proofs.Ytbmcpbebjgponaa
