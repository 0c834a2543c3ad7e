/- The value of the thin package that a law is given: it proves that zzFits1 answers some truth. No conditions. -/
import Derived.Test.YtdfedhmejilnhaaGreatDoorMem
import Derived.Outline
namespace Go.Proofs.YtdfedhmejilnhaaGreatDoor
open Go.RowKit

/-- Some truth; what was there is as it was. -/
def SomeB (w : World) (e : Ending) (w' : World) : Prop := ∃ b, e = .returned (.bool b) ∧ Below w.heap.size w w'

/-- This truth; what was there is as it was. -/
def TheB (b : Bool) (w : World) (e : Ending) (w' : World) : Prop := e = .returned (.bool b) ∧ Below w.heap.size w w'

theorem Box.nine {w : World} {g : Nat} {t : TypeId} {x0 x1 x2 x3 x4 x5 x6 x7 x8 : Value} (h : Box w g t #[x0, x1, x2, x3, x4, x5, x6, x7, x8]) :
    w.cell? ⟨g, 0, none⟩ = some x0 ∧ w.cell? ⟨g, 1, none⟩ = some x1 ∧ w.cell? ⟨g, 2, none⟩ = some x2 ∧ w.cell? ⟨g, 3, none⟩ = some x3 ∧ w.cell? ⟨g, 4, none⟩ = some x4 ∧
    w.cell? ⟨g, 5, none⟩ = some x5 ∧ w.cell? ⟨g, 6, none⟩ = some x6 ∧ w.cell? ⟨g, 7, none⟩ = some x7 ∧ w.cell? ⟨g, 8, none⟩ = some x8 ∧ g < w.heap.size :=
  ⟨by rw [h.cell]; rfl, by rw [h.cell]; rfl, by rw [h.cell]; rfl, by rw [h.cell]; rfl, by rw [h.cell]; rfl, by rw [h.cell]; rfl, by rw [h.cell]; rfl, by rw [h.cell]; rfl, by rw [h.cell]; rfl, h.lt⟩

set_option maxRecDepth 100000 in
set_option maxHeartbeats 400000 in
/-- laws.zzFits2. -/
theorem fits2_any (neg : Bool) (A : Option Addr) (n c : Nat) (w : World) : Calls Tryz.prog 17 #[.agg #[.bool neg, .slice A n c]] w (SomeB w) := by
  go_enter Tryz.func17, Tryz.ntmps17
  go_wp2
  all_goals
    go_ret
    exact ⟨_, rfl, (Below.refl _ _).alloc (Nat.le_refl _) _⟩

set_option maxRecDepth 100000 in
set_option maxHeartbeats 800000 in
/-- laws.zzFits1. -/
theorem fits1_any (k : Int) (t : Bool) (s : _) (neg : Bool) (A : Option Addr) (n c : Nat) (A2 : Option Addr) (n2 c2 : Nat) (neg3 : Bool) (A3 : Option Addr) (n3 c3 : Nat) (A4 : Option Addr) (n4 c4 : Nat) (w : World) :
    Calls Tryz.prog 6 #[.agg #[.int .i64 k, .bool t, .string s, .bool neg, .slice A n c, .slice A2 n2 c2, .bool neg3, .slice A3 n3 c3, .slice A4 n4 c4]] w (SomeB w) := by
  have hB := Box.new w 26 #[.int .i64 k, .bool t, .string s, .bool neg, .slice A n c, .slice A2 n2 c2, .bool neg3, .slice A3 n3 c3, .slice A4 n4 c4] _ rfl
  have hb0 := (Below.refl w.heap.size w).alloc (Nat.le_refl _) (.cells #[.int .i64 k, .bool t, .string s, .bool neg, .slice A n c, .slice A2 n2 c2, .bool neg3, .slice A3 n3 c3, .slice A4 n4 c4] 26)
  go_enter Tryz.func6, Tryz.ntmps6
  go_wp2_with fail
  · go_ret
    exact ⟨_, rfl, hb0⟩
  refine (fits2_any neg A n c _).mono ?_
  rintro e w1 ⟨b, rfl, hb1⟩
  have hB1 := hB.below hb1 hB.lt
  obtain ⟨k0, k1, k2, k3, k4, k5, k6, k7, k8, hlt⟩ := hB1.nine
  have hbb := hb0.trans (hb1.mono hb0.size)
  clear hB hb0 hb1
  cases b
  · go_wp2
    go_ret
    exact ⟨_, rfl, hbb⟩
  go_wp2_with fail
  · go_ret
    exact ⟨_, rfl, hbb⟩
  refine (fits2_any neg3 A3 n3 c3 _).mono ?_
  rintro e w2 ⟨b, rfl, hb2⟩
  have hB2 := hB1.below hb2 hB1.lt
  clear k0 k1 k2 k3 k4 k5 k6 k7 k8
  obtain ⟨k0, k1, k2, k3, k4, k5, k6, k7, k8, hlt2⟩ := hB2.nine
  have hbc := hbb.trans (hb2.mono hbb.size)
  clear hB1 hb2 hbb
  cases b
  · go_wp2
    go_ret
    exact ⟨_, rfl, hbc⟩
  go_wp2
  all_goals
    go_ret
    exact ⟨_, rfl, hbc⟩
end Go.Proofs.YtdfedhmejilnhaaGreatDoor
