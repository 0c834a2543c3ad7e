/- Uint64Val of a value of the thin package: it proves what it answers. Conditions: the value is of Kind Int, its words are words, of at most 1000. -/
import Derived.Test.YtdfedhmejilnhaaGreatDoorImpl1
namespace Go.Proofs.YtdfedhmejilnhaaGreatDoor
open Go.RowKit

/-- The call answers a number and whether it is exact; where it is, it is N. -/
def GotU (ex : Bool) (N : Nat) (w : World) (e : Ending) (w' : World) : Prop := ∃ u : Nat, e = .returned (.tuple #[.int .u64 (u : Int), .bool ex]) ∧ u < W64 ∧ (ex = true → u = N) ∧ Below w.heap.size w w'

theorem wrap_nat (a : Int) : ∃ u : Nat, IntKind.u64.wrap a = (u : Int) ∧ u < 18446744073709551616 := by
  refine ⟨(IntKind.u64.wrap a).toNat, ?_, ?_⟩ <;> rw [IntKind.wrap_u64] <;> omega

/-- constant.Uint64Val of an integer. -/
theorem uint64_V (v : Value) (neg : Bool) (N : Nat) (w : World) (h : IsV w v neg N) : Calls Tryz.prog 19 #[v] w (GotU (!neg && decide (N < W64)) N w) := by
  rcases h with ⟨a, rfl, h1, h2, h3, h4⟩ | ⟨g, rfl, hI, _⟩
  · refine (uint64Val_iv a w).mono fun e w' ⟨he, hw⟩ => ?_
    subst hw
    have hx : (!neg && decide (N < W64)) = decide (0 ≤ a) := by
      have : N < W64 := by unfold W64; omega
      rw [decide_eq_true this, h3, Bool.and_true]
      by_cases ha : a < 0
      · rw [decide_eq_true ha, decide_eq_false (by omega)]; rfl
      · rw [decide_eq_false ha, decide_eq_true (by omega)]; rfl
    rw [hx]
    obtain ⟨u, hu, hu2⟩ := wrap_nat a
    rw [hu] at he
    refine ⟨u, he, hu2, fun hp => ?_, Below.refl _ _⟩
    have := of_decide_eq_true hp
    rw [IntKind.wrap_u64] at hu
    omega
  · refine (uint64Val_bv g neg N w hI).mono fun e w' ⟨he, hb⟩ => ?_
    refine ⟨N % W64, he, Nat.mod_lt _ (by unfold W64; omega), fun hp => ?_, hb⟩
    simp only [Bool.and_eq_true, decide_eq_true_eq] at hp
    exact Nat.mod_eq_of_lt hp.2

set_option maxRecDepth 100000 in
set_option maxHeartbeats 400000 in
/-- impl.Uint64Val. -/
theorem uint64_impl (t : Bool) (s : ByteArray) (neg : Bool) (A : Option Addr) (n c : Nat) (l : List Nat) (A2 : Option Addr) (n2 c2 : Nat) (neg3 : Bool) (A3 : Option Addr) (n3 c3 : Nat) (A4 : Option Addr) (n4 c4 : Nat) (w : World) (h : Rd .u64 w A n c l) (hl : ∀ d ∈ l, d < W64) (hn : n ≤ 1000) :
    Calls Tryz.prog 8 #[.agg #[.int .i64 3, .bool t, .string s, .bool neg, .slice A n c, .slice A2 n2 c2, .bool neg3, .slice A3 n3 c3, .slice A4 n4 c4]] w (GotU (!(neg && decide (0 < val W64 l)) && decide (val W64 l < W64)) (val W64 l) w) := by
  have HW := Lib.hid (fun w' (hb : Below w.heap.size w w') => whole_impl t s neg A n c l A2 n2 c2 neg3 A3 n3 c3 A4 n4 c4 w' (h.below hb) hl hn)
  clear h hl
  generalize (neg && decide (0 < val W64 l)) = nb at *
  generalize val W64 l = N at *
  have HS := Lib.hid (fun v w (h : IsV w v nb N) => uint64_V v nb N w h)
  generalize (!nb && decide (N < W64)) = ex at *
  go_enter Tryz.func8, Tryz.ntmps8
  go_wp2_with fail
  refine (HW.out _ (by first | exact Below.refl _ _ | exact (Below.refl _ _).alloc (Nat.le_refl _) _)).mono ?_
  rintro e w1 ⟨v, rfl, hv, hb1⟩
  go_wp2_with fail
  refine (HS.out v _ hv).mono ?_
  rintro e w2 ⟨u, rfl, hu, hux, hb2⟩
  have hb3 : Below w.heap.size w w2 := (by first | exact hb1.trans (hb2.mono hb1.size) | exact (((Below.refl _ _).alloc (Nat.le_refl _) _).trans (hb1.mono (by simp))).trans (hb2.mono (by have := hb1.size; simp at this; omega)))
  have HU := Lib.hid hux
  clear hux
  go_wp2
  go_ret2
  exact ⟨u, rfl, hu, HU.out, hb3⟩
end Go.Proofs.YtdfedhmejilnhaaGreatDoor
