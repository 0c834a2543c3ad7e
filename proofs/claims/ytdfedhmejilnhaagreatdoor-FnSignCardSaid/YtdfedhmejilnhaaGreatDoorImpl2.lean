/- Sign, Bytes and Uint64Val of a value of the thin package: it proves what each answers. Conditions: the value is of Kind Int, its words are words, of at most 1000. -/
import Derived.Test.YtdfedhmejilnhaaGreatDoorImpl1
import Derived.Test.YtdfedhmejilnhaaGreatDoorBytes
import Derived.Test.YtdfedhmejilnhaaGreatDoorSpec3
namespace Go.Proofs.YtdfedhmejilnhaaGreatDoor
open Go.RowKit

theorem sgn_signN (a : Int) : sgn a = signN (decide (a < 0)) a.natAbs := by
  unfold sgn signN
  by_cases h : a < 0
  · rw [if_pos h, if_neg (by omega), decide_eq_true h]; rfl
  · by_cases h2 : 0 < a
    · rw [if_neg h, if_pos h2, if_neg (by omega), decide_eq_false h]; rfl
    · rw [if_neg h, if_neg h2, if_pos (by omega)]

set_option maxRecDepth 100000 in
set_option maxHeartbeats 400000 in
/-- Int.Sign. -/
theorem intSign_any (g : Nat) (neg : Bool) (N : Nat) (w : World) (h : IntAt w g neg N) :
    Calls Tryz.prog 33 #[.pointer (some ⟨g, 0, none⟩)] w fun e w' => e = .returned (.int .i64 (signN neg N)) ∧ w = w' := by
  obtain ⟨A, n, c, hB, hr⟩ := h
  obtain ⟨k0, k1, f0, f1, hlt⟩ := hB.two
  have hpos := digs_length_pos W64 two_W64 N
  rw [hr.len] at hpos
  by_cases hn : n = 0
  · subst hn
    have e : signN neg N = 0 := by unfold signN; rw [if_pos (by omega)]
    rw [e]
    clear hpos hr hB e
    go_enter Tryz.func33, Tryz.ntmps33
    go_wp2
    go_ret
    exact ⟨rfl, rfl⟩
  · have hn2 : ((n : Int) == 0) = false := by simp; omega
    have e : signN neg N = if neg then -1 else 1 := by unfold signN; rw [if_neg (by omega)]
    rw [e]
    clear hpos hr hB e
    cases neg
    · go_enter Tryz.func33, Tryz.ntmps33
      go_wp2
      go_ret
      exact ⟨rfl, rfl⟩
    · go_enter Tryz.func33, Tryz.ntmps33
      go_wp2
      go_ret
      exact ⟨rfl, rfl⟩

set_option maxRecDepth 100000 in
set_option maxHeartbeats 400000 in
/-- constant.Sign of a greater integer. -/
theorem sign_bv (g : Nat) (neg : Bool) (N : Nat) (w : World) (h : IntAt w g neg N) : Calls Tryz.prog 22 #[bv g] w fun e w' => e = .returned (.int .i64 (signN neg N)) ∧ Below w.heap.size w w' := by
  unfold bv
  have H := Lib.hid (intSign_any g neg N _ (h.alloc (.cells #[.pointer (some ⟨g, 0, none⟩)] 62)))
  clear h
  generalize signN neg N = x at *
  go_enter Tryz.func22, Tryz.ntmps22
  go_wp2_with fail
  refine H.out.mono ?_
  rintro e w1 ⟨rfl, rfl⟩
  go_wp2
  go_ret
  exact ⟨rfl, (Below.refl _ _).alloc (Nat.le_refl _) _⟩
theorem sign_V (v : Value) (neg : Bool) (N : Nat) (w : World) (h : IsV w v neg N) : Calls Tryz.prog 22 #[v] w fun e w' => e = .returned (.int .i64 (signN neg N)) ∧ Below w.heap.size w w' := by
  rcases h with ⟨a, rfl, _, _, h3, h4⟩ | ⟨g, rfl, hI, _⟩
  · rw [h3, h4, ← sgn_signN]
    exact (sign_i64 a w).mono fun _ _ ⟨he, hw⟩ => ⟨he, hw ▸ Below.refl _ _⟩
  · exact sign_bv g neg N w hI

set_option maxRecDepth 100000 in
set_option maxHeartbeats 400000 in
/-- impl.Sign. -/
theorem sign_impl (t : Bool) (s : ByteArray) (neg : Bool) (A : Option Addr) (n c : Nat) (l : List Nat) (A2 : Option Addr) (n2 c2 : Nat) (neg3 : Bool) (A3 : Option Addr) (n3 c3 : Nat) (A4 : Option Addr) (n4 c4 : Nat) (w : World) (h : Rd .u64 w A n c l) (hl : ∀ d ∈ l, d < W64) (hn : n ≤ 1000) :
    Calls Tryz.prog 12 #[.agg #[.int .i64 3, .bool t, .string s, .bool neg, .slice A n c, .slice A2 n2 c2, .bool neg3, .slice A3 n3 c3, .slice A4 n4 c4]] w fun e w' => e = .returned (.int .i64 (signN (neg && decide (0 < val W64 l)) (val W64 l))) ∧ Below w.heap.size w w' := by
  have HW := Lib.hid (fun w' (hb : Below w.heap.size w w') => whole_impl t s neg A n c l A2 n2 c2 neg3 A3 n3 c3 A4 n4 c4 w' (h.below hb) hl hn)
  clear h hl
  generalize (neg && decide (0 < val W64 l)) = nb at *
  generalize val W64 l = N at *
  have HS := Lib.hid (fun v w (h : IsV w v nb N) => sign_V v nb N w h)
  generalize signN nb N = x at *
  go_enter Tryz.func12, Tryz.ntmps12
  go_wp2_with fail
  refine (HW.out _ (by first | exact Below.refl _ _ | exact (Below.refl _ _).alloc (Nat.le_refl _) _)).mono ?_
  rintro e w1 ⟨v, rfl, hv, hb1⟩
  go_wp2_with fail
  refine (HS.out v _ hv).mono ?_
  rintro e w2 ⟨rfl, hb2⟩
  have hb3 : Below w.heap.size w w2 := (by first | exact hb1.trans (hb2.mono hb1.size) | exact (((Below.refl _ _).alloc (Nat.le_refl _) _).trans (hb1.mono (by simp))).trans (hb2.mono (by have := hb1.size; simp at this; omega)))
  go_wp2
  go_ret
  exact ⟨rfl, hb3⟩
end Go.Proofs.YtdfedhmejilnhaaGreatDoor
