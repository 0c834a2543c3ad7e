/- The reference's natural numbers: it proves that Len answers how many bits a number has, and Has whether a bit is 1. Conditions: the slice reads as digits, of at most a million. -/
import Derived.Test.YtdfedhmejilnhaaGreatDoorSpec4
namespace Go.Proofs.YtdfedhmejilnhaaGreatDoor
open Go.RowKit

set_option maxRecDepth 100000 in
set_option maxHeartbeats 400000 in
/-- spec.Len. -/
theorem len_any (A : Option Addr) (n c a : Nat) (w : World) (h : Rd .i64 w A n c (digs 65536 a)) (hn : n ≤ 1000000) :
    Calls Tryz.prog 9 #[.slice A n c] w fun e w' => e = .returned (.int .i64 ((bl a : Nat) : Int)) ∧ w = w' := by
  by_cases h0 : n = 0
  · subst h0
    have ha : a = 0 := by
      have := (digs_length_le_iff 65536 (by omega) a 0).1 (by rw [h.len]; exact Nat.le_refl _)
      simpa using this
    subst ha
    rw [bl_zero]
    clear h
    go_enter Tryz.func9, Tryz.ntmps9
    go_wp2
    go_ret
    exact ⟨rfl, rfl⟩
  · obtain ⟨b1, o1, rfl, hb1, d, hd, hde, hc1⟩ := digit_at h (i := n - 1) (by omega)
    have hne : ((n : Int) == 0) = false := by simp; omega
    have HL : Hid (bl a = 16 * (n - 1) + bl d) := by
      have e := bl_digs a (n - 1) (by rw [h.len]; omega)
      unfold Hid; rw [e, ← hde.out]
    clear hde h
    go_enter Tryz.func9, Tryz.ntmps9
    go_wp2
    go_loop [3, 4] (fun s t => ∃ m x : Nat, x < 65536 ∧ m ≤ 16 * n + 100 ∧ s = .int .i64 (m : Int) ∧ t = .int .i64 (x : Int) ∧ Hid (bl a = m + bl x) ∧ Hid (m + bl x ≤ 16 * n)) (fun _ t => (intOf t).toNat)
    case atStart =>
      have hbd : bl d ≤ 16 := (bl_le d 16).2 (by omega)
      exact ⟨16 * (n - 1), d, hd, by omega, by go_num, rfl, HL, by unfold Hid; omega⟩
    case round =>
      obtain ⟨m, x, hx, hm, rfl, rfl, HB, HM⟩ := hrel
      by_cases hx0 : 0 < x
      · have hh := bl_half x hx0
        have HB2 : Hid (bl a = (m + 1) + bl (x / 2)) := by have := HB.out; unfold Hid; omega
        have HM2 : Hid ((m + 1) + bl (x / 2) ≤ 16 * n) := by have := HM.out; unfold Hid; omega
        have hm2 : m + 1 ≤ 16 * n := by have := HM2.out; omega
        clear hh HB HM HL
        go_wp2
        go_round
        case rel => exact ⟨m + 1, x / 2, by omega, by omega, by go_num, by go_num, HB2, HM2⟩
        case measure => simp [intOf]; omega
      · have hxe : x = 0 := by omega
        subst hxe
        have hfin : Hid (bl a = m) := by have := HB.out; rw [bl_zero] at this; exact this
        clear HB HM HL
        go_wp2
        go_ret
        exact ⟨by rw [hfin.out]; rfl, rfl⟩

theorem ofInt_i64 (a : Nat) (ha : a < 9223372036854775808) : (BitVec.ofInt 64 (a : Int)).toNat = a := by
  rw [BitVec.ofInt_natCast, BitVec.toNat_ofNat]; exact Nat.mod_eq_of_lt (by omega)
theorem i64_and_nat (a b : Nat) (ha : a < 9223372036854775808) (hb : b < 9223372036854775808) : bits .and .i64 (a : Int) (b : Int) = ((a &&& b : Nat) : Int) := by
  have hx : a &&& b < 2 ^ 63 := Nat.and_lt_two_pow _ (by omega)
  show IntKind.i64.wrap ((BitVec.ofInt 64 (a : Int) &&& BitVec.ofInt 64 (b : Int)).toNat : Int) = _
  rw [BitVec.toNat_and, ofInt_i64 a ha, ofInt_i64 b hb, IntKind.wrap_i64]
  omega

theorem has_bits (a i d r : Nat) (hd : d = a / 65536 ^ (i / 16) % 65536) (hr : r = i % 16) :
    ∃ e : Nat, bits BinOp.and IntKind.i64 ((d : Int) / 2 ^ r) 1 = (e : Int) ∧ ((e : Int) == 1) = hasB a i := by
  refine ⟨d / 2 ^ r % 2, ?_, ?_⟩
  · have hd2 : d < 65536 := by rw [hd]; exact Nat.mod_lt _ (by omega)
    have e1 : ((d : Int) / 2 ^ r) = ((d / 2 ^ r : Nat) : Int) := by simp
    have hlt : d / 2 ^ r < 9223372036854775808 := Nat.lt_of_le_of_lt (Nat.div_le_self _ _) (by omega)
    rw [e1, show (1 : Int) = ((1 : Nat) : Int) from rfl, i64_and_nat _ _ hlt (by omega), nat_mask1]
  · rw [hasB_digit, ← hd, ← hr]
    generalize d / 2 ^ r % 2 = x
    by_cases h : x = 1
    · subst h; rfl
    · rw [beq_eq_false_iff_ne.2 h, beq_eq_false_iff_ne.2 (by omega)]

set_option maxRecDepth 100000 in
set_option maxHeartbeats 400000 in
/-- spec.Has. -/
theorem has_any (A : Option Addr) (n c a i : Nat) (w : World) (h : Rd .i64 w A n c (digs 65536 a)) (hn : n ≤ 1000000) (hi : i ≤ 100000000) :
    Calls Tryz.prog 24 #[.slice A n c, .int .i64 (i : Int)] w fun e w' => e = .returned (.bool (hasB a i)) ∧ w = w' := by
  obtain ⟨q, hq⟩ : ∃ q, q = i / 16 := ⟨_, rfl⟩
  obtain ⟨r, hr⟩ : ∃ r, r = i % 16 := ⟨_, rfl⟩
  have hq2 : (i : Int) / 16 = (q : Int) := by omega
  have hr2 : (i : Int) % 16 = (r : Int) := by omega
  have hr16 : r < 16 := by omega
  have hqi : q ≤ i := by omega
  by_cases h1 : q < n
  · obtain ⟨b1, o1, rfl, hb1, d, hd, hde, hc1⟩ := digit_at h h1
    obtain ⟨e, he, hres⟩ := has_bits a i d r (by rw [← hq]; exact hde.out) hr
    clear hq hr hde h
    generalize hasB a i = b at *
    go_enter Tryz.func24, Tryz.ntmps24
    go_wp2
    go_ret
    exact ⟨by simp, rfl⟩
  · have hf : hasB a i = false := hasB_out a i (by rw [h.len]; omega)
    rw [hf]
    have hnl : ¬ (q : Int) < (n : Int) := by omega
    clear hq hr h hf
    go_enter Tryz.func24, Tryz.ntmps24
    go_wp2
    go_ret
    exact ⟨by simp, rfl⟩
end Go.Proofs.YtdfedhmejilnhaaGreatDoor
