/- Words shifted to the right: it proves what rshVU writes. Conditions: the words lie elsewhere than the row that is written. -/
import Derived.Test.YtbopmkjfmikmdaaGreatDoorShift1
namespace Go.Proofs.YtbopmkjfmikmdaaGreatDoor
open Go.RowKit

theorem or_words2 (a b k : Nat) (ha : a < W64) (hb : b < 2 ^ k) (hk : k ≤ 64) (hm : a % 2 ^ k = 0) : bits BinOp.or IntKind.u64 (b : Int) (a : Int) = ((b + a : Nat) : Int) := by
  have h1 : (2 : Nat) ^ k ≤ 2 ^ 64 := Nat.pow_le_pow_right (by omega) hk
  rw [u64_or_nat b a (Nat.lt_of_lt_of_le hb h1) ha, Nat.or_comm, nat_join k a b hm hb, Nat.add_comm]

/-- A word that is shifted to the right, as the walk spells it. -/
theorem shr_value (X s t j d1 d0 : Nat) (hs : s < 64) (ht : t + s = 64) (h1 : d1 = X / W64 ^ (j + 1) % W64) (h0 : d0 = X / W64 ^ j % W64) :
    bits BinOp.or IntKind.u64 ((d0 : Int) / 2 ^ s) (IntKind.u64.wrap ((d1 : Int) * 2 ^ t)) = ((X / 2 ^ s / W64 ^ j % W64 : Nat) : Int) := by
  have htt : t = 64 - s := by omega
  have e0 : ((d0 : Int) / 2 ^ s) = ((d0 / 2 ^ s : Nat) : Int) := by simp
  have hd0 : d0 < W64 := by rw [h0]; exact Nat.mod_lt _ W64_pos
  rw [wrap_shl, e0, or_words2 _ _ t (Nat.mod_lt _ W64_pos) ?_ (by omega) (shl_mod_zero d1 t (by omega)), shr_word X s j (by omega), ← h1, ← h0, htt]
  refine Nat.div_lt_of_lt_mul ?_
  rw [htt, Nat.mul_comm, ← W64_split s (by omega)]; exact hd0

theorem shr_last (X s m : Nat) (hs : s ≤ 64) (hX : X < W64 ^ (m + 1)) : X / 2 ^ s / W64 ^ m % W64 = X / W64 ^ m % W64 / 2 ^ s := by
  rw [shr_word X s m hs, Nat.div_eq_of_lt hX]; simp

theorem down_round (Y C j d : Nat) (hd : d = Y / W64 ^ j % W64) : (lowd W64 C (Y % W64 ^ j)).set j d = lowd W64 C (Y % W64 ^ (j + 1)) := by
  have hP : 0 < W64 ^ j := Nat.pow_pos W64_pos
  rw [lowd_set W64 C _ j d W64_pos (by rw [Nat.div_eq_of_lt (Nat.mod_lt _ hP)]; simp) (by rw [hd]; exact Nat.mod_lt _ W64_pos), hd, Nat.mod_pow_succ, Nat.mul_comm]

set_option maxRecDepth 100000 in
set_option maxHeartbeats 400000 in
/-- big.rshVU_g, to a row of zeros. -/
theorem rshVUg_any (G m cz C X s : Nat) (A : Option Addr) (c : Nat) (w : World) (hm : 0 < m) (hC : m ≤ C) (hs0 : 0 < s) (hs : s < 64) (hn : m ≤ 1000000)
    (hrow : Row .u64 97 w G (lowd W64 C 0)) (h : Rd .u64 w A m c (digs W64 X)) (hA : ∀ b o, A = some ⟨b, o, none⟩ → b ≠ G) :
    Calls Tryz.prog 141 #[.slice (some ⟨G, 0, none⟩) m cz, .slice A m c, .int .u64 (s : Int)] w fun e w' => (∃ r, e = .returned r) ∧
      Row .u64 97 w' G (lowd W64 C (X / 2 ^ s)) ∧ w.grownBy w' (some G) := by
  have hX : X < W64 ^ m := (digs_length_le_iff W64 two_W64 X m).1 (by rw [h.len]; exact Nat.le_refl _)
  obtain ⟨b, o, rfl, hb, dt, hdt, hdte, hct⟩ := word_in h (i := 0) (by omega)
  have hbG : b ≠ G := hA b o rfl
  obtain ⟨t, ht⟩ : ∃ t, t + s = 64 := ⟨64 - s, by omega⟩
  have hand1 := and_63 s hs
  have hand2 := and_63 t (by omega)
  have hst : (64 : Int) - (s : Int) = (t : Int) := by omega
  have hs1 : ((s : Int) == 0) = false := by simp; omega
  have hm1 : ((m : Int) == 0) = false := by simp; omega
  have hwr := wrap_shl dt t
  generalize dt * 2 ^ t % W64 = r0 at *
  have hfin : Hid (X / 2 ^ s % W64 ^ m = X / 2 ^ s) := Nat.mod_eq_of_lt (Nat.lt_of_le_of_lt (Nat.div_le_self _ _) hX)
  have HX := Lib.hid hX
  clear hX
  rw [Nat.add_zero] at hct
  go_enter Tryz.func141, Tryz.ntmps141
  go_wp2
  go_loopw [8] (fun k wr => ∃ i : Nat, i < m ∧ k = .int .i64 ((i + 1 : Nat) : Int) ∧ Row .u64 97 wr G (lowd W64 C (X / 2 ^ s % W64 ^ i)) ∧ w.grownBy wr (some G)) (fun k _ => m - (intOf k).toNat)
  case atStart => exact ⟨0, hm, by go_num, by rw [Nat.pow_zero, Nat.mod_one]; exact hrow, grown_refl _ _⟩
  case round =>
    obtain ⟨i, hi, rfl, hr, hg⟩ := hrel
    have hGlt := hr.lt
    have hro := h.off hA hg
    clear hct hdte hrow hs0 hs1 hm1 hwr
    obtain ⟨b1, o1, e1, hb1, d0, hd0, hd0e, hc0⟩ := word_in hro (i := i) hi
    injection e1 with e1; injection e1 with e1 e2
    subst e1 e2
    obtain ⟨v, hv⟩ : ∃ v, v = X / 2 ^ s / W64 ^ i % W64 := ⟨_, rfl⟩
    have hrow2 := hr.set i v
    rw [down_round (X / 2 ^ s) C i v hv] at hrow2
    have HR := Lib.hid hrow2
    have HG := Lib.hid (grown_set hg i (.int .u64 (v : Int)))
    have hcell := hr.cell (j := i) (by rw [lowd_length]; omega)
    have hfr := hr.free i
    have hi1 : ((i + 1 : Nat) : Int) - 1 = (i : Int) := by omega
    by_cases h0 : i + 1 < m
    · obtain ⟨b2, o2, e2, hb2, d1, hd1, hd1e, hc1⟩ := word_in hro (i := i + 1) h0
      injection e2 with e2; injection e2 with e2 e3
      subst e2 e3
      have hval : bits BinOp.or IntKind.u64 ((d0 : Int) / 2 ^ s) (IntKind.u64.wrap ((d1 : Int) * 2 ^ t)) = (v : Int) := by
        rw [shr_value X s t i d1 d0 hs ht hd1e.out hd0e.out, hv]
      clear hrow2 hr hg hv hd1e hd0e hro h hand1 hand2 hst
      generalize (lowd W64 C (X / 2 ^ s % W64 ^ i))[i]'_ = u at *
      go_wp2
      go_region
      all_goals go_wp2
      all_goals go_roundw
      case rel => exact ⟨i + 1, by omega, by go_num, HR.out, grown_drew HG.out⟩
      case measure => simp [intOf]; omega
    · obtain rfl : m = i + 1 := by omega
      have hval : ((d0 : Int) / 2 ^ s) = (v : Int) := by
        rw [hv, shr_last X s i (by omega) HX.out, ← hd0e.out]; simp
      clear hrow2 hr hg hv hd0e hro h hand1 hand2 hst
      generalize (lowd W64 C (X / 2 ^ s % W64 ^ i))[i]'_ = u at *
      go_wp2
      go_ret
      exact ⟨⟨_, rfl⟩, by rw [← hfin.out]; exact HR.out, HG.out⟩

set_option maxRecDepth 100000 in
set_option maxHeartbeats 400000 in
/-- big.rshVU. -/
theorem rshVU_any (G m cz C X s : Nat) (A : Option Addr) (c : Nat) (w : World) (hm : 0 < m) (hC : m ≤ C) (hs0 : 0 < s) (hs : s < 64) (hn : m ≤ 1000000)
    (hrow : Row .u64 97 w G (lowd W64 C 0)) (h : Rd .u64 w A m c (digs W64 X)) (hA : ∀ b o, A = some ⟨b, o, none⟩ → b ≠ G) :
    Calls Tryz.prog 111 #[.slice (some ⟨G, 0, none⟩) m cz, .slice A m c, .int .u64 (s : Int)] w fun e w' => (∃ r, e = .returned r) ∧
      Row .u64 97 w' G (lowd W64 C (X / 2 ^ s)) ∧ w.grownBy w' (some G) := by
  have H := Lib.hid (rshVUg_any G m cz C X s A c w hm hC hs0 hs hn hrow h hA)
  generalize X / 2 ^ s = z at *
  clear hm hC hs0 hs hn hrow h hA
  go_enter Tryz.func111, Tryz.ntmps111
  go_wp2_with fail
  refine H.out.mono ?_
  rintro e w1 ⟨⟨r, rfl⟩, hr, hg⟩
  go_wp2
  go_ret
  exact ⟨⟨_, rfl⟩, hr, hg⟩
end Go.Proofs.YtbopmkjfmikmdaaGreatDoor
