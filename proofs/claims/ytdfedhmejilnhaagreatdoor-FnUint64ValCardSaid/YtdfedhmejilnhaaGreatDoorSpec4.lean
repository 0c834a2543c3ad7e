/- The reference's natural numbers: it proves that Add answers the digits of the sum, Cmp the order, Shl the digits of the number times a power of 2. Conditions: the slices read as digits, of at most a million. -/
import Derived.Test.YtdfedhmejilnhaaGreatDoorSpec2
namespace Go.Proofs.YtdfedhmejilnhaaGreatDoor
open Go.RowKit

/-- The digit at a place, or 0. -/
theorem digit_at {w : World} {A : Option Addr} {n c a i : Nat} (h : Rd .i64 w A n c (digs 65536 a)) (hi : i < n) :
    ∃ b o, A = some ⟨b, o, none⟩ ∧ b < w.heap.size ∧ ∃ d : Nat, d < 65536 ∧ Hid (d = a / 65536 ^ i % 65536) ∧ w.cell? ⟨b, o + i, none⟩ = some (.int .i64 (d : Int)) := by
  obtain ⟨b, o, e, hb, d, ⟨hl, hd⟩, hc⟩ := h.at_ hi
  refine ⟨b, o, e, hb, d, ?_, ?_, hc⟩
  · rw [← hd]; exact digs_lt 65536 (by omega) a _ (List.getElem_mem hl)
  · unfold Hid; rw [← hd, digs_get]
theorem digit_none {w : World} {A : Option Addr} {n c a i : Nat} (h : Rd .i64 w A n c (digs 65536 a)) (hi : n ≤ i) : a / 65536 ^ i % 65536 = 0 := by
  have := (digs_length_le_iff 65536 (by omega) a i).1 (by rw [h.len]; exact hi)
  rw [Nat.div_eq_of_lt this]


set_option maxRecDepth 100000 in
set_option maxHeartbeats 400000 in
/-- spec.Cmp. -/
theorem cmp_any (A : Option Addr) (n c a : Nat) (A2 : Option Addr) (n2 c2 b : Nat) (w : World) (h : Rd .i64 w A n c (digs 65536 a)) (h2 : Rd .i64 w A2 n2 c2 (digs 65536 b)) (hn : n ≤ 1000000) (hn2 : n2 ≤ 1000000) :
    Calls Tryz.prog 10 #[.slice A n c, .slice A2 n2 c2] w fun e w' => e = .returned (.int .i64 (cmpN a b)) ∧ ∃ m, w' = w.drewN m := by
  by_cases h1 : n < n2
  · rw [cmpN_len_lt a b (by rw [h.len, h2.len]; exact h1)]
    go_enter Tryz.func10, Tryz.ntmps10
    go_wp2
    go_ret
    exact ⟨rfl, 0, rfl⟩
  by_cases h3 : n2 < n
  · rw [cmpN_len_gt a b (by rw [h.len, h2.len]; exact h3)]
    go_enter Tryz.func10, Tryz.ntmps10
    go_wp2
    go_ret
    exact ⟨rfl, 0, rfl⟩
  obtain rfl : n = n2 := by omega
  have hs : Hid (a / 65536 ^ n = b / 65536 ^ n) := by
    have e1 := (digs_length_le_iff 65536 (by omega) a n).1 (by rw [h.len]; exact Nat.le_refl _)
    have e2 := (digs_length_le_iff 65536 (by omega) b n).1 (by rw [h2.len]; exact Nat.le_refl _)
    unfold Hid
    rw [Nat.div_eq_of_lt e1, Nat.div_eq_of_lt e2]
  clear h1 h3
  go_enter Tryz.func10, Tryz.ntmps10
  go_wp2
  go_loopw [5] (fun s wr => ∃ m j : Nat, m ≤ n ∧ s = .int .i64 ((m : Int) - 1) ∧ Hid (a / 65536 ^ m = b / 65536 ^ m) ∧ wr = w.drewN j) (fun s _ => (intOf s + 1).toNat)
  case atStart => exact ⟨n, 0, Nat.le_refl _, rfl, hs, rfl⟩
  case round =>
    obtain ⟨m, j, hmn, rfl, he, rfl⟩ := hrel
    clear hs
    by_cases h0 : 0 < m
    · obtain ⟨b1, o1, rfl, hb1, d1, hd1, hd1e, hc1⟩ := digit_at h (i := m - 1) (by omega)
      obtain ⟨b2, o2, rfl, hb2, d2, hd2, hd2e, hc2⟩ := digit_at h2 (i := m - 1) (by omega)
      have hm1 : (0 : Int) ≤ (m : Int) - 1 := by omega
      have hm2 : (m : Int) - 1 < (n : Int) := by omega
      have he2 : Hid (a / 65536 ^ (m - 1 + 1) = b / 65536 ^ (m - 1 + 1)) := by rw [show m - 1 + 1 = m by omega]; exact he
      by_cases hlt : d1 < d2
      · have hres := Lib.hid <| cmpN_digit_lt a b (m - 1) he2 (by rw [← hd1e.out, ← hd2e.out]; exact hlt)
        clear hd1e hd2e he he2
        go_wp2
        go_quiet (fail)
        go_wp2
        go_ret
        exact ⟨by rw [hres.out]; rfl, _, by simp only [World.drewN_drewN]; rfl⟩
      · by_cases hgt : d2 < d1
        · have hres := Lib.hid <| cmpN_digit_gt a b (m - 1) he2 (by rw [← hd1e.out, ← hd2e.out]; exact hgt)
          clear hd1e hd2e he he2
          go_wp2
          go_quiet (fail)
          go_wp2
          go_quiet (fail)
          go_wp2
          go_ret
          exact ⟨by rw [hres.out]; rfl, _, by simp only [World.drewN_drewN]; rfl⟩
        · have heq : d1 = d2 := by omega
          subst heq
          have he3 : Hid (a / 65536 ^ (m - 1) = b / 65536 ^ (m - 1)) := div_eq_step a b (m - 1) he2 (by rw [← hd1e.out, ← hd2e.out])
          clear hd1e hd2e he he2 hlt hgt
          go_wp2
          go_quiet (fail)
          go_wp2
          go_quiet (fail)
          go_wp2
          go_roundw
          case rel => exact ⟨m - 1, _, by omega, by go_num, he3, rfl⟩
          case measure => simp [intOf]; omega
    · have hm0 : m = 0 := by omega
      subst hm0
      have hres : Hid (cmpN a b = 0) := by
        have e := he.out
        unfold Hid
        simp only [Nat.pow_zero, Nat.div_one] at e
        rw [e, cmpN_eq]
      clear he
      go_wp2
      go_ret
      exact ⟨by rw [hres.out]; rfl, _, rfl⟩
end Go.Proofs.YtdfedhmejilnhaaGreatDoor
