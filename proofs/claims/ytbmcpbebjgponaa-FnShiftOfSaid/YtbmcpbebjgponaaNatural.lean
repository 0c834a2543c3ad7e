/- The statements' own helper natural: it proves that it answers the digits of the number of bytes. Conditions: at most 300 bytes. -/
import Derived.Test.YtbmcpbebjgponaaSpec5
namespace Go.Proofs.Ytbmcpbebjgponaa
open Go.RowKit

theorem byte_step (N i d : Nat) (hd : d = N / 256 ^ i % 256) : N % 256 ^ i + d * 2 ^ (8 * i) = N % 256 ^ (i + 1) := by
  rw [Nat.pow_succ, Nat.mod_mul, hd, show (2 : Nat) ^ (8 * i) = 256 ^ i by rw [Nat.pow_mul], Nat.mul_comm (256 ^ i)]
theorem pow256_le (i : Nat) : 256 ^ i ≤ 65536 ^ i := Nat.pow_le_pow_left (by omega) i

theorem rd_len_le {w : World} {A : Option Addr} {n c N k : Nat} (h : Rd .i64 w A n c (digs 65536 N)) (hN : N < 65536 ^ k) : n ≤ k := by
  rw [← h.len]; exact digs_length_le 65536 (by omega) N k hN

set_option maxRecDepth 100000 in
set_option maxHeartbeats 1000000 in
/-- laws.natural. -/
theorem natural_any (A : Option Addr) (n c : Nat) (l : List Nat) (w : World) (h : Rd .u8 w A n c l) (hl : ∀ d ∈ l, d < 256) (hn : n ≤ 300) :
    Calls Try.prog 18 #[.slice A n c] w (Got .i64 (digs 65536 (val 256 l)) w) := by
  go_enter Try.func18, Try.ntmps18
  go_wp2
  go_loopw [9, 3] (fun k v wr => ∃ (i : Nat) (A' : Option Addr) (n' c' : Nat), i ≤ n ∧ k = .int .i64 (i : Int) ∧ v = .slice A' n' c' ∧ Rd .i64 wr A' n' c' (digs 65536 (val 256 l % 256 ^ i)) ∧ Below w.heap.size w wr) (fun k _ _ => n - (intOf k).toNat)
  case atStart =>
    exact ⟨0, _, 0, 0, Nat.zero_le _, rfl, rfl, by rw [Nat.pow_zero, Nat.mod_one, digs_zero]; exact Rd.nil _ _ (by simp), (Below.refl _ _).alloc (Nat.le_refl _) _⟩
  case round =>
    obtain ⟨i, A', n', c', hin, rfl, rfl, hr, hb⟩ := hrel
    by_cases c1 : i < n
    · obtain ⟨b1, o1, rfl, hb1, d, hd, hde, hc1⟩ := byte_at (h.below hb) hl c1
      have hn' : n' ≤ i := rd_len_le hr (Nat.lt_of_lt_of_le (Nat.mod_lt _ (Nat.pow_pos (by omega))) (pow256_le i))
      have hstep := Lib.hid (byte_step (val 256 l) i d hde.out)
      clear hde
      go_wp2_with fail
      refine (small_any d (by omega) _).mono ?_
      rintro e w1 ⟨A2, n2, c2, rfl, hr2, hb2⟩
      go_wp2_with fail
      rw [show (8 * (i : Int)) = ((8 * i : Nat) : Int) from by omega]
      have hn2 : n2 ≤ 1 := rd_len_le hr2 (by omega)
      refine (shl_any _ _ _ d (8 * i) _ hr2 (by omega) (by omega)).mono ?_
      rintro e w2 ⟨A3, n3, c3, rfl, hr3, hb3⟩
      have hn3 : n3 ≤ i + 1 := by
        refine rd_len_le hr3 (Nat.lt_of_lt_of_le ?_ (pow256_le (i + 1)))
        rw [show (2 : Nat) ^ (8 * i) = 256 ^ i by rw [Nat.pow_mul], Nat.pow_succ, Nat.mul_comm]
        exact Nat.mul_lt_mul_of_pos_left hd (Nat.pow_pos (by omega))
      have hr' := (hr.below hb2).below hb3
      go_wp2_with fail
      refine (add_any _ _ _ _ _ _ _ _ _ hr' hr3 (by omega) (by omega)).mono ?_
      rw [hstep.out]
      rintro e w3 ⟨A4, n4, c4, rfl, hr4, hb4⟩
      have hbb := ((hb.trans (hb2.mono hb.size)).trans (hb3.mono (Nat.le_trans hb.size hb2.size))).trans (hb4.mono (Nat.le_trans (Nat.le_trans hb.size hb2.size) hb3.size))
      clear hr hr2 hr3 hr' hb hb2 hb3 hb4 hstep
      go_wp2
      go_roundw
      case rel => exact ⟨i + 1, _, _, _, by omega, by go_num, rfl, hr4, hbb⟩
      case measure => simp [intOf]; omega
    · obtain rfl : i = n := by omega
      have hfin : Hid (val 256 l % 256 ^ i = val 256 l) := by
        have := val_lt 256 (by omega) l hl
        rw [h.len] at this
        exact Nat.mod_eq_of_lt this
      go_wp2
      go_ret
      exact ⟨_, _, _, rfl, by rw [← hfin.out]; exact hr, hb⟩
end Go.Proofs.Ytbmcpbebjgponaa
