/- Plain mathematics: the words of a number out of its digits. No program in sight. -/
import Derived.Test.YtdfedhmejilnhaaGreatDoorBig1
namespace Go.Proofs.YtdfedhmejilnhaaGreatDoor
open Go.RowKit

theorem W64_four (q : Nat) : W64 ^ q = 65536 ^ (4 * q) := by rw [show W64 = 65536 ^ 4 from rfl, ← Nat.pow_mul]
theorem wd_pow (q r : Nat) : 65536 ^ (4 * q + r) = W64 ^ q * 65536 ^ r := by rw [W64_four, Nat.pow_add]
theorem wd_low (B V p x j : Nat) (hB : 0 < B) (hj : j < p) : (V + B ^ p * x) / B ^ j % B = V / B ^ j % B := by
  obtain ⟨r, rfl⟩ : ∃ r, p = j + (r + 1) := ⟨p - j - 1, by omega⟩
  rw [Nat.pow_add, Nat.mul_assoc, Nat.add_mul_div_left _ _ (Nat.pow_pos hB), Nat.pow_succ, Nat.mul_comm (B ^ r) B, Nat.mul_assoc, Nat.add_mul_mod_self_left]
/-- The last word before a digit is laid into it. -/
theorem words_last (a q r : Nat) : a % 65536 ^ (4 * q + r) / W64 ^ q % W64 < 65536 ^ r := by
  have h1 : a % 65536 ^ (4 * q + r) < W64 ^ q * 65536 ^ r := by rw [← wd_pow]; exact Nat.mod_lt _ (Nat.pow_pos (by omega))
  exact Nat.lt_of_le_of_lt (Nat.mod_le _ _) (Nat.div_lt_of_lt_mul h1)
/-- One digit more. -/
theorem words_step (a q r d u : Nat) (hr : r < 4) (hd : d = a / 65536 ^ (4 * q + r) % 65536) (hu : u = a % 65536 ^ (4 * q + r) / W64 ^ q % W64) :
    (lowd W64 (q + 1) (a % 65536 ^ (4 * q + r))).set q (u + d * 65536 ^ r) = lowd W64 (q + 1) (a % 65536 ^ (4 * q + r + 1)) := by
  have hW : 0 < W64 := Nat.lt_of_lt_of_le (by omega) two_W64
  have hd2 : d < 65536 := by rw [hd]; exact Nat.mod_lt _ (by omega)
  have hul := words_last a q r
  rw [← hu] at hul
  have hV : a % 65536 ^ (4 * q + r) / W64 ^ q = u := by
    have h1 : a % 65536 ^ (4 * q + r) < W64 ^ q * 65536 ^ r := by rw [← wd_pow]; exact Nat.mod_lt _ (Nat.pow_pos (by omega))
    have h2 := Nat.div_lt_of_lt_mul h1
    have h3 : (65536 : Nat) ^ r ≤ W64 := by rw [show W64 = 65536 ^ 4 from rfl]; exact Nat.pow_le_pow_right (by omega) (by omega)
    rw [hu, Nat.mod_eq_of_lt (Nat.lt_of_lt_of_le h2 h3)]
  have hnext : a % 65536 ^ (4 * q + r + 1) = a % 65536 ^ (4 * q + r) + W64 ^ q * (d * 65536 ^ r) := by
    rw [Nat.mod_pow_succ, ← hd, wd_pow, Nat.mul_assoc, Nat.mul_comm (65536 ^ r) d]
  have hlt : u + d * 65536 ^ r < W64 := by
    have h1 : (d + 1) * 65536 ^ r ≤ 65536 * 65536 ^ r := Nat.mul_le_mul_right _ (by omega)
    have h2 : 65536 * 65536 ^ r ≤ W64 := by
      rw [Nat.mul_comm, ← Nat.pow_succ, show W64 = 65536 ^ 4 from rfl]; exact Nat.pow_le_pow_right (by omega) (by omega)
    rw [Nat.add_mul, Nat.one_mul] at h1
    omega
  rw [hnext]
  generalize a % 65536 ^ (4 * q + r) = V at *
  generalize d * 65536 ^ r = x at *
  apply List.ext_getElem
  · simp [lowd_length]
  · intro j h1 h2
    rw [lowd_length] at h2
    rw [List.getElem_set]
    by_cases hj : q = j
    · subst hj
      rw [if_pos rfl, lowd_get, Nat.add_mul_div_left _ _ (Nat.pow_pos hW), hV, Nat.mod_eq_of_lt hlt]
    · rw [if_neg hj, lowd_get, lowd_get, wd_low W64 V q x j hW (by omega)]
theorem words_new (a q : Nat) : lowd W64 q (a % 65536 ^ (4 * q)) ++ [0] = lowd W64 (q + 1) (a % 65536 ^ (4 * q)) := by
  have hW : 0 < W64 := Nat.lt_of_lt_of_le (by omega) two_W64
  rw [lowd_succ, W64_four, Nat.div_eq_of_lt (Nat.mod_lt _ (Nat.pow_pos (by omega)))]
  simp
/-- A digit laid into a word, as the walk spells it. -/
theorem or_digit (u d r : Nat) (hr : r < 4) (hu : u < 65536 ^ r) (hd : d < 65536) : bits BinOp.or IntKind.u64 (u : Int) ((d * 65536 ^ r : Nat) : Int) = ((u + d * 65536 ^ r : Nat) : Int) := by
  have hp : (65536 : Nat) ^ r = 2 ^ (16 * r) := by rw [Nat.pow_mul]
  have h2 : 65536 * 65536 ^ r ≤ W64 := by
    rw [Nat.mul_comm, ← Nat.pow_succ, show W64 = 65536 ^ 4 from rfl]; exact Nat.pow_le_pow_right (by omega) (by omega)
  have h3 : d * 65536 ^ r < 65536 * 65536 ^ r := Nat.mul_lt_mul_of_pos_right hd (Nat.pow_pos (by omega))
  have h4 : d * 65536 ^ r < 2 ^ 64 := Nat.lt_of_lt_of_le h3 h2
  have h5 : u < 2 ^ 64 := Nat.lt_of_lt_of_le hu (Nat.le_trans (by rw [Nat.mul_comm]; exact Nat.le_mul_of_pos_right _ (by omega)) h2)
  rw [u64_or_nat u _ h5 h4, Nat.or_comm, nat_join (16 * r) (d * 65536 ^ r) u (by rw [hp, Nat.mul_mod_left]) (by rw [← hp]; exact hu), Nat.add_comm]
end Go.Proofs.YtdfedhmejilnhaaGreatDoor
