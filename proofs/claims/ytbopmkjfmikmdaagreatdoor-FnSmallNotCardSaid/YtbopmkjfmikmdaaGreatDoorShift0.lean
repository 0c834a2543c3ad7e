/- Plain mathematics of shifts by words: it proves one step of each of the package's shifting loops. No program in sight. -/
import Derived.Test.YtbopmkjfmikmdaaGreatDoorMake
import Derived.Lib.SliceRun
import Derived.Laws.CopyOwn
namespace Go.Proofs.YtbopmkjfmikmdaaGreatDoor
open Go.RowKit

theorem add_div_low (B V p d j : Nat) (hB : 0 < B) (hj : j < p) : (V + d * B ^ p) / B ^ j % B = V / B ^ j % B := by
  obtain ⟨r, rfl⟩ : ∃ r, p = j + (r + 1) := ⟨p - j - 1, by omega⟩
  have e : d * B ^ (j + (r + 1)) = B ^ j * (B * (d * B ^ r)) := by
    rw [Nat.pow_add, Nat.pow_succ]
    simp only [Nat.mul_comm, Nat.mul_left_comm]
  rw [e, Nat.add_mul_div_left _ _ (Nat.pow_pos hB), Nat.add_mul_mod_self_left]
theorem add_div_at (B V p d : Nat) (hB : 0 < B) (hz : V / B ^ p % B = 0) (hd : d < B) : (V + d * B ^ p) / B ^ p % B = d := by
  rw [Nat.mul_comm d, Nat.add_mul_div_left _ _ (Nat.pow_pos hB), Nat.add_mod, hz, Nat.zero_add, Nat.mod_mod, Nat.mod_eq_of_lt hd]
theorem add_div_high (B V p d j : Nat) (hB : 0 < B) (hz : V / B ^ p % B = 0) (hd : d < B) (hj : p < j) : (V + d * B ^ p) / B ^ j = V / B ^ j := by
  obtain ⟨r, rfl⟩ : ∃ r, j = p + (r + 1) := ⟨j - p - 1, by omega⟩
  have e : (V / B ^ p + d) / B = V / B ^ p / B := by
    have h1 := Nat.div_add_mod (V / B ^ p) B
    rw [hz, Nat.add_zero] at h1
    rw [← h1, Nat.mul_add_div hB, Nat.div_eq_of_lt hd, Nat.add_zero, Nat.mul_div_cancel_left _ hB]
  have e2 : ∀ x, x / B ^ (p + (r + 1)) = x / B ^ p / B / B ^ r := fun x => by
    rw [Nat.div_div_eq_div_mul, Nat.div_div_eq_div_mul, Nat.mul_comm B, ← Nat.pow_succ, ← Nat.pow_add]
  rw [e2, e2, Nat.mul_comm d, Nat.add_mul_div_left _ _ (Nat.pow_pos hB), e]
theorem lowd_set (B c V p d : Nat) (hB : 0 < B) (hz : V / B ^ p % B = 0) (hd : d < B) : (lowd B c V).set p d = lowd B c (V + d * B ^ p) := by
  apply List.ext_getElem
  · simp [lowd_length]
  · intro j h1 h2
    rw [List.getElem_set, lowd_get]
    by_cases hj : p = j
    · subst hj
      rw [if_pos rfl, lowd_get, add_div_at B V p d hB hz hd]
    · rw [if_neg hj, lowd_get]
      rcases Nat.lt_or_ge j p with h3 | h3
      · rw [add_div_low B V p d j hB h3]
      · rw [add_div_high B V p d j hB hz hd (by omega)]

/-- The digits from i on, of the m lowest digits of Y, q places up. -/
def upFrom (Y m q i : Nat) : Nat := Y / W64 ^ i % W64 ^ (m - i) * W64 ^ (q + i)
theorem upFrom_top (Y m q : Nat) : upFrom Y m q m = 0 := by simp [upFrom, Nat.mod_one]
theorem upFrom_step (Y m q i : Nat) (h : i < m) : upFrom Y m q (i + 1) + Y / W64 ^ i % W64 * W64 ^ (q + i) = upFrom Y m q i := by
  unfold upFrom
  obtain ⟨r, hr⟩ : ∃ r, m - i = r + 1 := ⟨m - i - 1, by omega⟩
  have e1 : m - (i + 1) = r := by omega
  rw [e1, hr, Nat.pow_succ W64 r, Nat.mul_comm (W64 ^ r) W64, Nat.mod_mul, Nat.pow_succ W64 i, ← Nat.div_div_eq_div_mul, ← Nat.add_assoc q i 1, Nat.pow_succ W64 (q + i), Nat.add_mul]
  have e2 : Y / W64 ^ i / W64 % W64 ^ r * (W64 ^ (q + i) * W64) = W64 * (Y / W64 ^ i / W64 % W64 ^ r) * W64 ^ (q + i) := by
    generalize Y / W64 ^ i / W64 % W64 ^ r = u
    generalize W64 ^ (q + i) = v
    rw [Nat.mul_comm v W64, ← Nat.mul_assoc, Nat.mul_comm u W64]
  omega
theorem upFrom_digit (Y m q i : Nat) : upFrom Y m q (i + 1) / W64 ^ (q + i) % W64 = 0 := by
  unfold upFrom
  rw [← Nat.add_assoc q i 1, Nat.pow_succ W64 (q + i), Nat.mul_comm (W64 ^ (q + i)) W64, ← Nat.mul_assoc, Nat.mul_div_cancel _ (Nat.pow_pos W64_pos), Nat.mul_mod_left]
theorem upFrom_zero (Y m q : Nat) : upFrom Y m q 0 = Y % W64 ^ m * W64 ^ q := by simp [upFrom]
/-- One round of the shift to the left. -/
theorem up_round (Y m q i C d : Nat) (h : i < m) (hd : d = Y / W64 ^ i % W64) : (lowd W64 C (upFrom Y m q (i + 1))).set (q + i) d = lowd W64 C (upFrom Y m q i) := by
  rw [lowd_set W64 C _ (q + i) d W64_pos (upFrom_digit Y m q i) (by rw [hd]; exact Nat.mod_lt _ W64_pos), hd, upFrom_step Y m q i h]

theorem W64_split (s : Nat) (h : s ≤ 64) : W64 = 2 ^ (64 - s) * 2 ^ s := by rw [← Nat.pow_add, show 64 - s + s = 64 by omega]; rfl
/-- A word of the shifted number, out of two words. -/
theorem shl_quot (X s j : Nat) (h : s ≤ 64) : X * 2 ^ s / W64 ^ (j + 1) = X / W64 ^ (j + 1) * 2 ^ s + X / W64 ^ j % W64 / 2 ^ (64 - s) := by
  have hP : 0 < W64 ^ j := Nat.pow_pos W64_pos
  have h2 : 0 < 2 ^ s := Nat.two_pow_pos s
  rw [Nat.pow_succ, ← Nat.div_div_eq_div_mul, ← Nat.div_div_eq_div_mul]
  have hX := Nat.div_add_mod X (W64 ^ j)
  have hr := Nat.mod_lt X hP
  generalize X / W64 ^ j = q at *
  generalize X % W64 ^ j = r at *
  generalize W64 ^ j = P at *
  have e1 : X * 2 ^ s / P = q * 2 ^ s + r * 2 ^ s / P := by
    rw [← hX, Nat.add_mul, Nat.mul_assoc, Nat.mul_add_div hP]
  have he : r * 2 ^ s / P < 2 ^ s := Nat.div_lt_of_lt_mul (by rw [Nat.mul_comm P]; rw [Nat.mul_comm]; exact Nat.mul_lt_mul_of_pos_left hr h2)
  rw [e1]
  generalize r * 2 ^ s / P = e at *
  have hq := Nat.div_add_mod q W64
  have hx := Nat.mod_lt q W64_pos
  generalize q / W64 = x1 at *
  generalize q % W64 = x0 at *
  have e2 : (q * 2 ^ s + e) / W64 = x1 * 2 ^ s + (x0 * 2 ^ s + e) / W64 := by
    have e4 : q * 2 ^ s + e = W64 * (x1 * 2 ^ s) + (x0 * 2 ^ s + e) := by
      rw [← hq, Nat.add_mul, Nat.mul_assoc]; omega
    rw [e4, Nat.mul_add_div W64_pos]
  have e3 : (x0 * 2 ^ s + e) / W64 = x0 / 2 ^ (64 - s) := by
    rw [W64_split s h, Nat.mul_comm (2 ^ (64 - s)), ← Nat.div_div_eq_div_mul, Nat.mul_comm x0, Nat.mul_add_div h2, Nat.div_eq_of_lt he, Nat.add_zero]
  rw [e2, e3]
theorem mod_join (x t s : Nat) (h : s ≤ 64) (ht : t < 2 ^ s) : (x * 2 ^ s + t) % W64 = x % W64 * 2 ^ s % W64 + t := by
  have h2 : 0 < 2 ^ s := Nat.two_pow_pos s
  have e1 : ∀ y, y * 2 ^ s % W64 = 2 ^ s * (y % 2 ^ (64 - s)) := fun y => by
    rw [W64_split s h, Nat.mul_comm y, Nat.mul_comm (2 ^ (64 - s)), Nat.mul_mod_mul_left]
  have e2 : x % W64 * 2 ^ s % W64 = x * 2 ^ s % W64 := by rw [Nat.mod_mul_mod]
  have hlt : x * 2 ^ s % W64 + t < W64 := by
    rw [e1]
    have h3 : x % 2 ^ (64 - s) + 1 ≤ 2 ^ (64 - s) := Nat.mod_lt _ (Nat.two_pow_pos _)
    have h4 := Nat.mul_le_mul_left (2 ^ s) h3
    rw [Nat.mul_comm (2 ^ s) (2 ^ (64 - s)), ← W64_split s h, Nat.mul_add, Nat.mul_one] at h4
    omega
  rw [e2, Nat.add_mod, Nat.mod_eq_of_lt (show t < W64 by omega), Nat.mod_eq_of_lt hlt]
theorem shl_word (X s j : Nat) (h : s ≤ 64) : X * 2 ^ s / W64 ^ (j + 1) % W64 = X / W64 ^ (j + 1) % W64 * 2 ^ s % W64 + X / W64 ^ j % W64 / 2 ^ (64 - s) := by
  rw [shl_quot X s j h]
  refine mod_join _ _ s h (Nat.div_lt_of_lt_mul ?_)
  rw [← W64_split s h]
  exact Nat.mod_lt _ W64_pos
theorem shl_first (X s : Nat) : X * 2 ^ s % W64 = X % W64 * 2 ^ s % W64 := by rw [Nat.mod_mul_mod]
theorem shl_carry (X s j : Nat) (h : s ≤ 64) (hX : X < W64 ^ (j + 1)) : X * 2 ^ s / W64 ^ (j + 1) = X / W64 ^ j % W64 / 2 ^ (64 - s) := by
  rw [shl_quot X s j h, Nat.div_eq_of_lt hX]; omega
theorem shl_carry_lt (X s m : Nat) (h : s < 64) (hX : X < W64 ^ m) : X * 2 ^ s / W64 ^ m < W64 := by
  refine Nat.div_lt_of_lt_mul ?_
  have h1 : (2 : Nat) ^ s ≤ W64 := by rw [show W64 = 2 ^ 64 from rfl]; exact Nat.pow_le_pow_right (by omega) (by omega)
  exact Nat.lt_of_lt_of_le (Nat.mul_lt_mul_of_pos_right hX (Nat.two_pow_pos s)) (Nat.mul_le_mul_left _ h1)

/-- A word of the number shifted to the right, out of two words. -/
theorem shr_word (X s j : Nat) (h : s ≤ 64) : X / 2 ^ s / W64 ^ j % W64 = X / W64 ^ j % W64 / 2 ^ s + X / W64 ^ (j + 1) % W64 * 2 ^ (64 - s) % W64 := by
  rw [Nat.div_div_eq_div_mul, Nat.mul_comm (2 ^ s), ← Nat.div_div_eq_div_mul, Nat.pow_succ, ← Nat.div_div_eq_div_mul]
  generalize X / W64 ^ j = q
  have hq := Nat.div_add_mod q W64
  have hx := Nat.mod_lt q W64_pos
  generalize q / W64 = x1 at *
  generalize q % W64 = x0 at *
  have h2 : 0 < 2 ^ s := Nat.two_pow_pos s
  have e1 : q / 2 ^ s = x1 * 2 ^ (64 - s) + x0 / 2 ^ s := by
    have e : q = 2 ^ s * (x1 * 2 ^ (64 - s)) + x0 := by
      rw [← hq]
      congr 1
      rw [W64_split s h]
      simp only [Nat.mul_comm, Nat.mul_left_comm]
    conv => lhs; rw [e]
    rw [Nat.mul_add_div h2]
  have ht : x0 / 2 ^ s < 2 ^ (64 - s) := Nat.div_lt_of_lt_mul (by rw [Nat.mul_comm, ← W64_split s h]; exact hx)
  rw [e1, mod_join x1 (x0 / 2 ^ s) (64 - s) (by omega) ht]
  omega

/-! ### Words and bits in a walk -/
theorem wrap_shl (x s : Nat) : IntKind.u64.wrap ((x : Int) * 2 ^ s) = ((x * 2 ^ s % W64 : Nat) : Int) := by
  rw [IntKind.wrap_u64, show ((x : Int) * 2 ^ s) = ((x * 2 ^ s : Nat) : Int) by simp]
  unfold W64
  omega
theorem or_words (a b k : Nat) (ha : a < W64) (hb : b < 2 ^ k) (hk : k ≤ 64) (hm : a % 2 ^ k = 0) : bits BinOp.or IntKind.u64 (a : Int) (b : Int) = ((a + b : Nat) : Int) := by
  have h1 : (2 : Nat) ^ k ≤ 2 ^ 64 := Nat.pow_le_pow_right (by omega) hk
  rw [u64_or_nat a b ha (Nat.lt_of_lt_of_le hb h1), nat_join k a b hm hb]
theorem shl_mod_zero (x s : Nat) (h : s ≤ 64) : x * 2 ^ s % W64 % 2 ^ s = 0 := by
  rw [W64_split s h, Nat.mul_comm x, Nat.mul_comm (2 ^ (64 - s)), Nat.mul_mod_mul_left, Nat.mul_mod_right]
theorem and_63 (s : Nat) (h : s < 64) : bits BinOp.and IntKind.u64 (s : Int) 63 = (s : Int) := by
  rw [show (63 : Int) = ((63 : Nat) : Int) from rfl, u64_and_nat _ _ (by omega) (by omega), nat_mask6, Nat.mod_eq_of_lt h]
end Go.Proofs.YtbopmkjfmikmdaaGreatDoor
