/- Plain mathematics: how the sum, the difference, shifts, bits and the order of natural numbers are read off their digits. It proves one step of each of the reference's loops; no program in sight. -/
import Derived.Test.YtdfedhmejilnhaaGreatDoorNum
namespace Go.Proofs.YtdfedhmejilnhaaGreatDoor

/-- How many bits a number has. -/
def bl (n : Nat) : Nat := if n = 0 then 0 else n.log2 + 1

theorem bl_zero : bl 0 = 0 := by simp [bl]
theorem bl_le (n k : Nat) : bl n ≤ k ↔ n < 2 ^ k := by
  unfold bl
  by_cases h : n = 0
  · subst h; simp [Nat.two_pow_pos]
  · rw [if_neg h, Nat.succ_le_iff, Nat.log2_lt h]
theorem bl_pos (n : Nat) (h : 0 < n) : 0 < bl n := by unfold bl; rw [if_neg (by omega)]; omega
theorem bl_half (n : Nat) (h : 0 < n) : bl n = bl (n / 2) + 1 := by
  have h1 : bl n ≤ bl (n / 2) + 1 := by
    rw [bl_le]
    have := (bl_le (n / 2) (bl (n / 2))).1 (Nat.le_refl _)
    rw [Nat.pow_succ]; omega
  have h2 : bl (n / 2) + 1 ≤ bl n := by
    have hp := bl_pos n h
    have : bl (n / 2) ≤ bl n - 1 := by
      rw [bl_le]
      have h3 := (bl_le n (bl n)).1 (Nat.le_refl _)
      have e : bl n = (bl n - 1) + 1 := by omega
      rw [e, Nat.pow_succ] at h3
      omega
    omega
  omega
theorem bl_shift (m : Nat) : ∀ n, 0 < n / 2 ^ m → bl n = m + bl (n / 2 ^ m) := by
  induction m with
  | zero => intro n _; simp
  | succ m ih =>
    intro n hn
    have e : n / 2 ^ (m + 1) = n / 2 / 2 ^ m := by rw [Nat.div_div_eq_div_mul, Nat.pow_succ, Nat.mul_comm]
    rw [e] at hn ⊢
    have hpos : 0 < n := by
      rcases Nat.eq_zero_or_pos n with h0 | h0
      · subst h0; simp at hn
      · exact h0
    rw [bl_half n hpos, ih (n / 2) hn]
    omega

/-- The last digit of a number tells how many bits it has. -/
theorem bl_digs (n m : Nat) (hm : (digs 65536 n).length = m + 1) : bl n = 16 * m + bl (n / 65536 ^ m % 65536) := by
  have hlt : n < 65536 ^ (m + 1) := by rw [← hm]; exact lt_pow_digs 65536 (by omega) n
  have hge : ¬ n < 65536 ^ m := by
    intro h
    have := digs_length_le 65536 (by omega) n m h
    omega
  have e : (65536 : Nat) ^ m = 2 ^ (16 * m) := by rw [Nat.pow_mul]
  have hd : n / 65536 ^ m < 65536 := by
    rw [Nat.pow_succ] at hlt
    exact Nat.div_lt_of_lt_mul hlt
  rw [Nat.mod_eq_of_lt hd, e]
  refine bl_shift (16 * m) n ?_
  rw [← e]
  exact Nat.div_pos (by omega) (Nat.pow_pos (by omega))

/-- Whether the bit i of a number is 1. -/
def hasB (n i : Nat) : Bool := n / 2 ^ i % 2 == 1

theorem hasB_digit (n i : Nat) : hasB n i = (n / 65536 ^ (i / 16) % 65536 / 2 ^ (i % 16) % 2 == 1) := by
  unfold hasB
  have e : n / 65536 ^ (i / 16) % 65536 / 2 ^ (i % 16) % 2 = n / 2 ^ i % 2 := by
    have h1 : (65536 : Nat) = 2 ^ (i % 16) * 2 ^ (16 - i % 16) := by
      rw [← Nat.pow_add, show i % 16 + (16 - i % 16) = 16 by omega]
    have h2 : (65536 : Nat) ^ (i / 16) = 2 ^ (16 * (i / 16)) := by rw [Nat.pow_mul]
    rw [h2]
    generalize hx : n / 2 ^ (16 * (i / 16)) = x
    have h3 : x % 65536 / 2 ^ (i % 16) = x / 2 ^ (i % 16) % 2 ^ (16 - i % 16) := by
      conv => lhs; rw [h1]
      rw [Nat.mod_mul_right_div_self]
    have h4 : (2 : Nat) ^ (16 - i % 16) = 2 * 2 ^ (15 - i % 16) := by
      rw [← Nat.pow_succ', show (15 - i % 16).succ = 16 - i % 16 by omega]
    rw [h3, h4, Nat.mod_mul_right_mod, ← hx, Nat.div_div_eq_div_mul, ← Nat.pow_add, show 16 * (i / 16) + i % 16 = i by omega]
  rw [e]

theorem hasB_out (n i : Nat) (h : (digs 65536 n).length ≤ i / 16) : hasB n i = false := by
  rw [hasB_digit]
  have := (digs_length_le_iff 65536 (by omega) n (i / 16)).1 h
  rw [Nat.div_eq_of_lt this]
  simp

/-- The order of two numbers, as -1, 0 or 1. -/
def cmpN (a b : Nat) : Int := if a < b then -1 else if b < a then 1 else 0

theorem cmpN_len_lt (a b : Nat) (h : (digs 65536 a).length < (digs 65536 b).length) : cmpN a b = -1 := by
  have h1 := lt_pow_digs 65536 (by omega) a
  have h2 : ¬ b < 65536 ^ (digs 65536 a).length := fun h3 => by have := digs_length_le 65536 (by omega) b _ h3; omega
  unfold cmpN
  rw [if_pos (by omega)]
theorem cmpN_len_gt (a b : Nat) (h : (digs 65536 b).length < (digs 65536 a).length) : cmpN a b = 1 := by
  have h1 := lt_pow_digs 65536 (by omega) b
  have h2 : ¬ a < 65536 ^ (digs 65536 b).length := fun h3 => by have := digs_length_le 65536 (by omega) a _ h3; omega
  unfold cmpN
  rw [if_neg (by omega), if_pos (by omega)]
theorem top_split (n i : Nat) : n / 65536 ^ i = 65536 * (n / 65536 ^ (i + 1)) + n / 65536 ^ i % 65536 := by
  rw [Nat.pow_succ, ← Nat.div_div_eq_div_mul]
  exact (Nat.div_add_mod _ _).symm
theorem lt_of_div_lt (a b P : Nat) (h : a / P < b / P) : a < b := by
  rcases Nat.lt_or_ge a b with h1 | h1
  · exact h1
  · have := Nat.div_le_div_right (c := P) h1
    omega
theorem cmpN_digit_lt (a b i : Nat) (he : a / 65536 ^ (i + 1) = b / 65536 ^ (i + 1)) (h : a / 65536 ^ i % 65536 < b / 65536 ^ i % 65536) : cmpN a b = -1 := by
  have h1 := top_split a i
  have h2 := top_split b i
  have : a < b := lt_of_div_lt a b (65536 ^ i) (by omega)
  unfold cmpN
  rw [if_pos this]
theorem cmpN_digit_gt (a b i : Nat) (he : a / 65536 ^ (i + 1) = b / 65536 ^ (i + 1)) (h : b / 65536 ^ i % 65536 < a / 65536 ^ i % 65536) : cmpN a b = 1 := by
  have h1 := top_split a i
  have h2 := top_split b i
  have : b < a := lt_of_div_lt b a (65536 ^ i) (by omega)
  unfold cmpN
  rw [if_neg (by omega), if_pos this]
theorem div_eq_step (a b i : Nat) (he : a / 65536 ^ (i + 1) = b / 65536 ^ (i + 1)) (h : a / 65536 ^ i % 65536 = b / 65536 ^ i % 65536) : a / 65536 ^ i = b / 65536 ^ i := by
  have h1 := top_split a i
  have h2 := top_split b i
  omega
theorem cmpN_eq (a : Nat) : cmpN a a = 0 := by simp [cmpN]

/-! ### The sum -/
/-- What is carried out of the i lowest digits. -/
def carry (a b i : Nat) : Nat := (a % 65536 ^ i + b % 65536 ^ i) / 65536 ^ i

theorem carry_zero (a b : Nat) : carry a b 0 = 0 := by simp [carry, Nat.mod_one]
theorem carry_le (a b i : Nat) : carry a b i ≤ 1 := by
  unfold carry
  have hp : 0 < 65536 ^ i := Nat.pow_pos (by omega)
  have h1 := Nat.mod_lt a hp
  have h2 := Nat.mod_lt b hp
  have : (a % 65536 ^ i + b % 65536 ^ i) / 65536 ^ i < 2 := Nat.div_lt_of_lt_mul (by omega)
  omega
theorem mod_succ (a i : Nat) : a % 65536 ^ (i + 1) = a % 65536 ^ i + 65536 ^ i * (a / 65536 ^ i % 65536) := by
  rw [Nat.pow_succ, Nat.mod_mul]
theorem add_div_pow (a b i : Nat) : (a + b) / 65536 ^ i = a / 65536 ^ i + b / 65536 ^ i + carry a b i := by
  unfold carry
  have hp : 0 < 65536 ^ i := Nat.pow_pos (by omega)
  generalize 65536 ^ i = P at *
  have h1 := Nat.div_add_mod a P
  have h2 := Nat.div_add_mod b P
  have e : a + b = P * (a / P + b / P) + (a % P + b % P) := by
    rw [Nat.mul_add]; omega
  conv => lhs; rw [e]
  rw [Nat.mul_add_div hp]
theorem add_digit (a b i : Nat) : (a / 65536 ^ i % 65536 + b / 65536 ^ i % 65536 + carry a b i) % 65536 = (a + b) / 65536 ^ i % 65536 := by
  rw [add_div_pow]; omega
theorem add_carry (a b i : Nat) : (a / 65536 ^ i % 65536 + b / 65536 ^ i % 65536 + carry a b i) / 65536 = carry a b (i + 1) := by
  conv => rhs; unfold carry
  rw [mod_succ a i, mod_succ b i]
  unfold carry
  have hp : 0 < 65536 ^ i := Nat.pow_pos (by omega)
  rw [Nat.pow_succ]
  generalize 65536 ^ i = P at *
  have e : a % P + P * (a / P % 65536) + (b % P + P * (b / P % 65536)) = P * (a / P % 65536 + b / P % 65536) + (a % P + b % P) := by
    rw [Nat.mul_add]; omega
  rw [e, ← Nat.div_div_eq_div_mul, Nat.mul_add_div hp]
theorem add_last (a b i : Nat) (ha : a < 65536 ^ i) (hb : b < 65536 ^ i) : carry a b i = (a + b) / 65536 ^ i := by
  rw [add_div_pow, Nat.div_eq_of_lt ha, Nat.div_eq_of_lt hb]; omega

/-! ### The difference -/
/-- What is borrowed by the i lowest digits. -/
def borrow (a b i : Nat) : Nat := if a % 65536 ^ i < b % 65536 ^ i then 1 else 0

theorem borrow_zero (a b : Nat) : borrow a b 0 = 0 := by simp [borrow, Nat.mod_one]
theorem borrow_le (a b i : Nat) : borrow a b i ≤ 1 := by unfold borrow; split <;> omega
theorem sub_div_pow (a b i : Nat) (h : b ≤ a) : (a - b) / 65536 ^ i + b / 65536 ^ i + borrow a b i = a / 65536 ^ i := by
  unfold borrow
  have hp : 0 < 65536 ^ i := Nat.pow_pos (by omega)
  generalize 65536 ^ i = P at *
  have h1 := Nat.div_add_mod a P
  have h2 := Nat.div_add_mod b P
  have m1 := Nat.mod_lt a hp
  have m2 := Nat.mod_lt b hp
  have hq : b / P ≤ a / P := Nat.div_le_div_right h
  split
  · rename_i hlt
    have hq2 : b / P + 1 ≤ a / P := by
      rcases Nat.lt_or_ge (b / P) (a / P) with h3 | h3
      · exact h3
      · have : a / P = b / P := by omega
        rw [this] at h1; omega
    obtain ⟨q, hq3⟩ := Nat.exists_eq_add_of_le hq2
    have e : a - b = P * q + (P + a % P - b % P) := by
      rw [hq3, Nat.mul_add, Nat.mul_add, Nat.mul_one] at h1
      omega
    have : (a - b) / P = q := by
      rw [e, Nat.mul_add_div hp, Nat.div_eq_of_lt (by omega)]; omega
    omega
  · rename_i hge
    obtain ⟨q, hq3⟩ := Nat.exists_eq_add_of_le hq
    have e : a - b = P * q + (a % P - b % P) := by
      rw [hq3, Nat.mul_add] at h1
      omega
    have : (a - b) / P = q := by
      rw [e, Nat.mul_add_div hp, Nat.div_eq_of_lt (by omega)]; omega
    omega
/-- One digit of the difference, without and with a borrow. -/
theorem sub_digit (a b i : Nat) (h : b ≤ a) : (((a - b) / 65536 ^ i % 65536 : Nat) : Int) = ((a / 65536 ^ i % 65536 : Nat) - (b / 65536 ^ i % 65536 : Nat) - (borrow a b i : Int)) % 65536 := by
  have := sub_div_pow a b i h
  omega
theorem sub_borrow (a b i : Nat) : borrow a b (i + 1) = if a / 65536 ^ i % 65536 < b / 65536 ^ i % 65536 + borrow a b i then 1 else 0 := by
  unfold borrow
  rw [mod_succ a i, mod_succ b i]
  have hp : 0 < 65536 ^ i := Nat.pow_pos (by omega)
  generalize 65536 ^ i = P at *
  have m1 := Nat.mod_lt a hp
  have m2 := Nat.mod_lt b hp
  generalize a / P % 65536 = x
  generalize b / P % 65536 = y
  generalize a % P = r at *
  generalize b % P = s at *
  have key : (r + P * x < s + P * y) ↔ (x < y + if r < s then 1 else 0) := by
    by_cases hrs : r < s
    · rw [if_pos hrs]
      constructor
      · intro h1
        rcases Nat.lt_or_ge x (y + 1) with h2 | h2
        · exact h2
        · have := Nat.mul_le_mul_left P h2
          rw [Nat.mul_add, Nat.mul_one] at this
          omega
      · intro h1
        have := Nat.mul_le_mul_left P (show x ≤ y by omega)
        omega
    · rw [if_neg hrs]
      constructor
      · intro h1
        rcases Nat.lt_or_ge x y with h2 | h2
        · exact h2
        · have := Nat.mul_le_mul_left P h2
          omega
      · intro h1
        have := Nat.mul_le_mul_left P (show x + 1 ≤ y by omega)
        rw [Nat.mul_add, Nat.mul_one] at this
        omega
  by_cases hk : r + P * x < s + P * y
  · rw [if_pos hk, if_pos (key.1 hk)]
  · rw [if_neg hk, if_neg (fun h => hk (key.2 h))]

/-! ### The shift to the right -/
theorem shr_digit (a n i k : Nat) (hi : i = n / 16 + k) : ((a / 65536 ^ i % 65536 + 65536 * (a / 65536 ^ (i + 1) % 65536)) / 2 ^ (n % 16)) % 65536 = a / 2 ^ n / 65536 ^ k % 65536 := by
  have e1 : a / 65536 ^ i % 65536 + 65536 * (a / 65536 ^ (i + 1) % 65536) = a / 65536 ^ i % (65536 * 65536) := by
    rw [Nat.pow_succ, ← Nat.div_div_eq_div_mul, Nat.mod_mul]
  have e2 : a / 2 ^ n / 65536 ^ k = a / 65536 ^ i / 2 ^ (n % 16) := by
    rw [Nat.div_div_eq_div_mul, Nat.div_div_eq_div_mul, hi]
    congr 1
    have : (2 : Nat) ^ n = 65536 ^ (n / 16) * 2 ^ (n % 16) := by
      have h1 : (65536 : Nat) ^ (n / 16) = 2 ^ (16 * (n / 16)) := by rw [Nat.pow_mul]
      rw [h1, ← Nat.pow_add, show 16 * (n / 16) + n % 16 = n by omega]
    rw [this, Nat.pow_add]
    simp only [Nat.mul_comm, Nat.mul_left_comm]
  rw [e1, e2]
  generalize a / 65536 ^ i = x
  have h1 : (65536 * 65536 : Nat) = 2 ^ (n % 16) * (65536 * 2 ^ (16 - n % 16)) := by
    have : (65536 : Nat) = 2 ^ (n % 16) * 2 ^ (16 - n % 16) := by rw [← Nat.pow_add, show n % 16 + (16 - n % 16) = 16 by omega]
    conv => lhs; lhs; rw [this]
    rw [Nat.mul_assoc, Nat.mul_comm (2 ^ (16 - n % 16)) 65536]
  rw [h1, Nat.mod_mul_right_div_self, Nat.mod_mul_right_mod]
theorem shr_len (a n k : Nat) (h : a < 65536 ^ (n / 16 + k)) : a / 2 ^ n < 65536 ^ k := by
  have e : (65536 : Nat) ^ (n / 16) = 2 ^ (16 * (n / 16)) := by rw [Nat.pow_mul]
  refine Nat.div_lt_of_lt_mul (Nat.lt_of_lt_of_le h ?_)
  rw [Nat.pow_add, e]
  exact Nat.mul_le_mul_right _ (Nat.pow_le_pow_right (by omega) (by omega))

/-! ### Lists of digits that have one value are one -/
theorem eq_of_val (B : Nat) (hB : 0 < B) (l m : List Nat) (hl : l.length = m.length) (h1 : ∀ d ∈ l, d < B) (h2 : ∀ d ∈ m, d < B) (h : val B l = val B m) : l = m := by
  rw [← lowd_val B hB l h1, ← lowd_val B hB m h2, h, hl]

/-! ### The shift to the left -/
theorem pow16 (n : Nat) : (2 : Nat) ^ n = 65536 ^ (n / 16) * 2 ^ (n % 16) := by
  have h1 : (65536 : Nat) ^ (n / 16) = 2 ^ (16 * (n / 16)) := by rw [Nat.pow_mul]
  rw [h1, ← Nat.pow_add, show 16 * (n / 16) + n % 16 = n by omega]
/-- The digits that the first i digits of a, shifted, have. -/
def shlL (a n L i : Nat) : List Nat := lowd 65536 L (a % 65536 ^ i * 2 ^ n)
theorem shlL_length (a n L i : Nat) : (shlL a n L i).length = L := lowd_length _ _ _
theorem shlL_get (a n L i j : Nat) (h : j < (shlL a n L i).length) : (shlL a n L i)[j] = a % 65536 ^ i * 2 ^ n / 65536 ^ j % 65536 := lowd_get _ _ _ _ h
theorem shlL_zero (a n L : Nat) : shlL a n L 0 = List.replicate L 0 := by
  apply List.ext_getElem
  · simp [shlL_length]
  · intro j h1 h2
    rw [shlL_get]
    simp [Nat.mod_one]
theorem shl_low_lt (a n i : Nat) : a % 65536 ^ i * 2 ^ n < 65536 ^ (n / 16 + i) * 2 ^ (n % 16) := by
  have hp : 0 < 65536 ^ i := Nat.pow_pos (by omega)
  have h1 := Nat.mod_lt a hp
  have h2 : 0 < 2 ^ n := Nat.two_pow_pos n
  have := Nat.mul_lt_mul_of_pos_right h1 h2
  rw [pow16 n] at this ⊢
  rw [Nat.pow_add]
  calc _ < _ := this
    _ = _ := by simp only [Nat.mul_comm, Nat.mul_left_comm]
/-- The digit that takes the low part holds less than 2 to the power of n mod 16; the next one holds 0. -/
theorem shlL_at (a n L i : Nat) (h : n / 16 + i < L) : (shlL a n L i)[n / 16 + i]'(by rw [shlL_length]; exact h) < 2 ^ (n % 16) := by
  rw [shlL_get]
  have h1 := shl_low_lt a n i
  have h2 : a % 65536 ^ i * 2 ^ n / 65536 ^ (n / 16 + i) < 2 ^ (n % 16) := Nat.div_lt_of_lt_mul h1
  exact Nat.lt_of_le_of_lt (Nat.mod_le _ _) h2
theorem two_pow_mod_le (n : Nat) : 2 ^ (n % 16) ≤ 32768 := by
  have : (2 : Nat) ^ (n % 16) ≤ 2 ^ 15 := Nat.pow_le_pow_right (by omega) (by omega)
  simpa using this
theorem shlL_next (a n L i : Nat) (h : n / 16 + i + 1 < L) : (shlL a n L i)[n / 16 + i + 1]'(by rw [shlL_length]; exact h) = 0 := by
  rw [shlL_get]
  have h1 := shl_low_lt a n i
  have h3 := two_pow_mod_le n
  have h2 : a % 65536 ^ i * 2 ^ n < 65536 ^ (n / 16 + i + 1) := by
    refine Nat.lt_trans h1 ?_
    rw [Nat.pow_succ]
    exact Nat.mul_lt_mul_of_pos_left (by omega) (Nat.pow_pos (by omega))
  rw [Nat.div_eq_of_lt h2]
theorem val_set (B : Nat) : ∀ (l : List Nat) (j d : Nat) (h : j < l.length), val B (l.set j d) + B ^ j * l[j] = val B l + B ^ j * d
  | x :: l, 0, d, _ => by simp [val]; omega
  | x :: l, j + 1, d, h => by
    have ih := val_set B l j d (by simpa using h)
    simp only [List.set_cons_succ, val, List.getElem_cons_succ, Nat.pow_succ]
    have e1 : ∀ y : Nat, B ^ j * B * y = B * (B ^ j * y) := fun y => by rw [Nat.mul_comm (B ^ j) B, Nat.mul_assoc]
    rw [e1, e1, Nat.add_assoc, ← Nat.mul_add, ih, Nat.mul_add]
    omega
/-- One round of the shift to the left. -/
theorem shlL_step (a n L i x y : Nat) (hL : n / 16 + i + 1 < L) (hx : x = a / 65536 ^ i % 65536) (hy : y = x * 2 ^ (n % 16)) :
    ((shlL a n L i).set (n / 16 + i) ((shlL a n L i)[n / 16 + i]'(by rw [shlL_length]; omega) + y % 65536)).set (n / 16 + i + 1) (y / 65536) = shlL a n L (i + 1) := by
  have hlen := shlL_length a n L i
  have hb1 := shlL_at a n L i (by omega)
  have hb2 := shlL_next a n L i hL
  have hp := two_pow_mod_le n
  have hx2 : x < 65536 := by rw [hx]; exact Nat.mod_lt _ (by omega)
  -- the digit stays below the base
  have hfit : (shlL a n L i)[n / 16 + i]'(by rw [shlL_length]; omega) + y % 65536 < 65536 := by
    have h1 : (65536 : Nat) = 2 ^ (n % 16) * 2 ^ (16 - n % 16) := by rw [← Nat.pow_add, show n % 16 + (16 - n % 16) = 16 by omega]
    have h2 : y % 65536 = 2 ^ (n % 16) * (x % 2 ^ (16 - n % 16)) := by
      rw [hy, Nat.mul_comm x]
      conv => lhs; rw [h1]
      rw [Nat.mul_mod_mul_left]
    have h3 : x % 2 ^ (16 - n % 16) + 1 ≤ 2 ^ (16 - n % 16) := Nat.mod_lt _ (Nat.two_pow_pos _)
    have h4 := Nat.mul_le_mul_left (2 ^ (n % 16)) h3
    rw [← h1, Nat.mul_add, Nat.mul_one] at h4
    omega
  have hdiv : y / 65536 < 65536 := by
    rw [hy]
    have : x * 2 ^ (n % 16) < 65536 * 65536 := Nat.mul_lt_mul_of_lt_of_le hx2 (by omega) (by omega)
    exact Nat.div_lt_of_lt_mul this
  have hsh : ∀ d ∈ shlL a n L i, d < 65536 := lowd_lt 65536 (by omega) _ _
  apply eq_of_val 65536 (by omega)
  · simp [shlL_length]
  · intro d hd
    rcases List.mem_or_eq_of_mem_set hd with h1 | h1
    · rcases List.mem_or_eq_of_mem_set h1 with h2 | h2
      · exact hsh d h2
      · omega
    · omega
  · exact lowd_lt 65536 (by omega) _ _
  · have v1 := val_set 65536 (shlL a n L i) (n / 16 + i) ((shlL a n L i)[n / 16 + i]'(by rw [shlL_length]; omega) + y % 65536) (by rw [hlen]; omega)
    have v2 := val_set 65536 ((shlL a n L i).set (n / 16 + i) ((shlL a n L i)[n / 16 + i]'(by rw [shlL_length]; omega) + y % 65536)) (n / 16 + i + 1) (y / 65536) (by simp [hlen]; try omega)
    rw [List.getElem_set_ne (by omega), hb2, Nat.mul_zero, Nat.add_zero] at v2
    rw [v2]
    have v3 : val 65536 (shlL a n L i) = a % 65536 ^ i * 2 ^ n := by
      unfold shlL
      rw [val_lowd 65536 (by omega), Nat.mod_eq_of_lt]
      refine Nat.lt_of_lt_of_le (shl_low_lt a n i) ?_
      refine Nat.le_trans (Nat.mul_le_mul_left _ (show 2 ^ (n % 16) ≤ 65536 by omega)) ?_
      rw [← Nat.pow_succ]
      exact Nat.pow_le_pow_right (by omega) (by omega)
    have v4 : val 65536 (shlL a n L (i + 1)) = a % 65536 ^ (i + 1) * 2 ^ n := by
      unfold shlL
      rw [val_lowd 65536 (by omega), Nat.mod_eq_of_lt]
      refine Nat.lt_of_lt_of_le (shl_low_lt a n (i + 1)) ?_
      refine Nat.le_trans (Nat.mul_le_mul_left _ (show 2 ^ (n % 16) ≤ 65536 by omega)) ?_
      rw [← Nat.pow_succ]
      exact Nat.pow_le_pow_right (by omega) (by omega)
    rw [v4, mod_succ, Nat.add_mul, ← hx]
    rw [v3, Nat.mul_add] at v1
    have e1 : 65536 ^ i * x * 2 ^ n = 65536 ^ (n / 16 + i) * y := by
      rw [hy, pow16 n, Nat.pow_add]
      simp only [Nat.mul_assoc, Nat.mul_comm, Nat.mul_left_comm]
    have e2 : 65536 ^ (n / 16 + i + 1) * (y / 65536) + 65536 ^ (n / 16 + i) * (y % 65536) = 65536 ^ (n / 16 + i) * y := by
      rw [Nat.pow_succ, Nat.mul_assoc, ← Nat.mul_add, Nat.div_add_mod]
    omega
theorem shl_len (a n m : Nat) (h : a < 65536 ^ m) : a * 2 ^ n < 65536 ^ (n / 16 + m + 1) := by
  have h2 : 0 < 2 ^ n := Nat.two_pow_pos n
  have h3 := two_pow_mod_le n
  have := Nat.mul_lt_mul_of_pos_right h h2
  refine Nat.lt_of_lt_of_le this ?_
  rw [pow16 n, Nat.pow_succ, Nat.pow_add]
  have e : 65536 ^ m * (65536 ^ (n / 16) * 2 ^ (n % 16)) = 65536 ^ (n / 16) * 65536 ^ m * 2 ^ (n % 16) := by
    simp only [Nat.mul_comm, Nat.mul_left_comm]
  rw [e]
  exact Nat.mul_le_mul_left _ (by omega)

/-! ### Four digits a word -/
theorem word_digit (n i k : Nat) (hk : k < 4) : n / 18446744073709551616 ^ i % 18446744073709551616 / 65536 ^ k % 65536 = n / 65536 ^ (4 * i + k) % 65536 := by
  have h0 : (18446744073709551616 : Nat) = 65536 ^ 4 := by decide
  have h1 : (18446744073709551616 : Nat) = 65536 ^ k * 65536 ^ (4 - k) := by rw [← Nat.pow_add, show k + (4 - k) = 4 by omega]
  have h2 : (18446744073709551616 : Nat) ^ i = 65536 ^ (4 * i) := by rw [h0, ← Nat.pow_mul]
  rw [h2]
  generalize hx : n / 65536 ^ (4 * i) = x
  have h3 : x % 18446744073709551616 / 65536 ^ k = x / 65536 ^ k % 65536 ^ (4 - k) := by
    conv => lhs; rw [h1]
    rw [Nat.mod_mul_right_div_self]
  have h4 : (65536 : Nat) ^ (4 - k) = 65536 * 65536 ^ (3 - k) := by rw [← Nat.pow_succ', show (3 - k).succ = 4 - k by omega]
  rw [h3, h4, Nat.mod_mul_right_mod, ← hx, Nat.div_div_eq_div_mul, ← Nat.pow_add]

end Go.Proofs.YtdfedhmejilnhaaGreatDoor
