/- Plain mathematics: digits of natural numbers in a base. It proves how lists of digits, without zeros at the end, stand for natural numbers; no program in sight, no conditions. -/
namespace Go.Proofs.YtdfedhmejilnhaaGreatDoor

/-- The number of digits, the lowest first. -/
def val (B : Nat) : List Nat → Nat
  | [] => 0
  | d :: l => d + B * val B l

/-- The k lowest digits of a number. -/
def lowd (B : Nat) : Nat → Nat → List Nat
  | 0, _ => []
  | k + 1, n => n % B :: lowd B k (n / B)

/-- Without zeros at the end. -/
def trimL : List Nat → List Nat
  | [] => []
  | d :: l => if trimL l = [] ∧ d = 0 then [] else d :: trimL l

/-- The digits of a number, none 0 at the end. -/
def digs (B n : Nat) : List Nat := trimL (lowd B n n)

theorem lowd_length (B : Nat) : ∀ k n, (lowd B k n).length = k
  | 0, _ => rfl
  | k + 1, n => by simp [lowd, lowd_length B k]

theorem lowd_get (B : Nat) : ∀ k n j (h : j < (lowd B k n).length), (lowd B k n)[j] = n / B ^ j % B
  | k + 1, n, 0, _ => by simp [lowd]
  | k + 1, n, j + 1, h => by
    simp only [lowd, List.getElem_cons_succ]
    rw [lowd_get B k (n / B) j, Nat.div_div_eq_div_mul, Nat.pow_succ, Nat.mul_comm (B ^ j) B]

theorem lowd_succ (B k n : Nat) : lowd B (k + 1) n = lowd B k n ++ [n / B ^ k % B] := by
  apply List.ext_getElem
  · simp [lowd_length]
  · intro j h1 h2
    rw [lowd_get]
    by_cases hj : j < k
    · rw [List.getElem_append_left (by rw [lowd_length]; exact hj), lowd_get]
    · have : j = k := by simp only [lowd_length] at h1; omega
      subst this
      simp [lowd_length]

theorem lowd_lt (B : Nat) (hB : 0 < B) : ∀ k n, ∀ d ∈ lowd B k n, d < B
  | 0, _ => by simp [lowd]
  | k + 1, n => by
    intro d hd
    simp only [lowd, List.mem_cons] at hd
    rcases hd with rfl | hd
    · exact Nat.mod_lt _ hB
    · exact lowd_lt B hB k _ d hd

theorem val_lowd (B : Nat) (hB : 0 < B) : ∀ k n, val B (lowd B k n) = n % B ^ k
  | 0, n => by simp [lowd, val, Nat.mod_one]
  | k + 1, n => by
    simp only [lowd, val]
    rw [val_lowd B hB k, Nat.pow_succ, Nat.mul_comm (B ^ k) B, Nat.mod_mul]

theorem val_trimL (B : Nat) : ∀ l, val B (trimL l) = val B l
  | [] => rfl
  | d :: l => by
    have ih := val_trimL B l
    simp only [trimL]
    split
    · rename_i h
      simp only [val, h.2, h.1] at ih ⊢
      rw [← ih]; simp
    · simp [val, ih]

theorem val_append (B : Nat) : ∀ l m, val B (l ++ m) = val B l + B ^ l.length * val B m
  | [], m => by simp [val]
  | d :: l, m => by
    simp only [List.cons_append, val, List.length_cons]
    rw [val_append B l m, Nat.pow_succ, Nat.mul_add, Nat.add_assoc, Nat.mul_comm (B ^ l.length) B, Nat.mul_assoc]

theorem val_lt (B : Nat) (hB : 0 < B) : ∀ l, (∀ d ∈ l, d < B) → val B l < B ^ l.length
  | [], _ => by simp [val]
  | d :: l, h => by
    have ih := val_lt B hB l (fun x hx => h x (by simp [hx]))
    have hd := h d (by simp)
    simp only [val, List.length_cons, Nat.pow_succ]
    have h1 : val B l + 1 ≤ B ^ l.length := ih
    have h2 : B * (val B l + 1) ≤ B * B ^ l.length := Nat.mul_le_mul_left B h1
    rw [Nat.mul_comm (B ^ l.length) B]
    rw [Nat.mul_add, Nat.mul_one] at h2
    omega

/-- A list of digits is the lowest digits of its number. -/
theorem lowd_val (B : Nat) (hB : 0 < B) : ∀ l, (∀ d ∈ l, d < B) → lowd B l.length (val B l) = l
  | [], _ => rfl
  | d :: l, h => by
    have ih := lowd_val B hB l (fun x hx => h x (by simp [hx]))
    have hd := h d (by simp)
    simp only [val, List.length_cons, lowd]
    have h1 : (d + B * val B l) % B = d := by rw [Nat.add_mul_mod_self_left, Nat.mod_eq_of_lt hd]
    have h2 : (d + B * val B l) / B = val B l := by rw [Nat.add_mul_div_left _ _ hB, Nat.div_eq_of_lt hd]; simp
    rw [h1, h2, ih]

theorem trimL_zero (B : Nat) : ∀ k, trimL (lowd B k 0) = []
  | 0 => rfl
  | k + 1 => by simp [lowd, trimL, trimL_zero B k]

/-- However many digits are taken, if they are enough. -/
theorem trimL_lowd (B : Nat) (hB : 2 ≤ B) : ∀ k j n, n < B ^ k → n < B ^ j → trimL (lowd B k n) = trimL (lowd B j n)
  | 0, j, n, h, _ => by
    have : n = 0 := by simpa using h
    subst this
    rw [trimL_zero, trimL_zero]
  | k + 1, 0, n, _, h => by
    have : n = 0 := by simpa using h
    subst this
    rw [trimL_zero, trimL_zero]
  | k + 1, j + 1, n, h1, h2 => by
    have e := trimL_lowd B hB k j (n / B) (by rw [Nat.pow_succ] at h1; exact Nat.div_lt_of_lt_mul (by rw [Nat.mul_comm]; exact h1)) (by rw [Nat.pow_succ] at h2; exact Nat.div_lt_of_lt_mul (by rw [Nat.mul_comm]; exact h2))
    simp only [lowd, trimL, e]

theorem lt_pow_self (B : Nat) (hB : 2 ≤ B) : ∀ n, n < B ^ n
  | 0 => by simp
  | n + 1 => by
    have := lt_pow_self B hB n
    rw [Nat.pow_succ]
    have h2 : B ^ n * 2 ≤ B ^ n * B := Nat.mul_le_mul_left _ hB
    omega

theorem digs_lowd (B : Nat) (hB : 2 ≤ B) (k n : Nat) (h : n < B ^ k) : trimL (lowd B k n) = digs B n :=
  trimL_lowd B hB k n n h (lt_pow_self B hB n)

/-- To trim digits is to take those of their number. -/
theorem trimL_val (B : Nat) (hB : 2 ≤ B) (l : List Nat) (h : ∀ d ∈ l, d < B) : trimL l = digs B (val B l) := by
  rw [← digs_lowd B hB l.length _ (val_lt B (by omega) l h), lowd_val B (by omega) l h]

theorem val_digs (B : Nat) (hB : 2 ≤ B) (n : Nat) : val B (digs B n) = n := by
  rw [digs, val_trimL, val_lowd B (by omega), Nat.mod_eq_of_lt (lt_pow_self B hB n)]

theorem trimL_prefix : ∀ l, ∃ k, trimL l = l.take k ∧ k ≤ l.length
  | [] => ⟨0, rfl, Nat.le_refl _⟩
  | d :: l => by
    obtain ⟨k, hk, hl⟩ := trimL_prefix l
    simp only [trimL]
    split
    · exact ⟨0, by simp, Nat.zero_le _⟩
    · exact ⟨k + 1, by simp [hk], by simp; exact hl⟩

theorem trimL_length_le (l : List Nat) : (trimL l).length ≤ l.length := by
  obtain ⟨k, hk, _⟩ := trimL_prefix l
  rw [hk]; exact List.length_take_le' _ _

theorem trimL_snoc_zero : ∀ l, trimL (l ++ [0]) = trimL l
  | [] => by simp [trimL]
  | d :: l => by simp [trimL, trimL_snoc_zero l]

theorem trimL_snoc_pos (d : Nat) (hd : d ≠ 0) : ∀ l, trimL (l ++ [d]) = l ++ [d]
  | [] => by simp [trimL, hd]
  | e :: l => by simp [trimL, trimL_snoc_pos d hd l]

/-- The last digit is not 0. -/
theorem trimL_last : ∀ l (h : trimL l ≠ []), (trimL l).getLast h ≠ 0
  | [], h => absurd rfl h
  | d :: l, h => by
    by_cases h1 : trimL l = [] ∧ d = 0
    · simp [trimL, h1] at h
    · by_cases h2 : trimL l = []
      · have hd : d ≠ 0 := fun e => h1 ⟨h2, e⟩
        simp [trimL, h2, hd]
      · have := trimL_last l h2
        simp [trimL, h2]
        rw [List.getLast_cons h2]
        exact this

theorem digs_zero (B : Nat) : digs B 0 = [] := trimL_zero B 0

theorem digs_lt (B : Nat) (hB : 0 < B) (n : Nat) : ∀ d ∈ digs B n, d < B := by
  intro d hd
  obtain ⟨k, hk, _⟩ := trimL_prefix (lowd B n n)
  rw [digs, hk] at hd
  exact lowd_lt B hB n n d (List.mem_of_mem_take hd)

/-- The digits by index. -/
theorem digs_get (B n j : Nat) (h : j < (digs B n).length) : (digs B n)[j] = n / B ^ j % B := by
  obtain ⟨k, hk, hl⟩ := trimL_prefix (lowd B n n)
  have e : (digs B n)[j] = (lowd B n n)[j]'(by
      have h2 := h
      rw [digs, hk, List.length_take] at h2
      omega) := by
    simp only [digs, hk, List.getElem_take]
  rw [e, lowd_get]

theorem digs_length_le (B : Nat) (hB : 2 ≤ B) (n k : Nat) (h : n < B ^ k) : (digs B n).length ≤ k := by
  rw [← digs_lowd B hB k n h]
  exact Nat.le_trans (trimL_length_le _) (by rw [lowd_length]; exact Nat.le_refl _)

theorem lt_pow_digs (B : Nat) (hB : 2 ≤ B) (n : Nat) : n < B ^ (digs B n).length := by
  have := val_lt B (by omega) (digs B n) (digs_lt B (by omega) n)
  rwa [val_digs B hB] at this

theorem digs_length_le_iff (B : Nat) (hB : 2 ≤ B) (n k : Nat) : (digs B n).length ≤ k ↔ n < B ^ k :=
  ⟨fun h => Nat.lt_of_lt_of_le (lt_pow_digs B hB n) (Nat.pow_le_pow_right (by omega) h), digs_length_le B hB n k⟩

theorem digs_eq_nil (B : Nat) (hB : 2 ≤ B) (n : Nat) : digs B n = [] ↔ n = 0 :=
  ⟨fun h => by have := val_digs B hB n; rw [h] at this; exact this.symm, fun h => by subst h; exact digs_zero B⟩

theorem digs_length_pos (B : Nat) (hB : 2 ≤ B) (n : Nat) : 0 < (digs B n).length ↔ 0 < n := by
  have := digs_eq_nil B hB n
  constructor
  · intro h
    rcases Nat.eq_zero_or_pos n with h0 | h0
    · rw [this.2 h0] at h; exact absurd h (by simp)
    · exact h0
  · intro h
    rcases Nat.eq_zero_or_pos (digs B n).length with h0 | h0
    · have := this.1 (List.eq_nil_of_length_eq_zero h0); omega
    · exact h0

theorem digs_inj (B : Nat) (hB : 2 ≤ B) {n m : Nat} (h : digs B n = digs B m) : n = m := by
  rw [← val_digs B hB n, ← val_digs B hB m, h]

/-- Lists of digits without 0 at the end are the digits of their number. -/
theorem digs_val (B : Nat) (hB : 2 ≤ B) (l : List Nat) (h : ∀ d ∈ l, d < B) (hl : ∀ hne : l ≠ [], l.getLast hne ≠ 0) : digs B (val B l) = l := by
  rw [← trimL_val B hB l h]
  rcases List.eq_nil_or_concat l with rfl | ⟨l', d, rfl⟩
  · rfl
  · rw [List.concat_eq_append] at hl ⊢
    exact trimL_snoc_pos d (by simpa using hl (by simp)) l'

theorem lowd_eq_digs (B : Nat) (hB : 2 ≤ B) (n : Nat) : lowd B (digs B n).length n = digs B n := by
  have := lowd_val B (by omega) (digs B n) (digs_lt B (by omega) n)
  rwa [val_digs B hB] at this

end Go.Proofs.YtdfedhmejilnhaaGreatDoor
