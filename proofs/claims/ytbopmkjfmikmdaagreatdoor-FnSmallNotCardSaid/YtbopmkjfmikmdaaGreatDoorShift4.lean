/- Natural numbers shifted to the left: it proves what nat.lsh answers. Conditions: the shift is not 0, and the receiver has no room. -/
import Derived.Test.YtbopmkjfmikmdaaGreatDoorShift3
namespace Go.Proofs.YtbopmkjfmikmdaaGreatDoor
open Go.RowKit

theorem take_lowd (B c n V : Nat) (h : n ≤ c) : (lowd B c V).take n = lowd B n V := by
  apply List.ext_getElem
  · simp [lowd_length]; omega
  · intro j h1 h2
    rw [List.getElem_take, lowd_get, lowd_get]
theorem lsh_set (c X r m q : Nat) : (lowd W64 c (X * 2 ^ r % W64 ^ m * W64 ^ q)).set (q + m) (X * 2 ^ r / W64 ^ m) = lowd W64 c (X * 2 ^ r * W64 ^ q) ∨ ¬ X * 2 ^ r / W64 ^ m < W64 := by
  rcases Nat.lt_or_ge (X * 2 ^ r / W64 ^ m) W64 with hd | hd
  · refine Or.inl ?_
    have hP : 0 < W64 ^ m := Nat.pow_pos W64_pos
    rw [lowd_set W64 c _ (q + m) _ W64_pos ?_ hd]
    · congr 1
      have e := Nat.div_add_mod (X * 2 ^ r) (W64 ^ m)
      rw [Nat.pow_add, Nat.mul_comm (W64 ^ q), ← Nat.mul_assoc, ← Nat.add_mul, Nat.mul_comm (X * 2 ^ r / W64 ^ m), Nat.add_comm, e]
    · rw [mul_pow_high W64 _ q m W64_pos, Nat.div_eq_of_lt (Nat.mod_lt _ hP)]; simp
  · exact Or.inr (by omega)
theorem lsh_set0 (c X m q : Nat) (hX : X < W64 ^ m) : (lowd W64 c (X * W64 ^ q)).set (q + m) 0 = lowd W64 c (X * W64 ^ q) := by
  rw [lowd_set W64 c _ (q + m) 0 W64_pos ?_ W64_pos]
  · simp
  · rw [mul_pow_high W64 _ q m W64_pos, Nat.div_eq_of_lt hX]; simp
theorem lsh_bound (X r m q : Nat) (hX : X < W64 ^ m) (hr : r < 64) : X * 2 ^ r * W64 ^ q < W64 ^ (m + q + 1) := by
  have h1 : X * 2 ^ r / W64 ^ m < W64 := shl_carry_lt X r m hr hX
  have h2 := (Nat.div_lt_iff_lt_mul (Nat.pow_pos W64_pos)).1 h1
  rw [show m + q + 1 = 1 + m + q by omega, Nat.pow_add, Nat.pow_add, Nat.pow_one]
  exact Nat.mul_lt_mul_of_pos_right h2 (Nat.pow_pos W64_pos)
theorem lsh_split (X s : Nat) : X * 2 ^ s = X * 2 ^ (s % 64) * W64 ^ (s / 64) := by
  rw [show W64 = 2 ^ 64 from rfl, ← Nat.pow_mul, Nat.mul_assoc, ← Nat.pow_add, Nat.mod_add_div]

set_option maxRecDepth 100000 in
set_option maxHeartbeats 800000 in
/-- nat.lsh, where the receiver has no room. -/
theorem lsh_any (Az : Option Addr) (nz cz : Nat) (hcz : cz ≤ 1) (A : Option Addr) (m c X s : Nat) (w : World) (h : Rd .u64 w A m c (digs W64 X)) (hm : m ≤ 10000) (hs0 : 0 < s) (hs : s ≤ 100000) :
    Calls Tryz.prog 60 #[.slice Az nz cz, .slice A m c, .int .u64 (s : Int)] w (Got .u64 (digs W64 (X * 2 ^ s)) w) := by
  have hs1 : ((s : Int) == 0) = false := by simp; omega
  by_cases h0 : m = 0
  · subst h0
    have hX : X = 0 := by
      have := (digs_length_le_iff W64 two_W64 X 0).1 (by rw [h.len]; exact Nat.le_refl _)
      simpa using this
    subst hX
    rw [Nat.zero_mul, digs_zero]
    have hmx : cz ≤ maxLen := by simp [maxLen]; omega
    rcases Nat.eq_zero_or_pos cz with hc | hc
    · subst hc
      go_enter Tryz.func60, Tryz.ntmps60
      go_wp2
      go_ret
      exact ⟨_, _, _, rfl, Rd.nil _ _ hmx, Below.refl _ _⟩
    · go_enter Tryz.func60, Tryz.ntmps60
      go_wp2
      go_ret
      exact ⟨_, _, _, rfl, Rd.nil _ _ hmx, Below.refl _ _⟩
  obtain ⟨i0, hi, hz0, hz1, hz2⟩ := info_parts Tryz.infoWord
  have hsz : (Tryz.prog.info? 97).map (·.size) = some 1 := by rw [hi]; simp [hz1]
  have hX : X < W64 ^ m := (digs_length_le_iff W64 two_W64 X m).1 (by rw [h.len]; exact Nat.le_refl _)
  have hA : ∀ b o, A = some ⟨b, o, none⟩ → b ≠ w.heap.size := by
    obtain ⟨b, o, rfl, hb, _⟩ := h.at_ (j := 0) (by omega)
    intro b' o' e
    injection e with e; injection e with e _
    omega
  have hm1 : ((m : Int) == 0) = false := by simp; omega
  have hsplit := lsh_split X s
  obtain ⟨q, hq⟩ : ∃ q, q = s / 64 := ⟨_, rfl⟩
  obtain ⟨r, hr⟩ : ∃ r, r = s % 64 := ⟨_, rfl⟩
  have hq2 : (s : Int) / 64 = (q : Int) := by omega
  have hr2 : (s : Int) % 64 = (r : Int) := by omega
  have hr64 : r < 64 := by omega
  have hqs : q ≤ s := by omega
  rw [← hq, ← hr] at hsplit
  have HS := Lib.hid hsplit
  have hfit := lsh_bound X r m q hX hr64
  have H1 : Hid (∀ w, Calls Tryz.prog 82 #[.slice Az nz cz, .int .i64 ((m : Int) + (q : Int) + 1)] w (Fresh (m + q + 1) w)) := by
    intro w
    have := make_fresh Az nz cz (m + q + 1) (by omega) (by omega) w
    rw [show ((m + q + 1 : Nat) : Int) = (m : Int) + (q : Int) + 1 by omega] at this
    exact this
  have HX := Lib.hid hX
  have HF := Lib.hid hfit
  clear hq hr hsplit hX hfit
  have he1 : m + q - m = q := by omega
  have he2 : m + q - q = m := by omega
  by_cases hr0 : r = 0
  · subst hr0
    have hr3 : (s : Int) % 64 = 0 := hr2
    clear hr2
    go_enter Tryz.func60, Tryz.ntmps60
    go_wp2_with fail
    refine (H1.out _).mono ?_
    rintro e w1 ⟨c1, hc1, hc2, rfl, hrow, hb⟩
    rw [zeros_lowd] at hrow
    have hlt := hrow.lt
    go_wp2_with (with_reducible refine wp_copy_words rfl (.tmp 46) (.tmp 47) 93 93 rfl 97 Tryz.underlying93 hsz w.heap.size q m (c1 - q) c1 X A c ?hd ?hs 97 hrow ?hr ?hc w.heap.size w hb ?hl ?_)
    case hd =>
      show Value.slice (some ⟨w.heap.size, m + q - m, none⟩) (m + q - (m + q - m)) (c1 - (m + q - m)) = _
      rw [he1, he2]
    case hs => rfl
    case hr => exact h.below hb
    case hc => omega
    case hl => exact Nat.le_refl _
    intro w2 HR HB
    have hrow2 := HR.out
    have hcell := hrow2.cell (j := m + q) (by rw [lowd_length]; omega)
    have hfr := hrow2.free (m + q)
    have hlt2 := hrow2.lt
    have hrow3 := hrow2.set (m + q) 0
    rw [Nat.add_comm m q, lsh_set0 c1 X m q HX.out, Nat.add_comm q m] at hrow3
    have HR3 : Hid (Row .u64 97 (w2.setCell ⟨w.heap.size, m + q, none⟩ (.int .u64 0)) w.heap.size (lowd W64 c1 (X * W64 ^ q))) := hrow3
    have HB3 : Hid (Below w.heap.size w (w2.setCell ⟨w.heap.size, m + q, none⟩ (.int .u64 0))) := HB.setCell (Nat.le_refl _) (p := ⟨w.heap.size, m + q, none⟩) _
    clear hrow hrow2 hrow3 HR
    generalize (lowd W64 c1 (X * W64 ^ q))[m + q]'_ = u at *
    go_wp2_with (with_reducible refine wp_clear_zeros rfl (.tmp 68) 93 rfl 97 i0 Tryz.underlying93 hi hz0 rfl w.heap.size q c1 c1 X ?hs ?hC 97 HR3.out w.heap.size w HB3.out ?hl ?_)
    case hs => first | rfl | (show Value.slice (some ⟨w.heap.size, 0, none⟩) (m + q - m) c1 = _; rw [he1])
    case hC => omega
    case hl => exact Nat.le_refl _
    intro w3 HR4 HB4
    have hrd := HR4.out.rd (n := m + q + 1) (by rw [lowd_length]; exact hc1) (by rw [lowd_length]; unfold maxLen; omega)
    rw [lowd_length, take_lowd _ _ _ _ hc1] at hrd
    have hnorm := norm_any _ _ _ _ _ hrd
    rw [digs_lowd W64 two_W64 _ _ (by have := HF.out; rw [Nat.pow_zero, Nat.mul_one] at this; exact this), show X * W64 ^ q = X * 2 ^ s by rw [HS.out, Nat.pow_zero, Nat.mul_one]] at hnorm
    have H2 := Lib.hid hnorm
    clear hrd hnorm HR4 HR3 HB3 HX HF HS
    go_wp2_with fail
    refine H2.out.mono ?_
    rintro e w4 ⟨A4, n4, c4, rfl, hr4, rfl⟩
    go_wp2
    go_ret
    exact ⟨_, _, _, rfl, hr4, HB4⟩
  · have hr3 : ((r : Int) == 0) = false := by simp; omega
    obtain ⟨d, hd⟩ : ∃ d, d = X * 2 ^ r / W64 ^ m := ⟨_, rfl⟩
    have hd64 : d < W64 := by rw [hd]; exact shl_carry_lt X r m hr64 HX.out
    have HD := Lib.hid hd
    go_enter Tryz.func60, Tryz.ntmps60
    go_wp2_with fail
    refine (H1.out _).mono ?_
    rintro e w1 ⟨c1, hc1, hc2, rfl, hrow, hb⟩
    rw [zeros_lowd] at hrow
    have hlt := hrow.lt
    have hcall := lshVU_any w.heap.size q m (c1 - q) c1 X r A c w1 (by omega) (by omega) (by omega) hr64 (by omega) hrow (h.below hb) hA
    rw [← hd] at hcall
    have H3 := Lib.hid hcall
    clear hcall hd hrow
    go_wp2_with fail
    refine H3.out.mono ?_
    rintro e w2 ⟨rfl, hrow2, hg2⟩
    have HB := below_of_grown hb hg2 (by omega) (Nat.le_refl _)
    have hcell := hrow2.cell (j := m + q) (by rw [lowd_length]; omega)
    have hfr := hrow2.free (m + q)
    have hlt2 := hrow2.lt
    have hrow3 := hrow2.set (m + q) d
    have hset := (lsh_set c1 X r m q).resolve_right (fun h => h (by rw [← HD.out]; exact hd64))
    rw [← HD.out, Nat.add_comm q m] at hset
    rw [hset] at hrow3
    have HR3 := Lib.hid hrow3
    have HB3 : Hid (Below w.heap.size w (w2.setCell ⟨w.heap.size, m + q, none⟩ (.int .u64 (d : Int)))) := HB.setCell (Nat.le_refl _) (p := ⟨w.heap.size, m + q, none⟩) _
    clear hrow2 hrow3 hset HD H3
    generalize (lowd W64 c1 (X * 2 ^ r % W64 ^ m * W64 ^ q))[m + q]'_ = u at *
    go_wp2_with (with_reducible refine wp_clear_zeros rfl (.tmp 68) 93 rfl 97 i0 Tryz.underlying93 hi hz0 rfl w.heap.size q c1 c1 (X * 2 ^ r) ?hs ?hC 97 HR3.out w.heap.size w HB3.out ?hl ?_)
    case hs => first | rfl | (show Value.slice (some ⟨w.heap.size, 0, none⟩) (m + q - m) c1 = _; rw [he1])
    case hC => omega
    case hl => exact Nat.le_refl _
    intro w3 HR4 HB4
    have hrd := HR4.out.rd (n := m + q + 1) (by rw [lowd_length]; exact hc1) (by rw [lowd_length]; unfold maxLen; omega)
    rw [lowd_length, take_lowd _ _ _ _ hc1] at hrd
    have hnorm := norm_any _ _ _ _ _ hrd
    rw [digs_lowd W64 two_W64 _ _ HF.out, ← HS.out] at hnorm
    have H2 := Lib.hid hnorm
    clear hrd hnorm HR4 HR3 HB3 HX HF HS
    go_wp2_with fail
    refine H2.out.mono ?_
    rintro e w4 ⟨A4, n4, c4, rfl, hr4, rfl⟩
    go_wp2
    go_ret
    exact ⟨_, _, _, rfl, hr4, HB4⟩
end Go.Proofs.YtbopmkjfmikmdaaGreatDoor
