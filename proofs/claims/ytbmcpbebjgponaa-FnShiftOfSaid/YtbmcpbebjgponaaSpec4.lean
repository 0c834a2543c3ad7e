/- The reference's natural numbers: it proves that Add answers the digits of the sum, Cmp the order, Shl the digits of the number times a power of 2. Conditions: the slices read as digits, of at most a million. -/
import Derived.Test.YtbmcpbebjgponaaSpec2
namespace Go.Proofs.Ytbmcpbebjgponaa
open Go.RowKit

/-- The digit at a place, or 0. -/
theorem digit_at {w : World} {A : Option Addr} {n c a i : Nat} (h : Rd .i64 w A n c (digs 65536 a)) (hi : i < n) :
    ∃ b o, A = some ⟨b, o, none⟩ ∧ b < w.heap.size ∧ ∃ d : Nat, d < 65536 ∧ Hid (d = a / 65536 ^ i % 65536) ∧ w.cell? ⟨b, o + i, none⟩ = some (.int .i64 (d : Int)) := by
  obtain ⟨b, o, e, hb, d, ⟨hl, hd⟩, hc⟩ := h.at_ hi
  refine ⟨b, o, e, hb, d, ?_, ?_, hc⟩
  · rw [← hd]; exact digs_lt 65536 (by omega) a _ (List.getElem_mem hl)
  · unfold Hid; rw [← hd, digs_get]
theorem digit_none {w : World} {A : Option Addr} {n c a i : Nat} (h : Rd .i64 w A n c (digs 65536 a)) (hi : n ≤ i) : a / 65536 ^ i % 65536 = 0 := by
  have := (digs_length_le_iff 65536 (by omega) a i).1 (by rw [h.len]; exact hi)
  rw [Nat.div_eq_of_lt this]

set_option maxRecDepth 100000 in
set_option maxHeartbeats 400000 in
/-- spec.Add. -/
theorem add_any (A : Option Addr) (n c a : Nat) (A2 : Option Addr) (n2 c2 b : Nat) (w : World) (h : Rd .i64 w A n c (digs 65536 a)) (h2 : Rd .i64 w A2 n2 c2 (digs 65536 b)) (hn : n ≤ 1000000) (hn2 : n2 ≤ 1000000) :
    Calls Try.prog 33 #[.slice A n c, .slice A2 n2 c2] w (Got .i64 (digs 65536 (a + b)) w) := by
  obtain ⟨i0, hi, hz0, hz1, hz2⟩ := info_parts Try.infoInt
  go_enter Try.func33, Try.ntmps33
  go_wp2
  go_loopw [5, 6, 7] (fun v s k wr => ∃ i q : Nat, i ≤ n + n2 ∧ (i ≤ n ∨ i ≤ n2) ∧ k = .int .i64 (i : Int) ∧ q ≤ 1 ∧ Hid (q = carry a b i) ∧ s = .int .i64 (q : Int) ∧ wr.ownsRow w.heap.size 3 1 v i (nums .i64 (lowd 65536 i (a + b))) ∧ Below w.heap.size w wr) (fun _ _ k _ => n + n2 + 1 - (intOf k).toNat)
  case atStart =>
    exact ⟨0, 0, by omega, by omega, rfl, by omega, (carry_zero a b).symm, rfl, World.ownsRow_made w #[] 0 (Nat.le_refl _) (by simp [maxLen]) rfl, (Below.refl _ _).alloc (Nat.le_refl _) _⟩
  case round =>
    obtain ⟨i, q, hin, hin2, rfl, hq1, hq, rfl, hown, hb⟩ := hrel
    have hsz := hb.size
    by_cases c1 : i < n
    · obtain ⟨b1, o1, rfl, hb1, d1, hd1, hd1e, hc1⟩ := digit_at (h.below hb) c1
      by_cases c2 : i < n2
      · obtain ⟨b2, o2, rfl, hb2, d2, hd2, hd2e, hc2⟩ := digit_at (h2.below hb) c2
        have HE : Hid ((d1 + d2 + q) % 65536 = (a + b) / 65536 ^ i % 65536) := by have e1 := hd1e.out; have e2 := hd2e.out; have e3 := hq.out; subst e1 e2 e3; exact add_digit a b i
        have HC : Hid ((d1 + d2 + q) / 65536 = carry a b (i + 1)) := by have e1 := hd1e.out; have e2 := hd2e.out; have e3 := hq.out; subst e1 e2 e3; exact add_carry a b i
        clear hd1e hd2e hq
        go_wp2_with (at_builtin; refine wp_append_num wr .i64 _ rfl (.tmp 41) (.tmp 44) 25 rfl w.heap.size 3 i0 Try.underlying25 hi hz0 hz1 (by omega) _ _ _ rfl hown _ rfl rfl ((a + b) / 65536 ^ i % 65536) ?hd (by omega) (by omega) ?_)
        case hd => rw [← HE.out]; omega
        intro v' w1 hown' hbel
        have hown2 : w1.ownsRow w.heap.size 3 1 v' (i + 1) (nums .i64 (lowd 65536 (i + 1) (a + b))) := by rw [lowd_succ]; exact hown'
        have hb2 := hb.trans hbel
        clear hown' hbel hown hb HE
        go_wp2
        go_roundw
        case rel => exact ⟨i + 1, (d1 + d2 + q) / 65536, by omega, by omega, by go_num, by omega, HC, by go_num, hown2, hb2⟩
        case measure => simp [intOf]; omega
      · have hz2e := digit_none h2 (i := i) (by omega)
        have HE : Hid ((d1 + q) % 65536 = (a + b) / 65536 ^ i % 65536) := by have e1 := hd1e.out; have e3 := hq.out; subst e1 e3; have := add_digit a b i; rw [hz2e, Nat.add_zero] at this; exact this
        have HC : Hid ((d1 + q) / 65536 = carry a b (i + 1)) := by have e1 := hd1e.out; have e3 := hq.out; subst e1 e3; have := add_carry a b i; rw [hz2e, Nat.add_zero] at this; exact this
        clear hd1e hq hz2e
        go_wp2_with (at_builtin; refine wp_append_num wr .i64 _ rfl (.tmp 41) (.tmp 44) 25 rfl w.heap.size 3 i0 Try.underlying25 hi hz0 hz1 (by omega) _ _ _ rfl hown _ rfl rfl ((a + b) / 65536 ^ i % 65536) ?hd (by omega) (by omega) ?_)
        case hd => rw [← HE.out]; omega
        intro v' w1 hown' hbel
        have hown2 : w1.ownsRow w.heap.size 3 1 v' (i + 1) (nums .i64 (lowd 65536 (i + 1) (a + b))) := by rw [lowd_succ]; exact hown'
        have hb2 := hb.trans hbel
        clear hown' hbel hown hb HE
        go_wp2
        go_roundw
        case rel => exact ⟨i + 1, (d1 + q) / 65536, by omega, by omega, by go_num, by omega, HC, by go_num, hown2, hb2⟩
        case measure => simp [intOf]; omega
    · have hz1e := digit_none h (i := i) (by omega)
      by_cases c2 : i < n2
      · obtain ⟨b2, o2, rfl, hb2, d2, hd2, hd2e, hc2⟩ := digit_at (h2.below hb) c2
        have HE : Hid ((d2 + q) % 65536 = (a + b) / 65536 ^ i % 65536) := by have e1 := hd2e.out; have e3 := hq.out; subst e1 e3; have := add_digit a b i; rw [hz1e, Nat.zero_add] at this; exact this
        have HC : Hid ((d2 + q) / 65536 = carry a b (i + 1)) := by have e1 := hd2e.out; have e3 := hq.out; subst e1 e3; have := add_carry a b i; rw [hz1e, Nat.zero_add] at this; exact this
        clear hd2e hq hz1e
        go_wp2_with (at_builtin; refine wp_append_num wr .i64 _ rfl (.tmp 41) (.tmp 44) 25 rfl w.heap.size 3 i0 Try.underlying25 hi hz0 hz1 (by omega) _ _ _ rfl hown _ rfl rfl ((a + b) / 65536 ^ i % 65536) ?hd (by omega) (by omega) ?_)
        case hd => rw [← HE.out]; omega
        intro v' w1 hown' hbel
        have hown2 : w1.ownsRow w.heap.size 3 1 v' (i + 1) (nums .i64 (lowd 65536 (i + 1) (a + b))) := by rw [lowd_succ]; exact hown'
        have hb2 := hb.trans hbel
        clear hown' hbel hown hb HE
        go_wp2
        go_roundw
        case rel => exact ⟨i + 1, (d2 + q) / 65536, by omega, by omega, by go_num, by omega, HC, by go_num, hown2, hb2⟩
        case measure => simp [intOf]; omega
      · have ha : a < 65536 ^ i := (digs_length_le_iff 65536 (by omega) a i).1 (by rw [h.len]; omega)
        have hbb : b < 65536 ^ i := (digs_length_le_iff 65536 (by omega) b i).1 (by rw [h2.len]; omega)
        have hlast : Hid (q = (a + b) / 65536 ^ i % 65536) := by
          have e := add_last a b i ha hbb
          have e2 := hq.out
          unfold Hid
          rw [← e, ← e2]
          omega
        have hfin : Hid (trimL (lowd 65536 (i + 1) (a + b)) = digs 65536 (a + b)) := by
          refine digs_lowd 65536 (by omega) _ _ ?_
          rw [Nat.pow_succ]; omega
        clear hz1e hq ha hbb
        go_wp2_with (at_builtin; refine wp_append_num wr .i64 _ rfl (.tmp 48) (.tmp 50) 25 rfl w.heap.size 3 i0 Try.underlying25 hi hz0 hz1 (by omega) _ _ _ rfl hown _ rfl rfl ((a + b) / 65536 ^ i % 65536) ?hd (by omega) (by omega) ?_)
        case hd => rw [← hlast.out]
        intro v' w1 hown' hbel
        obtain ⟨A', c', rfl⟩ := own_form hown'
        rw [← lowd_succ] at hown'
        have hr := rd_own hown'
        have hb2 := hb.trans hbel
        clear hown' hbel hown hb hlast
        go_wp2_with fail
        refine (trim_any _ _ _ _ _ hr).mono ?_
        rintro e w' ⟨A2, n2, c2, rfl, hr2, rfl⟩
        go_wp2
        go_ret
        exact ⟨_, _, _, rfl, by rw [← hfin.out]; exact hr2, hb2⟩

set_option maxRecDepth 100000 in
set_option maxHeartbeats 400000 in
/-- spec.Cmp. -/
theorem cmp_any (A : Option Addr) (n c a : Nat) (A2 : Option Addr) (n2 c2 b : Nat) (w : World) (h : Rd .i64 w A n c (digs 65536 a)) (h2 : Rd .i64 w A2 n2 c2 (digs 65536 b)) (hn : n ≤ 1000000) (hn2 : n2 ≤ 1000000) :
    Calls Try.prog 49 #[.slice A n c, .slice A2 n2 c2] w fun e w' => e = .returned (.int .i64 (cmpN a b)) ∧ ∃ m, w' = w.drewN m := by
  by_cases h1 : n < n2
  · rw [cmpN_len_lt a b (by rw [h.len, h2.len]; exact h1)]
    go_enter Try.func49, Try.ntmps49
    go_wp2
    go_ret
    exact ⟨rfl, 0, rfl⟩
  by_cases h3 : n2 < n
  · rw [cmpN_len_gt a b (by rw [h.len, h2.len]; exact h3)]
    go_enter Try.func49, Try.ntmps49
    go_wp2
    go_ret
    exact ⟨rfl, 0, rfl⟩
  obtain rfl : n = n2 := by omega
  have hs : Hid (a / 65536 ^ n = b / 65536 ^ n) := by
    have e1 := (digs_length_le_iff 65536 (by omega) a n).1 (by rw [h.len]; exact Nat.le_refl _)
    have e2 := (digs_length_le_iff 65536 (by omega) b n).1 (by rw [h2.len]; exact Nat.le_refl _)
    unfold Hid
    rw [Nat.div_eq_of_lt e1, Nat.div_eq_of_lt e2]
  clear h1 h3
  go_enter Try.func49, Try.ntmps49
  go_wp2
  go_loopw [5] (fun s wr => ∃ m j : Nat, m ≤ n ∧ s = .int .i64 ((m : Int) - 1) ∧ Hid (a / 65536 ^ m = b / 65536 ^ m) ∧ wr = w.drewN j) (fun s _ => (intOf s + 1).toNat)
  case atStart => exact ⟨n, 0, Nat.le_refl _, rfl, hs, rfl⟩
  case round =>
    obtain ⟨m, j, hmn, rfl, he, rfl⟩ := hrel
    clear hs
    by_cases h0 : 0 < m
    · obtain ⟨b1, o1, rfl, hb1, d1, hd1, hd1e, hc1⟩ := digit_at h (i := m - 1) (by omega)
      obtain ⟨b2, o2, rfl, hb2, d2, hd2, hd2e, hc2⟩ := digit_at h2 (i := m - 1) (by omega)
      have hm1 : (0 : Int) ≤ (m : Int) - 1 := by omega
      have hm2 : (m : Int) - 1 < (n : Int) := by omega
      have he2 : Hid (a / 65536 ^ (m - 1 + 1) = b / 65536 ^ (m - 1 + 1)) := by rw [show m - 1 + 1 = m by omega]; exact he
      by_cases hlt : d1 < d2
      · have hres := Lib.hid <| cmpN_digit_lt a b (m - 1) he2 (by rw [← hd1e.out, ← hd2e.out]; exact hlt)
        clear hd1e hd2e he he2
        go_wp2
        go_quiet (fail)
        go_wp2
        go_ret
        exact ⟨by rw [hres.out]; rfl, _, by simp only [World.drewN_drewN]; rfl⟩
      · by_cases hgt : d2 < d1
        · have hres := Lib.hid <| cmpN_digit_gt a b (m - 1) he2 (by rw [← hd1e.out, ← hd2e.out]; exact hgt)
          clear hd1e hd2e he he2
          go_wp2
          go_quiet (fail)
          go_wp2
          go_quiet (fail)
          go_wp2
          go_ret
          exact ⟨by rw [hres.out]; rfl, _, by simp only [World.drewN_drewN]; rfl⟩
        · have heq : d1 = d2 := by omega
          subst heq
          have he3 : Hid (a / 65536 ^ (m - 1) = b / 65536 ^ (m - 1)) := div_eq_step a b (m - 1) he2 (by rw [← hd1e.out, ← hd2e.out])
          clear hd1e hd2e he he2 hlt hgt
          go_wp2
          go_quiet (fail)
          go_wp2
          go_quiet (fail)
          go_wp2
          go_roundw
          case rel => exact ⟨m - 1, _, by omega, by go_num, he3, rfl⟩
          case measure => simp [intOf]; omega
    · have hm0 : m = 0 := by omega
      subst hm0
      have hres : Hid (cmpN a b = 0) := by
        have e := he.out
        unfold Hid
        simp only [Nat.pow_zero, Nat.div_one] at e
        rw [e, cmpN_eq]
      clear he
      go_wp2
      go_ret
      exact ⟨by rw [hres.out]; rfl, _, rfl⟩
end Go.Proofs.Ytbmcpbebjgponaa
