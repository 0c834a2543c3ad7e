/- The reference's natural numbers: it proves that Shr answers the digits of the number by a power of 2. Conditions: the slice reads as digits, of at most a million. -/
import Derived.Test.YtbmcpbebjgponaaSpec4
namespace Go.Proofs.Ytbmcpbebjgponaa
open Go.RowKit

/-- The digit that a round of Shr appends. -/
theorem shr_round (a s i k d0 d1 r : Nat) (hi : i = s / 16 + k) (h0 : d0 = a / 65536 ^ i % 65536) (h1 : d1 = a / 65536 ^ (i + 1) % 65536) (hr : r = s % 16) :
    ∃ y : Nat, y ≤ 4294967295 ∧ ((d0 : Int) + 65536 * (d1 : Int)) / 2 ^ r = (y : Int) ∧ y % 65536 = a / 2 ^ s / 65536 ^ k % 65536 := by
  have hd0 : d0 < 65536 := by rw [h0]; exact Nat.mod_lt _ (by omega)
  have hd1 : d1 < 65536 := by rw [h1]; exact Nat.mod_lt _ (by omega)
  refine ⟨(d0 + 65536 * d1) / 2 ^ r, Nat.le_trans (Nat.div_le_self _ _) (by omega), by simp, ?_⟩
  rw [h0, h1, hr]
  exact shr_digit a s i k hi

set_option maxRecDepth 100000 in
set_option maxHeartbeats 400000 in
/-- spec.Shr. -/
theorem shr_any (A : Option Addr) (n c a s : Nat) (w : World) (h : Rd .i64 w A n c (digs 65536 a)) (hn : n ≤ 1000000) (hs : s ≤ 1000000) :
    Calls Try.prog 39 #[.slice A n c, .int .i64 (s : Int)] w (Got .i64 (digs 65536 (a / 2 ^ s)) w) := by
  obtain ⟨i0, hi, hz0, hz1, hz2⟩ := info_parts Try.infoInt
  obtain ⟨q, hq⟩ : ∃ q, q = s / 16 := ⟨_, rfl⟩
  obtain ⟨r, hr⟩ : ∃ r, r = s % 16 := ⟨_, rfl⟩
  have hq2 : (s : Int) / 16 = (q : Int) := by omega
  have hr2 : (s : Int) % 16 = (r : Int) := by omega
  have hr16 : r < 16 := by omega
  have hqs : q ≤ s := by omega
  have HQ := Lib.hid hq
  have HR := Lib.hid hr
  clear hq hr
  go_enter Try.func39, Try.ntmps39
  go_wp2
  go_loopw [5, 6, 7] (fun v k _ wr => ∃ i j : Nat, Hid (i = s / 16 + j) ∧ i ≤ n + q ∧ j ≤ n ∧ (i ≤ n ∨ j = 0) ∧ k = .int .i64 (i : Int) ∧ wr.ownsRow w.heap.size 3 1 v j (nums .i64 (lowd 65536 j (a / 2 ^ s))) ∧ Below w.heap.size w wr) (fun _ k _ _ => n + q - (intOf k).toNat)
  case atStart =>
    exact ⟨q, 0, HQ.out, by omega, by omega, by omega, rfl, World.ownsRow_made w #[] 0 (Nat.le_refl _) (by simp [maxLen]) rfl, (Below.refl _ _).alloc (Nat.le_refl _) _⟩
  case round =>
    obtain ⟨i, j, hiq, hj1, hjn, hj2, rfl, hown, hb⟩ := hrel
    have hsz := hb.size
    have hiq2 : Hid (i + 1 = s / 16 + (j + 1)) := by have := hiq.out; unfold Hid; omega
    by_cases c1 : i < n
    · have hjn2 : j + 1 ≤ n := by have := hiq.out; omega
      obtain ⟨b1, o1, rfl, hb1, d0, hd0, hd0e, hc0⟩ := digit_at (h.below hb) c1
      by_cases c2 : i + 1 < n
      · obtain ⟨b2, o2, e2, hb2, d1, hd1, hd1e, hc1⟩ := digit_at (h.below hb) c2
        injection e2 with e2; injection e2 with e2 e3
        subst e2 e3
        obtain ⟨y, hy1, hy2, hy3⟩ := shr_round a s i j d0 d1 r hiq.out hd0e.out (hd1e.out) HR.out
        obtain ⟨e, he⟩ : ∃ e, e = a / 2 ^ s / 65536 ^ j % 65536 := ⟨_, rfl⟩
        have HE := Lib.hid he
        rw [← he] at hy3
        have HY := Lib.hid hy3
        clear hd0e hd1e hy3 he
        go_wp2_with (at_builtin; refine wp_append_num wr .i64 _ rfl (.tmp 34) (.tmp 40) 25 rfl w.heap.size 3 i0 Try.underlying25 hi hz0 hz1 (by omega) _ _ _ rfl hown _ rfl rfl e ?hd (by omega) (by omega) ?_)
        case hd => have := HY.out; omega
        intro v' w1 hown' hbel
        have hown2 : w1.ownsRow w.heap.size 3 1 v' (j + 1) (nums .i64 (lowd 65536 (j + 1) (a / 2 ^ s))) := by rw [lowd_succ, ← HE.out]; exact hown'
        have hb2 := hb.trans hbel
        clear hown' hbel hown hb HY
        go_wp2
        go_roundw
        case rel => exact ⟨i + 1, j + 1, hiq2, by omega, hjn2, by omega, by go_num, hown2, hb2⟩
        case measure => simp [intOf]; omega
      · have hz1e := digit_none h (i := i + 1) (by omega)
        obtain ⟨y, hy1, hy2, hy3⟩ := shr_round a s i j d0 0 r hiq.out hd0e.out (hz1e.symm) HR.out
        simp only [Int.natCast_zero, Int.mul_zero, Int.add_zero] at hy2
        obtain ⟨e, he⟩ : ∃ e, e = a / 2 ^ s / 65536 ^ j % 65536 := ⟨_, rfl⟩
        have HE := Lib.hid he
        rw [← he] at hy3
        have HY := Lib.hid hy3
        clear hd0e hz1e hy3 he
        go_wp2_with (at_builtin; refine wp_append_num wr .i64 _ rfl (.tmp 34) (.tmp 40) 25 rfl w.heap.size 3 i0 Try.underlying25 hi hz0 hz1 (by omega) _ _ _ rfl hown _ rfl rfl e ?hd (by omega) (by omega) ?_)
        case hd => have := HY.out; omega
        intro v' w1 hown' hbel
        have hown2 : w1.ownsRow w.heap.size 3 1 v' (j + 1) (nums .i64 (lowd 65536 (j + 1) (a / 2 ^ s))) := by rw [lowd_succ, ← HE.out]; exact hown'
        have hb2 := hb.trans hbel
        clear hown' hbel hown hb HY
        go_wp2
        go_roundw
        case rel => exact ⟨i + 1, j + 1, hiq2, by omega, hjn2, by omega, by go_num, hown2, hb2⟩
        case measure => simp [intOf]; omega
    · have hfin : Hid (trimL (lowd 65536 j (a / 2 ^ s)) = digs 65536 (a / 2 ^ s)) := by
        have ha := (digs_length_le_iff 65536 (by omega) a n).1 (by rw [h.len]; exact Nat.le_refl _)
        refine digs_lowd 65536 (by omega) _ _ (shr_len a s j (Nat.lt_of_lt_of_le ha (Nat.pow_le_pow_right (by omega) ?_)))
        have := hiq.out
        omega
      obtain ⟨A', c', rfl⟩ := own_form hown
      have hr' := rd_own hown
      clear hown
      go_wp2_with fail
      refine (trim_any _ _ _ _ _ hr').mono ?_
      rintro e w' ⟨A2, n2, c2, rfl, hr2, rfl⟩
      go_wp2
      go_ret
      exact ⟨_, _, _, rfl, by rw [← hfin.out]; exact hr2, hb⟩
end Go.Proofs.Ytbmcpbebjgponaa
