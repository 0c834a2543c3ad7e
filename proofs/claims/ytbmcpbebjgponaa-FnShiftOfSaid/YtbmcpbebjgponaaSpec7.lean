/- The reference's whole numbers and 64 bits: it proves that Whole answers a natural number as a fraction, Int64 its value and whether it fits 64 bits, and fits whether these are told. Conditions: the slices read as digits, of at most ten thousand. -/
import Derived.Test.YtbmcpbebjgponaaSpec3
import Derived.Test.YtbmcpbebjgponaaSpec4
namespace Go.Proofs.Ytbmcpbebjgponaa
open Go.RowKit

set_option maxRecDepth 100000 in
set_option maxHeartbeats 400000 in
/-- spec.Whole, not negated. -/
theorem whole_false (A : Option Addr) (n c N : Nat) (w : World) (h : Rd .i64 w A n c (digs 65536 N)) :
    Calls Try.prog 17 #[.bool false, .slice A n c] w (GotRat false N 1 w) := by
  go_enter Try.func17, Try.ntmps17
  go_wp2_with fail
  refine (small_any 1 (by omega) _).mono ?_
  rintro e w2 ⟨A2, n2, c2, rfl, hr2, hb2⟩
  have hB2 : Box w2 w.heap.size 27 #[.bool false, .slice none 0 0, .slice none 0 0] := (Box.new w _ _ _ rfl).below hb2 (by simp)
  have hr' := (h.alloc (.cells #[.bool false, .slice none 0 0, .slice none 0 0] 27)).below hb2
  obtain ⟨k0, k1, k2, f0, f1, f2, hlt⟩ := hB2.three
  have hbel : Below w.heap.size w w2 := ((Below.refl _ w).alloc (Nat.le_refl _) _).trans (hb2.mono (by simp))
  go_wp2
  have hend := rat_end (neg := false) hB2 (by simp [notInt]) hr' hr2 hbel (Nat.le_refl w.heap.size) _ rfl
  obtain ⟨r0, r1, r2, hgot⟩ := hend
  exact bodyPost_ret (v := .agg #[.bool false, .slice A n c, .slice A2 n2 c2]) (by simp [results, Try.results17, go_sem, r0, r1, r2]) rfl hgot

theorem wrap_eq (a b k : Int) (h : a = b + 18446744073709551616 * k) : IntKind.i64.wrap a = IntKind.i64.wrap b := by
  subst h
  simp only [IntKind.wrap_i64]
  omega
theorem wrap_self (a : Int) : ∃ k : Int, IntKind.i64.wrap a = a + 18446744073709551616 * k :=
  ⟨-((a + 9223372036854775808) / 18446744073709551616), by rw [IntKind.wrap_i64]; omega⟩
theorem wrap_step (N i d : Nat) (hd : d = N / 65536 ^ i % 65536) (x : Int) (hx : x = IntKind.i64.wrap ((N / 65536 ^ (i + 1) : Nat) : Int)) :
    IntKind.i64.wrap (IntKind.i64.wrap (x * 65536) + (d : Int)) = IntKind.i64.wrap ((N / 65536 ^ i : Nat) : Int) := by
  have h1 := top_split N i
  rw [← hd] at h1
  obtain ⟨k1, e1⟩ := wrap_self ((N / 65536 ^ (i + 1) : Nat) : Int)
  obtain ⟨k2, e2⟩ := wrap_self (x * 65536)
  rw [h1, e2]
  rw [← hx] at e1
  generalize N / 65536 ^ (i + 1) = q at *
  exact wrap_eq _ _ (k1 * 65536 + k2) (by omega)
theorem wrap_zero : IntKind.i64.wrap ((0 : Nat) : Int) = 0 := by rw [IntKind.wrap_i64]; rfl
theorem wrap_bounds (x : Int) : -9223372036854775808 ≤ IntKind.i64.wrap x ∧ IntKind.i64.wrap x ≤ 9223372036854775807 := by rw [IntKind.wrap_i64]; omega
theorem wrap_fits (N : Nat) (x : Int) (hx : x = IntKind.i64.wrap (N : Int)) : (decide (x < 0) == false && cmpN x.natAbs N == 0) = decide (N < 9223372036854775808) := by
  rw [IntKind.wrap_i64] at hx
  by_cases h : N < 9223372036854775808
  · have e : x = N := by omega
    rw [decide_eq_true h, e]
    have e2 : ((N : Int)).natAbs = N := by omega
    rw [e2, cmpN_eq, decide_eq_false (by omega)]
    rfl
  · rw [decide_eq_false h]
    by_cases h0 : x < 0
    · rw [decide_eq_true h0]; rfl
    · have hne : x.natAbs < N := by omega
      have : cmpN x.natAbs N = -1 := by unfold cmpN; rw [if_pos hne]
      rw [this]; simp

set_option maxRecDepth 100000 in
set_option maxHeartbeats 1000000 in
/-- spec.Int64 of a natural number. -/
theorem int64_nat (A : Option Addr) (n c : Nat) (A2 : Option Addr) (n2 c2 N : Nat) (w : World) (h : Rd .i64 w A n c (digs 65536 N)) (hn : n ≤ 10000) :
    Calls Try.prog 32 #[.agg #[.bool false, .slice A n c, .slice A2 n2 c2]] w fun e w' => e = .returned (.tuple #[.int .i64 (IntKind.i64.wrap (N : Int)), .bool (decide (N < 9223372036854775808))]) ∧ Below w.heap.size w w' := by
  have h1 := h.alloc (.cells #[.bool false, .slice A n c, .slice A2 n2 c2] 27)
  have hbox := Box.new w 27 #[.bool false, .slice A n c, .slice A2 n2 c2] w.heap.size rfl
  have hb0 : Below w.heap.size w (w.alloc (.cells #[.bool false, .slice A n c, .slice A2 n2 c2] 27)) := (Below.refl _ w).alloc (Nat.le_refl _) _
  have hs : Hid ((0 : Int) = IntKind.i64.wrap ((N / 65536 ^ n : Nat) : Int)) := by
    have e1 := (digs_length_le_iff 65536 (by omega) N n).1 (by rw [h.len]; exact Nat.le_refl _)
    unfold Hid
    rw [Nat.div_eq_of_lt e1, wrap_zero]
  go_enter Try.func32, Try.ntmps32
  go_wp2
  go_loop [4, 5] (fun s k => ∃ (m : Nat) (x : Int), m ≤ n ∧ s = .int .i64 x ∧ k = .int .i64 ((m : Int) - 1) ∧ Hid (x = IntKind.i64.wrap ((N / 65536 ^ m : Nat) : Int))) (fun _ k => (intOf k + 1).toNat)
  case atStart => exact ⟨n, 0, Nat.le_refl _, rfl, rfl, hs⟩
  case round =>
    obtain ⟨m, x, hmn, rfl, rfl, hx⟩ := hrel
    clear hs
    by_cases h0 : 0 < m
    · obtain ⟨b1, o1, rfl, hb1, d, hd, hde, hc1⟩ := digit_at h (i := m - 1) (by omega)
      have hm1 : (0 : Int) ≤ (m : Int) - 1 := by omega
      have hm2 : (m : Int) - 1 < (n : Int) := by omega
      obtain ⟨y, hy⟩ : ∃ y, IntKind.i64.wrap (x * 65536) = y := ⟨_, rfl⟩
      obtain ⟨z, hz⟩ : ∃ z, IntKind.i64.wrap (y + (d : Int)) = z := ⟨_, rfl⟩
      have hze : Hid (z = IntKind.i64.wrap ((N / 65536 ^ (m - 1) : Nat) : Int)) := by
        unfold Hid
        rw [← hz, ← hy]
        exact wrap_step N (m - 1) d hde.out x (by rw [show m - 1 + 1 = m by omega]; exact hx)
      clear hde hx
      go_wp2
      go_round
      case rel => exact ⟨m - 1, z, by omega, rfl, by go_num, hze⟩
      case measure => simp [intOf]; omega
    · have hm0 : m = 0 := by omega
      have hxN : x = IntKind.i64.wrap (N : Int) := by
        have e := hx.out
        rw [hm0, Nat.pow_zero, Nat.div_one] at e
        exact e
      have hfit := Lib.hid (wrap_fits N x hxN)
      have hxb := wrap_bounds (N : Int)
      rw [← hxN] at hxb
      have hlenx : Hid ((digs 65536 x.natAbs).length ≤ 10000) := by
        refine Nat.le_trans (digs_length_le 65536 (by omega) _ 4 ?_) (by omega)
        omega
      have HO := Lib.hid (of64_any x hxb.1 hxb.2)
      have HX := Lib.hid hxN
      clear hx hxN hxb hm0
      generalize decide (x < 0) = ng at *
      generalize x.natAbs = X at *
      have hneg : ¬ (0 : Int) ≤ (m : Int) - 1 := by omega
      cases ng
      · have hfit2 : Hid (((cmpN X N == 0)) = decide (N < 9223372036854775808)) := by have := hfit.out; unfold Hid; simpa using this
        clear hfit
        go_wp2_with fail
        refine (HO.out _).mono ?_
        rintro e w2 ⟨A3, n3, c3, A4, n4, c4, rfl, hr3, hr4, hb2⟩
        have hn3 : n3 ≤ 10000 := by rw [← hr3.len]; exact hlenx.out
        obtain ⟨k0, k1, k2, f0, f1, f2, hlt⟩ := (hbox.below hb2 (by simp)).three
        have h2 := h1.below hb2
        go_wp2_with fail
        refine (cmp_any A3 n3 c3 X A n c N _ (hr3.alloc _) (h2.alloc _) (by omega) (by omega)).mono ?_
        rintro e w3 ⟨rfl, j, rfl⟩
        generalize cmpN X N = cv at *
        go_wp2
        go_ret2
        exact ⟨by rw [← hfit2.out, ← HX.out]; rfl, below_drewN (((hb0.trans (hb2.mono (by simp)))).alloc (by omega) _) _⟩
      · have hfit2 : Hid (decide (N < 9223372036854775808) = false) := by have := hfit.out; unfold Hid; rw [← this]; rfl
        clear hfit
        go_wp2_with fail
        refine (HO.out _).mono ?_
        rintro e w2 ⟨A3, n3, c3, A4, n4, c4, rfl, hr3, hr4, hb2⟩
        obtain ⟨k0, k1, k2, f0, f1, f2, hlt⟩ := (hbox.below hb2 (by simp)).three
        go_wp2_with fail
        go_ret2
        exact ⟨by rw [hfit2.out, ← HX.out]; rfl, ((hb0.trans (hb2.mono (by simp)))).alloc (by omega) _⟩

set_option maxRecDepth 100000 in
set_option maxHeartbeats 1000000 in
/-- laws.fits, of what is told rightly. -/
theorem fits_any (x : Int) (ok : Bool) (A : Option Addr) (n c : Nat) (A2 : Option Addr) (n2 c2 N : Nat) (w : World) (h : Rd .i64 w A n c (digs 65536 N)) (hn : n ≤ 10000) (hok : ok = decide (N < 9223372036854775808)) (hx : ok = true → x = (N : Int)) :
    Calls Try.prog 16 #[.int .i64 x, .bool ok, .agg #[.bool false, .slice A n c, .slice A2 n2 c2]] w fun e w' => e = .returned (.bool true) ∧ Below w.heap.size w w' := by
  have h1 := h.alloc (.cells #[.bool false, .slice A n c, .slice A2 n2 c2] 27)
  have hb0 : Below w.heap.size w (w.alloc (.cells #[.bool false, .slice A n c, .slice A2 n2 c2] 27)) := (Below.refl _ w).alloc (Nat.le_refl _) _
  have HI := Lib.hid (int64_nat A n c A2 n2 c2 N _ h1 hn)
  rw [← hok] at HI
  have hxw : Hid (ok = true → x = IntKind.i64.wrap (N : Int)) := by
    intro e
    have h2 : N < 9223372036854775808 := by rw [e] at hok; exact of_decide_eq_true hok.symm
    rw [hx e, IntKind.wrap_i64]; omega
  clear hok hx
  generalize IntKind.i64.wrap (N : Int) = y at *
  cases ok
  · clear hxw
    go_enter Try.func16, Try.ntmps16
    go_wp2_with fail
    refine HI.out.mono ?_
    rintro e w2 ⟨rfl, hb2⟩
    go_wp2
    go_ret
    exact ⟨by simp, hb0.trans (hb2.mono (by simp))⟩
  · obtain rfl : x = y := hxw.out rfl
    clear hxw
    go_enter Try.func16, Try.ntmps16
    go_wp2_with fail
    refine HI.out.mono ?_
    rintro e w2 ⟨rfl, hb2⟩
    go_wp2
    go_ret
    exact ⟨by simp, hb0.trans (hb2.mono (by simp))⟩
end Go.Proofs.Ytbmcpbebjgponaa
