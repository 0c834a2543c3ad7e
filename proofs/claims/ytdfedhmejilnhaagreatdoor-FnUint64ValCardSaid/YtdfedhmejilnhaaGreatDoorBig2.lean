/- The package's integers in memory: it proves what low64, Bits, Int64, Uint64, IsInt64, IsUint64, newInt, SetInt64, SetUint64 and SetBits answer. Conditions: the integer's words are its digits. -/
import Derived.Test.YtdfedhmejilnhaaGreatDoorBig1
namespace Go.Proofs.YtdfedhmejilnhaaGreatDoor
open Go.RowKit

set_option maxRecDepth 100000 in
set_option maxHeartbeats 400000 in
/-- big.low64. -/
theorem low64_any (A : Option Addr) (n c N : Nat) (w : World) (h : Rd .u64 w A n c (digs W64 N)) :
    Calls Tryz.prog 40 #[.slice A n c] w fun e w' => e = .returned (.int .u64 ((N % W64 : Nat) : Int)) ∧ w = w' := by
  have hlen := h.len
  have hpos := digs_length_pos W64 two_W64 N
  by_cases h0 : n = 0
  · have hN : N % W64 = 0 := by
      have : N = 0 := by omega
      subst this; simp
    rw [hN]
    subst h0
    clear hlen hpos h hN
    go_enter Tryz.func40, Tryz.ntmps40
    go_wp2
    go_ret
    exact ⟨rfl, rfl⟩
  · obtain ⟨b, o, rfl, hb, d, hd, hc⟩ := h.at_ (j := 0) (by omega)
    have hN : N % W64 = d := by
      obtain ⟨hl, hd⟩ := hd
      rw [← hd, digs_get]; simp
    rw [hN]
    have hne : ((n : Int) == 0) = false := by simp; omega
    have hgt : (0 : Int) < (n : Int) := by omega
    rw [Nat.add_zero] at hc
    clear hlen hpos h hN hd
    go_enter Tryz.func40, Tryz.ntmps40
    go_wp2
    go_ret
    exact ⟨rfl, rfl⟩

set_option maxRecDepth 100000 in
set_option maxHeartbeats 400000 in
/-- Int.Bits. -/
theorem bits_any (g : Nat) (neg : Bool) (N : Nat) (w : World) (h : IntAt w g neg N) :
    Calls Tryz.prog 37 #[.pointer (some ⟨g, 0, none⟩)] w (GotSame .u64 (digs W64 N) w) := by
  obtain ⟨A, n, c, hB, hr⟩ := h
  obtain ⟨k0, k1, f0, f1, hlt⟩ := hB.two
  go_enter Tryz.func37, Tryz.ntmps37
  go_wp2
  go_ret
  exact ⟨_, _, _, rfl, hr, rfl⟩


set_option maxRecDepth 100000 in
set_option maxHeartbeats 400000 in
/-- Int.Uint64. -/
theorem uint64_any (g : Nat) (neg : Bool) (N : Nat) (w : World) (h : IntAt w g neg N) :
    Calls Tryz.prog 28 #[.pointer (some ⟨g, 0, none⟩)] w fun e w' => e = .returned (.int .u64 ((N % W64 : Nat) : Int)) ∧ w = w' := by
  obtain ⟨A, n, c, hB, hr⟩ := h
  obtain ⟨k0, k1, f0, f1, hlt⟩ := hB.two
  have H := Lib.hid (low64_any A n c N w hr)
  generalize N % W64 = m at *
  go_enter Tryz.func28, Tryz.ntmps28
  go_wp2_with fail
  refine H.out.mono ?_
  rintro e w1 ⟨rfl, rfl⟩
  go_wp2
  go_ret
  exact ⟨rfl, rfl⟩

theorem len_one (n N : Nat) (h : (digs W64 N).length = n) : decide (n ≤ 1) = decide (N < W64) := by
  have := digs_length_le_iff W64 two_W64 N 1
  rw [h, Nat.pow_one] at this
  exact decide_eq_decide.2 this

set_option maxRecDepth 100000 in
set_option maxHeartbeats 400000 in
/-- Int.IsUint64. -/
theorem isUint64_any (g : Nat) (neg : Bool) (N : Nat) (w : World) (h : IntAt w g neg N) :
    Calls Tryz.prog 29 #[.pointer (some ⟨g, 0, none⟩)] w fun e w' => e = .returned (.bool (!neg && decide (N < W64))) ∧ w = w' := by
  obtain ⟨A, n, c, hB, hr⟩ := h
  obtain ⟨k0, k1, f0, f1, hlt⟩ := hB.two
  rw [← len_one n N hr.len]
  cases neg
  · by_cases h1 : n ≤ 1
    · rw [decide_eq_true h1]
      go_enter Tryz.func29, Tryz.ntmps29
      go_wp2
      go_ret
      exact ⟨by simp; omega, rfl⟩
    · rw [decide_eq_false h1]
      go_enter Tryz.func29, Tryz.ntmps29
      go_wp2
      go_ret
      exact ⟨by simp; omega, rfl⟩
  · go_enter Tryz.func29, Tryz.ntmps29
    go_wp2
    go_ret
    exact ⟨rfl, rfl⟩

/-- The number that Int64 answers. -/
def int64Of (neg : Bool) (N : Nat) : Int := if neg then wrap64 (-wrap64 ((N % W64 : Nat) : Int)) else wrap64 ((N % W64 : Nat) : Int)

set_option maxRecDepth 100000 in
set_option maxHeartbeats 400000 in
/-- Int.Int64. -/
theorem int64_any (g : Nat) (neg : Bool) (N : Nat) (w : World) (h : IntAt w g neg N) :
    Calls Tryz.prog 51 #[.pointer (some ⟨g, 0, none⟩)] w fun e w' => e = .returned (.int .i64 (int64Of neg N)) ∧ w = w' := by
  obtain ⟨A, n, c, hB, hr⟩ := h
  obtain ⟨k0, k1, f0, f1, hlt⟩ := hB.two
  have H := Lib.hid (low64_any A n c N w hr)
  unfold int64Of
  generalize N % W64 = m at *
  cases neg
  · go_enter Tryz.func51, Tryz.ntmps51
    go_wp2_with fail
    refine H.out.mono ?_
    rintro e w1 ⟨rfl, rfl⟩
    go_wp2
    go_ret
    exact ⟨rfl, rfl⟩
  · go_enter Tryz.func51, Tryz.ntmps51
    go_wp2_with fail
    refine H.out.mono ?_
    rintro e w1 ⟨rfl, rfl⟩
    go_wp2
    go_ret
    exact ⟨rfl, rfl⟩

/-- Whether an integer fits 64 bits. -/
def fits64 (neg : Bool) (N : Nat) : Bool := decide (N < 9223372036854775808) || (neg && decide (N = 9223372036854775808))

theorem wrap64_small (m : Nat) (h : m < 9223372036854775808) : wrap64 (m : Int) = m := by unfold wrap64; omega
theorem wrap64_great (m : Nat) (h1 : ¬ m < 9223372036854775808) (h2 : m < 18446744073709551616) : wrap64 (m : Int) = m - 18446744073709551616 := by unfold wrap64; omega

set_option maxRecDepth 100000 in
set_option maxHeartbeats 400000 in
/-- Int.IsInt64. -/
theorem isInt64_any (g : Nat) (neg : Bool) (N : Nat) (w : World) (h : IntAt w g neg N) :
    Calls Tryz.prog 50 #[.pointer (some ⟨g, 0, none⟩)] w fun e w' => e = .returned (.bool (fits64 neg N)) ∧ w = w' := by
  obtain ⟨A, n, c, hB, hr⟩ := h
  obtain ⟨k0, k1, f0, f1, hlt⟩ := hB.two
  have hlen := digs_length_le_iff W64 two_W64 N 1
  rw [hr.len, Nat.pow_one] at hlen
  have hH := low64_any A n c N w hr
  by_cases h1 : n ≤ 1
  · have hN : N < W64 := hlen.1 h1
    rw [Nat.mod_eq_of_lt hN] at hH
    have H := Lib.hid hH
    have h1b : (n : Int) ≤ 1 := by omega
    clear hH hlen hr
    by_cases h2 : N < 9223372036854775808
    · have hf : fits64 neg N = true := by unfold fits64; rw [decide_eq_true h2]; rfl
      rw [hf]
      have hw : wrap64 (N : Int) = (N : Int) := wrap64_small N h2
      have hpos : (0 : Int) ≤ (N : Int) := by omega
      clear hN h2 hf
      go_enter Tryz.func50, Tryz.ntmps50
      go_wp2_with fail
      refine H.out.mono ?_
      rintro e w1 ⟨rfl, rfl⟩
      go_wp2
      go_ret
      exact ⟨by simp, rfl⟩
    · have hw := wrap64_great N h2 hN
      by_cases h3 : N = 9223372036854775808
      · have hx : wrap64 (N : Int) = -9223372036854775808 := by rw [hw, h3]; rfl
        have hy : wrap64 (9223372036854775808 : Int) = -9223372036854775808 := by unfold wrap64; rfl
        have hf : fits64 neg N = neg := by unfold fits64; rw [decide_eq_false h2, decide_eq_true h3]; simp
        rw [hf]
        clear hN h2 h3 hf hw
        cases neg
        · go_enter Tryz.func50, Tryz.ntmps50
          go_wp2_with fail
          refine H.out.mono ?_
          rintro e w1 ⟨rfl, rfl⟩
          go_wp2
          go_ret
          exact ⟨by simp, rfl⟩
        · go_enter Tryz.func50, Tryz.ntmps50
          go_wp2_with fail
          refine H.out.mono ?_
          rintro e w1 ⟨rfl, rfl⟩
          go_wp2
          go_ret
          exact ⟨by simp, rfl⟩
      · have hf : fits64 neg N = false := by unfold fits64; rw [decide_eq_false h2, decide_eq_false h3]; simp
        rw [hf]
        obtain ⟨x, hx⟩ : ∃ x : Int, x = (N : Int) - 18446744073709551616 := ⟨_, rfl⟩
        have hN2 : N < 18446744073709551616 := hN
        have hneg : ¬ (0 : Int) ≤ x := by omega
        have hxx : (x == -x) = false := by simp; omega
        have hwx : wrap64 (-x) = -x := by unfold wrap64; omega
        have hw2 : wrap64 (N : Int) = x := by rw [hw, hx]
        clear hN h2 h3 hf hw hx hN2
        cases neg
        · go_enter Tryz.func50, Tryz.ntmps50
          go_wp2_with fail
          refine H.out.mono ?_
          rintro e w1 ⟨rfl, rfl⟩
          go_wp2
          go_ret
          exact ⟨by simp; exact hneg, rfl⟩
        · go_enter Tryz.func50, Tryz.ntmps50
          go_wp2_with fail
          refine H.out.mono ?_
          rintro e w1 ⟨rfl, rfl⟩
          go_wp2
          go_ret
          exact ⟨by simp; exact hneg, rfl⟩
  · have hN : ¬ N < W64 := fun e => h1 (hlen.2 e)
    have hf : fits64 neg N = false := by
      have : ¬ N < 18446744073709551616 := hN
      unfold fits64; rw [decide_eq_false (by omega), decide_eq_false (by omega)]; simp
    rw [hf]
    have h1b : ¬ (n : Int) ≤ 1 := by omega
    clear hH hlen hr hN hf
    go_enter Tryz.func50, Tryz.ntmps50
    go_wp2
    go_ret
    exact ⟨rfl, rfl⟩

/-- constant.newInt. -/
theorem newInt_any (w : World) : Calls Tryz.prog 47 #[] w fun e w' => e = .returned (.pointer (some ⟨w.heap.size, 0, none⟩)) ∧ w' = w.alloc (.cells #[.bool false, .slice none 0 0] 88) := by
  go_enter Tryz.func47, Tryz.ntmps47
  go_wp2
  go_ret
  exact ⟨rfl, rfl⟩

/-- The two stores that set an integer. -/
theorem int_set {w : World} {g : Nat} {x y : Value} {neg : Bool} {A : Option Addr} {n c N : Nat} (hB : Box w g 88 #[x, y]) (hx : (#[x, y].all notInt) = true) (hr : Rd .u64 w A n c (digs W64 N)) :
    IntAt ((w.setCell ⟨g, 1, none⟩ (.slice A n c)).setCell ⟨g, 0, none⟩ (.bool neg)) g neg N ∧ w.grownBy ((w.setCell ⟨g, 1, none⟩ (.slice A n c)).setCell ⟨g, 0, none⟩ (.bool neg)) (some g) := by
  have hg := grown_set (grown_set (grown_refl w (some g)) 1 (.slice A n c)) 0 (.bool neg)
  exact ⟨⟨A, n, c, (hB.set 1 _).set 0 _, hr.grown hB hx hg⟩, hg⟩


set_option maxRecDepth 100000 in
set_option maxHeartbeats 400000 in
/-- Int.SetInt64 of a new integer, not below 0. -/
theorem setInt64_pos (g : Nat) (x : Nat) (hx : x < 9223372036854775808) (w : World) (hB : Box w g 88 #[.bool false, .slice none 0 0]) :
    Calls Tryz.prog 48 #[.pointer (some ⟨g, 0, none⟩), .int .i64 (x : Int)] w (SetTo g false x w) := by
  obtain ⟨k0, k1, f0, f1, hlt⟩ := hB.two
  have H := Lib.hid (setUint64_nil x (show x < 18446744073709551616 by omega))
  have hn : ¬ (x : Int) < 0 := by omega
  have hle : (x : Int) ≤ 9223372036854775807 := by omega
  clear hx
  go_enter Tryz.func48, Tryz.ntmps48
  go_wp2_with fail
  refine (H.out _).mono ?_
  rintro e w1 ⟨A, n, c, rfl, hr, hb⟩
  have hB1 := hB.below hb hlt
  obtain ⟨j0, j1, e0, e1, hlt1⟩ := hB1.two
  go_wp2
  go_ret
  have hs := int_set (neg := false) hB1 (by simp [notInt]) hr
  exact ⟨rfl, hs.1, grown_trans (grown_below hb _) hs.2⟩

theorem neg_neg64 (a : Int) (h : a < 0) (h2 : -9223372036854775808 ≤ a) : IntKind.u64.wrap (wrap64 (-a)) = ((a.natAbs : Nat) : Int) := by
  simp only [IntKind.wrap_u64]; unfold wrap64; omega

set_option maxRecDepth 100000 in
set_option maxHeartbeats 400000 in
/-- Int.SetInt64 of a new integer, below 0. -/
theorem setInt64_neg (g : Nat) (a : Int) (h : a < 0) (h2 : -9223372036854775808 ≤ a) (w : World) (hB : Box w g 88 #[.bool false, .slice none 0 0]) :
    Calls Tryz.prog 48 #[.pointer (some ⟨g, 0, none⟩), .int .i64 a] w (SetTo g true a.natAbs w) := by
  obtain ⟨k0, k1, f0, f1, hlt⟩ := hB.two
  have H := Lib.hid (setUint64_nil a.natAbs (show a.natAbs < 18446744073709551616 by omega))
  have he := neg_neg64 a h h2
  generalize a.natAbs = m at *
  clear h2
  go_enter Tryz.func48, Tryz.ntmps48
  go_wp2_with fail
  refine (H.out _).mono ?_
  rintro e w1 ⟨A, n, c, rfl, hr, hb⟩
  have hB1 := hB.below hb hlt
  obtain ⟨j0, j1, e0, e1, hlt1⟩ := hB1.two
  go_wp2
  go_ret
  have hs := int_set (neg := true) hB1 (by simp [notInt]) hr
  exact ⟨rfl, hs.1, grown_trans (grown_below hb _) hs.2⟩

set_option maxRecDepth 100000 in
set_option maxHeartbeats 400000 in
/-- Int.SetBits of a new integer. -/
theorem setBits_any (g : Nat) (A : Option Addr) (n c : Nat) (l : List Nat) (w : World) (hB : Box w g 88 #[.bool false, .slice none 0 0]) (hr : Rd .u64 w A n c l) (hl : ∀ d ∈ l, d < W64) :
    Calls Tryz.prog 44 #[.pointer (some ⟨g, 0, none⟩), .slice A n c] w (SetTo g false (val W64 l) w) := by
  obtain ⟨k0, k1, f0, f1, hlt⟩ := hB.two
  have H := Lib.hid (norm_any A n c l w hr)
  go_enter Tryz.func44, Tryz.ntmps44
  go_wp2_with fail
  refine H.out.mono ?_
  rintro e w1 ⟨A2, n2, c2, rfl, hr2, rfl⟩
  go_wp2
  go_ret
  rw [trimL_val W64 two_W64 l hl] at hr2
  have hs := int_set (neg := false) hB (by simp [notInt]) hr2
  exact ⟨rfl, hs.1, hs.2⟩
end Go.Proofs.YtdfedhmejilnhaaGreatDoor
