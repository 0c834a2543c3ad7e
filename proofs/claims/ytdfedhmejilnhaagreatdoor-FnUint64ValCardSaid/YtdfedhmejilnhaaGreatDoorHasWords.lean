/- Whether words are those of a number: it proves what HasWords and IsNumber answer. Conditions: the slices read as digits and words, of at most a million. -/
import Derived.Test.YtdfedhmejilnhaaGreatDoorWords
namespace Go.Proofs.YtdfedhmejilnhaaGreatDoor
open Go.RowKit

theorem same_step {L l : List Nat} {i d : Nat} (h : ∀ j, j < i → L[j]? = l[j]?) (h1 : ∃ hl : i < L.length, L[i] = d) (h2 : ∃ hl : i < l.length, l[i] = d) : ∀ j, j < i + 1 → L[j]? = l[j]? := by
  intro j hj
  rcases Nat.lt_or_ge j i with h3 | h3
  · exact h j h3
  · obtain rfl : j = i := by omega
    obtain ⟨a1, b1⟩ := h1
    obtain ⟨a2, b2⟩ := h2
    rw [List.getElem?_eq_getElem a1, List.getElem?_eq_getElem a2, b1, b2]
theorem same_end {L l : List Nat} {m : Nat} (hL : L.length = m) (hl : l.length = m) (h : ∀ j, j < m → L[j]? = l[j]?) : L = l := by
  apply List.ext_getElem?
  intro j
  rcases Nat.lt_or_ge j m with h3 | h3
  · exact h j h3
  · rw [List.getElem?_eq_none (by omega), List.getElem?_eq_none (by omega)]
theorem same_not {L l : List Nat} {i d d2 : Nat} (h1 : ∃ hl : i < L.length, L[i] = d) (h2 : ∃ hl : i < l.length, l[i] = d2) (hd : d ≠ d2) : L ≠ l := by
  rintro rfl
  obtain ⟨_, b1⟩ := h1
  obtain ⟨_, b2⟩ := h2
  exact hd (b1.symm.trans b2)

set_option maxRecDepth 100000 in
set_option maxHeartbeats 1000000 in
/-- spec.HasWords. -/
theorem hasWords_any (B : Option Addr) (m cm : Nat) (L : List Nat) (A : Option Addr) (n c a : Nat) (w : World) (hB : Rd .u64 w B m cm L) (h : Rd .i64 w A n c (digs 65536 a)) (hn : n ≤ 1000000) :
    Calls Tryz.prog 39 #[.slice B m cm, .slice A n c] w (TheB (decide (L = lowd W64 ((n + 3) / 4) a)) w) := by
  have H := Lib.hid (words_any A n c a w h hn)
  clear h
  generalize lowd W64 ((n + 3) / 4) a = l at *
  go_enter Tryz.func39, Tryz.ntmps39
  go_wp2_with fail
  refine H.out.mono ?_
  rintro e w1 ⟨A2, n2, c2, rfl, hr2, hb⟩
  have hB1 := hB.below hb
  have hcap := hB1.cap
  have hcm := hB1.capMax
  have HL := Lib.hid hB1.len
  have Hl := Lib.hid hr2.len
  clear hB H
  by_cases hnm : m = n2
  · subst hnm
    go_wp2
    go_loopw [6, 16] (fun _ k wr => ∃ i : Nat, i ≤ m ∧ k = .int .i64 (i : Int) ∧ Hid (∀ j, j < i → L[j]? = l[j]?) ∧ Below w1.heap.size w1 wr) (fun _ k _ => m - (intOf k).toNat)
    case atStart => exact ⟨0, Nat.zero_le _, rfl, fun j hj => absurd hj (by omega), Below.refl _ _⟩
    case round =>
      obtain ⟨i, hi, rfl, hsm, hbr⟩ := hrel
      have hbw := hb.trans (hbr.mono hb.size)
      by_cases c1 : i < m
      · obtain ⟨b1, o1, rfl, hb1, d, hd1, hc1⟩ := (hB1.below hbr).at_ c1
        obtain ⟨b2, o2, rfl, hb2, d2, hd2, hc2⟩ := (hr2.below hbr).at_ c1
        by_cases hd : d = d2
        · subst hd
          have HS : Hid (∀ j, j < i + 1 → L[j]? = l[j]?) := same_step hsm.out hd1.out hd2.out
          clear hsm hd1 hd2
          go_wp2
          go_quiet (fail)
          go_wp2
          go_roundw
          case rel => exact ⟨i + 1, by omega, by go_num, HS, below_drewN hbr _⟩
          case measure => simp [intOf]; omega
        · have hdd : ((d : Int) != (d2 : Int)) = true := by simp; omega
          have HN : Hid (decide (L = l) = false) := decide_eq_false (same_not hd1.out hd2.out hd)
          clear hsm hd1 hd2
          go_wp2
          go_quiet (fail)
          go_wp2
          go_ret
          exact ⟨by rw [HN.out]; rfl, below_drewN hbw _⟩
      · obtain rfl : i = m := by omega
        have HN : Hid (decide (L = l) = true) := decide_eq_true (same_end HL.out Hl.out hsm.out)
        clear hsm
        go_wp2
        go_ret
        exact ⟨by rw [HN.out]; rfl, hbw⟩
  · have hne : ((m : Int) == (n2 : Int)) = false := by simp; omega
    have HN : Hid (decide (L = l) = false) := decide_eq_false (by rintro rfl; exact hnm (HL.out.symm.trans Hl.out))
    go_wp2
    go_ret
    exact ⟨by rw [HN.out]; rfl, hb⟩

set_option maxRecDepth 100000 in
set_option maxHeartbeats 1000000 in
/-- spec.IsNumber. -/
theorem isNumber_any (neg : Bool) (B : Option Addr) (m cm : Nat) (L : List Nat) (neg2 : Bool) (A : Option Addr) (n c a : Nat) (w : World) (hB : Rd .u64 w B m cm L) (h : Rd .i64 w A n c (digs 65536 a)) (hn : n ≤ 1000000) :
    Calls Tryz.prog 26 #[.agg #[.bool neg, .slice B m cm], .bool neg2, .slice A n c] w (TheB ((neg == (neg2 && decide (0 < n))) && decide (L = lowd W64 ((n + 3) / 4) a)) w) := by
  have H := Lib.hid (fun w' (hb : Below w.heap.size w w') => hasWords_any B m cm L A n c a w' (hB.below hb) (h.below hb) hn)
  clear hB h
  generalize decide (L = lowd W64 ((n + 3) / 4) a) = r at *
  go_enter Tryz.func26, Tryz.ntmps26
  go_wp2_with fail
  all_goals first
    | (go_ret
       exact ⟨by simp_all, (Below.refl _ _).alloc (Nat.le_refl _) _⟩)
    | (refine (H.out _ ((Below.refl _ _).alloc (Nat.le_refl _) _)).mono ?_
       rintro e w1 ⟨rfl, hb⟩
       go_wp2
       go_ret
       exact ⟨by simp_all, ((Below.refl _ _).alloc (Nat.le_refl _) _).trans (hb.mono (by simp))⟩)
end Go.Proofs.YtdfedhmejilnhaaGreatDoor
