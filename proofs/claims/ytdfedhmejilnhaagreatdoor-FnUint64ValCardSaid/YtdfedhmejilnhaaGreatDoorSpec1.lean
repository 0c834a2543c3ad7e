/- The reference's natural numbers, first part: it proves that trim, Small and Of answer the digits of the number. Conditions: the slices read as digits; a number for Small is below 2 to the power of 62; Of takes at most a million words. -/
import Derived.Test.YtdfedhmejilnhaaGreatDoorBig1
import Derived.Outline
namespace Go.Proofs.YtdfedhmejilnhaaGreatDoor
open Go.RowKit

theorem Tryz.infoInt : (Tryz.prog.info? 3).map (fun i => (i.zero, i.size, i.bytes)) = some (some (.int .i64 0), 1, 8) := by kernel_rfl

set_option maxHeartbeats 400000 in
/-- spec.trim. -/
theorem trim_any (A : Option Addr) (n c : Nat) (l : List Nat) (w : World) (h : Rd .i64 w A n c l) :
    Calls Tryz.prog 21 #[.slice A n c] w (GotSame .i64 (trimL l) w) := by
  have hcap := h.cap
  have hcm := h.capMax
  have hfull : Hid (trimL l = trimL (l.take n)) := by unfold Hid; rw [List.take_of_length_le (by rw [h.len]; exact Nat.le_refl _)]
  go_enter Tryz.func21, Tryz.ntmps21
  go_wp2
  go_loop [0] (fun s => ∃ m, m ≤ n ∧ s = .slice A m c ∧ Hid (trimL l = trimL (l.take m))) (fun s => lenOf s)
  case atStart => exact ⟨n, Nat.le_refl _, rfl, hfull⟩
  case round =>
    obtain ⟨m, hm, rfl, ht⟩ := hrel
    clear hfull
    by_cases h0 : 0 < m
    · obtain ⟨b, o, rfl, hb, d, hd, hc⟩ := h.at_ (j := m - 1) (by omega)
      by_cases hd0 : d = 0
      · subst hd0
        have ht2 : Hid (trimL l = trimL (l.take (m - 1))) := by
          obtain ⟨hl, hd⟩ := hd
          have e := trimL_drop l (m - 1) hl hd
          rw [show m - 1 + 1 = m by omega] at e
          exact (Hid.out ht).trans e
        clear ht hd
        go_wp2
        go_round
        case rel => exact ⟨m - 1, by omega, by go_num, ht2⟩
        case measure => simp [lenOf]; omega
      · have hb0 : ((d : Int) == 0) = false := by simp; omega
        have hfin : Hid (trimL l = l.take m) := by
          obtain ⟨hl, hd⟩ := hd
          have e := trimL_stay l (m - 1) hl (by omega)
          rw [show m - 1 + 1 = m by omega] at e
          exact (Hid.out ht).trans e
        clear ht hd
        go_wp2
        go_ret
        exact ⟨_, _, _, rfl, by rw [hfin.out]; exact h.take hm, rfl⟩
    · have hm0 : m = 0 := by omega
      subst hm0
      have hfin : Hid (trimL l = l.take 0) := ht
      clear ht
      go_wp2
      go_ret
      exact ⟨_, _, _, rfl, by rw [hfin.out]; exact h.take hm, rfl⟩

theorem own_snoc {w : World} {B e i : Nat} {v : Value} {k : IntKind} {l : List Nat} {d : Nat} {x : Int} (h : w.ownsRow B e 1 v (i + 1) (nums k l ++ [.int k x])) (hd : x = (d : Int)) : w.ownsRow B e 1 v (i + 1) (nums k (l ++ [d])) := by
  rw [nums_append]; subst hd; exact h

set_option maxHeartbeats 400000 in
/-- spec.Small. -/
theorem small_any (x : Nat) (hx : x < 4611686018427387904) (w : World) : Calls Tryz.prog 38 #[.int .i64 (x : Int)] w (Got .i64 (digs 65536 x) w) := by
  obtain ⟨i0, hi, hz0, hz1, hz2⟩ := info_parts Tryz.infoInt
  go_enter Tryz.func38, Tryz.ntmps38
  go_wp2
  go_loopw [0, 3] (fun s v wr => ∃ i q : Nat, i ≤ (digs 65536 x).length ∧ q ≤ x ∧ s = .int .i64 (q : Int) ∧ Hid (q = x / 65536 ^ i) ∧ wr.ownsRow w.heap.size 3 1 v i (nums .i64 (lowd 65536 i x)) ∧ Below w.heap.size w wr) (fun s _ _ => (intOf s).toNat)
  case atStart =>
    exact ⟨0, x, Nat.zero_le _, Nat.le_refl _, rfl, by simp [Hid], World.ownsRow_made w #[] 0 (Nat.le_refl _) (by simp [maxLen]) rfl, (Below.refl _ _).alloc (Nat.le_refl _) _⟩
  case round =>
    obtain ⟨i, q, hi1, hq1, rfl, hq, hown, hb⟩ := hrel
    have hsz := hb.size
    have hlen : (digs 65536 x).length ≤ 4 := digs_length_le 65536 (by omega) x 4 (by omega)
    by_cases h0 : 0 < q
    · have hlt : i < (digs 65536 x).length := by
        rcases Nat.lt_or_ge i (digs 65536 x).length with h | h
        · exact h
        · have := (digs_length_le_iff 65536 (by omega) x i).1 h
          have e : q = x / 65536 ^ i := hq
          rw [Nat.div_eq_of_lt this] at e
          omega
      go_wp2_with (at_builtin; refine wpList_append_own _ rfl _ _ 29 rfl w.heap.size 3 i0 (.int .i64 0) 1 8 Tryz.underlying29 hi hz0 hz1 hz2 rfl (by decide) _ _ _ rfl (hown.alloc _) ⟨wr.heap.size, 0, none⟩ 1 1 [.int .i64 ((q : Int) % 65536)] rfl rfl ?c1 ?c2 ?c3 ?c4 ?c5 ?_)
      case c1 => exact new_one wr .i64 _ 3 _ rfl
      case c2 => intro u hu; simp at hu; subst hu; rfl
      case c3 => unfold maxLen; omega
      case c4 => omega
      case c5 => simp; omega
      intro v' w1 hown' hgrow _
      have hown2 : w1.ownsRow w.heap.size 3 1 v' (i + 1) (nums .i64 (lowd 65536 (i + 1) x)) := by
        rw [lowd_succ]
        refine own_snoc hown' ?_
        rw [← Hid.out hq]; simp
      have hb2 : Below w.heap.size w w1 := (hb.alloc hsz _).grown hgrow (by simp; omega) (fun k hk => (hown.lt k hk).1)
      have hq2 : Hid (q / 65536 = x / 65536 ^ (i + 1)) := by
        have e : q = x / 65536 ^ i := hq
        unfold Hid
        rw [e, Nat.div_div_eq_div_mul, Nat.pow_succ]
      clear hown' hgrow hown hb hq hlen
      go_wp2
      go_roundw
      case rel => exact ⟨i + 1, q / 65536, by omega, by omega, by go_num, hq2, hown2, hb2⟩
      case measure => simp [intOf]; omega
    · have hq0 : q = 0 := by omega
      subst hq0
      have hfin : Hid (lowd 65536 i x = digs 65536 x) := by
        have e : 0 = x / 65536 ^ i := hq
        have hlt : x < 65536 ^ i := by
          rcases Nat.lt_or_ge x (65536 ^ i) with h | h
          · exact h
          · have := Nat.div_pos h (Nat.pow_pos (by omega)); omega
        have : i = (digs 65536 x).length := Nat.le_antisymm hi1 (digs_length_le 65536 (by omega) x i hlt)
        unfold Hid
        rw [this, lowd_eq_digs 65536 (by omega)]
      clear hq hlen
      go_wp2
      go_ret
      exact got_own (by rw [← hfin.out]; exact hown) hb
end Go.Proofs.YtdfedhmejilnhaaGreatDoor
