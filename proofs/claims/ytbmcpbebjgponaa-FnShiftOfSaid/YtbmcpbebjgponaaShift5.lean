/- Natural numbers shifted to the right: it proves what nat.rsh answers. Conditions: the shift is not 0, and the receiver is nil. -/
import Derived.Test.YtbmcpbebjgponaaShift4
namespace Go.Proofs.Ytbmcpbebjgponaa
open Go.RowKit

theorem digs_drop (X q : Nat) : (digs W64 X).drop q = digs W64 (X / W64 ^ q) := by
  have hX := lt_pow_digs W64 two_W64 X
  have hlen : (digs W64 (X / W64 ^ q)).length = (digs W64 X).length - q := by
    have h1 : ∀ k, (digs W64 (X / W64 ^ q)).length ≤ k ↔ (digs W64 X).length ≤ q + k := fun k => by
      rw [digs_length_le_iff W64 two_W64, digs_length_le_iff W64 two_W64, Nat.pow_add, Nat.div_lt_iff_lt_mul (Nat.pow_pos W64_pos), Nat.mul_comm]
    have h2 := (h1 (digs W64 (X / W64 ^ q)).length).1 (Nat.le_refl _)
    have h3 := (h1 ((digs W64 X).length - q)).2 (by omega)
    omega
  apply List.ext_getElem
  · rw [List.length_drop, hlen]
  · intro j h1 h2
    rw [List.getElem_drop, digs_get, digs_get, Nat.pow_add, Nat.div_div_eq_div_mul]
theorem rd_drop {k : IntKind} {w : World} {b o n c q : Nat} {l : List Nat} (h : Rd k w (some ⟨b, o, none⟩) n c l) (hq : q < n) : Rd k w (some ⟨b, o + q, none⟩) (n - q) (c - q) (l.drop q) := by
  obtain ⟨h1, h2, h3, h4⟩ := h
  refine ⟨by rw [List.length_drop]; omega, by omega, by omega, fun _ => ?_⟩
  obtain ⟨b', o', e, hlt, hc⟩ := h4 (by omega)
  injection e with e; injection e with e e2
  subst e e2
  refine ⟨b, o + q, rfl, hlt, fun j hj => ?_⟩
  rw [Nat.add_assoc, hc (q + j) (by rw [List.length_drop] at hj; omega), List.getElem_drop]
theorem rsh_split (X s : Nat) : X / 2 ^ s = X / W64 ^ (s / 64) / 2 ^ (s % 64) := by
  rw [Nat.div_div_eq_div_mul, show W64 = 2 ^ 64 from rfl, ← Nat.pow_mul, ← Nat.pow_add, Nat.div_add_mod]

set_option maxRecDepth 100000 in
set_option maxHeartbeats 800000 in
/-- nat.rsh of the nil slice. -/
theorem rsh_any (A : Option Addr) (m c X s : Nat) (w : World) (h : Rd .u64 w A m c (digs W64 X)) (hm : m ≤ 10000) (hs0 : 0 < s) (hs : s ≤ 100000) :
    Calls Try.prog 65 #[.slice none 0 0, .slice A m c, .int .u64 (s : Int)] w (Got .u64 (digs W64 (X / 2 ^ s)) w) := by
  have hs1 : ((s : Int) == 0) = false := by simp; omega
  have hX : X < W64 ^ m := (digs_length_le_iff W64 two_W64 X m).1 (by rw [h.len]; exact Nat.le_refl _)
  have hsplit := rsh_split X s
  obtain ⟨q, hq⟩ : ∃ q, q = s / 64 := ⟨_, rfl⟩
  obtain ⟨r, hr⟩ : ∃ r, r = s % 64 := ⟨_, rfl⟩
  have hq2 : (s : Int) / 64 = (q : Int) := by omega
  have hr2 : (s : Int) % 64 = (r : Int) := by omega
  have hr64 : r < 64 := by omega
  have hqs : q ≤ s := by omega
  rw [← hq, ← hr] at hsplit
  have HS := Lib.hid hsplit
  have HX := Lib.hid hX
  clear hq hr hsplit hX
  rcases Nat.lt_or_ge q m with hqm | hqm
  · obtain ⟨i0, hi, hz0, hz1, hz2⟩ := info_parts Try.infoWord
    have hsz : (Try.prog.info? 90).map (·.size) = some 1 := by rw [hi]; simp [hz1]
    obtain ⟨b, o, rfl, hb0, _⟩ := h.at_ (j := 0) (by omega)
    obtain ⟨n, hn⟩ : ∃ n, n = m - q := ⟨_, rfl⟩
    have hn2 : (m : Int) - (q : Int) = (n : Int) := by omega
    have hn3 : (m : Int) - (n : Int) = (q : Int) := by omega
    have hn0 : ¬ (n : Int) ≤ 0 := by omega
    have hn4 : 0 < n := by omega
    have hnm : n ≤ m := by omega
    have hd := rd_drop h hqm
    rw [digs_drop, ← hn] at hd
    have HRD := Lib.hid hd
    have hcn : n ≤ c - q := hd.cap
    have hcq : q < c := by omega
    have hY : Hid (X / W64 ^ q < W64 ^ n) := by
      unfold Hid
      rw [Nat.div_lt_iff_lt_mul (Nat.pow_pos W64_pos), ← Nat.pow_add, show n + q = m by omega]
      exact HX.out
    have hA : ∀ b' o', some (⟨b, o + q, none⟩ : Addr) = some ⟨b', o', none⟩ → b' ≠ w.heap.size := by
      intro b' o' e
      injection e with e; injection e with e _
      omega
    have H1 := Lib.hid (make_fresh none 0 0 n hn4 (by omega))
    have he : m - q = n := hn.symm
    clear hd hn
    by_cases hr0 : r = 0
    · subst hr0
      have hr3 : (s : Int) % 64 = 0 := hr2
      clear hr2
      go_enter Try.func65, Try.ntmps65
      go_wp2_with fail
      refine (H1.out _).mono ?_
      rintro e w1 ⟨c1, hc1, hc2, rfl, hrow, hb⟩
      rw [zeros_lowd] at hrow
      have hlt := hrow.lt
      go_wp2_with (with_reducible refine wp_copy_words rfl (.tmp 40) (.tmp 45) 99 99 rfl 90 Try.underlying99 hsz w.heap.size 0 n c1 c1 (X / W64 ^ q) (some ⟨b, o + q, none⟩) (c - q) ?hd ?hs 90 hrow ?hr ?hc w.heap.size w hb ?hl ?_)
      case hd => rfl
      case hs => first | rfl | (show Value.slice (some ⟨b, o + q, none⟩) (m - q) (c - q) = _; rw [he])
      case hr => exact HRD.out.below hb
      case hc => omega
      case hl => exact Nat.le_refl _
      intro w2 HR2 HB
      have hrd := HR2.out.rd (n := n) (by rw [lowd_length]; exact hc1) (by rw [lowd_length]; unfold maxLen; omega)
      rw [lowd_length, take_lowd _ _ _ _ hc1] at hrd
      have hnorm := norm_any _ _ _ _ _ hrd
      rw [digs_lowd W64 two_W64 _ _ hY.out, show X / W64 ^ q = X / 2 ^ s by rw [HS.out, Nat.pow_zero, Nat.div_one]] at hnorm
      have H2 := Lib.hid hnorm
      clear hrd hnorm hY HR2
      go_wp2_with fail
      refine H2.out.mono ?_
      rintro e w4 ⟨A4, n4, c4, rfl, hr4, rfl⟩
      go_wp2
      go_ret
      exact ⟨_, _, _, rfl, hr4, HB⟩
    · have hr3 : ((r : Int) == 0) = false := by simp; omega
      go_enter Try.func65, Try.ntmps65
      go_wp2_with fail
      refine (H1.out _).mono ?_
      rintro e w1 ⟨c1, hc1, hc2, rfl, hrow, hb⟩
      rw [zeros_lowd] at hrow
      have hlt := hrow.lt
      have H3 := Lib.hid (rshVU_any w.heap.size n c1 c1 (X / W64 ^ q) r (some ⟨b, o + q, none⟩) (c - q) w1 hn4 hc1 (by omega) hr64 (by omega) hrow (HRD.out.below hb) hA)
      clear hrow
      go_wp2_with fail
      refine H3.out.mono ?_
      rintro e w2 ⟨⟨r2, rfl⟩, hrow2, hg2⟩
      have HB := below_of_grown hb hg2 (by omega) (Nat.le_refl _)
      have HR2 := Lib.hid hrow2
      clear hrow2 H3
      have hrd := HR2.out.rd (n := n) (by rw [lowd_length]; exact hc1) (by rw [lowd_length]; unfold maxLen; omega)
      rw [lowd_length, take_lowd _ _ _ _ hc1] at hrd
      have hnorm := norm_any _ _ _ _ _ hrd
      rw [digs_lowd W64 two_W64 _ _ (Nat.lt_of_le_of_lt (Nat.div_le_self _ _) hY.out), ← HS.out] at hnorm
      have H2 := Lib.hid hnorm
      clear hrd hnorm hY HR2
      go_wp2_with fail
      refine H2.out.mono ?_
      rintro e w4 ⟨A4, n4, c4, rfl, hr4, rfl⟩
      go_wp2
      go_ret
      exact ⟨_, _, _, rfl, hr4, HB⟩
  · have h0 : X / 2 ^ s = 0 := by
      rw [HS.out, Nat.div_eq_of_lt (a := X) (Nat.lt_of_lt_of_le HX.out (Nat.pow_le_pow_right W64_pos hqm)), Nat.zero_div]
    rw [h0, digs_zero]
    have hle : (m : Int) - (q : Int) ≤ 0 := by omega
    clear h HS HX
    go_enter Try.func65, Try.ntmps65
    go_wp2
    go_ret
    exact ⟨_, _, _, rfl, Rd.nil _ _ (by simp), Below.refl _ _⟩
end Go.Proofs.Ytbmcpbebjgponaa
