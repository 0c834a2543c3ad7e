/- Words shifted to the left: it proves what lshVU answers and writes. Conditions: the words lie elsewhere than the row that is written. -/
import Derived.Test.YtbopmkjfmikmdaaGreatDoorShift0
namespace Go.Proofs.YtbopmkjfmikmdaaGreatDoor
open Go.RowKit

theorem Rd.off {k : IntKind} {w w' : World} {A : Option Addr} {n c g : Nat} {l : List Nat} (h : Rd k w A n c l) (hA : ∀ b o, A = some ⟨b, o, none⟩ → b ≠ g) (hg : w.grownBy w' (some g)) : Rd k w' A n c l := by
  obtain ⟨h1, h2, h3, h4⟩ := h
  refine ⟨h1, h2, h3, fun hn => ?_⟩
  obtain ⟨b, o, e, hlt, hc⟩ := h4 hn
  exact ⟨b, o, e, by have := hg.size; omega, fun j hj => by
    rw [World.cell?_of_block (w := w) (a := ⟨b, o + j, none⟩) (hg.block b hlt (fun e2 => hA b o e (by injection e2)))]; exact hc j hj⟩

theorem word_in {w : World} {A : Option Addr} {n c X i : Nat} (h : Rd .u64 w A n c (digs W64 X)) (hi : i < n) :
    ∃ b o, A = some ⟨b, o, none⟩ ∧ b < w.heap.size ∧ ∃ d : Nat, d < W64 ∧ Hid (d = X / W64 ^ i % W64) ∧ w.cell? ⟨b, o + i, none⟩ = some (.int .u64 (d : Int)) := by
  obtain ⟨b, o, e, hb, d, ⟨hl, hd⟩, hc⟩ := h.at_ hi
  refine ⟨b, o, e, hb, d, ?_, ?_, hc⟩
  · rw [← hd]; exact digs_lt W64 W64_pos X _ (List.getElem_mem hl)
  · unfold Hid; rw [← hd, digs_get]

/-- A word that is shifted to the left, as the walk spells it. -/
theorem shl_value (X s t j d1 d0 : Nat) (hs : s < 64) (ht : t + s = 64) (h1 : d1 = X / W64 ^ (j + 1) % W64) (h0 : d0 = X / W64 ^ j % W64) :
    bits BinOp.or IntKind.u64 (IntKind.u64.wrap ((d1 : Int) * 2 ^ s)) ((d0 : Int) / 2 ^ t) = ((X * 2 ^ s / W64 ^ (j + 1) % W64 : Nat) : Int) := by
  have htt : t = 64 - s := by omega
  have e0 : ((d0 : Int) / 2 ^ t) = ((d0 / 2 ^ (64 - s) : Nat) : Int) := by rw [htt]; simp
  have hd0 : d0 < W64 := by rw [h0]; exact Nat.mod_lt _ W64_pos
  rw [wrap_shl, e0, or_words _ _ s (Nat.mod_lt _ W64_pos) ?_ (by omega) (shl_mod_zero d1 s (by omega)), shl_word X s j (by omega), h1, h0]
  refine Nat.div_lt_of_lt_mul ?_
  rw [← W64_split s (by omega)]; exact hd0

set_option maxRecDepth 100000 in
set_option maxHeartbeats 400000 in
/-- big.lshVU_g, of a row of zeros. -/
theorem lshVUg_any (G q m cz C X s : Nat) (A : Option Addr) (c : Nat) (w : World) (hm : 0 < m) (hC : q + m ≤ C) (hs0 : 0 < s) (hs : s < 64) (hn : m ≤ 1000000)
    (hrow : Row .u64 97 w G (lowd W64 C 0)) (h : Rd .u64 w A m c (digs W64 X)) (hA : ∀ b o, A = some ⟨b, o, none⟩ → b ≠ G) :
    Calls Tryz.prog 116 #[.slice (some ⟨G, q, none⟩) m cz, .slice A m c, .int .u64 (s : Int)] w fun e w' => e = .returned (.int .u64 ((X * 2 ^ s / W64 ^ m : Nat) : Int)) ∧
      Row .u64 97 w' G (lowd W64 C (X * 2 ^ s % W64 ^ m * W64 ^ q)) ∧ w.grownBy w' (some G) := by
  have hX : X < W64 ^ m := (digs_length_le_iff W64 two_W64 X m).1 (by rw [h.len]; exact Nat.le_refl _)
  obtain ⟨b, o, rfl, hb, dt, hdt, hdte, hct⟩ := word_in h (i := m - 1) (by omega)
  have hbG : b ≠ G := hA b o rfl
  obtain ⟨t, ht⟩ : ∃ t, t + s = 64 := ⟨64 - s, by omega⟩
  have hand1 := and_63 s hs
  have hand2 := and_63 t (by omega)
  have hst : (64 : Int) - (s : Int) = (t : Int) := by omega
  have hs1 : ((s : Int) == 0) = false := by simp; omega
  have hm1 : ((m : Int) == 0) = false := by simp; omega
  have hm2 : (m : Int) - 1 = ((m - 1 : Nat) : Int) := by omega
  obtain ⟨r, hr0⟩ : ∃ r, r = X * 2 ^ s / W64 ^ m := ⟨_, rfl⟩
  have hfin : Hid ((dt : Int) / 2 ^ t = (r : Int)) := by
    obtain ⟨j, rfl⟩ : ∃ j, m = j + 1 := ⟨m - 1, by omega⟩
    unfold Hid
    rw [hr0, shl_carry X s j (by omega) hX, show 64 - s = t by omega, hdte.out]
    simp
  rw [← hr0]
  clear hr0
  go_enter Tryz.func116, Tryz.ntmps116
  go_wp2
  go_loopw [8] (fun k wr => ∃ i : Nat, i < m ∧ k = .int .i64 (i : Int) ∧ Row .u64 97 wr G (lowd W64 C (upFrom (X * 2 ^ s) m q (i + 1))) ∧ w.grownBy wr (some G)) (fun k _ => (intOf k).toNat)
  case atStart => exact ⟨m - 1, by omega, by go_num, by rw [show m - 1 + 1 = m by omega, upFrom_top]; exact hrow, grown_refl _ _⟩
  case round =>
    obtain ⟨i, hi, rfl, hr, hg⟩ := hrel
    have hGlt := hr.lt
    have hro := h.off hA hg
    clear hm2 hct hdte hrow hs0 hs1 hm1
    by_cases h0 : 0 < i
    · obtain ⟨b1, o1, e1, hb1, d1, hd1, hd1e, hc1⟩ := word_in hro (i := i) hi
      injection e1 with e1; injection e1 with e1 e2
      subst e1 e2
      obtain ⟨b2, o2, e2, hb2, d0, hd0, hd0e, hc0⟩ := word_in hro (i := i - 1) (by omega)
      injection e2 with e2; injection e2 with e2 e3
      subst e2 e3
      obtain ⟨v, hv⟩ : ∃ v, v = X * 2 ^ s / W64 ^ i % W64 := ⟨_, rfl⟩
      have hval : bits BinOp.or IntKind.u64 (IntKind.u64.wrap ((d1 : Int) * 2 ^ s)) ((d0 : Int) / 2 ^ t) = (v : Int) := by
        have e := shl_value X s t (i - 1) d1 d0 hs ht (by rw [show i - 1 + 1 = i by omega]; exact hd1e.out) hd0e.out
        rw [show i - 1 + 1 = i by omega] at e
        rw [e, hv]
      have hrow2 := hr.set (q + i) v
      rw [up_round (X * 2 ^ s) m q i C v hi hv] at hrow2
      have HR := Lib.hid hrow2
      have HG := Lib.hid (grown_set hg (q + i) (.int .u64 (v : Int)))
      have hcell := hr.cell (j := q + i) (by rw [lowd_length]; omega)
      have hfr := hr.free (q + i)
      have hi1 : (i : Int) - 1 = ((i - 1 : Nat) : Int) := by omega
      have hi2 : (0 : Int) < (i : Int) := by omega
      clear hrow2 hr hg hv hd1e hd0e hro h hand1 hand2 hst
      generalize (lowd W64 C (upFrom (X * 2 ^ s) m q (i + 1)))[q + i]'_ = u at *
      go_wp2
      go_region
      all_goals go_wp2
      all_goals go_roundw
      case rel => exact ⟨i - 1, by omega, by go_num, by rw [show i - 1 + 1 = i by omega]; exact HR.out, grown_drew HG.out⟩
      case measure => simp [intOf]; omega
    · have hi0 : i = 0 := by omega
      subst hi0
      obtain ⟨b1, o1, e1, hb1, d1, hd1, hd1e, hc1⟩ := word_in hro (i := 0) hi
      injection e1 with e1; injection e1 with e1 e2
      subst e1 e2
      obtain ⟨v, hv⟩ : ∃ v, v = X * 2 ^ s / W64 ^ 0 % W64 := ⟨_, rfl⟩
      have hval : IntKind.u64.wrap ((d1 : Int) * 2 ^ s) = (v : Int) := by
        rw [wrap_shl, hd1e.out, hv, Nat.pow_zero, Nat.div_one, Nat.div_one, shl_first X s]
      have hrow2 := hr.set (q + 0) v
      rw [up_round (X * 2 ^ s) m q 0 C v hi hv, upFrom_zero] at hrow2
      have HR := Lib.hid hrow2
      have HG := Lib.hid (grown_set hg (q + 0) (.int .u64 (v : Int)))
      have hcell := hr.cell (j := q + 0) (by rw [lowd_length]; omega)
      have hfr := hr.free (q + 0)
      clear hrow2 hr hg hv hd1e hro h hand1 hand2 hst h0
      generalize (lowd W64 C (upFrom (X * 2 ^ s) m q (0 + 1)))[q + 0]'_ = u at *
      rw [Nat.add_zero] at *
      go_wp2
      go_ret
      exact ⟨by rw [← hfin.out]; rfl, HR.out, HG.out⟩

set_option maxRecDepth 100000 in
set_option maxHeartbeats 400000 in
/-- big.lshVU. -/
theorem lshVU_any (G q m cz C X s : Nat) (A : Option Addr) (c : Nat) (w : World) (hm : 0 < m) (hC : q + m ≤ C) (hs0 : 0 < s) (hs : s < 64) (hn : m ≤ 1000000)
    (hrow : Row .u64 97 w G (lowd W64 C 0)) (h : Rd .u64 w A m c (digs W64 X)) (hA : ∀ b o, A = some ⟨b, o, none⟩ → b ≠ G) :
    Calls Tryz.prog 90 #[.slice (some ⟨G, q, none⟩) m cz, .slice A m c, .int .u64 (s : Int)] w fun e w' => e = .returned (.int .u64 ((X * 2 ^ s / W64 ^ m : Nat) : Int)) ∧
      Row .u64 97 w' G (lowd W64 C (X * 2 ^ s % W64 ^ m * W64 ^ q)) ∧ w.grownBy w' (some G) := by
  have H := Lib.hid (lshVUg_any G q m cz C X s A c w hm hC hs0 hs hn hrow h hA)
  generalize X * 2 ^ s / W64 ^ m = r at *
  generalize X * 2 ^ s % W64 ^ m * W64 ^ q = z at *
  clear hm hC hs0 hs hn hrow h hA
  go_enter Tryz.func90, Tryz.ntmps90
  go_wp2_with fail
  refine H.out.mono ?_
  rintro e w1 ⟨rfl, hr, hg⟩
  go_wp2
  go_ret
  exact ⟨rfl, hr, hg⟩
end Go.Proofs.YtbopmkjfmikmdaaGreatDoor
