/- The package's MakeFromBytes: it proves that it answers the integer of the bytes. Conditions: at most a thousand bytes. -/
import Derived.Test.YtbmcpbebjgponaaBytes
import Derived.Deep.RegionWith
namespace Go.Proofs.Ytbmcpbebjgponaa
open Go.RowKit

/-- The call hands back a value of the package that is the integer N with a sign, in new memory. -/
def GotV (neg : Bool) (N : Nat) (w : World) (e : Ending) (w' : World) : Prop := ∃ v, e = .returned v ∧ IsV w' v neg N ∧ Below w.heap.size w w'

/-- The first p words of a number, among M. -/
def wordsL (N M p : Nat) : List Nat := lowd W64 M (N % W64 ^ p)
theorem wordsL_length (N M p : Nat) : (wordsL N M p).length = M := lowd_length _ _ _
theorem wordsL_get (N M p q : Nat) (h : q < (wordsL N M p).length) : (wordsL N M p)[q] = N % W64 ^ p / W64 ^ q % W64 := lowd_get _ _ _ _ h
theorem wordsL_zero (N M : Nat) : wordsL N M 0 = List.replicate M 0 := by
  apply List.ext_getElem
  · simp [wordsL_length]
  · intro j h1 h2
    rw [wordsL_get]
    simp [Nat.mod_one]
theorem W64_pos : 0 < W64 := Nat.lt_of_lt_of_le (by decide) two_W64
theorem modW_div (N p q : Nat) (h : q < p) : N % W64 ^ p / W64 ^ q % W64 = N / W64 ^ q % W64 := by
  obtain ⟨r, rfl⟩ : ∃ r, p = q + (r + 1) := ⟨p - q - 1, by omega⟩
  rw [Nat.pow_add, Nat.mod_mul_right_div_self, Nat.pow_succ, Nat.mul_comm (W64 ^ r) W64, Nat.mod_mul_right_mod]
theorem modW_high (N p q : Nat) (h : p ≤ q) : N % W64 ^ p / W64 ^ q = 0 := by
  refine Nat.div_eq_of_lt (Nat.lt_of_lt_of_le (Nat.mod_lt _ (Nat.pow_pos W64_pos)) (Nat.pow_le_pow_right W64_pos h))
theorem wordsL_step (N M p : Nat) : (wordsL N M p).set p (N / W64 ^ p % W64) = wordsL N M (p + 1) := by
  apply List.ext_getElem
  · simp [wordsL_length]
  · intro q h1 h2
    rw [List.getElem_set, wordsL_get]
    by_cases hq : p = q
    · subst hq
      rw [if_pos rfl, wordsL_get, modW_div N (p + 1) p (by omega)]
    · rw [if_neg hq, wordsL_get]
      rcases Nat.lt_or_ge q p with hlt | hge
      · rw [modW_div N p q hlt, modW_div N (p + 1) q (by omega)]
      · rw [modW_high N p q hge, modW_high N (p + 1) q (by omega)]
theorem W64_eq : W64 = 256 ^ 8 := rfl
/-- One byte more of a word. -/
theorem word_more (N i r d : Nat) (hd : d = N / 256 ^ (8 * i + r) % 256) : N / W64 ^ i % 256 ^ (r + 1) = N / W64 ^ i % 256 ^ r + d * 2 ^ (8 * r) := by
  rw [Nat.pow_succ, Nat.mod_mul, hd, W64_pow, Nat.div_div_eq_div_mul, ← Nat.pow_add, show (2 : Nat) ^ (8 * r) = 256 ^ r by rw [Nat.pow_mul], Nat.mul_comm (256 ^ r)]
theorem byte_shl (d r : Nat) (hd : d < 256) (hr : r < 8) : IntKind.u64.wrap ((d : Int) * 2 ^ (8 * r)) = ((d * 2 ^ (8 * r) : Nat) : Int) := by
  have h1 : (2 : Nat) ^ (8 * r) ≤ 2 ^ 56 := Nat.pow_le_pow_right (by omega) (by omega)
  have h2 := Nat.mul_le_mul (show d ≤ 255 by omega) h1
  have e : ((d : Int) * 2 ^ (8 * r)) = ((d * 2 ^ (8 * r) : Nat) : Int) := by simp
  rw [e, IntKind.wrap_u64]
  generalize d * 2 ^ (8 * r) = z at *
  omega
theorem byte_or (x d r : Nat) (hx : x < 256 ^ r) (hd : d < 256) (hr : r < 8) : bits BinOp.or IntKind.u64 (x : Int) ((d * 2 ^ (8 * r) : Nat) : Int) = ((x + d * 2 ^ (8 * r) : Nat) : Int) := by
  have h1 : (2 : Nat) ^ (8 * r) ≤ 2 ^ 56 := Nat.pow_le_pow_right (by omega) (by omega)
  have h2 := Nat.mul_le_mul (show d ≤ 255 by omega) h1
  have h3 : x < 2 ^ (8 * r) := by rwa [show (2 : Nat) ^ (8 * r) = 256 ^ r by rw [Nat.pow_mul]]
  rw [u64_or_nat _ _ (by omega) (by omega), Nat.or_comm, nat_join (8 * r) _ _ (by simp) h3, Nat.add_comm]
theorem mul8 (r : Nat) : IntKind.u64.wrap (8 * (r : Int) + 8) = 8 * ((r + 1 : Nat) : Int) ∨ 100 < r := by
  rw [IntKind.wrap_u64]; omega
/-- The last word. -/
theorem last_word (N i r n : Nat) (h : N < 256 ^ n) (hn : n = 8 * i + r) : N / W64 ^ i % 256 ^ r = N / W64 ^ i := by
  refine Nat.mod_eq_of_lt (Nat.div_lt_of_lt_mul ?_)
  rw [W64_pow, ← Nat.pow_add, ← hn]; exact h
theorem last_lt (N i r n : Nat) (h : N < 256 ^ n) (hn : n = 8 * i + r) (hr : r ≤ 8) : N / W64 ^ i < W64 := by
  refine Nat.div_lt_of_lt_mul ?_
  rw [← Nat.pow_succ, W64_pow]
  exact Nat.lt_of_lt_of_le h (Nat.pow_le_pow_right (by omega) (by omega))
theorem wordsL_full (N M : Nat) (h : N < W64 ^ M) : trimL (wordsL N M M) = digs W64 N := by
  unfold wordsL
  rw [Nat.mod_eq_of_lt h]
  exact digs_lowd W64 two_W64 _ _ h
set_option maxRecDepth 100000 in
set_option maxHeartbeats 2000000 in
/-- constant.MakeFromBytes. -/
theorem makeFromBytes_any (A : Option Addr) (n c : Nat) (l : List Nat) (w : World) (h : Rd .u8 w A n c l) (hl : ∀ d ∈ l, d < 256) (hn : n ≤ 1000) :
    Calls Try.prog 48 #[.slice A n c] w (GotV false (val 256 l) w) := by
  obtain ⟨i0, hi, hz0, hz1, hz2⟩ := info_parts Try.infoWord
  have hNn : Hid (val 256 l < 256 ^ n) := by have := val_lt 256 (by omega) l hl; rw [h.len] at this; exact this
  obtain ⟨M, hM⟩ : ∃ M, M = (n + 7) / 8 := ⟨_, rfl⟩
  have hMi : ((n : Int) + 7) / 8 = (M : Int) := by omega
  have hM1 : n ≤ 8 * M := by omega
  have hM2 : 8 * M ≤ n + 7 := by omega
  clear hM
  have hmk : ∀ w : World, (Instr.makeSlice 88 (.int .i64 (M : Int)) (.int .i64 (M : Int))).run Try.prog w = .ok (.slice (some ⟨w.heap.size, 0, none⟩) M M) (w.alloc (.cells (cellsOf .u64 (List.replicate M 0)) 90)) :=
    fun w => run_makeNums 88 90 i0 .u64 Try.underlying88 hi hz0 hz1 (by omega) .i64 .i64 M M (Nat.le_refl _) (by omega) w
  have HB : Hid (∀ (wr : World) (i : Nat), Rd .u8 wr A n c l → i < n → ∃ b o, A = some ⟨b, o, none⟩ ∧ b < wr.heap.size ∧ ∃ d : Nat, d < 256 ∧ Hid (d = val 256 l / 256 ^ i % 256) ∧ wr.cell? ⟨b, o + i, none⟩ = some (.int .u8 (d : Int))) :=
    fun wr i hr hi => byte_at hr hl hi
  obtain ⟨G, hG⟩ : ∃ G, G = w.heap.size := ⟨_, rfl⟩
  have hGA : Hid (∀ b o, A = some ⟨b, o, none⟩ → 0 < n → b < G) := by
    intro b o e h0
    obtain ⟨b', o', e', hlt, _⟩ := h.2.2.2 h0
    rw [e] at e'
    injection e' with e'
    injection e' with e' _
    rw [hG, e']; exact hlt
  generalize val 256 l = N at *
  have HG := Lib.hid hG
  clear hG hl
  go_enter Try.func48, Try.ntmps48
  go_wp2
  clear hmk
  have hrow : Row .u64 90 (w.alloc (.cells (cellsOf .u64 (List.replicate M 0)) 90)) G (wordsL N M 0) := by rw [wordsL_zero]; exact Row.of_zero _ _ _ _ _ HG.out
  have hbel : Below G w (w.alloc (.cells (cellsOf .u64 (List.replicate M 0)) 90)) := (Below.refl _ w).alloc (by rw [HG.out]; exact Nat.le_refl _) _
  have hr1 := h.alloc (.cells (cellsOf .u64 (List.replicate M 0)) 90)
  rw [← HG.out]
  generalize w.alloc (.cells (cellsOf .u64 (List.replicate M 0)) 90) = w2 at *
  clear h
  go_loopw [4, 5, 6, 16] (fun si sw ss sp wr => ∃ i r x : Nat, r < 8 ∧ 8 * i + r ≤ n ∧ si = .int .i64 (i : Int) ∧ sw = .int .u64 (x : Int) ∧ ss = .int .u64 (8 * (r : Int)) ∧ sp = .int .i64 (8 * (i : Int) + (r : Int)) ∧ Hid (x = N / W64 ^ i % 256 ^ r) ∧ Row .u64 90 wr G (wordsL N M i) ∧ Below G w wr ∧ Rd .u8 wr A n c l) (fun _ _ _ sp _ => n - (intOf sp).toNat)
  case atStart => exact ⟨0, 0, 0, by omega, by omega, rfl, rfl, rfl, rfl, by simp [Hid, Nat.mod_one], hrow, hbel, hr1⟩
  case round =>
    clear hrow hbel hr1
    obtain ⟨i, r, x, hr8, hin, rfl, rfl, rfl, rfl, hxe, hrow, hbel, hr1⟩ := hrel
    by_cases c1 : 8 * i + r < n
    · obtain ⟨b1, o1, rfl, hb1, d, hd, hde, hc1⟩ := HB.out wr (8 * i + r) hr1 c1
      have hb1G : b1 < G := hGA.out b1 o1 rfl (by omega)
      have c1i : 8 * (i : Int) + (r : Int) < (n : Int) := by omega
      have hmore := word_more N i r d hde.out
      have hshl := byte_shl d r hd hr8
      have hxlt : x < 256 ^ r := by rw [hxe.out]; exact Nat.mod_lt _ (Nat.pow_pos (by omega))
      have hor := byte_or x d r hxlt hd hr8
      rw [← hxe.out] at hmore
      obtain ⟨y, hy⟩ : ∃ y, y = d * 2 ^ (8 * r) := ⟨_, rfl⟩
      obtain ⟨z, hz⟩ : ∃ z, z = x + y := ⟨_, rfl⟩
      rw [← hy] at hshl hor hmore
      rw [← hz] at hor hmore
      have hze : Hid (z = N / W64 ^ i % 256 ^ (r + 1)) := hmore.symm
      have hs8 : IntKind.u64.wrap (8 * (r : Int) + 8) = 8 * (r : Int) + 8 := by rw [IntKind.wrap_u64]; omega
      clear hy hz hmore hxlt hxe hde
      by_cases c2 : r = 7
      · have hb64 : (8 * (r : Int) + 8 == 64) = true := by simp; omega
        have hiM : i < M := by omega
        have hcell : wr.cell? ⟨G, i, none⟩ = some (.int .u64 (((wordsL N M i)[i]'(by rw [wordsL_length]; exact hiM) : Nat) : Int)) := hrow.cell (by rw [wordsL_length]; exact hiM)
        have hfr := hrow.free i
        have hz2 : Hid (z = N / W64 ^ i % W64) := by have := hze.out; rw [c2] at this; exact this
        have hrow2 : Hid (Row .u64 90 (wr.setCell ⟨G, i, none⟩ (.int .u64 (z : Int))) G (wordsL N M (i + 1))) := by
          have h1 := hrow.set i z
          have e := wordsL_step N M i
          rw [← hz2.out] at e
          rw [e] at h1
          exact h1
        have hbel2 := Lib.hid (hbel.setCell (p := ⟨G, i, none⟩) (Nat.le_refl G) (.int .u64 (z : Int)))
        have hr2 := Lib.hid (hr1.belowAt (B := G) ((Below.refl G wr).setCell (p := ⟨G, i, none⟩) (Nat.le_refl _) (.int .u64 (z : Int))) (fun b o e => by injection e with e; injection e with e _; omega))
        have hle : 8 * (i + 1) + 0 ≤ n := by omega
        have hnum : Hid (8 * (i : Int) + (r : Int) + 1 = 8 * ((i + 1 : Nat) : Int) + ((0 : Nat) : Int)) := by unfold Hid; omega
        have hmeas : Hid (n - (8 * (i : Int) + (r : Int) + 1).toNat < n - (8 * (i : Int) + (r : Int)).toNat) := by unfold Hid; omega
        generalize (wordsL N M i)[i]'(by rw [wordsL_length]; exact hiM) = z0 at *
        clear c2 hrow hbel hr1 hze hz2
        go_wp2
        go_roundw
        case rel => exact ⟨i + 1, 0, 0, by omega, hle, by go_num, rfl, rfl, by rw [hnum.out], by simp [Hid, Nat.mod_one], hrow2.out, hbel2.out, hr2.out⟩
        case measure => simp [intOf]; omega
      · have hb64 : (8 * (r : Int) + 8 == 64) = false := by simp; omega
        have hr7 : r + 1 < 8 := by omega
        clear c2
        go_wp2
        go_roundw
        case rel => exact ⟨i, r + 1, z, hr7, by omega, rfl, rfl, by go_num, by go_num, hze, hrow, hbel, hr1⟩
        case measure => simp [intOf]; omega
    · have hfull := wordsL_full N M
      have hNM : N < W64 ^ M := by rw [W64_pow]; exact Nat.lt_of_lt_of_le hNn.out (Nat.pow_le_pow_right (by omega) hM1)
      have hfin : Hid (trimL (wordsL N M M) = digs W64 N) := hfull hNM
      clear hfull hNM hr1 hGA HB
      have hin2 : n = 8 * i + r := by omega
      by_cases c2 : r = 0
      · have hiM : i = M := by omega
        subst hiM
        clear hxe
        have c1i : ¬ 8 * (i : Int) + (r : Int) < (n : Int) := by omega
        clear c2 hin2
        go_wp2
        have hrowF := hrow
        have hbelF := hbel
        clear hrow hbel
        have hr3 := hrowF.rd (n := i) (by rw [wordsL_length]; exact Nat.le_refl _) (by rw [wordsL_length]; unfold maxLen; omega)
        rw [wordsL_length, List.take_of_length_le (by rw [wordsL_length]; exact Nat.le_refl _)] at hr3
        have hl0 : Hid ((wordsL N i i).length = i) := wordsL_length _ _ _
        have hlt : Hid (∀ d ∈ wordsL N i i, d < W64) := lowd_lt W64 W64_pos _ _
        generalize wordsL N i i = l at *
        clear hrowF
        go_loop [4] (fun s => ∃ m : Nat, m ≤ i ∧ s = .int .i64 (m : Int) ∧ Hid (trimL l = trimL (l.take m))) (fun s => (intOf s).toNat)
        case atStart => exact ⟨i, Nat.le_refl _, by go_num, trimL_full l i hl0.out⟩
        case round =>
          obtain ⟨m, hm, rfl, ht⟩ := hrel
          by_cases h0 : 0 < m
          · obtain ⟨b, o, hbo, hbl, d, hd, hc⟩ := hr3.at_ (j := m - 1) (by omega)
            injection hbo with hbo
            injection hbo with hb' ho'
            subst hb' ho'
            rw [Nat.zero_add] at hc
            by_cases hd0 : d = 0
            · subst hd0
              have ht2 : Hid (trimL l = trimL (l.take (m - 1))) := by
                obtain ⟨hl, hd⟩ := hd
                have e := trimL_drop l (m - 1) hl hd
                rw [show m - 1 + 1 = m by omega] at e
                exact (Hid.out ht).trans e
              clear ht hd
              go_wp2
              go_round
              case rel => exact ⟨m - 1, by omega, by go_num, ht2⟩
              case measure => simp [intOf]; omega
            · have hb0 : ((d : Int) == 0) = false := by simp; omega
              have hfin2 : Hid (trimL l = l.take m) := by
                obtain ⟨hl, hd⟩ := hd
                have e := trimL_stay l (m - 1) hl (by omega)
                rw [show m - 1 + 1 = m by omega] at e
                exact (Hid.out ht).trans e
              have hj0 : ¬ i = 0 := by omega
              clear ht hd
              have hval : Hid (val W64 (l.take m) = N) := by unfold Hid; rw [← hfin2.out, hfin.out, val_digs W64 two_W64]
              have hlt2 : Hid (∀ d ∈ l.take m, d < W64) := fun d hd => hlt.out d (List.mem_of_mem_take hd)
              have hrd := Lib.hid (hr3.take hm)
              have hmi : (m : Int) ≤ (i : Int) := by omega
              have hm0 : (0 : Int) ≤ (m : Int) := by omega
              clear hr3 hfin hfin2 hlt
              go_wp2_with fail
              go_region_with (first | (go_at_call 50; refine (newInt_any _).mono ?_; rintro e wq ⟨rfl, rfl⟩) | (go_at_call 59; refine (setBits_any _ _ _ _ (l.take m) _ (by exact Box.drew (Box.new _ _ _ _ rfl)) (by exact Rd.drew (hrd.out.alloc _)) hlt2.out).mono ?_; rw [hval.out]; rintro e wq ⟨rfl, hIq, hgq⟩) | (go_at_call 54; refine (makeInt_any _ _ _ _ hIq (fun _ => rfl)).mono ?_; rintro e wp ⟨⟨vq, rfl, hvq⟩, rfl⟩))
              all_goals (go_wp2; go_ret; exact ⟨vq, rfl, hvq, below_of_grown (by rw [← HG.out]; exact (hbelF.alloc (by have := hbelF.size; rw [HG.out]; exact this) _).drew) hgq (by have := hbelF.size; simp; omega) (by have := hbelF.size; omega)⟩)
          · have hfin2 : Hid (trimL l = l.take m) := by
              have e : m = 0 := by omega
              have e2 := ht.out
              rw [e] at e2 ⊢
              exact e2
            clear ht
            by_cases hj0 : i = 0
            · subst hj0
              obtain rfl : m = 0 := by omega
              have hval : Hid (val W64 (l.take 0) = N) := by unfold Hid; rw [← hfin2.out, hfin.out, val_digs W64 two_W64]
              have hlt2 : Hid (∀ d ∈ l.take 0, d < W64) := fun d hd => hlt.out d (List.mem_of_mem_take hd)
              have hrd := Lib.hid (hr3.take hm)
              have hmi : (0 : Int) ≤ (0 : Int) := by omega
              have hm0 : (0 : Int) ≤ (0 : Int) := by omega
              clear hr3 hfin hfin2 hlt
              go_wp2_with fail
              go_region_with (first | (go_at_call 50; refine (newInt_any _).mono ?_; rintro e wq ⟨rfl, rfl⟩) | (go_at_call 59; refine (setBits_any _ _ _ _ (l.take 0) _ (by exact Box.drew (Box.new _ _ _ _ rfl)) (by exact Rd.drew (hrd.out.alloc _)) hlt2.out).mono ?_; rw [hval.out]; rintro e wq ⟨rfl, hIq, hgq⟩) | (go_at_call 54; refine (makeInt_any _ _ _ _ hIq (fun _ => rfl)).mono ?_; rintro e wp ⟨⟨vq, rfl, hvq⟩, rfl⟩))
              all_goals (go_wp2; go_ret; exact ⟨vq, rfl, hvq, below_of_grown (by rw [← HG.out]; exact (hbelF.alloc (by have := hbelF.size; rw [HG.out]; exact this) _).drew) hgq (by have := hbelF.size; simp; omega) (by have := hbelF.size; omega)⟩)
            · have hval : Hid (val W64 (l.take m) = N) := by unfold Hid; rw [← hfin2.out, hfin.out, val_digs W64 two_W64]
              have hlt2 : Hid (∀ d ∈ l.take m, d < W64) := fun d hd => hlt.out d (List.mem_of_mem_take hd)
              have hrd := Lib.hid (hr3.take hm)
              have hmi : (m : Int) ≤ (i : Int) := by omega
              have hm0 : (0 : Int) ≤ (m : Int) := by omega
              clear hr3 hfin hfin2 hlt
              go_wp2_with fail
              go_region_with (first | (go_at_call 50; refine (newInt_any _).mono ?_; rintro e wq ⟨rfl, rfl⟩) | (go_at_call 59; refine (setBits_any _ _ _ _ (l.take m) _ (by exact Box.drew (Box.new _ _ _ _ rfl)) (by exact Rd.drew (hrd.out.alloc _)) hlt2.out).mono ?_; rw [hval.out]; rintro e wq ⟨rfl, hIq, hgq⟩) | (go_at_call 54; refine (makeInt_any _ _ _ _ hIq (fun _ => rfl)).mono ?_; rintro e wp ⟨⟨vq, rfl, hvq⟩, rfl⟩))
              all_goals (go_wp2; go_ret; exact ⟨vq, rfl, hvq, below_of_grown (by rw [← HG.out]; exact (hbelF.alloc (by have := hbelF.size; rw [HG.out]; exact this) _).drew) hgq (by have := hbelF.size; simp; omega) (by have := hbelF.size; omega)⟩)
      · have hiM : i < M := by omega
        have hM3 : M = i + 1 := by omega
        have hcell : wr.cell? ⟨G, i, none⟩ = some (.int .u64 (((wordsL N M i)[i]'(by rw [wordsL_length]; exact hiM) : Nat) : Int)) := hrow.cell (by rw [wordsL_length]; exact hiM)
        have hfr := hrow.free i
        have hx2 : x = N / W64 ^ i % W64 := by
          rw [Nat.mod_eq_of_lt (last_lt N i r n hNn.out hin2 (by omega)), ← last_word N i r n hNn.out hin2]; exact hxe.out
        have hrow2 : Hid (Row .u64 90 (wr.setCell ⟨G, i, none⟩ (.int .u64 (x : Int))) G (wordsL N M M)) := by
          have h1 := hrow.set i x
          have e := wordsL_step N M i
          rw [← hx2] at e
          rw [e, ← hM3] at h1
          exact h1
        have hbel2 := Lib.hid (hbel.setCell (p := ⟨G, i, none⟩) (Nat.le_refl G) (.int .u64 (x : Int)))
        have HM3 := Lib.hid hM3
        have c1i : ¬ 8 * (i : Int) + (r : Int) < (n : Int) := by omega
        generalize (wordsL N M i)[i]'(by rw [wordsL_length]; exact hiM) = z0 at *
        clear c2 hxe hx2 hrow hbel hM3 hin2
        go_wp2
        have hrowF := hrow2.out
        have hbelF := hbel2.out
        clear hrow2 hbel2
        generalize wr.setCell ⟨G, i, none⟩ (.int .u64 (x : Int)) = wf at *
        have hr3 := hrowF.rd (n := M) (by rw [wordsL_length]; exact Nat.le_refl _) (by rw [wordsL_length]; unfold maxLen; omega)
        rw [wordsL_length, List.take_of_length_le (by rw [wordsL_length]; exact Nat.le_refl _)] at hr3
        have hl0 : Hid ((wordsL N M M).length = M) := wordsL_length _ _ _
        have hlt : Hid (∀ d ∈ wordsL N M M, d < W64) := lowd_lt W64 W64_pos _ _
        generalize wordsL N M M = l at *
        clear hrowF
        go_loop [4] (fun s => ∃ m : Nat, m ≤ M ∧ s = .int .i64 (m : Int) ∧ Hid (trimL l = trimL (l.take m))) (fun s => (intOf s).toNat)
        case atStart => exact ⟨M, Nat.le_refl _, by rw [HM3.out]; go_num, trimL_full l M hl0.out⟩
        case round =>
          obtain ⟨m, hm, rfl, ht⟩ := hrel
          by_cases h0 : 0 < m
          · obtain ⟨b, o, hbo, hbl, d, hd, hc⟩ := hr3.at_ (j := m - 1) (by omega)
            injection hbo with hbo
            injection hbo with hb' ho'
            subst hb' ho'
            rw [Nat.zero_add] at hc
            by_cases hd0 : d = 0
            · subst hd0
              have ht2 : Hid (trimL l = trimL (l.take (m - 1))) := by
                obtain ⟨hl, hd⟩ := hd
                have e := trimL_drop l (m - 1) hl hd
                rw [show m - 1 + 1 = m by omega] at e
                exact (Hid.out ht).trans e
              clear ht hd
              go_wp2
              go_round
              case rel => exact ⟨m - 1, by omega, by go_num, ht2⟩
              case measure => simp [intOf]; omega
            · have hb0 : ((d : Int) == 0) = false := by simp; omega
              have hfin2 : Hid (trimL l = l.take m) := by
                obtain ⟨hl, hd⟩ := hd
                have e := trimL_stay l (m - 1) hl (by omega)
                rw [show m - 1 + 1 = m by omega] at e
                exact (Hid.out ht).trans e
              have hj0 : ¬ M = 0 := by omega
              clear ht hd
              have hval : Hid (val W64 (l.take m) = N) := by unfold Hid; rw [← hfin2.out, hfin.out, val_digs W64 two_W64]
              have hlt2 : Hid (∀ d ∈ l.take m, d < W64) := fun d hd => hlt.out d (List.mem_of_mem_take hd)
              have hrd := Lib.hid (hr3.take hm)
              have hmi : (m : Int) ≤ (M : Int) := by omega
              have hm0 : (0 : Int) ≤ (m : Int) := by omega
              clear hr3 hfin hfin2 hlt
              go_wp2_with fail
              go_region_with (first | (go_at_call 50; refine (newInt_any _).mono ?_; rintro e wq ⟨rfl, rfl⟩) | (go_at_call 59; refine (setBits_any _ _ _ _ (l.take m) _ (by exact Box.drew (Box.new _ _ _ _ rfl)) (by exact Rd.drew (hrd.out.alloc _)) hlt2.out).mono ?_; rw [hval.out]; rintro e wq ⟨rfl, hIq, hgq⟩) | (go_at_call 54; refine (makeInt_any _ _ _ _ hIq (fun _ => rfl)).mono ?_; rintro e wp ⟨⟨vq, rfl, hvq⟩, rfl⟩))
              all_goals (go_wp2; go_ret; exact ⟨vq, rfl, hvq, below_of_grown (by rw [← HG.out]; exact (hbelF.alloc (by have := hbelF.size; rw [HG.out]; exact this) _).drew) hgq (by have := hbelF.size; simp; omega) (by have := hbelF.size; omega)⟩)
          · have hfin2 : Hid (trimL l = l.take m) := by
              have e : m = 0 := by omega
              have e2 := ht.out
              rw [e] at e2 ⊢
              exact e2
            clear ht
            by_cases hj0 : M = 0
            · have := HM3.out; omega
            · have hval : Hid (val W64 (l.take m) = N) := by unfold Hid; rw [← hfin2.out, hfin.out, val_digs W64 two_W64]
              have hlt2 : Hid (∀ d ∈ l.take m, d < W64) := fun d hd => hlt.out d (List.mem_of_mem_take hd)
              have hrd := Lib.hid (hr3.take hm)
              have hmi : (m : Int) ≤ (M : Int) := by omega
              have hm0 : (0 : Int) ≤ (m : Int) := by omega
              clear hr3 hfin hfin2 hlt
              go_wp2_with fail
              go_region_with (first | (go_at_call 50; refine (newInt_any _).mono ?_; rintro e wq ⟨rfl, rfl⟩) | (go_at_call 59; refine (setBits_any _ _ _ _ (l.take m) _ (by exact Box.drew (Box.new _ _ _ _ rfl)) (by exact Rd.drew (hrd.out.alloc _)) hlt2.out).mono ?_; rw [hval.out]; rintro e wq ⟨rfl, hIq, hgq⟩) | (go_at_call 54; refine (makeInt_any _ _ _ _ hIq (fun _ => rfl)).mono ?_; rintro e wp ⟨⟨vq, rfl, hvq⟩, rfl⟩))
              all_goals (go_wp2; go_ret; exact ⟨vq, rfl, hvq, below_of_grown (by rw [← HG.out]; exact (hbelF.alloc (by have := hbelF.size; rw [HG.out]; exact this) _).drew) hgq (by have := hbelF.size; simp; omega) (by have := hbelF.size; omega)⟩)
end Go.Proofs.Ytbmcpbebjgponaa
