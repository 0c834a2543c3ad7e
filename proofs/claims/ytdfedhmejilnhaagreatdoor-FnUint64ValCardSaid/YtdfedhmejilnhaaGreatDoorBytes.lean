/- The package's Bytes: it proves that it answers the bytes of the magnitude of an integer, the lowest first, none 0 at the end. Conditions: the integer's words are its digits, at most ten thousand. -/
import Derived.Test.YtdfedhmejilnhaaGreatDoorConst2
namespace Go.Proofs.YtdfedhmejilnhaaGreatDoor
open Go.RowKit

theorem Tryz.infoByteB : (Tryz.prog.info? 5).map (fun i => (i.zero, i.size, i.bytes)) = some (some (.int .u8 0), 1, 1) := by kernel_rfl

/-- The first p bytes of a number, among M. -/
def bytesL (N M p : Nat) : List Nat := lowd 256 M (N % 256 ^ p)
theorem bytesL_length (N M p : Nat) : (bytesL N M p).length = M := lowd_length _ _ _
theorem bytesL_get (N M p q : Nat) (h : q < (bytesL N M p).length) : (bytesL N M p)[q] = N % 256 ^ p / 256 ^ q % 256 := lowd_get _ _ _ _ h
theorem bytesL_zero (N M : Nat) : bytesL N M 0 = List.replicate M 0 := by
  apply List.ext_getElem
  · simp [bytesL_length]
  · intro j h1 h2
    rw [bytesL_get]
    simp [Nat.mod_one]
theorem mod_pow_div (N p q : Nat) (h : q < p) : N % 256 ^ p / 256 ^ q % 256 = N / 256 ^ q % 256 := by
  obtain ⟨r, rfl⟩ : ∃ r, p = q + (r + 1) := ⟨p - q - 1, by omega⟩
  rw [Nat.pow_add, Nat.mod_mul_right_div_self, Nat.pow_succ, Nat.mul_comm (256 ^ r) 256, Nat.mod_mul_right_mod]
theorem mod_pow_high (N p q : Nat) (h : p ≤ q) : N % 256 ^ p / 256 ^ q = 0 := by
  refine Nat.div_eq_of_lt (Nat.lt_of_lt_of_le (Nat.mod_lt _ (Nat.pow_pos (by omega))) (Nat.pow_le_pow_right (by omega) h))
theorem bytesL_step (N M p : Nat) : (bytesL N M p).set p (N / 256 ^ p % 256) = bytesL N M (p + 1) := by
  apply List.ext_getElem
  · simp [bytesL_length]
  · intro q h1 h2
    rw [List.getElem_set, bytesL_get]
    by_cases hq : p = q
    · subst hq
      rw [if_pos rfl, bytesL_get, mod_pow_div N (p + 1) p (by omega)]
    · rw [if_neg hq, bytesL_get]
      rcases Nat.lt_or_ge q p with hlt | hge
      · rw [mod_pow_div N p q hlt, mod_pow_div N (p + 1) q (by omega)]
      · rw [mod_pow_high N p q hge, mod_pow_high N (p + 1) q (by omega)]
theorem W64_pow (n : Nat) : W64 ^ n = 256 ^ (8 * n) := by rw [show W64 = 256 ^ 8 from rfl, ← Nat.pow_mul]
theorem word_byte (N j k : Nat) (hk : k < 8) : N / W64 ^ j % W64 / 256 ^ k % 256 = N / 256 ^ (8 * j + k) % 256 := by
  rw [W64_pow]
  generalize hx : N / 256 ^ (8 * j) = x
  rw [show W64 = 256 ^ 8 from rfl, mod_pow_div x 8 k hk, ← hx, Nat.div_div_eq_div_mul, ← Nat.pow_add]
/-- The word at a place. -/
theorem word_at {w : World} {A : Option Addr} {n c i N : Nat} (h : Rd .u64 w A n c (digs W64 N)) (hi : i < n) :
    ∃ b o, A = some ⟨b, o, none⟩ ∧ b < w.heap.size ∧ ∃ d : Nat, Hid (d = N / W64 ^ i % W64) ∧ w.cell? ⟨b, o + i, none⟩ = some (.int .u64 (d : Int)) := by
  obtain ⟨b, o, e, hb, d, ⟨hl, hd⟩, hc⟩ := h.at_ hi
  refine ⟨b, o, e, hb, d, ?_, hc⟩
  unfold Hid; rw [← hd, digs_get]
theorem byte_of (x : Nat) : IntKind.u8.wrap (x : Int) = ((x % 256 : Nat) : Int) := by rw [IntKind.wrap_u8']; omega
theorem bytes_fin (N n : Nat) (h : (digs W64 N).length = n) : trimL (bytesL N (8 * n) (8 * n)) = digs 256 N := by
  have h1 := (digs_length_le_iff W64 two_W64 N n).1 (by omega)
  rw [W64_pow] at h1
  unfold bytesL
  rw [Nat.mod_eq_of_lt h1]
  exact digs_lowd 256 (by omega) _ _ h1
/-- What a round of Bytes leaves. -/
theorem bytes_row {wr : World} {g N M p x k j : Nat} {T : TypeId} (h : Row .u8 T wr g (bytesL N M p)) (hpe : p = 8 * j + k) (hk : k < 8) (hx : x = N / W64 ^ j % W64 / 256 ^ k) :
    Row .u8 T (wr.setCell ⟨g, p, none⟩ (.int .u8 ((x % 256 : Nat) : Int))) g (bytesL N M (p + 1)) := by
  have h1 := h.set p (x % 256)
  rw [hx, word_byte N j k hk, ← hpe, bytesL_step N M p] at h1
  rw [hx, word_byte N j k hk, ← hpe]
  exact h1

set_option maxRecDepth 100000 in
set_option maxHeartbeats 2000000 in
/-- constant.Bytes of a great integer. -/
theorem bytes_bv (g : Nat) (neg : Bool) (N : Nat) (w : World) (h : IntAt w g neg N) (hlen : (digs W64 N).length ≤ 10000) :
    Calls Tryz.prog 23 #[bv g] w (Got .u8 (digs 256 N) w) := by
  unfold bv
  obtain ⟨i0, hi, hz0, hz1, hz2⟩ := info_parts Tryz.infoByteB
  go_enter Tryz.func23, Tryz.ntmps23
  go_wp2_with fail
  obtain ⟨w1, hw1⟩ : ∃ w1, w1 = (w.alloc (.cells #[.pointer (some ⟨g, 0, none⟩)] 62)).alloc (.cells #[.pointer (some ⟨g, 0, none⟩)] 62) := ⟨_, rfl⟩
  rw [← hw1]
  have hI : IntAt w1 g neg N := by rw [hw1]; exact (h.alloc _).alloc _
  have hb1 : Below w.heap.size w w1 := by rw [hw1]; exact ((Below.refl _ w).alloc (Nat.le_refl _) _).alloc (by simp) _
  clear hw1 h
  go_wp2_with fail
  refine (bits_any g neg N _ hI).mono ?_
  rintro e wz ⟨A, n, c, rfl, hr, rfl⟩
  have hlenn : n ≤ 10000 := by rw [← hr.len]; exact hlen
  have hM : Hid ((digs W64 N).length = n) := hr.len
  have hmk : ∀ w : World, (Instr.makeSlice 44 (.int .i64 ((n : Int) * 8)) (.int .i64 ((n : Int) * 8))).run Tryz.prog w = .ok (.slice (some ⟨w.heap.size, 0, none⟩) (8 * n) (8 * n)) (w.alloc (.cells (cellsOf .u8 (List.replicate (8 * n) 0)) 5)) := by
    intro w
    have h1 := run_makeNums 44 5 i0 .u8 Tryz.underlying44 hi hz0 hz1 (by omega) .i64 .i64 (8 * n) (8 * n) (Nat.le_refl _) (by omega) w
    rw [show (((8 * n : Nat) : Int)) = (n : Int) * 8 by omega] at h1
    exact h1
  go_wp2
  clear hmk hI
  obtain ⟨G, hG⟩ : ∃ G, G = w1.heap.size := ⟨_, rfl⟩
  have hrow : Row .u8 5 (w1.alloc (.cells (cellsOf .u8 (List.replicate (8 * n) 0)) 5)) G (bytesL N (8 * n) 0) := by rw [bytesL_zero]; exact Row.of_zero _ _ _ _ _ hG
  have hbel : Below w.heap.size w (w1.alloc (.cells (cellsOf .u8 (List.replicate (8 * n) 0)) 5)) := hb1.alloc hb1.size _
  have hr1 := hr.alloc (.cells (cellsOf .u8 (List.replicate (8 * n) 0)) 5)
  have hGw : w.heap.size ≤ G := by rw [hG]; exact hb1.size
  have hGA : ∀ b o, A = some ⟨b, o, none⟩ → 0 < n → b < G := by
    intro b o e h0
    obtain ⟨b', o', e', hlt, _⟩ := hr.2.2.2 h0
    rw [e] at e'
    injection e' with e'
    injection e' with e' _
    rw [hG, e']; exact hlt
  rw [← hG]
  generalize w1.alloc (.cells (cellsOf .u8 (List.replicate (8 * n) 0)) 5) = w2 at *
  have HGA := Lib.hid hGA
  clear hr hG hb1 hGA
  go_loopw [9, 33] (fun s t wr => ∃ j : Nat, j ≤ n ∧ t = .int .i64 (j : Int) ∧ s = .int .i64 (8 * (j : Int)) ∧ Row .u8 5 wr G (bytesL N (8 * n) (8 * j)) ∧ Below w.heap.size w wr ∧ Rd .u64 wr A n c (digs W64 N)) (fun _ t _ => n - (intOf t).toNat)
  case atStart => exact ⟨0, Nat.zero_le _, rfl, rfl, hrow, hbel, hr1⟩
  case round =>
    clear hrow hbel hr1
    obtain ⟨j, hjn, rfl, rfl, hrow, hbel, hr1⟩ := hrel
    by_cases c1 : j < n
    · obtain ⟨b1, o1, rfl, hb1, d, hde, hc1⟩ := word_at hr1 c1
      have hb1G : b1 < G := HGA.out b1 o1 rfl (by omega)
      go_wp2
      obtain ⟨wo, rfl⟩ : ∃ wo : World, wo = wr := ⟨_, rfl⟩
      go_loopw [9, 11, 12] (fun s u t wr => ∃ k x : Nat, k ≤ 8 ∧ t = .int .i64 (k : Int) ∧ s = .int .i64 (8 * (j : Int) + (k : Int)) ∧ u = .int .u64 (x : Int) ∧ Hid (x = N / W64 ^ j % W64 / 256 ^ k) ∧ Row .u8 5 wr G (bytesL N (8 * n) (8 * j + k)) ∧ Below w.heap.size w wr ∧ Rd .u64 wr (some ⟨b1, o1, none⟩) n c (digs W64 N)) (fun _ _ t _ => 8 - (intOf t).toNat)
      case atStart => exact ⟨0, d, Nat.zero_le _, rfl, by simp, rfl, by unfold Hid; rw [Nat.pow_zero, Nat.div_one]; exact hde.out, hrow, hbel, hr1⟩
      case round =>
        clear hc1 hb1 hrow hbel hr1
        obtain ⟨k, x, hk, rfl, rfl, rfl, hxe, hrow, hbel, hr1⟩ := hrel
        by_cases c2 : k < 8
        · have hwx := byte_of x
          have hcell : wr.cell? ⟨G, 8 * j + k, none⟩ = some (.int .u8 (((bytesL N (8 * n) (8 * j + k))[8 * j + k]'(by rw [bytesL_length]; omega) : Nat) : Int)) := hrow.cell (by rw [bytesL_length]; omega)
          have hfr := hrow.free (8 * j + k)
          have hrow2 := Lib.hid (bytes_row hrow rfl c2 hxe.out)
          have hbel2 := Lib.hid (hbel.setCell (p := ⟨G, 8 * j + k, none⟩) hGw (.int .u8 ((x % 256 : Nat) : Int)))
          have hr2 := Lib.hid (hr1.belowAt (B := G) ((Below.refl G wr).setCell (p := ⟨G, 8 * j + k, none⟩) (Nat.le_refl _) (.int .u8 ((x % 256 : Nat) : Int))) (fun b o e => by injection e with e; injection e with e _; omega))
          have hx2 : Hid (x / 256 = N / W64 ^ j % W64 / 256 ^ (k + 1)) := by unfold Hid; rw [Nat.pow_succ, ← Nat.div_div_eq_div_mul, ← hxe.out]
          obtain ⟨y, hy⟩ : ∃ y, y = x % 256 := ⟨_, rfl⟩
          rw [← hy] at hwx hrow2 hbel2 hr2
          generalize (bytesL N (8 * n) (8 * j + k))[8 * j + k]'(by rw [bytesL_length]; omega) = z at *
          clear hy hrow hbel hr1 hxe
          go_wp2
          go_roundw
          case rel => exact ⟨k + 1, x / 256, by omega, by go_num, by go_num, by go_num, hx2, hrow2.out, hbel2.out, hr2.out⟩
          case measure => simp [intOf]; omega
        · obtain rfl : k = 8 := by omega
          go_wp2
          go_roundw
          case rel => exact ⟨j + 1, by omega, by go_num, by go_num, hrow, hbel, hr1⟩
          case measure => simp [intOf]; omega
    · obtain rfl : j = n := by omega
      have hr3 := hrow.rd (n := 8 * j) (by rw [bytesL_length]; exact Nat.le_refl _) (by rw [bytesL_length]; unfold maxLen; omega)
      rw [bytesL_length, List.take_of_length_le (by rw [bytesL_length]; exact Nat.le_refl _)] at hr3
      have hfin : Hid (trimL (bytesL N (8 * j) (8 * j)) = digs 256 N) := bytes_fin N j hM.out
      have hl0 : Hid ((bytesL N (8 * j) (8 * j)).length = 8 * j) := bytesL_length _ _ _
      generalize bytesL N (8 * j) (8 * j) = l at *
      clear hrow hr1 HGA
      go_wp2
      go_loop [9] (fun s => ∃ m : Nat, m ≤ 8 * j ∧ s = .int .i64 (m : Int) ∧ Hid (trimL l = trimL (l.take m))) (fun s => (intOf s).toNat)
      case atStart => exact ⟨8 * j, Nat.le_refl _, by go_num, trimL_full l (8 * j) hl0.out⟩
      case round =>
        obtain ⟨m, hm, rfl, ht⟩ := hrel
        by_cases h0 : 0 < m
        · obtain ⟨b, o, hbo, hbl, d, hd, hc⟩ := hr3.at_ (j := m - 1) (by omega)
          injection hbo with hbo
          injection hbo with hb' ho'
          subst hb' ho'
          rw [Nat.zero_add] at hc
          by_cases hd0 : d = 0
          · subst hd0
            have ht2 : Hid (trimL l = trimL (l.take (m - 1))) := by
              obtain ⟨hl, hd⟩ := hd
              have e := trimL_drop l (m - 1) hl hd
              rw [show m - 1 + 1 = m by omega] at e
              exact (Hid.out ht).trans e
            clear ht hd
            go_wp2
            go_round
            case rel => exact ⟨m - 1, by omega, by go_num, ht2⟩
            case measure => simp [intOf]; omega
          · have hb0 : ((d : Int) == 0) = false := by simp; omega
            have hfin2 : Hid (trimL l = l.take m) := by
              obtain ⟨hl, hd⟩ := hd
              have e := trimL_stay l (m - 1) hl (by omega)
              rw [show m - 1 + 1 = m by omega] at e
              exact (Hid.out ht).trans e
            have hj0 : ¬ 8 * j = 0 := by omega
            clear ht hd
            go_wp2
            go_ret
            exact ⟨_, _, _, rfl, by rw [← hfin.out, hfin2.out]; simpa using hr3.take hm, hbel⟩
        · have hm0 : m = 0 := by omega
          subst hm0
          have hfin2 : Hid (trimL l = []) := ht
          clear ht
          by_cases hj0 : j = 0
          · subst hj0
            go_wp2
            go_ret
            exact ⟨_, _, _, rfl, by rw [← hfin.out, hfin2.out]; exact Rd.nil _ _ (by simp), hbel⟩
          · go_wp2
            go_ret
            exact ⟨_, _, _, rfl, by rw [← hfin.out, hfin2.out]; exact Rd.nil _ _ (by unfold maxLen; omega), hbel⟩

set_option maxRecDepth 100000 in
set_option maxHeartbeats 2000000 in
/-- constant.Bytes of an int64. -/
theorem bytes_iv (a : Int) (neg : Bool) (N : Nat) (w : World) (hlen : (digs W64 N).length ≤ 10000)
    (HC : ∀ w, Calls Tryz.prog 36 #[.int .i64 a] w (GotI neg N w)) :
    Calls Tryz.prog 23 #[iv a] w (Got .u8 (digs 256 N) w) := by
  unfold iv
  obtain ⟨i0, hi, hz0, hz1, hz2⟩ := info_parts Tryz.infoByteB
  have HC := Lib.hid HC
  go_enter Tryz.func23, Tryz.ntmps23
  go_wp2_with fail
  refine (HC.out _).mono ?_
  rintro e wa ⟨g, rfl, hI, hba, hga⟩
  obtain ⟨k0, f0, hlt⟩ := ((Box.new w 62 #[.pointer none] w.heap.size rfl).below hba (by simp)).one
  go_wp2_with fail
  obtain ⟨w1, hw1⟩ : ∃ w1, w1 = wa.setCell ⟨w.heap.size, 0, none⟩ (.pointer (some ⟨g, 0, none⟩)) := ⟨_, rfl⟩
  rw [← hw1]
  have hB0 := (Box.new w 62 #[.pointer none] w.heap.size rfl).below hba (by simp)
  have hI : IntAt w1 g neg N := by
    rw [hw1]
    refine hI.grown hB0 (by simp [notInt]) (grown_set (grown_refl wa _) 0 _) ?_
    have := hga
    simp at this
    omega
  have hb1 : Below w.heap.size w w1 := by
    rw [hw1]
    exact (((Below.refl _ w).alloc (Nat.le_refl _) _).trans (hba.mono (by simp))).setCell (Nat.le_refl _) _
  clear hw1 hB0 hba hga k0 f0 hlt
  go_wp2_with fail
  refine (bits_any g neg N _ hI).mono ?_
  rintro e wz ⟨A, n, c, rfl, hr, rfl⟩
  have hlenn : n ≤ 10000 := by rw [← hr.len]; exact hlen
  have hM : Hid ((digs W64 N).length = n) := hr.len
  have hmk : ∀ w : World, (Instr.makeSlice 44 (.int .i64 ((n : Int) * 8)) (.int .i64 ((n : Int) * 8))).run Tryz.prog w = .ok (.slice (some ⟨w.heap.size, 0, none⟩) (8 * n) (8 * n)) (w.alloc (.cells (cellsOf .u8 (List.replicate (8 * n) 0)) 5)) := by
    intro w
    have h1 := run_makeNums 44 5 i0 .u8 Tryz.underlying44 hi hz0 hz1 (by omega) .i64 .i64 (8 * n) (8 * n) (Nat.le_refl _) (by omega) w
    rw [show (((8 * n : Nat) : Int)) = (n : Int) * 8 by omega] at h1
    exact h1
  go_wp2
  clear hmk hI
  obtain ⟨G, hG⟩ : ∃ G, G = w1.heap.size := ⟨_, rfl⟩
  have hrow : Row .u8 5 (w1.alloc (.cells (cellsOf .u8 (List.replicate (8 * n) 0)) 5)) G (bytesL N (8 * n) 0) := by rw [bytesL_zero]; exact Row.of_zero _ _ _ _ _ hG
  have hbel : Below w.heap.size w (w1.alloc (.cells (cellsOf .u8 (List.replicate (8 * n) 0)) 5)) := hb1.alloc hb1.size _
  have hr1 := hr.alloc (.cells (cellsOf .u8 (List.replicate (8 * n) 0)) 5)
  have hGw : w.heap.size ≤ G := by rw [hG]; exact hb1.size
  have hGA : ∀ b o, A = some ⟨b, o, none⟩ → 0 < n → b < G := by
    intro b o e h0
    obtain ⟨b', o', e', hlt, _⟩ := hr.2.2.2 h0
    rw [e] at e'
    injection e' with e'
    injection e' with e' _
    rw [hG, e']; exact hlt
  rw [← hG]
  generalize w1.alloc (.cells (cellsOf .u8 (List.replicate (8 * n) 0)) 5) = w2 at *
  have HGA := Lib.hid hGA
  clear hr hG hb1 hGA
  go_loopw [9, 33] (fun s t wr => ∃ j : Nat, j ≤ n ∧ t = .int .i64 (j : Int) ∧ s = .int .i64 (8 * (j : Int)) ∧ Row .u8 5 wr G (bytesL N (8 * n) (8 * j)) ∧ Below w.heap.size w wr ∧ Rd .u64 wr A n c (digs W64 N)) (fun _ t _ => n - (intOf t).toNat)
  case atStart => exact ⟨0, Nat.zero_le _, rfl, rfl, hrow, hbel, hr1⟩
  case round =>
    clear hrow hbel hr1
    obtain ⟨j, hjn, rfl, rfl, hrow, hbel, hr1⟩ := hrel
    by_cases c1 : j < n
    · obtain ⟨b1, o1, rfl, hb1, d, hde, hc1⟩ := word_at hr1 c1
      have hb1G : b1 < G := HGA.out b1 o1 rfl (by omega)
      go_wp2
      obtain ⟨wo, rfl⟩ : ∃ wo : World, wo = wr := ⟨_, rfl⟩
      go_loopw [9, 11, 12] (fun s u t wr => ∃ k x : Nat, k ≤ 8 ∧ t = .int .i64 (k : Int) ∧ s = .int .i64 (8 * (j : Int) + (k : Int)) ∧ u = .int .u64 (x : Int) ∧ Hid (x = N / W64 ^ j % W64 / 256 ^ k) ∧ Row .u8 5 wr G (bytesL N (8 * n) (8 * j + k)) ∧ Below w.heap.size w wr ∧ Rd .u64 wr (some ⟨b1, o1, none⟩) n c (digs W64 N)) (fun _ _ t _ => 8 - (intOf t).toNat)
      case atStart => exact ⟨0, d, Nat.zero_le _, rfl, by simp, rfl, by unfold Hid; rw [Nat.pow_zero, Nat.div_one]; exact hde.out, hrow, hbel, hr1⟩
      case round =>
        clear hc1 hb1 hrow hbel hr1
        obtain ⟨k, x, hk, rfl, rfl, rfl, hxe, hrow, hbel, hr1⟩ := hrel
        by_cases c2 : k < 8
        · have hwx := byte_of x
          have hcell : wr.cell? ⟨G, 8 * j + k, none⟩ = some (.int .u8 (((bytesL N (8 * n) (8 * j + k))[8 * j + k]'(by rw [bytesL_length]; omega) : Nat) : Int)) := hrow.cell (by rw [bytesL_length]; omega)
          have hfr := hrow.free (8 * j + k)
          have hrow2 := Lib.hid (bytes_row hrow rfl c2 hxe.out)
          have hbel2 := Lib.hid (hbel.setCell (p := ⟨G, 8 * j + k, none⟩) hGw (.int .u8 ((x % 256 : Nat) : Int)))
          have hr2 := Lib.hid (hr1.belowAt (B := G) ((Below.refl G wr).setCell (p := ⟨G, 8 * j + k, none⟩) (Nat.le_refl _) (.int .u8 ((x % 256 : Nat) : Int))) (fun b o e => by injection e with e; injection e with e _; omega))
          have hx2 : Hid (x / 256 = N / W64 ^ j % W64 / 256 ^ (k + 1)) := by unfold Hid; rw [Nat.pow_succ, ← Nat.div_div_eq_div_mul, ← hxe.out]
          obtain ⟨y, hy⟩ : ∃ y, y = x % 256 := ⟨_, rfl⟩
          rw [← hy] at hwx hrow2 hbel2 hr2
          generalize (bytesL N (8 * n) (8 * j + k))[8 * j + k]'(by rw [bytesL_length]; omega) = z at *
          clear hy hrow hbel hr1 hxe
          go_wp2
          go_roundw
          case rel => exact ⟨k + 1, x / 256, by omega, by go_num, by go_num, by go_num, hx2, hrow2.out, hbel2.out, hr2.out⟩
          case measure => simp [intOf]; omega
        · obtain rfl : k = 8 := by omega
          go_wp2
          go_roundw
          case rel => exact ⟨j + 1, by omega, by go_num, by go_num, hrow, hbel, hr1⟩
          case measure => simp [intOf]; omega
    · obtain rfl : j = n := by omega
      have hr3 := hrow.rd (n := 8 * j) (by rw [bytesL_length]; exact Nat.le_refl _) (by rw [bytesL_length]; unfold maxLen; omega)
      rw [bytesL_length, List.take_of_length_le (by rw [bytesL_length]; exact Nat.le_refl _)] at hr3
      have hfin : Hid (trimL (bytesL N (8 * j) (8 * j)) = digs 256 N) := bytes_fin N j hM.out
      have hl0 : Hid ((bytesL N (8 * j) (8 * j)).length = 8 * j) := bytesL_length _ _ _
      generalize bytesL N (8 * j) (8 * j) = l at *
      clear hrow hr1 HGA
      go_wp2
      go_loop [9] (fun s => ∃ m : Nat, m ≤ 8 * j ∧ s = .int .i64 (m : Int) ∧ Hid (trimL l = trimL (l.take m))) (fun s => (intOf s).toNat)
      case atStart => exact ⟨8 * j, Nat.le_refl _, by go_num, trimL_full l (8 * j) hl0.out⟩
      case round =>
        obtain ⟨m, hm, rfl, ht⟩ := hrel
        by_cases h0 : 0 < m
        · obtain ⟨b, o, hbo, hbl, d, hd, hc⟩ := hr3.at_ (j := m - 1) (by omega)
          injection hbo with hbo
          injection hbo with hb' ho'
          subst hb' ho'
          rw [Nat.zero_add] at hc
          by_cases hd0 : d = 0
          · subst hd0
            have ht2 : Hid (trimL l = trimL (l.take (m - 1))) := by
              obtain ⟨hl, hd⟩ := hd
              have e := trimL_drop l (m - 1) hl hd
              rw [show m - 1 + 1 = m by omega] at e
              exact (Hid.out ht).trans e
            clear ht hd
            go_wp2
            go_round
            case rel => exact ⟨m - 1, by omega, by go_num, ht2⟩
            case measure => simp [intOf]; omega
          · have hb0 : ((d : Int) == 0) = false := by simp; omega
            have hfin2 : Hid (trimL l = l.take m) := by
              obtain ⟨hl, hd⟩ := hd
              have e := trimL_stay l (m - 1) hl (by omega)
              rw [show m - 1 + 1 = m by omega] at e
              exact (Hid.out ht).trans e
            have hj0 : ¬ 8 * j = 0 := by omega
            clear ht hd
            go_wp2
            go_ret
            exact ⟨_, _, _, rfl, by rw [← hfin.out, hfin2.out]; simpa using hr3.take hm, hbel⟩
        · have hm0 : m = 0 := by omega
          subst hm0
          have hfin2 : Hid (trimL l = []) := ht
          clear ht
          by_cases hj0 : j = 0
          · subst hj0
            go_wp2
            go_ret
            exact ⟨_, _, _, rfl, by rw [← hfin.out, hfin2.out]; exact Rd.nil _ _ (by simp), hbel⟩
          · go_wp2
            go_ret
            exact ⟨_, _, _, rfl, by rw [← hfin.out, hfin2.out]; exact Rd.nil _ _ (by unfold maxLen; omega), hbel⟩
end Go.Proofs.YtdfedhmejilnhaaGreatDoor
