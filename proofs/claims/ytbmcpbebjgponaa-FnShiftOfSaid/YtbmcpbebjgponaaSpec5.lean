/- The reference's natural numbers: it proves that Shl answers the digits of the number times a power of 2. Conditions: the slice reads as digits, of at most a million. -/
import Derived.Test.YtbmcpbebjgponaaSpec4
namespace Go.Proofs.Ytbmcpbebjgponaa
open Go.RowKit

/-- What a round of Shl meets and leaves. -/
theorem shl_round {wr : World} {g a s q r L i d : Nat} {T : TypeId} (hrow : Row .i64 T wr g (shlL a s L i)) (HQ : Hid (q = s / 16)) (HR : Hid (r = s % 16)) (hL : q + i + 1 < L) (hd : d < 65536) (hde : d = a / 65536 ^ i % 65536) :
    ∃ f y : Nat, f < 32769 ∧ y ≤ 2147450880 ∧ IntKind.i64.wrap ((d : Int) * 2 ^ r) = (y : Int) ∧ wr.cell? ⟨g, q + i, none⟩ = some (.int .i64 (f : Int)) ∧ wr.cell? ⟨g, q + i + 1, none⟩ = some (.int .i64 0) ∧
      wr.frozen? ⟨g, q + i, none⟩ = false ∧ wr.frozen? ⟨g, q + i + 1, none⟩ = false ∧
      Row .i64 T ((wr.setCell ⟨g, q + i, none⟩ (.int .i64 ((f : Int) + (y : Int) % 65536))).setCell ⟨g, q + i + 1, none⟩ (.int .i64 ((y : Int) / 65536))) g (shlL a s L (i + 1)) := by
  have hq := HQ.out
  have hr := HR.out
  subst hq hr
  have hLen := shlL_length a s L i
  refine ⟨(shlL a s L i)[s / 16 + i]'(by rw [hLen]; omega), d * 2 ^ (s % 16), ?_, ?_, ?_, ?_, ?_, hrow.free _, hrow.free _, ?_⟩
  · have h1 := shlL_at a s L i (by omega)
    have h2 := two_pow_mod_le s
    omega
  · have h1 := two_pow_mod_le s
    have h2 := Nat.mul_le_mul (show d ≤ 65535 by omega) h1
    exact h2
  · have h1 := two_pow_mod_le s
    have h2 := Nat.mul_le_mul (show d ≤ 65535 by omega) h1
    have e : ((d : Int) * 2 ^ (s % 16)) = ((d * 2 ^ (s % 16) : Nat) : Int) := by simp
    rw [e]
    generalize d * 2 ^ (s % 16) = z at *
    rw [IntKind.wrap_i64]; omega
  · rw [hrow.cell (by rw [hLen]; omega)]
  · rw [hrow.cell (by rw [hLen]; omega), shlL_next a s L i hL]; rfl
  · have h1 := (hrow.set (s / 16 + i) ((shlL a s L i)[s / 16 + i]'(by rw [hLen]; omega) + d * 2 ^ (s % 16) % 65536)).set (s / 16 + i + 1) (d * 2 ^ (s % 16) / 65536)
    have e := shlL_step a s L i d (d * 2 ^ (s % 16)) hL hde rfl
    rw [e] at h1
    simpa using h1

set_option maxRecDepth 100000 in
set_option maxHeartbeats 400000 in
/-- spec.Shl. -/
theorem shl_any (A : Option Addr) (n c a s : Nat) (w : World) (h : Rd .i64 w A n c (digs 65536 a)) (hn : n ≤ 1000000) (hs : s ≤ 1000000) :
    Calls Try.prog 34 #[.slice A n c, .int .i64 (s : Int)] w (Got .i64 (digs 65536 (a * 2 ^ s)) w) := by
  by_cases h0 : n = 0
  · subst h0
    have ha : a = 0 := by
      have := (digs_length_le_iff 65536 (by omega) a 0).1 (by rw [h.len]; exact Nat.le_refl _)
      simpa using this
    subst ha
    rw [Nat.zero_mul]
    go_enter Try.func34, Try.ntmps34
    go_wp2
    go_ret
    exact ⟨_, _, _, rfl, h, Below.refl _ _⟩
  obtain ⟨i0, hi, hz0, hz1, hz2⟩ := info_parts Try.infoInt
  have hne : ((n : Int) == 0) = false := by simp; omega
  obtain ⟨q, hq⟩ : ∃ q, q = s / 16 := ⟨_, rfl⟩
  obtain ⟨r, hr⟩ : ∃ r, r = s % 16 := ⟨_, rfl⟩
  have hq2 : (s : Int) / 16 = (q : Int) := by omega
  have hr2 : (s : Int) % 16 = (r : Int) := by omega
  have hr16 : r < 16 := by omega
  have hqs : q ≤ s := by omega
  have HQ := Lib.hid hq
  have HR := Lib.hid hr
  clear hq hr
  have hmk : ∀ w : World, (Instr.makeSlice 25 (.int .i64 ((q : Int) + (n : Int) + 1)) (.int .i64 ((q : Int) + (n : Int) + 1))).run Try.prog w = .ok (.slice (some ⟨w.heap.size, 0, none⟩) (q + n + 1) (q + n + 1)) (w.alloc (.cells (cellsOf .i64 (List.replicate (q + n + 1) 0)) 3)) :=
    fun w => run_makeNums 25 3 i0 .i64 Try.underlying25 hi hz0 hz1 (by omega) .i64 .i64 (q + n + 1) (q + n + 1) (Nat.le_refl _) (by omega) w
  go_enter Try.func34, Try.ntmps34
  go_wp2
  go_loopw [21] (fun k wr => ∃ i : Nat, i ≤ n ∧ k = .int .i64 (i : Int) ∧ Row .i64 3 wr w.heap.size (shlL a s (q + n + 1) i) ∧ Below w.heap.size w wr) (fun k _ => n - (intOf k).toNat)
  case atStart => exact ⟨0, Nat.zero_le _, rfl, by rw [shlL_zero]; exact Row.of_zero _ _ _ _ _ rfl, (Below.refl _ _).alloc (Nat.le_refl _) _⟩
  case round =>
    obtain ⟨i, hin, rfl, hrow, hb⟩ := hrel
    have hrl := hrow.lt
    by_cases c1 : i < n
    · obtain ⟨b1, o1, rfl, hb1, d, hd, hde, hc1⟩ := digit_at (h.below hb) c1
      have hqi : q + i + 1 < q + n + 1 := by omega
      obtain ⟨f, y, hf16, hyb, hwy, hc8, hc9, hf8, hf9, hrow2⟩ := shl_round hrow HQ HR hqi (by omega) hde.out
      have HR2 := Lib.hid hrow2
      have HB := Lib.hid hb
      have hyi : (y : Int) ≤ 2147450880 := by omega
      clear hrow hde hrow2 hb hmk hyb
      go_wp2
      go_roundw
      case rel => exact ⟨i + 1, by omega, by go_num, HR2.out, (HB.out.setCell (Nat.le_refl _) _).setCell (Nat.le_refl _) _⟩
      case measure => simp [intOf]; omega
    · obtain rfl : i = n := by omega
      have hLen := shlL_length a s (q + i + 1) i
      have hr' := hrow.rd (n := q + i + 1) (by rw [hLen]; exact Nat.le_refl _) (by rw [hLen]; unfold maxLen; omega)
      rw [hLen, List.take_of_length_le (by rw [hLen]; exact Nat.le_refl _)] at hr'
      have hfin : Hid (trimL (shlL a s (q + i + 1) i) = digs 65536 (a * 2 ^ s)) := by
        have ha := (digs_length_le_iff 65536 (by omega) a i).1 (by rw [h.len]; exact Nat.le_refl _)
        unfold Hid shlL
        rw [Nat.mod_eq_of_lt ha, HQ.out]
        exact digs_lowd 65536 (by omega) _ _ (shl_len a s i ha)
      clear hLen hrow hmk
      go_wp2_with fail
      refine (trim_any _ _ _ _ _ hr').mono ?_
      rintro e w' ⟨A2, n2, c2, rfl, hr2, rfl⟩
      go_wp2
      go_ret
      exact ⟨_, _, _, rfl, by rw [← hfin.out]; exact hr2, hb⟩
end Go.Proofs.Ytbmcpbebjgponaa
