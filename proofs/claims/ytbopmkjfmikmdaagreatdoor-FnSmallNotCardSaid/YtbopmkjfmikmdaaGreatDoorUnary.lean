/- constant.UnaryOp of the bits of an int64: it proves what it answers with no precision and with one from 1 to 62. Conditions: the number fits 64 bits; with a precision it is not below 0 and fits so many bits. -/
import Derived.Test.YtbopmkjfmikmdaaGreatDoorNot3
import Derived.Test.YtbopmkjfmikmdaaGreatDoorConst2
namespace Go.Proofs.YtbopmkjfmikmdaaGreatDoor
open Go.RowKit

theorem IntOwn.mono {B B' : Nat} {w : World} {g : Nat} {neg : Bool} {N : Nat} (h : IntOwn B' w g neg N) (hB : B ≤ B') : IntOwn B w g neg N := by
  obtain ⟨r, n, c, h1, h2, h3, h4⟩ := h
  exact ⟨r, n, c, h1, h2, h3, Nat.le_trans hB h4⟩
theorem isV_fits {w : World} {v : Value} {neg : Bool} {N : Nat} (h : IsV w v neg N) (hf : fits64 neg N = true) : v = iv (if neg then -(N : Int) else (N : Int)) := by
  rcases h with ⟨a, rfl, _, _, h3, h4⟩ | ⟨g, rfl, _, hf2⟩
  · congr 1
    cases neg
    · have := of_decide_eq_false h3.symm
      simp; omega
    · have := of_decide_eq_true h3.symm
      simp; omega
  · rw [hf] at hf2; cases hf2

/-- The call answers this value; what was there is as it was. -/
def GotVal (v : Value) (w : World) (e : Ending) (w' : World) : Prop := e = .returned v ∧ Below w.heap.size w w'

theorem not_fits (a : Int) (h1 : -9223372036854775808 ≤ a) (h2 : a ≤ 9223372036854775807) (hn : 0 ≤ a) : fits64 true (a.toNat + 1) = true ∧ -((a.toNat + 1 : Nat) : Int) = -a - 1 := by
  unfold fits64
  constructor
  · by_cases h : a.toNat + 1 < 9223372036854775808
    · simp; omega
    · simp; omega
  · omega

set_option maxRecDepth 100000 in
set_option maxHeartbeats 1600000 in
/-- UnaryOp of an int64 that is not below 0, no precision. -/
theorem unary_pos (a : Nat) (h2 : a < 9223372036854775808) (w : World) : Calls Tryz.prog 14 #[.int .i64 19, iv a, .int .u64 0] w (GotVal (iv (-(a : Int) - 1)) w) := by
  have hf := not_fits a (by omega) (by omega) (by omega)
  rw [Int.toNat_natCast] at hf
  have HF := Lib.hid hf
  have HN := Lib.hid (fun w => newInt64_pos a (by omega) w)
  have HT := Lib.hid (fun g g2 w hB hI => not_pos g g2 a w hB hI h2)
  clear hf h2
  unfold iv
  go_enter Tryz.func14, Tryz.ntmps14
  go_wp2_with fail
  go_step3
  go_wp2_with fail
  refine (newInt_any _).mono ?_
  rintro e w1 ⟨rfl, rfl⟩
  go_wp2_with fail
  refine (HN.out _).mono ?_
  rintro e w1 ⟨g2, rfl, hI, hb1, hge⟩
  have hB := (Box.new w 95 #[.bool false, .slice none 0 0] w.heap.size rfl).below hb1 (by simp)
  have HT2 := Lib.hid (HT.out w.heap.size g2 w1 hB hI)
  have hbel := ((Below.refl w.heap.size w).alloc (Nat.le_refl _) (.cells #[.bool false, .slice none 0 0] 95)).trans (hb1.mono (by simp))
  clear hB hI hb1
  go_wp2_with fail
  refine HT2.out.mono ?_
  rintro e w2 ⟨rfl, hI2, hg2⟩
  have hb2 := Lib.hid (below_of_grown hbel hg2 hbel.size (Nat.le_refl _))
  have HM := Lib.hid (makeInt_any _ _ _ _ hI2.int (by simp))
  clear hI2 hg2 hbel
  go_wp2_with fail
  refine HM.out.mono ?_
  rintro e w3 ⟨⟨v, rfl, hv⟩, rfl⟩
  obtain rfl : v = .iface 45 (.int .i64 (-(a : Int) - 1)) := by rw [isV_fits hv HF.out.1, if_pos rfl, HF.out.2]; rfl
  clear hv
  go_wp2
  (try rw [Exit.noGoto_ret])
  go_ret
  exact ⟨rfl, hb2.out⟩

set_option maxRecDepth 100000 in
set_option maxHeartbeats 1600000 in
/-- UnaryOp of an int64 below 0, no precision. -/
theorem unary_neg (a : Int) (h1 : -9223372036854775808 ≤ a) (hn : a < 0) (w : World) : Calls Tryz.prog 14 #[.int .i64 19, iv a, .int .u64 0] w (GotVal (iv (-a - 1)) w) := by
  have HF : Hid (fits64 false (a.natAbs - 1) = true ∧ ((a.natAbs - 1 : Nat) : Int) = -a - 1) := by
    unfold Hid fits64
    constructor
    · simp; omega
    · omega
  have HN := Lib.hid (fun w => newInt64_neg a hn h1 w)
  have HT := Lib.hid (fun g g2 w hB hI => not_neg g g2 a.natAbs w hB hI (by omega) (lt_W64' _ (by omega)))
  clear h1 hn
  generalize a.natAbs = N at *
  unfold iv
  go_enter Tryz.func14, Tryz.ntmps14
  go_wp2_with fail
  go_step3
  go_wp2_with fail
  refine (newInt_any _).mono ?_
  rintro e w1 ⟨rfl, rfl⟩
  go_wp2_with fail
  refine (HN.out _).mono ?_
  rintro e w1 ⟨g2, rfl, hI, hb1, hge⟩
  have hB := (Box.new w 95 #[.bool false, .slice none 0 0] w.heap.size rfl).below hb1 (by simp)
  have HT2 := Lib.hid (HT.out w.heap.size g2 w1 hB hI)
  have hbel := ((Below.refl w.heap.size w).alloc (Nat.le_refl _) (.cells #[.bool false, .slice none 0 0] 95)).trans (hb1.mono (by simp))
  clear hB hI hb1
  go_wp2_with fail
  refine HT2.out.mono ?_
  rintro e w2 ⟨rfl, hI2, hg2⟩
  have hb2 := Lib.hid (below_of_grown hbel hg2 hbel.size (Nat.le_refl _))
  have HM := Lib.hid (makeInt_any _ _ _ _ hI2.int (fun _ => rfl))
  clear hI2 hg2 hbel
  go_wp2_with fail
  refine HM.out.mono ?_
  rintro e w3 ⟨⟨v, rfl, hv⟩, rfl⟩
  obtain rfl : v = .iface 45 (.int .i64 (-a - 1)) := by rw [isV_fits hv HF.out.1, if_neg (by simp), HF.out.2]; rfl
  clear hv
  go_wp2
  (try rw [Exit.noGoto_ret])
  go_ret
  exact ⟨rfl, hb2.out⟩

theorem and_mask (p a : Nat) (hp : p ≤ 64) (h : a < 2 ^ p) : (2 ^ p - 1) &&& (2 ^ 64 - 1 - a) = 2 ^ p - 1 - a := by
  have h64 : a < 2 ^ 64 := Nat.lt_of_lt_of_le h (Nat.pow_le_pow_right (by omega) hp)
  apply Nat.eq_of_testBit_eq
  intro i
  rw [Nat.testBit_and, Nat.testBit_two_pow_sub_one, show 2 ^ 64 - 1 - a = 2 ^ 64 - (a + 1) by omega, Nat.testBit_two_pow_sub_succ h64, show 2 ^ p - 1 - a = 2 ^ p - (a + 1) by omega, Nat.testBit_two_pow_sub_succ h]
  by_cases hi : i < p
  · have : i < 64 := by omega
    simp [hi, this]
  · simp [hi]
theorem bits_mask (p a : Nat) (hp : p ≤ 62) (h : a < 2 ^ p) : bits BinOp.andNot IntKind.u64 ((2 ^ p - 1 : Nat) : Int) (a : Int) = ((2 ^ p - 1 - a : Nat) : Int) := by
  have hp2 : 2 ^ p ≤ 2 ^ 62 := Nat.pow_le_pow_right (by omega) hp
  have h1 := and_mask p a (by omega) h
  rw [u64_andNot_nat _ _ (by omega) (by omega)]
  congr 1

theorem prec_facts (p : Nat) (hp1 : 1 ≤ p) (hp : p ≤ 62) : 2 ≤ 2 ^ p ∧ 2 ^ p ≤ 4611686018427387904 := by
  have h1 : 2 ^ 1 ≤ 2 ^ p := Nat.pow_le_pow_right (by omega) hp1
  have h2 : 2 ^ p ≤ 2 ^ 62 := Nat.pow_le_pow_right (by omega) hp
  exact ⟨by omega, by omega⟩

set_option maxRecDepth 100000 in
set_option maxHeartbeats 1600000 in
/-- UnaryOp of an int64 that is not below 0, with a precision. -/
theorem unary_prec (p a : Nat) (hp1 : 1 ≤ p) (hp : p ≤ 62) (h : a < 2 ^ p) (w : World) : Calls Tryz.prog 14 #[.int .i64 19, iv a, .int .u64 (p : Int)] w (GotVal (iv ((2 ^ p - 1 - a : Nat) : Int)) w) := by
  obtain ⟨q1, q2⟩ := prec_facts p hp1 hp
  have HN := Lib.hid (fun w => newInt64_pos a (by omega) w)
  have HN1 := Lib.hid (fun w => newInt64_neg (-1) (by omega) (by omega) w)
  have HT := Lib.hid (fun g g2 w hB hI => not_pos g g2 a w hB hI (by omega))
  have HL := Lib.hid (fun g g2 w hB hI => intLsh_new g g2 true 1 p w hB hI (by rw [digs_word 1 (by omega) (lt_W64' 1 (by omega))]; simp) hp1 (by omega))
  have HA := Lib.hid (fun B w0 g g2 w hb hBg hI hI2 => andNotInt_any B w0 g g2 (a + 1) (2 ^ p) (2 ^ p - 1 - a) w hb hBg hI hI2 (by omega) (lt_W64' _ (by omega)) (by omega) (lt_W64' _ (by omega)) (lt_W64' _ (by omega)) (fun e => by omega) (fun _ => bits_mask p a hp h))
  have HF : Hid (fits64 false (2 ^ p - 1 - a) = true) := by unfold Hid fits64; simp; omega
  generalize 2 ^ p - 1 - a = Z at *
  have hpp : (0 : Int) < (p : Int) := by omega
  clear h hp q1 q2
  unfold iv
  go_enter Tryz.func14, Tryz.ntmps14
  go_wp2_with fail
  go_step3
  go_wp2_with fail
  refine (newInt_any _).mono ?_
  rintro e w1 ⟨rfl, rfl⟩
  go_wp2_with fail
  refine (HN.out _).mono ?_
  rintro e w1 ⟨g2, rfl, hI, hb1, hge⟩
  have hB := (Box.new w 95 #[.bool false, .slice none 0 0] w.heap.size rfl).below hb1 (by simp)
  have HT2 := Lib.hid (HT.out w.heap.size g2 w1 hB hI)
  have hbel := ((Below.refl w.heap.size w).alloc (Nat.le_refl _) (.cells #[.bool false, .slice none 0 0] 95)).trans (hb1.mono (by simp))
  clear hB hI hb1
  go_wp2_with fail
  refine HT2.out.mono ?_
  rintro e w2 ⟨rfl, hI2, hg2⟩
  have hz1 := hbel.size
  have hb2 := Lib.hid (below_of_grown hbel hg2 hbel.size (Nat.le_refl _))
  have HI2 := Lib.hid (hI2.mono hz1)
  clear hI2 hg2 hbel
  go_wp2_with fail
  refine (newInt_any _).mono ?_
  rintro e w3 ⟨rfl, rfl⟩
  go_wp2_with fail
  refine (HN1.out _).mono ?_
  rintro e w4 ⟨g5, rfl, hI4, hb4, hge5⟩
  have hB4 := (Box.new w2 95 #[.bool false, .slice none 0 0] w2.heap.size rfl).below hb4 (by simp)
  have HL2 := Lib.hid (HL.out w2.heap.size g5 w4 hB4 hI4)
  have hbel4 := ((Below.refl w2.heap.size w2).alloc (Nat.le_refl _) (.cells #[.bool false, .slice none 0 0] 95)).trans (hb4.mono (by simp))
  clear hB4 hI4 hb4
  go_wp2_with fail
  refine HL2.out.mono ?_
  rintro e w5 ⟨rfl, hI5, hg5⟩
  have hb5 := below_of_grown hbel4 hg5 hbel4.size (Nat.le_refl _)
  rw [Nat.one_mul] at hI5
  have HA2 := Lib.hid (HA.out w.heap.size w w.heap.size w2.heap.size w5 (hb2.out.trans (hb5.mono hb2.out.size)) (Nat.le_refl _) (HI2.out.below hb5) hI5)
  clear hI5 hg5 hb5 hbel4
  go_wp2_with fail
  refine HA2.out.mono ?_
  rintro e w6 ⟨rfl, hI6, hb6⟩
  have HB6 := Lib.hid hb6
  have HM := Lib.hid (makeInt_any _ _ _ _ hI6 (fun _ => rfl))
  clear hI6 hb6
  go_wp2_with fail
  refine HM.out.mono ?_
  rintro e w7 ⟨⟨v, rfl, hv⟩, rfl⟩
  obtain rfl : v = .iface 45 (.int .i64 (Z : Int)) := by rw [isV_fits hv HF.out, if_neg (by simp)]; rfl
  clear hv
  go_wp2
  (try rw [Exit.noGoto_ret])
  go_ret
  exact ⟨rfl, HB6.out⟩
end Go.Proofs.YtbopmkjfmikmdaaGreatDoor
