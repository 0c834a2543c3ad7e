/- constant.Shift: it proves that Shift answers the number times a power of 2, or by it. Conditions: the number is not below 0. -/
import Derived.Test.YtbmcpbebjgponaaShift7
import Derived.Test.YtbmcpbebjgponaaMake
namespace Go.Proofs.Ytbmcpbebjgponaa
open Go.RowKit

@[go_sem] theorem field_val (x : Value) (w : World) : (Instr.field 74 (.agg #[x]) 0).run Try.prog w = .ok x w := by kernel_rfl

set_option maxRecDepth 100000 in
set_option maxHeartbeats 800000 in
/-- constant.Shift by 0. -/
theorem shift_zero (v : Value) (neg : Bool) (N : Nat) (x : Int) (w : World) (hv : IsV w v neg N) : Calls Try.prog 37 #[v, .int .i64 x, .int .u64 0] w (GotV neg N w) := by
  rcases hv with ⟨a, rfl, h1, h2, h3, h4⟩ | ⟨g, rfl, hI, hf⟩
  · have HV : Hid (IsV w (iv a) neg N) := .inl ⟨a, rfl, h1, h2, h3, h4⟩
    clear h1 h2 h3 h4
    unfold iv at *
    go_enter Try.func37, Try.ntmps37
    go_wp2
    go_ret
    exact ⟨_, rfl, HV.out, Below.refl _ _⟩
  · have HI := Lib.hid hI
    have HF := Lib.hid hf
    clear hI hf
    unfold bv
    go_enter Try.func37, Try.ntmps37
    go_wp2
    go_ret
    exact ⟨_, rfl, .inr ⟨g, rfl, HI.out.alloc _, HF.out⟩, (Below.refl _ _).alloc (Nat.le_refl _) _⟩

set_option maxRecDepth 100000 in
set_option maxHeartbeats 800000 in
/-- constant.Shift of an int64 to the left. -/
theorem shift_left_iv (N s : Nat) (hN : N < 9223372036854775808) (hs0 : 0 < s) (hs : s ≤ 100000) (w : World) : Calls Try.prog 37 #[iv N, .int .i64 20, .int .u64 (s : Int)] w (GotV false (N * 2 ^ s) w) := by
  have hs1 : ((s : Int) == 0) = false := by simp; omega
  have H1 := Lib.hid (i64toi_one N hN)
  clear hN
  unfold iv
  go_enter Try.func37, Try.ntmps37
  go_wp2_with fail
  refine (H1.out _).mono ?_
  rintro e w1 ⟨g, rfl, ⟨A, n, c, hB, hc, hr⟩, hb, hg⟩
  have H2 := Lib.hid (intLsh_same g false A n c N s w1 hB hc hr hs0 hs)
  clear hB hr hc
  go_wp2_with fail
  refine H2.out.mono ?_
  rintro e w2 ⟨rfl, hI, hg2⟩
  have HB := Lib.hid (below_of_grown hb hg2 hb.size hg)
  have H3 := Lib.hid (makeInt_any g false (N * 2 ^ s) w2 hI (fun _ => rfl))
  clear hI hg2 hb
  go_wp2_with fail
  refine H3.out.mono ?_
  rintro e w3 ⟨⟨v, rfl, hv⟩, rfl⟩
  go_wp2
  go_ret
  exact ⟨v, rfl, hv, HB.out⟩

theorem isV_small (w : World) (N : Nat) (h : N < 9223372036854775808) : IsV w (iv N) false N := .inl ⟨N, rfl, by omega, by omega, by symm; exact decide_eq_false (by omega), by simp⟩

theorem shr_min (N s : Nat) (h : N < 9223372036854775808) : ((N : Int) / 2 ^ min s 64) = ((N : Int) / 2 ^ s) := by
  rcases Nat.le_total s 64 with hs | hs
  · rw [Nat.min_eq_left hs]
  · rw [Nat.min_eq_right hs]
    have h1 : N < 2 ^ 64 := by omega
    have h2 : N < 2 ^ s := Nat.lt_of_lt_of_le h1 (Nat.pow_le_pow_right (by omega) hs)
    have e1 : ((N : Int) / 2 ^ s) = ((N / 2 ^ s : Nat) : Int) := by simp
    have e2 : ((N : Int) / 2 ^ 64) = ((N / 2 ^ 64 : Nat) : Int) := by omega
    rw [e1, e2, Nat.div_eq_of_lt h1, Nat.div_eq_of_lt h2]

set_option maxRecDepth 100000 in
set_option maxHeartbeats 800000 in
/-- constant.Shift of an int64 to the right. -/
theorem shift_right_iv (N s : Nat) (hN : N < 9223372036854775808) (hs0 : 0 < s) (w : World) : Calls Try.prog 37 #[iv N, .int .i64 21, .int .u64 (s : Int)] w (GotV false (N / 2 ^ s) w) := by
  have hs1 : ((s : Int) == 0) = false := by simp; omega
  have HV := Lib.hid (isV_small w (N / 2 ^ s) (Nat.lt_of_le_of_lt (Nat.div_le_self _ _) hN))
  have hq : ((N : Int) / 2 ^ min s 64) = ((N / 2 ^ s : Nat) : Int) := by
    rw [shr_min N s hN]; simp
  generalize N / 2 ^ s = q at *
  clear hN
  unfold iv at *
  go_enter Try.func37, Try.ntmps37
  go_wp2
  go_ret
  exact ⟨_, rfl, HV.out, Below.refl _ _⟩

set_option maxRecDepth 100000 in
set_option maxHeartbeats 800000 in
/-- constant.Shift of a greater integer to the left. -/
theorem shift_left_bv (g : Nat) (neg : Bool) (N s : Nat) (w : World) (hI : IntAt w g neg N) (hX : (digs W64 N).length ≤ 10000) (h0 : N = 0 → neg = false) (hs0 : 0 < s) (hs : s ≤ 100000) : Calls Try.prog 37 #[bv g, .int .i64 20, .int .u64 (s : Int)] w (GotV neg (N * 2 ^ s) w) := by
  have hs1 : ((s : Int) == 0) = false := by simp; omega
  have HI := Lib.hid hI
  have HZ : Hid (N * 2 ^ s = 0 → neg = false) := fun e => h0 ((Nat.mul_eq_zero.1 e).resolve_right (by have := Nat.two_pow_pos s; omega))
  have hglt := hI.lt
  have HX := Lib.hid hX
  clear hI h0 hX
  unfold bv
  go_enter Try.func37, Try.ntmps37
  go_wp2_with fail
  refine (newInt_any _).mono ?_
  rintro e w1 ⟨rfl, rfl⟩
  go_wp2_with fail
  have hb1 := (((Below.refl w.heap.size w).alloc (Nat.le_refl _) (.cells #[.pointer (some ⟨g, 0, none⟩)] 74)).alloc (by simp) (.cells #[.bool false, .slice none 0 0] 101))
  refine (intLsh_new (w.heap.size + 1) g neg N s _ (Box.new _ _ _ _ (by simp)) ((HI.out.alloc _).alloc _) HX.out hs0 hs).mono ?_
  rintro e w2 ⟨rfl, hI2, hg2⟩
  have HB := Lib.hid (below_of_grown hb1 hg2 (by simp; omega) (by omega))
  have H3 := Lib.hid (makeInt_any (w.heap.size + 1) neg (N * 2 ^ s) w2 hI2 HZ.out)
  clear hI2 hg2 hb1
  go_wp2_with fail
  refine H3.out.mono ?_
  rintro e w3 ⟨⟨v, rfl, hv⟩, rfl⟩
  go_wp2
  go_ret
  exact ⟨v, rfl, hv, HB.out⟩

set_option maxRecDepth 100000 in
set_option maxHeartbeats 800000 in
/-- constant.Shift of a greater integer, not below 0, to the right. -/
theorem shift_right_bv (g : Nat) (N s : Nat) (w : World) (hI : IntAt w g false N) (hX : (digs W64 N).length ≤ 10000) (hs0 : 0 < s) (hs : s ≤ 100000) : Calls Try.prog 37 #[bv g, .int .i64 21, .int .u64 (s : Int)] w (GotV false (N / 2 ^ s) w) := by
  have hs1 : ((s : Int) == 0) = false := by simp; omega
  have HI := Lib.hid hI
  have hglt := hI.lt
  have HX := Lib.hid hX
  clear hI hX
  unfold bv
  go_enter Try.func37, Try.ntmps37
  go_wp2_with fail
  refine (newInt_any _).mono ?_
  rintro e w1 ⟨rfl, rfl⟩
  go_wp2_with fail
  have hb1 := (((Below.refl w.heap.size w).alloc (Nat.le_refl _) (.cells #[.pointer (some ⟨g, 0, none⟩)] 74)).alloc (by simp) (.cells #[.bool false, .slice none 0 0] 101))
  refine (intRsh_new (w.heap.size + 1) g N s _ (Box.new _ _ _ _ (by simp)) ((HI.out.alloc _).alloc _) HX.out hs0 hs).mono ?_
  rintro e w2 ⟨rfl, hI2, hg2⟩
  have HB := Lib.hid (below_of_grown hb1 hg2 (by simp; omega) (by omega))
  have H3 := Lib.hid (makeInt_any (w.heap.size + 1) false (N / 2 ^ s) w2 hI2 (fun _ => rfl))
  clear hI2 hg2 hb1
  go_wp2_with fail
  refine H3.out.mono ?_
  rintro e w3 ⟨⟨v, rfl, hv⟩, rfl⟩
  go_wp2
  go_ret
  exact ⟨v, rfl, hv, HB.out⟩

/-- The number that Shift answers. -/
def shifted (left : Bool) (N s : Nat) : Nat := if left then N * 2 ^ s else N / 2 ^ s

/-- constant.Shift of a number that is not below 0. -/
theorem shift_any (v : Value) (left : Bool) (N s : Nat) (w : World) (hv : IsV w v false N) (hX : (digs W64 N).length ≤ 10000) (hs : s ≤ 100000) :
    Calls Try.prog 37 #[v, .int .i64 (if left then 20 else 21), .int .u64 (s : Int)] w (GotV false (shifted left N s) w) := by
  rcases Nat.eq_zero_or_pos s with h0 | h0
  · subst h0
    have e : shifted left N 0 = N := by unfold shifted; cases left <;> simp
    rw [e]
    exact shift_zero v false N _ w hv
  · rcases hv with ⟨a, rfl, h1, h2, h3, rfl⟩ | ⟨g, rfl, hI, hf⟩
    · have ha : ¬ a < 0 := of_decide_eq_false h3.symm
      obtain ⟨m, rfl⟩ := Int.eq_ofNat_of_zero_le (show 0 ≤ a by omega)
      cases left
      · exact shift_right_iv m s (by omega) h0 w
      · exact shift_left_iv m s (by omega) h0 hs w
    · cases left
      · exact shift_right_bv g N s w hI hX h0 hs
      · exact shift_left_bv g false N s w hI hX (fun _ => rfl) h0 hs
end Go.Proofs.Ytbmcpbebjgponaa
