/- The package's integer values: it proves what i64toi, makeInt, Int64Val, Uint64Val and MakeUint64 answer. Conditions: the integer's words are its digits. -/
import Derived.Test.YtdfedhmejilnhaaGreatDoorConst1
import Derived.Test.YtdfedhmejilnhaaGreatDoorBig2
namespace Go.Proofs.YtdfedhmejilnhaaGreatDoor
open Go.RowKit

/-- The value of an integer that does not fit 64 bits. -/
def bv (g : Nat) : Value := .iface 62 (.agg #[.pointer (some ⟨g, 0, none⟩)])

/-- The call hands back a new integer: N with a sign. -/
def GotI (neg : Bool) (N : Nat) (w : World) (e : Ending) (w' : World) : Prop :=
  ∃ g, e = .returned (.agg #[.pointer (some ⟨g, 0, none⟩)]) ∧ IntAt w' g neg N ∧ Below w.heap.size w w' ∧ w.heap.size ≤ g

/-- A value of the package that is the integer N with a sign. -/
def IsV (w : World) (v : Value) (neg : Bool) (N : Nat) : Prop :=
  (∃ a : Int, v = iv a ∧ -9223372036854775808 ≤ a ∧ a ≤ 9223372036854775807 ∧ neg = decide (a < 0) ∧ N = a.natAbs) ∨
  (∃ g, v = bv g ∧ IntAt w g neg N ∧ fits64 neg N = false)

theorem IsV.below {w w' : World} {v : Value} {neg : Bool} {N : Nat} (h : IsV w v neg N) (hb : Below w.heap.size w w') : IsV w' v neg N := by
  rcases h with h | ⟨g, hv, hI, hf⟩
  · exact .inl h
  · exact .inr ⟨g, hv, hI.below hb, hf⟩

theorem int64Of_pos (N : Nat) (h : N < 9223372036854775808) : int64Of false N = N := by
  have hlt : N < W64 := by unfold W64; omega
  unfold int64Of
  rw [if_neg (by simp), Nat.mod_eq_of_lt hlt, wrap64_small N h]
theorem wrap64_neg (N : Nat) (h : N < 9223372036854775808) : wrap64 (-(N : Int)) = -(N : Int) := by unfold wrap64; omega
theorem wrap64_least : wrap64 (-wrap64 ((9223372036854775808 : Nat) : Int)) = -((9223372036854775808 : Nat) : Int) := by unfold wrap64; omega
theorem int64Of_neg (N : Nat) (h : N ≤ 9223372036854775808) : int64Of true N = -(N : Int) := by
  have hlt : N < W64 := by unfold W64; omega
  unfold int64Of
  rw [if_pos rfl, Nat.mod_eq_of_lt hlt]
  by_cases h2 : N < 9223372036854775808
  · rw [wrap64_small N h2, wrap64_neg N h2]
  · obtain rfl : N = 9223372036854775808 := by omega
    exact wrap64_least
theorem fits64_pos (N : Nat) (h : fits64 false N = true) : N < 9223372036854775808 := by
  unfold fits64 at h
  simpa using h
theorem fits64_neg (N : Nat) (h : fits64 true N = true) : N ≤ 9223372036854775808 := by
  unfold fits64 at h
  simp only [Bool.true_and, Bool.or_eq_true, decide_eq_true_eq] at h
  omega
theorem int64Of_fits (neg : Bool) (N : Nat) (h : fits64 neg N = true) (h0 : N = 0 → neg = false) :
    -9223372036854775808 ≤ int64Of neg N ∧ int64Of neg N ≤ 9223372036854775807 ∧ neg = decide (int64Of neg N < 0) ∧ N = (int64Of neg N).natAbs := by
  cases neg
  · have hN := fits64_pos N h
    rw [int64Of_pos N hN]
    exact ⟨by omega, by omega, by symm; exact decide_eq_false (by omega), by omega⟩
  · have hN := fits64_neg N h
    have h1 : 0 < N := by
      rcases Nat.eq_zero_or_pos N with h1 | h1
      · exact absurd (h0 h1) (by simp)
      · exact h1
    rw [int64Of_neg N hN]
    exact ⟨by omega, by omega, by symm; exact decide_eq_true (by omega), by omega⟩

set_option maxRecDepth 100000 in
set_option maxHeartbeats 400000 in
/-- constant.makeInt. -/
theorem makeInt_any (g : Nat) (neg : Bool) (N : Nat) (w : World) (h : IntAt w g neg N) (h0 : N = 0 → neg = false) :
    Calls Tryz.prog 41 #[.pointer (some ⟨g, 0, none⟩)] w fun e w' => (∃ v, e = .returned v ∧ IsV w v neg N) ∧ w = w' := by
  by_cases hf : fits64 neg N = true
  · have H1 := Lib.hid (isInt64_any g neg N w h)
    rw [hf] at H1
    have H2 := Lib.hid (int64_any g neg N w h)
    have H3 := Lib.hid (int64Of_fits neg N hf h0)
    generalize int64Of neg N = a at *
    clear hf
    go_enter Tryz.func41, Tryz.ntmps41
    go_wp2_with fail
    refine H1.out.mono ?_
    rintro e w1 ⟨rfl, rfl⟩
    go_wp2_with fail
    refine H2.out.mono ?_
    rintro e w1 ⟨rfl, rfl⟩
    go_wp2
    go_ret
    exact ⟨⟨_, rfl, .inl ⟨a, rfl, H3.out.1, H3.out.2.1, H3.out.2.2.1, H3.out.2.2.2⟩⟩, rfl⟩
  · have hf2 : fits64 neg N = false := by simpa using hf
    have H1 := Lib.hid (isInt64_any g neg N w h)
    rw [hf2] at H1
    have HF := Lib.hid hf2
    clear hf hf2
    go_enter Tryz.func41, Tryz.ntmps41
    go_wp2_with fail
    refine H1.out.mono ?_
    rintro e w1 ⟨rfl, rfl⟩
    go_wp2
    go_ret
    exact ⟨⟨_, rfl, .inr ⟨g, rfl, h, HF.out⟩⟩, rfl⟩


set_option maxRecDepth 100000 in
set_option maxHeartbeats 400000 in
/-- constant.Uint64Val of an int64. -/
theorem uint64Val_iv (a : Int) (w : World) : Calls Tryz.prog 19 #[iv a] w fun e w' => e = .returned (.tuple #[.int .u64 (IntKind.u64.wrap a), .bool (decide (0 ≤ a))]) ∧ w = w' := by
  unfold iv
  go_enter Tryz.func19, Tryz.ntmps19
  go_wp2
  go_ret2
  exact ⟨rfl, rfl⟩

set_option maxRecDepth 100000 in
set_option maxHeartbeats 400000 in
/-- constant.Uint64Val of a greater integer. -/
theorem uint64Val_bv (g : Nat) (neg : Bool) (N : Nat) (w : World) (h : IntAt w g neg N) :
    Calls Tryz.prog 19 #[bv g] w fun e w' => e = .returned (.tuple #[.int .u64 ((N % W64 : Nat) : Int), .bool (!neg && decide (N < W64))]) ∧ Below w.heap.size w w' := by
  unfold bv
  have h1 := h.alloc (.cells #[.pointer (some ⟨g, 0, none⟩)] 62)
  have H1 := Lib.hid (fun n => uint64_any g neg N _ (h1.drewN n))
  have H2 := Lib.hid (fun n => isUint64_any g neg N _ (h1.drewN n))
  clear h1
  generalize N % W64 = m at *
  generalize (!neg && decide (N < W64)) = b at *
  go_enter Tryz.func19, Tryz.ntmps19
  go_wp2_with fail
  go_quiet ((first | (go_at_call 28; exact quiet_left (H1.out _)) | (go_at_call 29; exact quiet_left (H2.out _))))
  go_wp2
  go_ret2
  exact ⟨rfl, below_drewN ((Below.refl _ _).alloc (Nat.le_refl _) _) _⟩


theorem i64toi_end {w w2 : World} {g : Nat} {neg : Bool} {N : Nat} {x : Value} (hI : IntAt w2 g neg N) (hB : Box w2 w.heap.size 62 #[x]) (hx : notInt x = true) (hb : Below w.heap.size w w2) (hg : w.heap.size < g) :
    ∀ w3, w3 = w2.setCell ⟨w.heap.size, 0, none⟩ (.pointer (some ⟨g, 0, none⟩)) → w3.cell? ⟨w.heap.size, 0, none⟩ = some (.pointer (some ⟨g, 0, none⟩)) ∧ GotI neg N w (.returned (.agg #[.pointer (some ⟨g, 0, none⟩)])) w3 := by
  rintro w3 rfl
  have hB3 := hB.set 0 (.pointer (some ⟨g, 0, none⟩))
  obtain ⟨k0, _⟩ := Box.one (x := .pointer (some ⟨g, 0, none⟩)) hB3
  exact ⟨k0, g, rfl, hI.grown hB (by simp [hx]) (grown_set (grown_refl w2 _) 0 _) (by omega), hb.setCell (Nat.le_refl _) _, by omega⟩

set_option maxRecDepth 100000 in
set_option maxHeartbeats 400000 in
/-- constant.i64toi. -/
theorem i64toi_any (a : Int) (h1 : -9223372036854775808 ≤ a) (h2 : a ≤ 9223372036854775807) (w : World) : Calls Tryz.prog 36 #[.int .i64 a] w (GotI (decide (a < 0)) a.natAbs w) := by
  have HS : Hid (∀ (g : Nat) (w : World), Box w g 88 #[.bool false, .slice none 0 0] → Calls Tryz.prog 48 #[.pointer (some ⟨g, 0, none⟩), .int .i64 a] w (SetTo g (decide (a < 0)) a.natAbs w)) := by
    intro g w hB
    by_cases h : a < 0
    · rw [decide_eq_true h]; exact setInt64_neg g a h h1 w hB
    · rw [decide_eq_false h]
      obtain ⟨m, rfl⟩ := Int.eq_ofNat_of_zero_le (by omega : 0 ≤ a)
      exact setInt64_pos g m (by omega) w hB
  generalize decide (a < 0) = neg at *
  generalize a.natAbs = N at *
  clear h1 h2
  go_enter Tryz.func36, Tryz.ntmps36
  go_wp2_with fail
  refine (newInt_any _).mono ?_
  rintro e w1 ⟨rfl, rfl⟩
  go_wp2_with fail
  refine (HS.out _ _ (Box.new _ _ _ _ (by simp))).mono ?_
  rintro e w2 ⟨rfl, hI, hg⟩
  have hB0 := ((Box.new w 62 #[.pointer none] w.heap.size rfl).alloc (.cells #[.bool false, .slice none 0 0] 88)).grown hg (by simp)
  have hb0 : Below w.heap.size w w2 := below_of_grown (((Below.refl _ w).alloc (Nat.le_refl _) _).alloc (by simp) _) hg (by simp; omega) (by omega)
  obtain ⟨k0, f0, hlt⟩ := hB0.one
  go_wp2
  have hend := i64toi_end hI hB0 (by simp [notInt]) hb0 (by simp) _ rfl
  obtain ⟨r0, hgot⟩ := hend
  exact bodyPost_ret (v := .agg #[.pointer (some ⟨w.heap.size + 1, 0, none⟩)]) (by simp [results, Tryz.results36, go_sem, r0]) rfl hgot
end Go.Proofs.YtdfedhmejilnhaaGreatDoor
