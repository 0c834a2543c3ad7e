/- Comparisons by their numbers: it proves what comparison, the reference's Order, ord, match and Compare answer of two int64 and of two truths. No conditions but that the number of the comparison is at most 5. -/
import Derived.Test.YtbopmkjfmikmdaaGreatDoorConst1
import Derived.Outline
namespace Go.Proofs.YtbopmkjfmikmdaaGreatDoor
open Go.RowKit

/-- The call answers this truth; what was there is as it was. -/
def Tells (b : Bool) (w : World) (e : Ending) (w' : World) : Prop := e = .returned (.bool b) ∧ Below w.heap.size w w'

/-- What a comparison says of -1, 0 or 1. -/
def ordB (k : Nat) (c : Int) : Bool := match k with | 0 => c == 0 | 1 => c != 0 | 2 => decide (c < 0) | 3 => decide (c ≤ 0) | 4 => decide (0 < c) | _ => decide (0 ≤ c)
/-- The operator's token. -/
def tokOf (k : Nat) : Int := match k with | 0 => 39 | 1 => 44 | 2 => 40 | 3 => 45 | 4 => 41 | _ => 46

set_option maxRecDepth 100000 in
set_option maxHeartbeats 800000 in
/-- spec.Order. -/
theorem order_any (k : Nat) (hk : k < 6) (c : Int) (w : World) : Calls Tryz.prog 9 #[.int .i64 (k : Int), .int .i64 c] w fun e w' => e = .returned (.bool (ordB k c)) ∧ w = w' := by
  match k, hk with
  | 0, _ =>
    show Calls Tryz.prog 9 #[.int .i64 0, .int .i64 c] w _
    go_enter Tryz.func9, Tryz.ntmps9
    go_wp2
    go_ret
    exact ⟨rfl, rfl⟩
  | 1, _ =>
    show Calls Tryz.prog 9 #[.int .i64 1, .int .i64 c] w _
    go_enter Tryz.func9, Tryz.ntmps9
    go_wp2
    go_ret
    exact ⟨rfl, rfl⟩
  | 2, _ =>
    show Calls Tryz.prog 9 #[.int .i64 2, .int .i64 c] w _
    go_enter Tryz.func9, Tryz.ntmps9
    go_wp2
    go_ret
    exact ⟨rfl, rfl⟩
  | 3, _ =>
    show Calls Tryz.prog 9 #[.int .i64 3, .int .i64 c] w _
    go_enter Tryz.func9, Tryz.ntmps9
    go_wp2
    go_ret
    exact ⟨rfl, rfl⟩
  | 4, _ =>
    show Calls Tryz.prog 9 #[.int .i64 4, .int .i64 c] w _
    go_enter Tryz.func9, Tryz.ntmps9
    go_wp2
    go_ret
    exact ⟨rfl, rfl⟩
  | 5, _ =>
    show Calls Tryz.prog 9 #[.int .i64 5, .int .i64 c] w _
    go_enter Tryz.func9, Tryz.ntmps9
    go_wp2
    go_ret
    exact ⟨rfl, rfl⟩

/-- The operator of a comparison. -/
def GotTok (t : Int) (w : World) (e : Ending) (w' : World) : Prop := e = .returned (.tuple #[.int .i64 t, .bool true]) ∧ Below w.heap.size w w'

set_option maxRecDepth 100000 in
set_option maxHeartbeats 800000 in
/-- impl.comparison. -/
theorem comparison_any (k : Nat) (hk : k < 6) (w : World) : Calls Tryz.prog 16 #[.int .i64 (k : Int)] w (GotTok (tokOf k) w) := by
  match k, hk with
  | 0, _ =>
    show Calls Tryz.prog 16 #[.int .i64 0] w _
    go_enter Tryz.func16, Tryz.ntmps16
    go_wp2
    go_ret2
    exact ⟨rfl, (Below.refl _ _).alloc (Nat.le_refl _) _⟩
  | 1, _ =>
    show Calls Tryz.prog 16 #[.int .i64 1] w _
    go_enter Tryz.func16, Tryz.ntmps16
    go_wp2
    go_ret2
    exact ⟨rfl, (Below.refl _ _).alloc (Nat.le_refl _) _⟩
  | 2, _ =>
    show Calls Tryz.prog 16 #[.int .i64 2] w _
    go_enter Tryz.func16, Tryz.ntmps16
    go_wp2
    go_ret2
    exact ⟨rfl, (Below.refl _ _).alloc (Nat.le_refl _) _⟩
  | 3, _ =>
    show Calls Tryz.prog 16 #[.int .i64 3] w _
    go_enter Tryz.func16, Tryz.ntmps16
    go_wp2
    go_ret2
    exact ⟨rfl, (Below.refl _ _).alloc (Nat.le_refl _) _⟩
  | 4, _ =>
    show Calls Tryz.prog 16 #[.int .i64 4] w _
    go_enter Tryz.func16, Tryz.ntmps16
    go_wp2
    go_ret2
    exact ⟨rfl, (Below.refl _ _).alloc (Nat.le_refl _) _⟩
  | 5, _ =>
    show Calls Tryz.prog 16 #[.int .i64 5] w _
    go_enter Tryz.func16, Tryz.ntmps16
    go_wp2
    go_ret2
    exact ⟨rfl, (Below.refl _ _).alloc (Nat.le_refl _) _⟩

theorem tok_lt (k : Nat) (hk : k < 6) : tokOf k = 39 ∨ tokOf k = 44 ∨ tokOf k = 40 ∨ tokOf k = 45 ∨ tokOf k = 41 ∨ tokOf k = 46 := by
  match k, hk with
  | 0, _ => exact .inl rfl
  | 1, _ => exact .inr (.inl rfl)
  | 2, _ => exact .inr (.inr (.inl rfl))
  | 3, _ => exact .inr (.inr (.inr (.inl rfl)))
  | 4, _ => exact .inr (.inr (.inr (.inr (.inl rfl))))
  | 5, _ => exact .inr (.inr (.inr (.inr (.inr rfl))))
/-- The value of a truth. -/
def tv (a : Bool) : Value := .iface 73 (.bool a)
/-- The value of a text at g. -/
def sv (g : Nat) : Value := .iface 80 (.pointer (some ⟨g, 0, none⟩))

set_option maxRecDepth 100000 in
set_option maxHeartbeats 800000 in
theorem ord_iv (a : Int) (w : World) : Calls Tryz.prog 61 #[iv a] w fun e w' => e = .returned (.int .i64 2) ∧ w = w' := by
  unfold iv
  go_enter Tryz.func61, Tryz.ntmps61
  go_wp2
  go_ret
  exact ⟨rfl, rfl⟩
set_option maxRecDepth 100000 in
set_option maxHeartbeats 800000 in
theorem ord_tv (a : Bool) (w : World) : Calls Tryz.prog 61 #[tv a] w fun e w' => e = .returned (.int .i64 1) ∧ w = w' := by
  unfold tv
  go_enter Tryz.func61, Tryz.ntmps61
  go_wp2
  go_ret
  exact ⟨rfl, rfl⟩
set_option maxRecDepth 100000 in
set_option maxHeartbeats 800000 in
theorem ord_sv (g : Nat) (w : World) : Calls Tryz.prog 61 #[sv g] w fun e w' => e = .returned (.int .i64 1) ∧ w = w' := by
  unfold sv
  go_enter Tryz.func61, Tryz.ntmps61
  go_wp2
  go_ret
  exact ⟨rfl, rfl⟩

/-- constant.match of two values of one make. -/
theorem match_same (x y : Value) (o : Int) (hx : ∀ w, Calls Tryz.prog 61 #[x] w fun e w' => e = .returned (.int .i64 o) ∧ w = w') (hy : ∀ w, Calls Tryz.prog 61 #[y] w fun e w' => e = .returned (.int .i64 o) ∧ w = w') (w : World) :
    Calls Tryz.prog 35 #[x, y] w fun e w' => e = .returned (.tuple #[x, y]) ∧ w = w' := by
  have HX := Lib.hid hx
  have HY := Lib.hid hy
  clear hx hy
  go_enter Tryz.func35, Tryz.ntmps35
  go_wp2_with fail
  refine (HX.out _).mono ?_
  rintro e w1 ⟨rfl, rfl⟩
  go_wp2_with fail
  refine (HY.out _).mono ?_
  rintro e w1 ⟨rfl, rfl⟩
  go_wp2
  go_ret2
  exact ⟨rfl, rfl⟩

@[go_sem] theorem surely_int64Val (v : Value) (w : World) : (Instr.typeAssert (.iface 45 v) 38 45 false).run Tryz.prog w = .ok v w := by kernel_rfl
@[go_sem] theorem surely_boolVal (v : Value) (w : World) : (Instr.typeAssert (.iface 73 v) 38 73 false).run Tryz.prog w = .ok v w := by kernel_rfl
@[go_sem] theorem surely_stringVal (v : Value) (w : World) : (Instr.typeAssert (.iface 80 v) 38 80 false).run Tryz.prog w = .ok v w := by kernel_rfl

/-- The order of two numbers. -/
def cmp3 (a b : Int) : Int := if a < b then -1 else if b < a then 1 else 0
theorem cmp3_ord (a b : Int) : (a == b) = ordB 0 (cmp3 a b) ∧ (a != b) = ordB 1 (cmp3 a b) ∧ decide (a < b) = ordB 2 (cmp3 a b) ∧ decide (a ≤ b) = ordB 3 (cmp3 a b) ∧ decide (b < a) = ordB 4 (cmp3 a b) ∧ decide (b ≤ a) = ordB 5 (cmp3 a b) := by
  unfold cmp3
  by_cases h1 : a < b
  · rw [if_pos h1]
    refine ⟨?_, ?_, ?_, ?_, ?_, ?_⟩ <;> simp [ordB] <;> omega
  · by_cases h2 : b < a
    · rw [if_neg h1, if_pos h2]
      refine ⟨?_, ?_, ?_, ?_, ?_, ?_⟩ <;> simp [ordB] <;> omega
    · have : a = b := by omega
      subst this
      simp [ordB]

set_option maxRecDepth 100000 in
set_option maxHeartbeats 800000 in
theorem compare_iv0 (a b : Int) (w : World) : Calls Tryz.prog 17 #[iv a, .int .i64 39, iv b] w fun e w' => e = .returned (.bool (ordB 0 (cmp3 a b))) ∧ w = w' := by
  have H := Lib.hid (match_same (iv a) (iv b) 2 (ord_iv a) (ord_iv b))
  rw [← (cmp3_ord a b).1]
  unfold iv at *
  go_enter Tryz.func17, Tryz.ntmps17
  go_wp2_with fail
  refine (H.out _).mono ?_
  rintro e w1 ⟨rfl, rfl⟩
  go_wp2
  go_ret
  exact ⟨rfl, rfl⟩
set_option maxRecDepth 100000 in
set_option maxHeartbeats 800000 in
theorem compare_iv1 (a b : Int) (w : World) : Calls Tryz.prog 17 #[iv a, .int .i64 44, iv b] w fun e w' => e = .returned (.bool (ordB 1 (cmp3 a b))) ∧ w = w' := by
  have H := Lib.hid (match_same (iv a) (iv b) 2 (ord_iv a) (ord_iv b))
  rw [← (cmp3_ord a b).2.1]
  unfold iv at *
  go_enter Tryz.func17, Tryz.ntmps17
  go_wp2_with fail
  refine (H.out _).mono ?_
  rintro e w1 ⟨rfl, rfl⟩
  go_wp2
  go_ret
  exact ⟨rfl, rfl⟩
set_option maxRecDepth 100000 in
set_option maxHeartbeats 800000 in
theorem compare_iv2 (a b : Int) (w : World) : Calls Tryz.prog 17 #[iv a, .int .i64 40, iv b] w fun e w' => e = .returned (.bool (ordB 2 (cmp3 a b))) ∧ w = w' := by
  have H := Lib.hid (match_same (iv a) (iv b) 2 (ord_iv a) (ord_iv b))
  rw [← (cmp3_ord a b).2.2.1]
  unfold iv at *
  go_enter Tryz.func17, Tryz.ntmps17
  go_wp2_with fail
  refine (H.out _).mono ?_
  rintro e w1 ⟨rfl, rfl⟩
  go_wp2
  go_ret
  exact ⟨rfl, rfl⟩
set_option maxRecDepth 100000 in
set_option maxHeartbeats 800000 in
theorem compare_iv3 (a b : Int) (w : World) : Calls Tryz.prog 17 #[iv a, .int .i64 45, iv b] w fun e w' => e = .returned (.bool (ordB 3 (cmp3 a b))) ∧ w = w' := by
  have H := Lib.hid (match_same (iv a) (iv b) 2 (ord_iv a) (ord_iv b))
  rw [← (cmp3_ord a b).2.2.2.1]
  unfold iv at *
  go_enter Tryz.func17, Tryz.ntmps17
  go_wp2_with fail
  refine (H.out _).mono ?_
  rintro e w1 ⟨rfl, rfl⟩
  go_wp2
  go_ret
  exact ⟨rfl, rfl⟩
set_option maxRecDepth 100000 in
set_option maxHeartbeats 800000 in
theorem compare_iv4 (a b : Int) (w : World) : Calls Tryz.prog 17 #[iv a, .int .i64 41, iv b] w fun e w' => e = .returned (.bool (ordB 4 (cmp3 a b))) ∧ w = w' := by
  have H := Lib.hid (match_same (iv a) (iv b) 2 (ord_iv a) (ord_iv b))
  rw [← (cmp3_ord a b).2.2.2.2.1]
  unfold iv at *
  go_enter Tryz.func17, Tryz.ntmps17
  go_wp2_with fail
  refine (H.out _).mono ?_
  rintro e w1 ⟨rfl, rfl⟩
  go_wp2
  go_ret
  exact ⟨rfl, rfl⟩
set_option maxRecDepth 100000 in
set_option maxHeartbeats 800000 in
theorem compare_iv5 (a b : Int) (w : World) : Calls Tryz.prog 17 #[iv a, .int .i64 46, iv b] w fun e w' => e = .returned (.bool (ordB 5 (cmp3 a b))) ∧ w = w' := by
  have H := Lib.hid (match_same (iv a) (iv b) 2 (ord_iv a) (ord_iv b))
  rw [← (cmp3_ord a b).2.2.2.2.2]
  unfold iv at *
  go_enter Tryz.func17, Tryz.ntmps17
  go_wp2_with fail
  refine (H.out _).mono ?_
  rintro e w1 ⟨rfl, rfl⟩
  go_wp2
  go_ret
  exact ⟨rfl, rfl⟩
/-- constant.Compare of two int64. -/
theorem compare_iv (k : Nat) (hk : k < 6) (a b : Int) (w : World) : Calls Tryz.prog 17 #[iv a, .int .i64 (tokOf k), iv b] w fun e w' => e = .returned (.bool (ordB k (cmp3 a b))) ∧ w = w' := by
  match k, hk with
  | 0, _ => exact compare_iv0 a b w
  | 1, _ => exact compare_iv1 a b w
  | 2, _ => exact compare_iv2 a b w
  | 3, _ => exact compare_iv3 a b w
  | 4, _ => exact compare_iv4 a b w
  | 5, _ => exact compare_iv5 a b w

set_option maxRecDepth 100000 in
set_option maxHeartbeats 800000 in
/-- constant.Compare of two truths: equal. -/
theorem compare_eql (a b : Bool) (w : World) : Calls Tryz.prog 17 #[tv a, .int .i64 39, tv b] w fun e w' => e = .returned (.bool (a == b)) ∧ w = w' := by
  have H := Lib.hid (match_same (tv a) (tv b) 1 (ord_tv a) (ord_tv b))
  unfold tv at *
  go_enter Tryz.func17, Tryz.ntmps17
  go_wp2_with fail
  refine (H.out _).mono ?_
  rintro e w1 ⟨rfl, rfl⟩
  go_wp2
  go_ret
  exact ⟨rfl, rfl⟩
set_option maxRecDepth 100000 in
set_option maxHeartbeats 800000 in
/-- constant.Compare of two truths: not equal. -/
theorem compare_neq (a b : Bool) (w : World) : Calls Tryz.prog 17 #[tv a, .int .i64 44, tv b] w fun e w' => e = .returned (.bool (a != b)) ∧ w = w' := by
  have H := Lib.hid (match_same (tv a) (tv b) 1 (ord_tv a) (ord_tv b))
  unfold tv at *
  go_enter Tryz.func17, Tryz.ntmps17
  go_wp2_with fail
  refine (H.out _).mono ?_
  rintro e w1 ⟨rfl, rfl⟩
  go_wp2
  go_ret
  exact ⟨rfl, rfl⟩
end Go.Proofs.YtbopmkjfmikmdaaGreatDoor
