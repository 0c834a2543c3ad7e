/- Sums and differences of one word: it proves what bits.Add, bits.Sub, addVV, subVV, natOne and NewInt answer. Conditions: the slices read as one word each. -/
import Derived.Test.YtbopmkjfmikmdaaGreatDoorShift6
import Derived.Laws.Externs
import Derived.Shelf.Spec.BitsCarry
namespace Go.Proofs.YtbopmkjfmikmdaaGreatDoor
open Go.RowKit

theorem run_add64' (x y c : Nat) (hc : c ≤ 1) (w : World) :
    (callFunc 145 #[.int .u64 x, .int .u64 y, .int .u64 c]).run Tryz.prog w =
      .ok (.value (.tuple #[.int .u64 (((x + y + c) % 18446744073709551616 : Nat) : Int), .int .u64 (((x + y + c) / 18446744073709551616 : Nat) : Int)])) w := by
  rw [run_callFunc_extern Tryz.func145 (by kernel_rfl) (by kernel_rfl) (by kernel_rfl) (e := add64Entry) (by kernel_rfl), run_add64 x y c (by omega) (by omega) (by omega) (by omega)]
  simp only [Result.andThen]
  congr 5 <;> omega
theorem run_sub64' (x y b : Nat) (hb : b ≤ 1) (w : World) :
    (callFunc 143 #[.int .u64 x, .int .u64 y, .int .u64 b]).run Tryz.prog w =
      .ok (.value (.tuple #[.int .u64 (((x + 18446744073709551616 - y - b) % 18446744073709551616 : Nat) : Int), .int .u64 ((if x < y + b then 1 else 0 : Nat) : Int)])) w := by
  rw [run_callFunc_extern Tryz.func143 (by kernel_rfl) (by kernel_rfl) (by kernel_rfl) (e := sub64Entry) (by kernel_rfl), run_sub64 x y b hb]
  rfl

set_option maxRecDepth 100000 in
set_option maxHeartbeats 400000 in
/-- bits.Add of a sum that is given. -/
theorem bitsAdd_any (x y s d : Nat) (hs : s = (x + y) % 18446744073709551616) (hd : d = (x + y) / 18446744073709551616) (w : World) :
    Calls Tryz.prog 115 #[.int .u64 (x : Int), .int .u64 (y : Int), .int .u64 0] w fun e w' => e = .returned (.tuple #[.int .u64 (s : Int), .int .u64 (d : Int)]) ∧ w = w' := by
  have H : ∀ w, (callFunc 145 #[.int .u64 (x : Int), .int .u64 (y : Int), .int .u64 0]).run Tryz.prog w = .ok (.value (.tuple #[.int .u64 (s : Int), .int .u64 (d : Int)])) w := by
    intro w
    rw [hs, hd]
    exact run_add64' x y 0 (by omega) w
  clear hs hd
  go_enter Tryz.func115, Tryz.ntmps115
  go_wp2
  go_ret2
  exact ⟨rfl, rfl⟩
set_option maxRecDepth 100000 in
set_option maxHeartbeats 400000 in
/-- bits.Sub of a difference that is given. -/
theorem bitsSub_any (x y s : Nat) (hs : x = y + s) (hx : x < W64) (w : World) :
    Calls Tryz.prog 113 #[.int .u64 (x : Int), .int .u64 (y : Int), .int .u64 0] w fun e w' => e = .returned (.tuple #[.int .u64 (s : Int), .int .u64 0]) ∧ w = w' := by
  have H : ∀ w, (callFunc 143 #[.int .u64 (x : Int), .int .u64 (y : Int), .int .u64 0]).run Tryz.prog w = .ok (.value (.tuple #[.int .u64 (s : Int), .int .u64 0])) w := by
    intro w
    have h1 := run_sub64' x y 0 (by omega) w
    rw [if_neg (by omega), show (x + 18446744073709551616 - y - 0) % 18446744073709551616 = s by unfold W64 at hx; omega] at h1
    exact h1
  clear hs hx
  go_enter Tryz.func113, Tryz.ntmps113
  go_wp2
  go_ret2
  exact ⟨rfl, rfl⟩

/-- The row at g has its first word turned. -/
def SetOneWord (g : Nat) (l : List Nat) (s d : Nat) (w : World) (e : Ending) (w' : World) : Prop :=
  e = .returned (.int .u64 (d : Int)) ∧ Row .u64 97 w' g (l.set 0 s) ∧ w.grownBy w' (some g)

set_option maxRecDepth 100000 in
set_option maxHeartbeats 800000 in
/-- big.addVV_g of one word each. -/
theorem addVVg_one (g cz : Nat) (l : List Nat) (A B : Option Addr) (c1 c2 x y s d : Nat) (w : World) (hrow : Row .u64 97 w g l) (hl : 0 < l.length) (h1 : Rd .u64 w A 1 c1 [x]) (h2 : Rd .u64 w B 1 c2 [y])
    (hs : s = (x + y) % 18446744073709551616) (hd : d = (x + y) / 18446744073709551616) :
    Calls Tryz.prog 114 #[.slice (some ⟨g, 0, none⟩) 1 cz, .slice A 1 c1, .slice B 1 c2] w (SetOneWord g l s d w) := by
  have HA := Lib.hid (fun w => bitsAdd_any x y s d hs hd w)
  obtain ⟨b1, o1, rfl, _, x', ⟨hxl, hxe⟩, hc1⟩ := h1.at_ (j := 0) (by omega)
  obtain ⟨b2, o2, rfl, _, y', ⟨hyl, hye⟩, hc2⟩ := h2.at_ (j := 0) (by omega)
  simp only [List.getElem_cons_zero] at hxe hye
  subst hxe hye
  rw [Nat.add_zero] at hc1 hc2
  have hc := hrow.cell hl
  have hf := hrow.free 0
  have hR := Lib.hid (fun n => Row.set (w := w.drewN n) (Box.drewN hrow n) 0 s)
  have hlt := hrow.lt
  generalize l[0] = u at *
  clear hs hd h1 h2 hrow
  go_enter Tryz.func114, Tryz.ntmps114
  go_wp2_with fail
  go_loopw [6, 25] (fun c i wr => (i = .int .i64 0 ∧ c = .int .u64 0 ∧ wr = w) ∨ (i = .int .i64 1 ∧ c = .int .u64 (d : Int) ∧ Hid (Row .u64 97 wr g (l.set 0 s) ∧ w.grownBy wr (some g)))) (fun _ i _ => 1 - (intOf i).toNat)
  case atStart => exact .inl ⟨rfl, rfl, rfl⟩
  case round =>
    rcases hrel with ⟨rfl, rfl, rfl⟩ | ⟨rfl, rfl, hfin⟩
    · go_wp2_with fail
      go_quiet ((go_at_call 115; exact quiet_left (HA.out _)))
      go_wp2
      go_roundw
      case rel => exact .inr ⟨rfl, rfl, hR.out _, grown_set (grown_below (below_drewN (Below.refl _ _) _) _) 0 _⟩
      case measure => simp [intOf]
    · go_wp2
      go_ret
      exact ⟨rfl, hfin.out.1, hfin.out.2⟩
set_option maxRecDepth 100000 in
set_option maxHeartbeats 800000 in
/-- big.subVV_g of one word each. -/
theorem subVVg_one (g cz : Nat) (l : List Nat) (A B : Option Addr) (c1 c2 x y s : Nat) (w : World) (hrow : Row .u64 97 w g l) (hl : 0 < l.length) (h1 : Rd .u64 w A 1 c1 [x]) (h2 : Rd .u64 w B 1 c2 [y])
    (hs : x = y + s) (hx : x < W64) :
    Calls Tryz.prog 112 #[.slice (some ⟨g, 0, none⟩) 1 cz, .slice A 1 c1, .slice B 1 c2] w (SetOneWord g l s 0 w) := by
  have HA := Lib.hid (fun w => bitsSub_any x y s hs hx w)
  obtain ⟨b1, o1, rfl, _, x', ⟨hxl, hxe⟩, hc1⟩ := h1.at_ (j := 0) (by omega)
  obtain ⟨b2, o2, rfl, _, y', ⟨hyl, hye⟩, hc2⟩ := h2.at_ (j := 0) (by omega)
  simp only [List.getElem_cons_zero] at hxe hye
  subst hxe hye
  rw [Nat.add_zero] at hc1 hc2
  have hc := hrow.cell hl
  have hf := hrow.free 0
  have hR := Lib.hid (fun n => Row.set (w := w.drewN n) (Box.drewN hrow n) 0 s)
  have hlt := hrow.lt
  generalize l[0] = u at *
  clear hx hs h1 h2 hrow
  go_enter Tryz.func112, Tryz.ntmps112
  go_wp2_with fail
  go_loopw [6, 25] (fun c i wr => (i = .int .i64 0 ∧ c = .int .u64 0 ∧ wr = w) ∨ (i = .int .i64 1 ∧ c = .int .u64 0 ∧ Hid (Row .u64 97 wr g (l.set 0 s) ∧ w.grownBy wr (some g)))) (fun _ i _ => 1 - (intOf i).toNat)
  case atStart => exact .inl ⟨rfl, rfl, rfl⟩
  case round =>
    rcases hrel with ⟨rfl, rfl, rfl⟩ | ⟨rfl, rfl, hfin⟩
    · go_wp2_with fail
      go_quiet ((go_at_call 113; exact quiet_left (HA.out _)))
      go_wp2
      go_roundw
      case rel => exact .inr ⟨rfl, rfl, hR.out _, grown_set (grown_below (below_drewN (Below.refl _ _) _) _) 0 _⟩
      case measure => simp [intOf]
    · go_wp2
      go_ret
      exact ⟨rfl, hfin.out.1, hfin.out.2⟩
set_option maxRecDepth 100000 in
set_option maxHeartbeats 400000 in
theorem addVV_one (g cz : Nat) (l : List Nat) (A B : Option Addr) (c1 c2 x y s d : Nat) (w : World) (hrow : Row .u64 97 w g l) (hl : 0 < l.length) (h1 : Rd .u64 w A 1 c1 [x]) (h2 : Rd .u64 w B 1 c2 [y])
    (hs : s = (x + y) % 18446744073709551616) (hd : d = (x + y) / 18446744073709551616) :
    Calls Tryz.prog 86 #[.slice (some ⟨g, 0, none⟩) 1 cz, .slice A 1 c1, .slice B 1 c2] w (SetOneWord g l s d w) := by
  have H := Lib.hid (addVVg_one g cz l A B c1 c2 x y s d w hrow hl h1 h2 hs hd)
  clear hs hd hrow h1 h2 hl
  go_enter Tryz.func86, Tryz.ntmps86
  go_wp2_with fail
  refine H.out.mono ?_
  rintro e w1 ⟨rfl, h3, h4⟩
  go_wp2
  go_ret
  exact ⟨rfl, h3, h4⟩
set_option maxRecDepth 100000 in
set_option maxHeartbeats 400000 in
theorem subVV_one (g cz : Nat) (l : List Nat) (A B : Option Addr) (c1 c2 x y s : Nat) (w : World) (hrow : Row .u64 97 w g l) (hl : 0 < l.length) (h1 : Rd .u64 w A 1 c1 [x]) (h2 : Rd .u64 w B 1 c2 [y])
    (hs : x = y + s) (hx : x < W64) :
    Calls Tryz.prog 83 #[.slice (some ⟨g, 0, none⟩) 1 cz, .slice A 1 c1, .slice B 1 c2] w (SetOneWord g l s 0 w) := by
  have H := Lib.hid (subVVg_one g cz l A B c1 c2 x y s w hrow hl h1 h2 hs hx)
  clear hs hx hrow h1 h2 hl
  go_enter Tryz.func83, Tryz.ntmps83
  go_wp2_with fail
  refine H.out.mono ?_
  rintro e w1 ⟨rfl, h3, h4⟩
  go_wp2
  go_ret
  exact ⟨rfl, h3, h4⟩

set_option maxRecDepth 100000 in
set_option maxHeartbeats 400000 in
/-- big.natOne. -/
theorem natOne_any (w : World) : Calls Tryz.prog 55 #[] w fun e w' => e = .returned (.slice (some ⟨w.heap.size, 0, none⟩) 1 1) ∧ w' = w.alloc (.cells (cellsOf .u64 [1]) 97) := by
  go_enter Tryz.func55, Tryz.ntmps55
  go_wp2
  go_ret
  exact ⟨rfl, rfl⟩

/-- The call hands back an integer in a new block. -/
def GotP (neg : Bool) (N : Nat) (w : World) (e : Ending) (w' : World) : Prop :=
  ∃ g, e = .returned (.pointer (some ⟨g, 0, none⟩)) ∧ IntAt w' g neg N ∧ Below w.heap.size w w' ∧ w.heap.size ≤ g

theorem digs_own {N : Nat} (h0 : 0 < N) (h : N < W64) {w : World} {k : IntKind} {A : Option Addr} {c : Nat} (hr : Rd k w A 1 c [N]) : Rd k w A 1 c (digs W64 N) := by rw [digs_word N h0 h]; exact hr
theorem lt_W64' (a : Nat) (ha : a ≤ 9223372036854775808) : a < W64 := by unfold W64; omega

set_option maxRecDepth 100000 in
set_option maxHeartbeats 400000 in
/-- big.NewInt, not below 0. -/
theorem newInt64_pos (a : Nat) (ha : a ≤ 9223372036854775807) (w : World) : Calls Tryz.prog 24 #[.int .i64 (a : Int)] w (GotP false a w) := by
  have h0 : ¬ (a : Int) < 0 := by omega
  by_cases hz : a = 0
  · subst hz
    show Calls Tryz.prog 24 #[.int .i64 0] w _
    clear ha h0
    go_enter Tryz.func24, Tryz.ntmps24
    go_wp2
    go_ret
    exact ⟨_, rfl, ⟨_, _, _, Box.new _ _ _ _ rfl, by rw [digs_zero]; exact Rd.nil _ _ (by simp)⟩, (Below.refl _ _).alloc (Nat.le_refl _) _, Nat.le_refl _⟩
  · have hz1 : ((a : Int) == 0) = false := by simp; omega
    have HD := Lib.hid (fun (w : World) A c (hr : Rd .u64 w A 1 c [a]) => digs_own (by omega) (lt_W64' a (by omega)) hr)
    go_enter Tryz.func24, Tryz.ntmps24
    go_wp2
    go_ret
    exact ⟨_, rfl, ⟨_, _, _, Box.new _ _ _ _ (by simp), (HD.out _ _ _ (rd_new _ _ _ _ _ rfl)).alloc _⟩, ((Below.refl _ _).alloc (Nat.le_refl _) _).alloc (by simp) _, by simp⟩

theorem neg_u64' (a : Int) (ha : a < 0) (ha2 : -9223372036854775808 ≤ a) : IntKind.u64.wrap (-IntKind.u64.wrap a) = ((a.natAbs : Nat) : Int) := by
  simp only [IntKind.wrap_u64]
  omega

set_option maxRecDepth 100000 in
set_option maxHeartbeats 400000 in
/-- big.NewInt, below 0. -/
theorem newInt64_neg (a : Int) (ha : a < 0) (ha2 : -9223372036854775808 ≤ a) (w : World) : Calls Tryz.prog 24 #[.int .i64 a] w (GotP true a.natAbs w) := by
  have hn := neg_u64' a ha ha2
  have hz1 : (a == 0) = false := by simp; omega
  have HD := Lib.hid (fun (w : World) A c (hr : Rd .u64 w A 1 c [a.natAbs]) => digs_own (by omega) (lt_W64' a.natAbs (by omega)) hr)
  generalize a.natAbs = N at *
  clear ha2
  go_enter Tryz.func24, Tryz.ntmps24
  go_wp2
  go_ret
  exact ⟨_, rfl, ⟨_, _, _, Box.new _ _ _ _ (by simp), (HD.out _ _ _ (rd_new _ _ _ _ _ rfl)).alloc _⟩, ((Below.refl _ _).alloc (Nat.le_refl _) _).alloc (by simp) _, by simp⟩
end Go.Proofs.YtbopmkjfmikmdaaGreatDoor
