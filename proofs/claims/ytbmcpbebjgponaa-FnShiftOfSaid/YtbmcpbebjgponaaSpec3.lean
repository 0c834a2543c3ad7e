/- The reference's fractions of 64 bits: it proves that Of64 answers the sign and the digits of the magnitude, and SignOf the sign. Conditions: the slices read as digits. -/
import Derived.Test.YtbmcpbebjgponaaSpec2
namespace Go.Proofs.Ytbmcpbebjgponaa
open Go.RowKit

/-- The call hands back a fraction: its sign, the digits over, the digits under. -/
def GotRat (neg : Bool) (N D : Nat) (w : World) (e : Ending) (w' : World) : Prop :=
  ∃ A n c A2 n2 c2, e = .returned (.agg #[.bool neg, .slice A n c, .slice A2 n2 c2]) ∧ Rd .i64 w' A n c (digs 65536 N) ∧ Rd .i64 w' A2 n2 c2 (digs 65536 D) ∧ Below w.heap.size w w'

/-- The end of a function whose result is a fraction: three stores into its own block. -/
theorem rat_end {w w2 : World} {g : Nat} {neg : Bool} {x y z : Value} {A A2 : Option Addr} {n c n2 c2 N D : Nat} (hB : Box w2 g 27 #[x, y, z]) (hx : (#[x, y, z].all notInt) = true)
    (hr : Rd .i64 w2 A n c (digs 65536 N)) (hr2 : Rd .i64 w2 A2 n2 c2 (digs 65536 D)) (hb : Below w.heap.size w w2) (hg : w.heap.size ≤ g) :
    ∀ w3, w3 = (((w2.setCell ⟨g, 0, none⟩ (.bool neg)).setCell ⟨g, 1, none⟩ (.slice A n c)).setCell ⟨g, 2, none⟩ (.slice A2 n2 c2)) →
      w3.cell? ⟨g, 0, none⟩ = some (.bool neg) ∧ w3.cell? ⟨g, 1, none⟩ = some (.slice A n c) ∧ w3.cell? ⟨g, 2, none⟩ = some (.slice A2 n2 c2) ∧
      GotRat neg N D w (.returned (.agg #[.bool neg, .slice A n c, .slice A2 n2 c2])) w3 := by
  rintro w3 rfl
  have hB3 : Box (((w2.setCell ⟨g, 0, none⟩ (.bool neg)).setCell ⟨g, 1, none⟩ (.slice A n c)).setCell ⟨g, 2, none⟩ (.slice A2 n2 c2)) g 27 #[.bool neg, .slice A n c, .slice A2 n2 c2] := ((hB.set 0 _).set 1 _).set 2 _
  obtain ⟨k0, k1, k2, _⟩ := hB3.three
  have hblk : ∀ b, b ≠ g → (((w2.setCell ⟨g, 0, none⟩ (.bool neg)).setCell ⟨g, 1, none⟩ (.slice A n c)).setCell ⟨g, 2, none⟩ (.slice A2 n2 c2)).heap[b]? = w2.heap[b]? := fun b hne => by
    rw [Below.heap_setCell _ _ _ _ hne, Below.heap_setCell _ _ _ _ hne, Below.heap_setCell _ _ _ _ hne]
  exact ⟨k0, k1, k2, _, _, _, _, _, _, rfl, hr.apart hB hx _ (by simp) hblk, hr2.apart hB hx _ (by simp) hblk, ((hb.setCell hg _).setCell hg _).setCell hg _⟩

/-- The number over, of a fraction. -/
@[go_sem] theorem field_num (x y z : Value) (w : World) : (Instr.field 27 (.agg #[x, y, z]) 1).run Try.prog w = .ok y w := by kernel_rfl

theorem val_one (B m : Nat) : val B [m] = m := by simp [val]

set_option maxHeartbeats 400000 in
/-- spec.Of64, not below 0. -/
theorem of64_pos (a : Nat) (ha : a ≤ 9223372036854775807) (w : World) : Calls Try.prog 11 #[.int .i64 (a : Int)] w (GotRat false a 1 w) := by
  have h0 : ¬ (a : Int) < 0 := by omega
  go_enter Try.func11, Try.ntmps11
  go_wp2_with fail
  refine (of_any _ 1 1 [a] _ (rd_new _ _ _ _ _ (by simp)) (by omega) (by intro d hd; simp at hd; subst hd; simp [W64]; omega)).mono ?_
  rw [val_one]
  rintro e w1 ⟨A, n, c, rfl, hr, hb⟩
  have hB1 : Box w1 w.heap.size 27 #[.bool false, .slice none 0 0, .slice none 0 0] := ((Box.new w _ _ _ rfl).alloc _).below hb (by simp; omega)
  have hz : w.heap.size + 2 ≤ w1.heap.size := by have := hb.size; simpa using this
  go_wp2_with fail
  refine (small_any 1 (by omega) _).mono ?_
  rintro e w2 ⟨A2, n2, c2, rfl, hr2, hb2⟩
  have hr' := hr.below hb2
  obtain ⟨k0, k1, k2, f0, f1, f2, hlt⟩ := (hB1.below hb2 (by omega)).three
  go_wp2
  have hend := rat_end (neg := false) (hB1.below hb2 (by omega)) (by simp [notInt]) hr' hr2 (((((Below.refl _ w).alloc (Nat.le_refl _) _).alloc (by simp) _).trans (hb.mono (by simp; omega))).trans (hb2.mono (by omega))) (Nat.le_refl w.heap.size) _ rfl
  obtain ⟨r0, r1, r2, hgot⟩ := hend
  exact bodyPost_ret (v := .agg #[.bool false, .slice A n c, .slice A2 n2 c2]) (by simp [results, Try.results11, go_sem, r0, r1, r2]) rfl hgot

theorem neg_u64 (a : Int) (ha : a < 0) (ha2 : -9223372036854775808 ≤ a) : IntKind.u64.wrap (-IntKind.u64.wrap a) = ((a.natAbs : Nat) : Int) := by
  simp only [IntKind.wrap_u64]
  omega

set_option maxHeartbeats 400000 in
/-- spec.Of64, below 0. -/
theorem of64_neg (a : Int) (ha : a < 0) (ha2 : -9223372036854775808 ≤ a) (w : World) : Calls Try.prog 11 #[.int .i64 a] w (GotRat true a.natAbs 1 w) := by
  have hneg := neg_u64 a ha ha2
  have hm64 : a.natAbs < W64 := by simp [W64]; omega
  clear ha2
  generalize a.natAbs = m at *
  go_enter Try.func11, Try.ntmps11
  go_wp2_with fail
  refine (of_any _ 1 1 [m] _ (rd_new _ _ _ _ _ (by simp)) (by omega) (by intro d hd; simp at hd; subst hd; exact hm64)).mono ?_
  rw [val_one]
  rintro e w1 ⟨A, n, c, rfl, hr, hb⟩
  have hB1 : Box w1 w.heap.size 27 #[.bool false, .slice none 0 0, .slice none 0 0] := ((Box.new w _ _ _ rfl).alloc _).below hb (by simp; omega)
  have hz : w.heap.size + 2 ≤ w1.heap.size := by have := hb.size; simpa using this
  go_wp2_with fail
  refine (small_any 1 (by omega) _).mono ?_
  rintro e w2 ⟨A2, n2, c2, rfl, hr2, hb2⟩
  have hr' := hr.below hb2
  obtain ⟨k0, k1, k2, f0, f1, f2, hlt⟩ := (hB1.below hb2 (by omega)).three
  go_wp2
  have hend := rat_end (neg := true) (hB1.below hb2 (by omega)) (by simp [notInt]) hr' hr2 (((((Below.refl _ w).alloc (Nat.le_refl _) _).alloc (by simp) _).trans (hb.mono (by simp; omega))).trans (hb2.mono (by omega))) (Nat.le_refl w.heap.size) _ rfl
  obtain ⟨r0, r1, r2, hgot⟩ := hend
  exact bodyPost_ret (v := .agg #[.bool true, .slice A n c, .slice A2 n2 c2]) (by simp [results, Try.results11, go_sem, r0, r1, r2]) rfl hgot

/-- spec.Of64. -/
theorem of64_any (a : Int) (h1 : -9223372036854775808 ≤ a) (h2 : a ≤ 9223372036854775807) (w : World) : Calls Try.prog 11 #[.int .i64 a] w (GotRat (decide (a < 0)) a.natAbs 1 w) := by
  by_cases h : a < 0
  · rw [decide_eq_true h]; exact of64_neg a h h1 w
  · rw [decide_eq_false h]
    obtain ⟨m, rfl⟩ := Int.eq_ofNat_of_zero_le (by omega : 0 ≤ a)
    exact of64_pos m (by omega) w

/-- The sign of a fraction. -/
def signN (neg : Bool) (N : Nat) : Int := if N = 0 then 0 else if neg then -1 else 1

set_option maxHeartbeats 400000 in
/-- spec.SignOf. -/
theorem signOf_any (neg : Bool) (A : Option Addr) (n c : Nat) (A2 : Option Addr) (n2 c2 N : Nat) (w : World) (h : Rd .i64 w A n c (digs 65536 N)) :
    Calls Try.prog 10 #[.agg #[.bool neg, .slice A n c, .slice A2 n2 c2]] w fun e w' => e = .returned (.int .i64 (signN neg N)) ∧ Below w.heap.size w w' := by
  have hn : n = 0 ↔ N = 0 := by
    have := h.len
    have h2 := digs_length_pos 65536 (by omega) N
    omega
  by_cases h0 : n = 0
  · have hs : signN neg N = 0 := by unfold signN; rw [if_pos (hn.1 h0)]
    rw [hs]
    subst h0
    clear hn h hs
    go_enter Try.func10, Try.ntmps10
    go_wp2
    go_ret
    exact ⟨rfl, (Below.refl _ _).alloc (Nat.le_refl _) _⟩
  · have hne : ((n : Int) == 0) = false := by simp; omega
    have hN : ¬ N = 0 := fun e => h0 (hn.2 e)
    cases neg
    · have hs : signN false N = 1 := by unfold signN; rw [if_neg hN]; rfl
      rw [hs]
      clear hn h hs h0
      go_enter Try.func10, Try.ntmps10
      go_wp2
      go_ret
      exact ⟨rfl, (Below.refl _ _).alloc (Nat.le_refl _) _⟩
    · have hs : signN true N = -1 := by unfold signN; rw [if_neg hN]; rfl
      rw [hs]
      clear hn h hs h0
      go_enter Try.func10, Try.ntmps10
      go_wp2
      go_ret
      exact ⟨rfl, (Below.refl _ _).alloc (Nat.le_refl _) _⟩
end Go.Proofs.Ytbmcpbebjgponaa
