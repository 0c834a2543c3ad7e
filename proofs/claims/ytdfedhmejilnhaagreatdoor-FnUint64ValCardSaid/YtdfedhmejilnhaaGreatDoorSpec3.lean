/- The reference's fractions of 64 bits: it proves that Of64 answers the sign and the digits of the magnitude, and SignOf the sign. Conditions: the slices read as digits. -/
import Derived.Test.YtdfedhmejilnhaaGreatDoorSpec2
namespace Go.Proofs.YtdfedhmejilnhaaGreatDoor
open Go.RowKit

/-- The call hands back a fraction: its sign, the digits over, the digits under. -/
def GotRat (neg : Bool) (N D : Nat) (w : World) (e : Ending) (w' : World) : Prop :=
  ∃ A n c A2 n2 c2, e = .returned (.agg #[.bool neg, .slice A n c, .slice A2 n2 c2]) ∧ Rd .i64 w' A n c (digs 65536 N) ∧ Rd .i64 w' A2 n2 c2 (digs 65536 D) ∧ Below w.heap.size w w'

/-- The end of a function whose result is a fraction: three stores into its own block. -/
theorem rat_end {w w2 : World} {g : Nat} {neg : Bool} {x y z : Value} {A A2 : Option Addr} {n c n2 c2 N D : Nat} (hB : Box w2 g 31 #[x, y, z]) (hx : (#[x, y, z].all notInt) = true)
    (hr : Rd .i64 w2 A n c (digs 65536 N)) (hr2 : Rd .i64 w2 A2 n2 c2 (digs 65536 D)) (hb : Below w.heap.size w w2) (hg : w.heap.size ≤ g) :
    ∀ w3, w3 = (((w2.setCell ⟨g, 0, none⟩ (.bool neg)).setCell ⟨g, 1, none⟩ (.slice A n c)).setCell ⟨g, 2, none⟩ (.slice A2 n2 c2)) →
      w3.cell? ⟨g, 0, none⟩ = some (.bool neg) ∧ w3.cell? ⟨g, 1, none⟩ = some (.slice A n c) ∧ w3.cell? ⟨g, 2, none⟩ = some (.slice A2 n2 c2) ∧
      GotRat neg N D w (.returned (.agg #[.bool neg, .slice A n c, .slice A2 n2 c2])) w3 := by
  rintro w3 rfl
  have hB3 : Box (((w2.setCell ⟨g, 0, none⟩ (.bool neg)).setCell ⟨g, 1, none⟩ (.slice A n c)).setCell ⟨g, 2, none⟩ (.slice A2 n2 c2)) g 31 #[.bool neg, .slice A n c, .slice A2 n2 c2] := ((hB.set 0 _).set 1 _).set 2 _
  obtain ⟨k0, k1, k2, _⟩ := hB3.three
  have hblk : ∀ b, b ≠ g → (((w2.setCell ⟨g, 0, none⟩ (.bool neg)).setCell ⟨g, 1, none⟩ (.slice A n c)).setCell ⟨g, 2, none⟩ (.slice A2 n2 c2)).heap[b]? = w2.heap[b]? := fun b hne => by
    rw [Below.heap_setCell _ _ _ _ hne, Below.heap_setCell _ _ _ _ hne, Below.heap_setCell _ _ _ _ hne]
  exact ⟨k0, k1, k2, _, _, _, _, _, _, rfl, hr.apart hB hx _ (by simp) hblk, hr2.apart hB hx _ (by simp) hblk, ((hb.setCell hg _).setCell hg _).setCell hg _⟩

/-- The number over, of a fraction. -/
@[go_sem] theorem field_num (x y z : Value) (w : World) : (Instr.field 31 (.agg #[x, y, z]) 1).run Tryz.prog w = .ok y w := by kernel_rfl

theorem val_one (B m : Nat) : val B [m] = m := by simp [val]


/-- The sign of a fraction. -/
def signN (neg : Bool) (N : Nat) : Int := if N = 0 then 0 else if neg then -1 else 1

set_option maxHeartbeats 400000 in
/-- spec.SignOf. -/
theorem signOf_any (neg : Bool) (A : Option Addr) (n c : Nat) (A2 : Option Addr) (n2 c2 N : Nat) (w : World) (h : Rd .i64 w A n c (digs 65536 N)) :
    Calls Tryz.prog 13 #[.agg #[.bool neg, .slice A n c, .slice A2 n2 c2]] w fun e w' => e = .returned (.int .i64 (signN neg N)) ∧ Below w.heap.size w w' := by
  have hn : n = 0 ↔ N = 0 := by
    have := h.len
    have h2 := digs_length_pos 65536 (by omega) N
    omega
  by_cases h0 : n = 0
  · have hs : signN neg N = 0 := by unfold signN; rw [if_pos (hn.1 h0)]
    rw [hs]
    subst h0
    clear hn h hs
    go_enter Tryz.func13, Tryz.ntmps13
    go_wp2
    go_ret
    exact ⟨rfl, (Below.refl _ _).alloc (Nat.le_refl _) _⟩
  · have hne : ((n : Int) == 0) = false := by simp; omega
    have hN : ¬ N = 0 := fun e => h0 (hn.2 e)
    cases neg
    · have hs : signN false N = 1 := by unfold signN; rw [if_neg hN]; rfl
      rw [hs]
      clear hn h hs h0
      go_enter Tryz.func13, Tryz.ntmps13
      go_wp2
      go_ret
      exact ⟨rfl, (Below.refl _ _).alloc (Nat.le_refl _) _⟩
    · have hs : signN true N = -1 := by unfold signN; rw [if_neg hN]; rfl
      rw [hs]
      clear hn h hs h0
      go_enter Tryz.func13, Tryz.ntmps13
      go_wp2
      go_ret
      exact ⟨rfl, (Below.refl _ _).alloc (Nat.le_refl _) _⟩
end Go.Proofs.YtdfedhmejilnhaaGreatDoor
