/- Natural numbers shifted to the right: it proves what nat.rsh answers. Conditions: the shift is not 0, and the receiver is nil. -/
import Derived.Test.YtbopmkjfmikmdaaGreatDoorShift4
namespace Go.Proofs.YtbopmkjfmikmdaaGreatDoor
open Go.RowKit

theorem digs_drop (X q : Nat) : (digs W64 X).drop q = digs W64 (X / W64 ^ q) := by
  have hX := lt_pow_digs W64 two_W64 X
  have hlen : (digs W64 (X / W64 ^ q)).length = (digs W64 X).length - q := by
    have h1 : ∀ k, (digs W64 (X / W64 ^ q)).length ≤ k ↔ (digs W64 X).length ≤ q + k := fun k => by
      rw [digs_length_le_iff W64 two_W64, digs_length_le_iff W64 two_W64, Nat.pow_add, Nat.div_lt_iff_lt_mul (Nat.pow_pos W64_pos), Nat.mul_comm]
    have h2 := (h1 (digs W64 (X / W64 ^ q)).length).1 (Nat.le_refl _)
    have h3 := (h1 ((digs W64 X).length - q)).2 (by omega)
    omega
  apply List.ext_getElem
  · rw [List.length_drop, hlen]
  · intro j h1 h2
    rw [List.getElem_drop, digs_get, digs_get, Nat.pow_add, Nat.div_div_eq_div_mul]
theorem rd_drop {k : IntKind} {w : World} {b o n c q : Nat} {l : List Nat} (h : Rd k w (some ⟨b, o, none⟩) n c l) (hq : q < n) : Rd k w (some ⟨b, o + q, none⟩) (n - q) (c - q) (l.drop q) := by
  obtain ⟨h1, h2, h3, h4⟩ := h
  refine ⟨by rw [List.length_drop]; omega, by omega, by omega, fun _ => ?_⟩
  obtain ⟨b', o', e, hlt, hc⟩ := h4 (by omega)
  injection e with e; injection e with e e2
  subst e e2
  refine ⟨b, o + q, rfl, hlt, fun j hj => ?_⟩
  rw [Nat.add_assoc, hc (q + j) (by rw [List.length_drop] at hj; omega), List.getElem_drop]
theorem rsh_split (X s : Nat) : X / 2 ^ s = X / W64 ^ (s / 64) / 2 ^ (s % 64) := by
  rw [Nat.div_div_eq_div_mul, show W64 = 2 ^ 64 from rfl, ← Nat.pow_mul, ← Nat.pow_add, Nat.div_add_mod]

end Go.Proofs.YtbopmkjfmikmdaaGreatDoor
