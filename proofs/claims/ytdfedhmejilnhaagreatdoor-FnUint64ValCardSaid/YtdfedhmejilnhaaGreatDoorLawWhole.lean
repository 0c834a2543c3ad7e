/- The integer that a law is given: it proves what laws.whole answers with at most 40 words. Conditions: the words of the number are words. -/
import Derived.Test.YtdfedhmejilnhaaGreatDoorInteger
import Derived.Test.YtdfedhmejilnhaaGreatDoorVal3
namespace Go.Proofs.YtdfedhmejilnhaaGreatDoor
open Go.RowKit

/-- The call hands back a fraction and a truth; where it is true, the fraction is N with a sign, of Kind Int and of at most 40 words. -/
def GotWhole (neg : Bool) (N : Nat) (k : Int) (n : Nat) (w : World) (e : Ending) (w' : World) : Prop :=
  ∃ (nb : Bool) (A : Option Addr) (m c : Nat) (A2 : Option Addr) (m2 c2 : Nat) (ok : Bool), e = .returned (.tuple #[.agg #[.bool nb, .slice A m c, .slice A2 m2 c2], .bool ok]) ∧ Below w.heap.size w w' ∧
    (ok = true → k = 3 ∧ n ≤ 40 ∧ nb = (neg && decide (0 < N)) ∧ Rd .i64 w' A m c (digs 65536 N))

/-- The end of whole: the fraction is stored into the result's block. -/
theorem whole_end {w w1 : World} {e : Nat} {neg nb ok : Bool} {N n : Nat} {k : Int} {A6 : Option Addr} {n6 c6 : Nat} {A7 : Option Addr} {n7 c7 : Nat} (hE : Box w1 e 31 #[.bool false, .slice none 0 0, .slice none 0 0]) (hb : Below w.heap.size w w1) (he : w.heap.size ≤ e)
    (hok : ok = true → k = 3 ∧ n ≤ 40 ∧ nb = (neg && decide (0 < N)) ∧ Rd .i64 w1 A6 n6 c6 (digs 65536 N)) :
    ((((w1.setCell ⟨e, 0, none⟩ (.bool nb)).setCell ⟨e, 1, none⟩ (.slice A6 n6 c6)).setCell ⟨e, 2, none⟩ (.slice A7 n7 c7)).cell? ⟨e, 0, none⟩ = some (.bool nb) ∧ (((w1.setCell ⟨e, 0, none⟩ (.bool nb)).setCell ⟨e, 1, none⟩ (.slice A6 n6 c6)).setCell ⟨e, 2, none⟩ (.slice A7 n7 c7)).cell? ⟨e, 1, none⟩ = some (.slice A6 n6 c6) ∧ (((w1.setCell ⟨e, 0, none⟩ (.bool nb)).setCell ⟨e, 1, none⟩ (.slice A6 n6 c6)).setCell ⟨e, 2, none⟩ (.slice A7 n7 c7)).cell? ⟨e, 2, none⟩ = some (.slice A7 n7 c7)) ∧
    GotWhole neg N k n w (.returned (.tuple #[.agg #[.bool nb, .slice A6 n6 c6, .slice A7 n7 c7], .bool ok])) (((w1.setCell ⟨e, 0, none⟩ (.bool nb)).setCell ⟨e, 1, none⟩ (.slice A6 n6 c6)).setCell ⟨e, 2, none⟩ (.slice A7 n7 c7)) := by
  have hB3 : Box (((w1.setCell ⟨e, 0, none⟩ (.bool nb)).setCell ⟨e, 1, none⟩ (.slice A6 n6 c6)).setCell ⟨e, 2, none⟩ (.slice A7 n7 c7)) e 31 #[.bool nb, .slice A6 n6 c6, .slice A7 n7 c7] := ((hE.set 0 _).set 1 _).set 2 _
  have hblk : ∀ b, b ≠ e → (((w1.setCell ⟨e, 0, none⟩ (.bool nb)).setCell ⟨e, 1, none⟩ (.slice A6 n6 c6)).setCell ⟨e, 2, none⟩ (.slice A7 n7 c7)).heap[b]? = w1.heap[b]? := fun b hne => by
    rw [Below.heap_setCell _ _ _ _ hne, Below.heap_setCell _ _ _ _ hne, Below.heap_setCell _ _ _ _ hne]
  obtain ⟨r0, r1, r2, _⟩ := hB3.three
  exact ⟨⟨r0, r1, r2⟩, nb, A6, n6, c6, A7, n7, c7, ok, rfl, ((hb.setCell he _).setCell he _).setCell he _, fun h => ⟨(hok h).1, (hok h).2.1, (hok h).2.2.1, (hok h).2.2.2.apart hE (by simp [notInt]) _ (by simp) hblk⟩⟩

set_option maxRecDepth 100000 in
set_option maxHeartbeats 800000 in
/-- laws.whole, at most 40 words. -/
theorem lawWhole_any (k : Int) (t : Bool) (s : ByteArray) (neg : Bool) (A : Option Addr) (n c : Nat) (l : List Nat) (A2 : Option Addr) (n2 c2 : Nat) (neg3 : Bool) (A3 : Option Addr) (n3 c3 : Nat) (A4 : Option Addr) (n4 c4 : Nat) (w : World)
    (h : Rd .u64 w A n c l) (hl : ∀ d ∈ l, d < W64) :
    Calls Tryz.prog 7 #[.agg #[.int .i64 k, .bool t, .string s, .bool neg, .slice A n c, .slice A2 n2 c2, .bool neg3, .slice A3 n3 c3, .slice A4 n4 c4], .int .i64 40] w (GotWhole neg (val W64 l) k n w) := by
  by_cases hn : n ≤ 40
  · have hn2 : ¬ (40 : Int) < (n : Int) := by omega
    have HI := Lib.hid (fun w' (hb : Below w.heap.size w w') => integer_any k t s neg A n c l A2 n2 c2 neg3 A3 n3 c3 A4 n4 c4 w' (h.below hb) hl (by omega))
    clear h hl
    generalize val W64 l = N at *
    go_enter Tryz.func7, Tryz.ntmps7
    go_wp2_with fail
    have hb0 : Below w.heap.size w ((w.alloc (.cells #[.int .i64 k, .bool t, .string s, .bool neg, .slice A n c, .slice A2 n2 c2, .bool neg3, .slice A3 n3 c3, .slice A4 n4 c4] 26)).alloc (.cells #[.bool false, .slice none 0 0, .slice none 0 0] 31)) := ((Below.refl _ _).alloc (Nat.le_refl _) _).alloc (by simp) _
    have hE0 : Box ((w.alloc (.cells #[.int .i64 k, .bool t, .string s, .bool neg, .slice A n c, .slice A2 n2 c2, .bool neg3, .slice A3 n3 c3, .slice A4 n4 c4] 26)).alloc (.cells #[.bool false, .slice none 0 0, .slice none 0 0] 31)) (w.heap.size + 1) 31 #[.bool false, .slice none 0 0, .slice none 0 0] := Box.new _ _ _ _ (by simp)
    refine (HI.out _ hb0).mono ?_
    rintro e w1 ⟨nb, A5, m, c5, A6, m2, c6, ok, rfl, hb1, hok⟩
    have hE1 := hE0.below hb1 hE0.lt
    obtain ⟨y0, y1, y2, v0, v1, v2, hz1⟩ := hE1.three
    have HF := Lib.hid (whole_end (A7 := A6) (n7 := m2) (c7 := c6) hE1 (hb0.trans (hb1.mono hb0.size)) (by omega) (fun h => ⟨(hok h).1, hn, (hok h).2⟩))
    obtain ⟨r0, r1, r2⟩ := HF.out.1
    clear hE1 hE0 hb1 hb0 hok
    go_wp2_with fail
    exact bodyPost_ret (v := .tuple #[.agg #[.bool nb, .slice A5 m c5, .slice A6 m2 c6], .bool ok]) (by simp [results, Tryz.results7, go_sem, r0, r1, r2]) rfl HF.out.2
  · have hn2 : (40 : Int) < (n : Int) := by omega
    go_enter Tryz.func7, Tryz.ntmps7
    go_wp2
    refine bodyPost_ret (v := .tuple #[.agg #[.bool false, .slice none 0 0, .slice none 0 0], .bool false]) (by simp [results, Tryz.results7, go_sem]) rfl ?_
    exact ⟨false, _, _, _, _, _, _, false, rfl, ((Below.refl _ _).alloc (Nat.le_refl _) _).alloc (by simp) _, fun e => by cases e⟩
end Go.Proofs.YtdfedhmejilnhaaGreatDoor
