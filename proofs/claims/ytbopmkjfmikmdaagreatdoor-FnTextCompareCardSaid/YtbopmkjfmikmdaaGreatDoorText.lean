/- The package's texts: it proves what MakeString and string answer: string takes the text's lock and gives it back. Conditions: the text is no sum, and its lock is free. -/
import Derived.Test.YtbopmkjfmikmdaaGreatDoorOrd
import Derived.Test.YtbopmkjfmikmdaaGreatDoorMu
import Derived.Defers
import Derived.Outline
namespace Go.Proofs.YtbopmkjfmikmdaaGreatDoor
open Go.RowKit Go.MuLone

/-- A text of the package in memory: no sum, its lock free. -/
def StrAt (w : World) (g : Nat) (s : ByteArray) : Prop := Box w g 89 #[.int .i32 0, .int .u32 0, .string s, .pointer none, .pointer none]

theorem Box.five {w : World} {g : Nat} {t : TypeId} {x0 x1 x2 x3 x4 : Value} (h : Box w g t #[x0, x1, x2, x3, x4]) :
    w.cell? ⟨g, 0, none⟩ = some x0 ∧ w.cell? ⟨g, 1, none⟩ = some x1 ∧ w.cell? ⟨g, 2, none⟩ = some x2 ∧ w.cell? ⟨g, 3, none⟩ = some x3 ∧ w.cell? ⟨g, 4, none⟩ = some x4 ∧ w.frozen? ⟨g, 0, none⟩ = false ∧ w.frozen? ⟨g, 2, none⟩ = false ∧ g < w.heap.size :=
  ⟨by rw [h.cell]; rfl, by rw [h.cell]; rfl, by rw [h.cell]; rfl, by rw [h.cell]; rfl, by rw [h.cell]; rfl, h.free 0, h.free 2, h.lt⟩

theorem empty_toList : (⟨#[]⟩ : ByteArray).toList = [] := by
  unfold ByteArray.toList
  rw [ByteArray.toList.loop]
  rfl

/-- The call hands back a text of these bytes in a new block. -/
def GotStr (s : ByteArray) (w : World) (e : Ending) (w' : World) : Prop := ∃ g s', e = .returned (sv g) ∧ s'.toList = s.toList ∧ StrAt w' g s' ∧ w.heap.size ≤ g ∧ Below w.heap.size w w'

set_option maxRecDepth 100000 in
set_option maxHeartbeats 800000 in
/-- constant.MakeString. -/
theorem makeString_any (s : ByteArray) (w : World) : Calls Tryz.prog 19 #[.string s] w (GotStr s w) := by
  by_cases he : s.toList.isEmpty = true
  · go_enter Tryz.func19, Tryz.ntmps19
    go_wp2
    go_ret
    exact ⟨_, _, rfl, by rw [List.isEmpty_iff.1 he]; exact empty_toList, Box.new _ _ _ _ rfl, Nat.le_refl _, (Below.refl _ _).alloc (Nat.le_refl _) _⟩
  · have he2 : s.toList.isEmpty = false := by simpa using he
    clear he
    go_enter Tryz.func19, Tryz.ntmps19
    go_wp2
    go_ret
    exact ⟨_, _, rfl, rfl, Box.new _ _ _ _ rfl, Nat.le_refl _, (Below.refl _ _).alloc (Nat.le_refl _) _⟩

set_option maxRecDepth 100000 in
set_option maxHeartbeats 800000 in
/-- stringVal.string, of a text that is no sum. -/
theorem string_any (g : Nat) (s : ByteArray) (w : World) (h : StrAt w g s) : Calls Tryz.prog 40 #[.pointer (some ⟨g, 0, none⟩)] w fun e w' => e = .returned (.string s) ∧ StrAt w' g s ∧ w.grownBy w' (some g) := by
  obtain ⟨k0, k1, k2, k3, k4, f0, f2, hlt⟩ := Box.five h
  go_enter_defers Tryz.func40, Tryz.ntmps40
  go_wp2_with (go_at_call 69; refine (lock_free Tryz.muLib ⟨g, 0, none⟩ _ k0 f0).mono ?_; rintro e w' ⟨rfl, rfl⟩)
  refine leaves_cons (f := 70) (args := #[.pointer (some ⟨g, 0, none⟩)]) (by simp) (by simp [go_sem]) ?_
  have h1 : Box (w.setCell ⟨g, 0, none⟩ (.int .i32 1)) g 89 #[.int .i32 1, .int .u32 0, .string s, .pointer none, .pointer none] := Box.set h 0 _
  refine (unlock_deferred Tryz.muLib ⟨g, 0, none⟩ .returning _ ?_ ?_).mono ?_
  · rw [h1.cell]; rfl
  · exact h1.free 0
  rintro e u' w'' ⟨rfl, rfl, rfl⟩
  exact ⟨_, results_tmp rfl _ _ _, rfl, Box.set h1 0 _, grown_set (grown_set (grown_refl _ _) 0 _) 0 _⟩

/-- The order of two texts. -/
def cmpT (a b : List UInt8) : Int := if Op.bytesLess a b then -1 else if a == b then 0 else 1
theorem less_self : ∀ l : List UInt8, Op.bytesLess l l = false
  | [] => rfl
  | a :: l => by simp [Op.bytesLess, less_self l]
theorem cmpT_ord (a b : List UInt8) : (a == b) = ordB 0 (cmpT a b) ∧ (!(a == b)) = ordB 1 (cmpT a b) ∧ Op.bytesLess a b = ordB 2 (cmpT a b) ∧ (Op.bytesLess a b || a == b) = ordB 3 (cmpT a b) ∧ (!Op.bytesLess a b && !(a == b)) = ordB 4 (cmpT a b) ∧ (!Op.bytesLess a b) = ordB 5 (cmpT a b) := by
  have h0 : Op.bytesLess a b = true → (a == b) = false := by
    intro h
    rw [beq_eq_false_iff_ne]
    rintro rfl
    rw [less_self] at h; cases h
  unfold cmpT
  cases h1 : Op.bytesLess a b <;> cases h2 : (a == b) <;> first | (refine ⟨?_, ?_, ?_, ?_, ?_, ?_⟩ <;> rfl) | (rw [h0 h1] at h2; cases h2)
end Go.Proofs.YtbopmkjfmikmdaaGreatDoor
