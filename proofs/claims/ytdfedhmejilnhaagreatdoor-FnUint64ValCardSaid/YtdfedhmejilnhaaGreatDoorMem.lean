/- What memory holds, in words that suit this program: it proves how slices that read as lists of natural numbers are kept while a call makes memory of its own. Conditions stand at each lemma. -/
import Derived.Test.YtdfedhmejilnhaaGreatDoorBits
import Derived.Test.YtdfedhmejilnhaaGreatDoorProg
import Derived.WalkKit
import Derived.WalkSpells
import Derived.WalkLawsBesides
import Derived.Deep.AppendLies
import Derived.Deep.RegionWith
import Derived.Deep.RegionHeld3
import Derived.Laws.BitsAllLaws
import Derived.Deep.Draws
import Derived.Deep.QuietTactic
import Derived.BigQuiet
import Derived.Lib.Hide
namespace Go.Proofs.YtdfedhmejilnhaaGreatDoor
open Go.RowKit

/-- The length in a slot. -/
def lenOf : Value → Nat | .slice _ n _ => n | _ => 0

/-- The slice with address A, length n and capacity c reads as the list l of natural numbers of kind k. -/
def Rd (k : IntKind) (w : World) (A : Option Addr) (n c : Nat) (l : List Nat) : Prop :=
  l.length = n ∧ n ≤ c ∧ c ≤ maxLen ∧ (0 < n → ∃ b o, A = some ⟨b, o, none⟩ ∧ b < w.heap.size ∧ ∀ j (h : j < l.length), w.cell? ⟨b, o + j, none⟩ = some (.int k ((l[j] : Nat) : Int)))

/-- The numbers of a list as values. -/
def nums (k : IntKind) (l : List Nat) : List Value := l.map fun (d : Nat) => .int k (d : Int)

section
variable {k : IntKind} {w w' : World} {A : Option Addr} {n c : Nat} {l : List Nat}

theorem Rd.len (h : Rd k w A n c l) : l.length = n := h.1
theorem Rd.cap (h : Rd k w A n c l) : n ≤ c := h.2.1
theorem Rd.capMax (h : Rd k w A n c l) : c ≤ 9223372036854775807 := h.2.2.1
theorem Rd.nil (A : Option Addr) (c : Nat) (hc : c ≤ maxLen) : Rd k w A 0 c [] := ⟨rfl, Nat.zero_le _, hc, fun h => absurd h (by omega)⟩

theorem Rd.at_ (h : Rd k w A n c l) {j : Nat} (hj : j < n) : ∃ b o, A = some ⟨b, o, none⟩ ∧ b < w.heap.size ∧ ∃ d : Nat, Hid (∃ hl : j < l.length, l[j] = d) ∧ w.cell? ⟨b, o + j, none⟩ = some (.int k (d : Int)) := by
  obtain ⟨h1, h2, h3, h4⟩ := h
  obtain ⟨b, o, e, hb, hc⟩ := h4 (by omega)
  have hl : j < l.length := by omega
  exact ⟨b, o, e, hb, l[j], ⟨hl, rfl⟩, hc j hl⟩

theorem Rd.below (h : Rd k w A n c l) (hb : Below w.heap.size w w') : Rd k w' A n c l := by
  obtain ⟨h1, h2, h3, h4⟩ := h
  refine ⟨h1, h2, h3, fun hn => ?_⟩
  obtain ⟨b, o, e, hlt, hc⟩ := h4 hn
  exact ⟨b, o, e, by have := hb.size; omega, fun j hj => (hb.cell (p := ⟨b, o + j, none⟩) hlt).trans (hc j hj)⟩

theorem Rd.belowAt {B : Nat} (h : Rd k w A n c l) (hb : Below B w w') (hlt : ∀ b o, A = some ⟨b, o, none⟩ → b < B) : Rd k w' A n c l := by
  obtain ⟨h1, h2, h3, h4⟩ := h
  refine ⟨h1, h2, h3, fun hn => ?_⟩
  obtain ⟨b, o, e, hlt2, hc⟩ := h4 hn
  exact ⟨b, o, e, by have := hb.size; omega, fun j hj => (hb.cell (p := ⟨b, o + j, none⟩) (hlt b o e)).trans (hc j hj)⟩

theorem Rd.alloc (h : Rd k w A n c l) (o : Obj) : Rd k (w.alloc o) A n c l := h.below ((Below.refl _ _).alloc (Nat.le_refl _) o)
theorem Rd.drew (h : Rd k w A n c l) : Rd k w.drew A n c l := h
theorem Rd.drewN (h : Rd k w A n c l) (m : Nat) : Rd k (w.drewN m) A n c l := h.below ⟨rfl, rfl, rfl, Nat.le_refl _, fun _ _ => rfl⟩

theorem Rd.take (h : Rd k w A n c l) {m : Nat} (hm : m ≤ n) : Rd k w A m c (l.take m) := by
  obtain ⟨h1, h2, h3, h4⟩ := h
  refine ⟨by rw [List.length_take]; omega, by omega, h3, fun hn => ?_⟩
  obtain ⟨b, o, e, hlt, hc⟩ := h4 (by omega)
  refine ⟨b, o, e, hlt, fun j hj => ?_⟩
  have hj2 : j < l.length := by rw [List.length_take] at hj; omega
  rw [hc j hj2, List.getElem_take]

/-- Out of a row of the call's own. -/
theorem rd_own {base : Nat} {e : TypeId} (h : w.ownsRow base e 1 (.slice A n c) n (nums k l)) : Rd k w A n c l := by
  have h1 : l.length = n := by have := h.1; simpa [nums] using this
  have h2 : n ≤ c ∧ c ≤ maxLen := by
    rcases h.2 with ⟨hv, h0⟩ | ⟨g, cap, cur, hv, _, _, hn, hm, _⟩
    · injection hv with _ _ hc
      subst h0 hc
      exact ⟨Nat.le_refl _, Nat.zero_le _⟩
    · injection hv with _ _ hc
      subst hc
      exact ⟨hn, hm⟩
  refine ⟨h1, h2.1, h2.2, fun hn => ?_⟩
  obtain ⟨g, cap, hv, _, hlt⟩ := h.form hn
  injection hv with hA _ _
  subst hA
  refine ⟨g, 0, rfl, hlt, fun j hj => ?_⟩
  have := h.cells (g := g) rfl j (.int k ((l[j] : Nat) : Int)) (by simp [nums, hj])
  rw [Nat.zero_add]
  have hadd : (⟨g, 0, none⟩ : Addr).add j = ⟨g, j, none⟩ := by unfold Addr.add; split <;> simp_all
  rwa [hadd] at this
end

theorem nums_length (k : IntKind) (l : List Nat) : (nums k l).length = l.length := by simp [nums]
theorem nums_append (k : IntKind) (l m : List Nat) : nums k (l ++ m) = nums k l ++ nums k m := by simp [nums]
theorem nums_one (k : IntKind) (l : List Nat) : ∀ u ∈ nums k l, u.oneCell' = true := by
  intro u hu
  obtain ⟨_, _, rfl⟩ := List.mem_map.1 hu
  rfl

/-- The call hands back a slice that reads as l, in a world with new memory alone. -/
def Got (k : IntKind) (l : List Nat) (w : World) (e : Ending) (w' : World) : Prop :=
  ∃ A n c, e = .returned (.slice A n c) ∧ Rd k w' A n c l ∧ Below w.heap.size w w'

/-- The call hands back a slice that reads as l, and the world is as it was. -/
def GotSame (k : IntKind) (l : List Nat) (w : World) (e : Ending) (w' : World) : Prop :=
  ∃ A n c, e = .returned (.slice A n c) ∧ Rd k w A n c l ∧ w = w'

theorem own_form {w : World} {base : Nat} {e : TypeId} {v : Value} {n : Nat} {xs : List Value} (h : w.ownsRow base e 1 v n xs) : ∃ A c, v = .slice A n c := by
  rcases h.2 with ⟨rfl, rfl⟩ | ⟨g, cap, _, rfl, _⟩
  · exact ⟨_, _, rfl⟩
  · exact ⟨_, _, rfl⟩
theorem got_own {k : IntKind} {w w1 : World} {base n : Nat} {e : TypeId} {v : Value} {l : List Nat} (h : w1.ownsRow base e 1 v n (nums k l)) (hb : Below w.heap.size w w1) : Got k l w (.returned v) w1 := by
  obtain ⟨A, c, rfl⟩ := own_form h
  exact ⟨A, n, c, rfl, rd_own h, hb⟩

/-- What lay below is as it was: cells and marks. -/
theorem bcell {B : Nat} {W w1 : World} (hb : Below B W w1) : (∀ b o, b < B → w1.cell? ⟨b, o, none⟩ = W.cell? ⟨b, o, none⟩) ∧ (∀ b o, b < B → w1.frozen? ⟨b, o, none⟩ = W.frozen? ⟨b, o, none⟩) :=
  ⟨fun b o h => hb.cell (p := ⟨b, o, none⟩) h, fun b o h => hb.frozen (p := ⟨b, o, none⟩) h⟩

/-- Block g holds just the cells cs of element type t; none is frozen. -/
def Box (w : World) (g : Nat) (t : TypeId) (cs : Array Value) : Prop := w.heap[g]? = some (.cells cs t (0, 0))

section
variable {w w' : World} {g : Nat} {t : TypeId} {cs : Array Value} {x y z u : Value}
theorem Box.lt (h : Box w g t cs) : g < w.heap.size := by
  rcases Nat.lt_or_ge g w.heap.size with hlt | hge
  · exact hlt
  · unfold Box at h; rw [Array.getElem?_eq_none hge] at h; cases h
theorem Box.new (w : World) (t : TypeId) (cs : Array Value) (H : Nat) (hH : H = w.heap.size) : Box (w.alloc (.cells cs t)) H t cs := by subst hH; exact heap_alloc_new w _
theorem Box.below {B : Nat} (h : Box w g t cs) (hb : Below B w w') (hg : g < B) : Box w' g t cs := (hb.block g hg).trans h
theorem Box.alloc (h : Box w g t cs) (o : Obj) : Box (w.alloc o) g t cs := (Below.heap_alloc w o g h.lt).trans h
theorem Box.drew (h : Box w g t cs) : Box w.drew g t cs := h
theorem Box.drewN (h : Box w g t cs) (n : Nat) : Box (w.drewN n) g t cs := h
theorem Box.far (h : Box w g t cs) {p : Addr} (hp : g ≠ p.block) (u : Value) : Box (w.setCell p u) g t cs := (Below.heap_setCell w p u g hp).trans h
theorem Box.set (h : Box w g t cs) (i : Nat) (u : Value) : Box (w.setCell ⟨g, i, none⟩ u) g t (cs.setIfInBounds i u) := by
  unfold Box at h ⊢
  simp [World.setCell, Array.getElem?_modify, h]
theorem Box.cell (h : Box w g t cs) (i : Nat) : w.cell? ⟨g, i, none⟩ = cs[i]? := cell_of_row w g i cs t (0, 0) h
theorem Box.free (h : Box w g t cs) (i : Nat) : w.frozen? ⟨g, i, none⟩ = false := by unfold Box at h; simp [World.frozen?, h]
theorem Box.one (h : Box w g t #[x]) : w.cell? ⟨g, 0, none⟩ = some x ∧ w.frozen? ⟨g, 0, none⟩ = false ∧ g < w.heap.size := ⟨by rw [h.cell]; rfl, h.free 0, h.lt⟩
theorem Box.two (h : Box w g t #[x, y]) : w.cell? ⟨g, 0, none⟩ = some x ∧ w.cell? ⟨g, 1, none⟩ = some y ∧ w.frozen? ⟨g, 0, none⟩ = false ∧ w.frozen? ⟨g, 1, none⟩ = false ∧ g < w.heap.size :=
  ⟨by rw [h.cell]; rfl, by rw [h.cell]; rfl, h.free 0, h.free 1, h.lt⟩
theorem Box.three (h : Box w g t #[x, y, z]) : w.cell? ⟨g, 0, none⟩ = some x ∧ w.cell? ⟨g, 1, none⟩ = some y ∧ w.cell? ⟨g, 2, none⟩ = some z ∧
    w.frozen? ⟨g, 0, none⟩ = false ∧ w.frozen? ⟨g, 1, none⟩ = false ∧ w.frozen? ⟨g, 2, none⟩ = false ∧ g < w.heap.size :=
  ⟨by rw [h.cell]; rfl, by rw [h.cell]; rfl, by rw [h.cell]; rfl, h.free 0, h.free 1, h.free 2, h.lt⟩
end

/-- No number. -/
def notInt : Value → Bool | .int _ _ => false | _ => true

/-- A slice of numbers does not lie in a block that holds no number. -/
theorem Rd.apart {k : IntKind} {w : World} {A : Option Addr} {n c g : Nat} {l : List Nat} {t : TypeId} {cs : Array Value} (h : Rd k w A n c l) (hB : Box w g t cs) (hcs : cs.all notInt = true) (w' : World) (hs : w.heap.size ≤ w'.heap.size) (hw : ∀ b, b ≠ g → w'.heap[b]? = w.heap[b]?) : Rd k w' A n c l := by
  obtain ⟨h1, h2, h3, h4⟩ := h
  refine ⟨h1, h2, h3, fun hn => ?_⟩
  obtain ⟨b, o, e, hlt, hc⟩ := h4 hn
  have hne : b ≠ g := by
    rintro rfl
    have h0 := hc 0 (by omega)
    rw [hB.cell] at h0
    have := Array.mem_of_getElem? h0
    rw [Array.all_eq_true_iff_forall_mem] at hcs
    have := hcs _ this
    simp [notInt] at this
  exact ⟨b, o, e, by omega, fun j hj => by
    rw [World.cell?_of_block (w := w) (a := ⟨b, o + j, none⟩) (hw b hne)]; exact hc j hj⟩

/-- The cells of a list of numbers, as an array. -/
def cellsOf (k : IntKind) (l : List Nat) : Array Value := (nums k l).toArray
/-- Block g holds just the numbers l. -/
def Row (k : IntKind) (t : TypeId) (w : World) (g : Nat) (l : List Nat) : Prop := Box w g t (cellsOf k l)

section
variable {k : IntKind} {t : TypeId} {w w' : World} {g : Nat} {l : List Nat}
theorem cellsOf_get (k : IntKind) (l : List Nat) (j : Nat) : (cellsOf k l)[j]? = l[j]?.map fun (d : Nat) => Value.int k (d : Int) := by simp [cellsOf, nums]
theorem cellsOf_set (k : IntKind) (l : List Nat) (j d : Nat) : (cellsOf k l).setIfInBounds j (.int k (d : Int)) = cellsOf k (l.set j d) := by
  unfold cellsOf nums
  rw [List.setIfInBounds_toArray, List.map_set]
theorem Row.cell (h : Row k t w g l) {j : Nat} (hj : j < l.length) : w.cell? ⟨g, j, none⟩ = some (.int k ((l[j] : Nat) : Int)) := by
  rw [Box.cell h, cellsOf_get, List.getElem?_eq_getElem hj]; rfl
theorem Row.free (h : Row k t w g l) (j : Nat) : w.frozen? ⟨g, j, none⟩ = false := Box.free h j
theorem Row.lt (h : Row k t w g l) : g < w.heap.size := Box.lt h
theorem Row.set (h : Row k t w g l) (j d : Nat) : Row k t (w.setCell ⟨g, j, none⟩ (.int k (d : Int))) g (l.set j d) := by
  have := Box.set h j (.int k (d : Int))
  rw [cellsOf_set] at this
  exact this
theorem Row.rd (h : Row k t w g l) {n : Nat} (hn : n ≤ l.length) (hc : l.length ≤ maxLen) : Rd k w (some ⟨g, 0, none⟩) n l.length (l.take n) := by
  refine ⟨by rw [List.length_take]; omega, hn, hc, fun _ => ⟨g, 0, rfl, h.lt, fun j hj => ?_⟩⟩
  have hj2 : j < l.length := by rw [List.length_take] at hj; omega
  rw [Nat.zero_add, h.cell hj2, List.getElem_take]
theorem Row.below {B : Nat} (h : Row k t w g l) (hb : Below B w w') (hg : g < B) : Row k t w' g l := Box.below h hb hg
theorem Row.new (w : World) (k : IntKind) (t : TypeId) (l : List Nat) (H : Nat) (hH : H = w.heap.size) : Row k t (w.alloc (.cells (cellsOf k l) t)) H l := Box.new w t _ H hH
theorem Row.of_zero (w : World) (k : IntKind) (t : TypeId) (n H : Nat) (hH : H = w.heap.size) : Row k t (w.alloc (.cells (cellsOf k (List.replicate n 0)) t)) H (List.replicate n 0) := Box.new w t _ H hH
end

/-- make([]T, n, c) of a kind of numbers. -/
theorem run_makeNums {P : Program} (t e : TypeId) (i : TypeInfo) (k : IntKind) (ht : P.underlying t = some (.slice e)) (hi : P.info? e = some i) (hz : i.zero = some (.int k 0)) (hs : i.size = 1) (hy : i.bytes ≤ 8)
    (kl kc : IntKind) (n c : Nat) (hnc : n ≤ c) (h63 : c ≤ 10000000) (w : World) :
    (Instr.makeSlice t (.int kl (n : Int)) (.int kc (c : Int))).run P w = .ok (.slice (some ⟨w.heap.size, 0, none⟩) n c) (w.alloc (.cells (cellsOf k (List.replicate c 0)) e)) := by
  have hb : (i.bytes : Int) * (c : Int) ≤ 281474976710656 := by
    have h : i.bytes * c ≤ 8 * 10000000 := Nat.mul_le_mul hy h63
    have h2 : ((i.bytes * c : Nat) : Int) ≤ 80000000 := by omega
    rw [Int.natCast_mul] at h2
    omega
  have hr := run_make (P := P) w t e i (.int k 0) ht hi hz kl kc n c (by omega) (by omega) hb (by omega)
  simp only [Int.toNat_natCast] at hr
  rw [hr, hs, Nat.mul_one]
  congr 3
  apply Array.ext_getElem?
  intro j
  rw [cellsOf_get]
  simp only [madeCells, Value.cells]
  by_cases hj : j < c
  · simp [hj, Nat.mod_one]
  · simp [hj]

/-- Only block g, and what is new, has turned. -/
theorem Rd.grown {k : IntKind} {w w' : World} {A : Option Addr} {n c g : Nat} {l : List Nat} {t : TypeId} {cs : Array Value} (h : Rd k w A n c l) (hB : Box w g t cs) (hcs : cs.all notInt = true) (hg : w.grownBy w' (some g)) : Rd k w' A n c l := by
  obtain ⟨h1, h2, h3, h4⟩ := h
  refine ⟨h1, h2, h3, fun hn => ?_⟩
  obtain ⟨b, o, e, hlt, hc⟩ := h4 hn
  have hne : b ≠ g := by
    rintro rfl
    have h0 := hc 0 (by omega)
    rw [hB.cell] at h0
    have := Array.mem_of_getElem? h0
    rw [Array.all_eq_true_iff_forall_mem] at hcs
    have := hcs _ this
    simp [notInt] at this
  exact ⟨b, o, e, by have := hg.size; omega, fun j hj => by
    rw [World.cell?_of_block (w := w) (a := ⟨b, o + j, none⟩) (hg.block b hlt (fun e => hne (by injection e)))]; exact hc j hj⟩
theorem Box.grown {w w' : World} {g g' : Nat} {t : TypeId} {cs : Array Value} (h : Box w g t cs) (hg : w.grownBy w' (some g')) (hne : g ≠ g') : Box w' g t cs := (hg.block g h.lt (fun e => hne (by injection e))).trans h
theorem grown_refl (w : World) (row : Option Nat) : w.grownBy w row := ⟨rfl, rfl, rfl, Nat.le_refl _, fun _ _ _ => rfl⟩
theorem grown_trans {a b c : World} {row : Option Nat} (h : a.grownBy b row) (k : b.grownBy c row) : a.grownBy c row :=
  ⟨k.os.trans h.os, k.tape.trans h.tape, k.output.trans h.output, Nat.le_trans h.size k.size, fun i hi hne => (k.block i (Nat.lt_of_lt_of_le hi h.size) hne).trans (h.block i hi hne)⟩
theorem grown_below {a w : World} (h : Below a.heap.size a w) (row : Option Nat) : a.grownBy w row := ⟨h.os, h.tape, h.output, h.size, fun i hi _ => h.block i hi⟩
theorem grown_drew {a w : World} {row : Option Nat} (h : a.grownBy w row) : a.grownBy w.drew row := ⟨h.os, h.tape, h.output, h.size, h.block⟩
theorem grown_alloc {a w : World} {row : Option Nat} (h : a.grownBy w row) (o : Obj) : a.grownBy (w.alloc o) row :=
  grown_trans h ⟨rfl, rfl, rfl, by simp, fun i hi _ => Below.heap_alloc w o i hi⟩
theorem grown_set {a w : World} {g : Nat} (h : a.grownBy w (some g)) (i : Nat) (u : Value) : a.grownBy (w.setCell ⟨g, i, none⟩ u) (some g) :=
  grown_trans h ⟨rfl, rfl, rfl, by simp, fun j _ hne => Below.heap_setCell w ⟨g, i, none⟩ u j (by rintro rfl; exact hne rfl)⟩
/-- A block of the call's own that has turned is no old one. -/
theorem below_of_grown {B : Nat} {a w w' : World} {g : Nat} (h : Below B a w) (hg : w.grownBy w' (some g)) (hB : B ≤ w.heap.size) (hgB : B ≤ g) : Below B a w' :=
  h.grown hg hB (fun k e => by injection e with e; omega)

theorem below_of_drew {w w' : World} (h : Below w.drew.heap.size w.drew w') : Below w.heap.size w w' := (Below.refl _ w).drew.trans h
/-- A contract that leaves the world as it was, for a quiet region. -/
theorem quiet_left {P : Program} {f : FuncId} {args : Array Value} {w : World} {n : Nat} {v : Value} (h : Calls P f args (w.drewN n) fun e w' => e = .returned v ∧ w.drewN n = w') :
    Calls P f args (w.drewN n) fun e w'' => e = .returned v ∧ ∃ m, w'' = w.drewN m := h.mono fun _ _ ⟨he, hm⟩ => ⟨he, n, hm.symm⟩

/-- A new block of one number. -/
theorem rd_new (W : World) (k : IntKind) (m : Nat) (t : TypeId) (H : Nat) (hH : H = W.heap.size) : Rd k (W.alloc (.cells #[.int k (m : Int)] t)) (some ⟨H, 0, none⟩) 1 1 [m] := by
  subst hH
  refine ⟨rfl, Nat.le_refl _, by simp [maxLen], fun _ => ⟨_, _, rfl, by simp, fun j hj => ?_⟩⟩
  have : j = 0 := by simp at hj; omega
  subst this
  simp

theorem below_drewN {B : Nat} {a w : World} (h : Below B a w) (n : Nat) : Below B a (w.drewN n) := ⟨h.os, h.tape, h.output, h.size, h.block⟩

/-- The digit that is appended lies in a block of its own. -/
theorem new_one (W : World) (k : IntKind) (x : Int) (t : TypeId) (H : Nat) (hH : H = W.heap.size) : ∀ j u, ([Value.int k x] : List Value)[j]? = some u → (W.alloc (.cells #[.int k x] t)).cell? ((⟨H, 0, none⟩ : Addr).add j) = some u := by
  subst hH
  intro j u hj
  match j, hj with
  | 0, hj => simp at hj; subst hj; simp [Addr.add]

/-- One number is appended to a slice of the call's own. -/
theorem wp_append_num {P : Program} {ops : Array Oper} {rest : List Oper} {o : Oper} {a : Act} {Q : Exit → Act → World → Prop} (W : World) (k : IntKind) (x : Int) (hg : o.guard = none) (s y : Operand) (t : TypeId)
    (ho : o.op = .call { callee := .builtin .append, args := #[s, y], argTypes := #[t, t] })
    (base : Nat) (e : TypeId) (i : TypeInfo) (hU : P.underlying t = some (.slice e)) (hi : P.info? e = some i) (hz : i.zero = some (.int k 0)) (hs : i.size = 1) (hy : i.bytes ≤ 8)
    (v : Value) (n : Nat) (l : List Nat) (hv : a.eval s = v) (hown : W.ownsRow base e 1 v n (nums k l)) (H : Nat) (hH : H = W.heap.size) (hx : a.eval y = .slice (some ⟨H, 0, none⟩) 1 1)
    (d : Nat) (hd : x = (d : Int)) (hn : n ≤ 10000000) (hb : base ≤ W.heap.size)
    (h : ∀ v' w', w'.ownsRow base e 1 v' (n + 1) (nums k (l ++ [d])) → Below base W w' → wpList P ops Q rest (a.put o.dst v') w') : wpList P ops Q (o :: rest) a (W.alloc (.cells #[.int k x] e)) := by
  have hbytes : (n + 1) * i.bytes ≤ 140737488355328 := by
    have h1 : (n + 1) * i.bytes ≤ (n + 1) * 8 := Nat.mul_le_mul_left _ hy
    omega
  refine wpList_append_own _ hg s y t ho base e i (.int k 0) 1 i.bytes hU hi hz hs rfl rfl (by omega) v n (nums k l) hv (hown.alloc _) ⟨H, 0, none⟩ 1 1 [.int k x] hx rfl (new_one W k x e H hH) ?_ (by unfold maxLen; omega) hbytes (by simp; omega) ?_
  · intro u hu
    simp at hu
    subst hu
    rfl
  · intro v' w' hown' hgrow _
    exact h v' w' (by rw [nums_append]; subst hd; exact hown') (((Below.refl base W).alloc hb _).grown hgrow (by simp; omega) (fun k' hk' => (hown.lt k' hk').1))

theorem run_append_none {P : Program} (w : World) (t ty e : TypeId) (i : TypeInfo) (ht : P.underlying t = some (.slice e)) (hi : P.info? e = some i) (c : Nat) :
    (Builtin.append_ #[t, t] ty #[.slice none 0 0, .slice none 0 c]).run P w = .ok (.slice none 0 0) w := by
  simp [Builtin.append_, run_underlying ht, sizeOf, typeInfo, hi, Builtin.lenOf, Builtin.firstCells]

/-- append([]T(nil), x...): a copy in new memory. -/
theorem wp_append_copy {P : Program} {ops : Array Oper} {rest : List Oper} {o : Oper} {a : Act} {Q : Exit → Act → World → Prop} (W : World) (k : IntKind) (hg : o.guard = none) (s y : Operand) (t : TypeId)
    (ho : o.op = .call { callee := .builtin .append, args := #[s, y], argTypes := #[t, t] })
    (e : TypeId) (i : TypeInfo) (hU : P.underlying t = some (.slice e)) (hi : P.info? e = some i) (hz : i.zero = some (.int k 0)) (hs : i.size = 1) (hy : i.bytes ≤ 8)
    (hv : a.eval s = .slice none 0 0) (A : Option Addr) (n c : Nat) (l : List Nat) (hx : a.eval y = .slice A n c) (hr : Rd k W A n c l) (hn : n ≤ 10000000)
    (h : ∀ v' w', w'.ownsRow W.heap.size e 1 v' n (nums k l) → Below W.heap.size W w' → wpList P ops Q rest (a.put o.dst v') w') : wpList P ops Q (o :: rest) a W := by
  have hbytes : (0 + n) * i.bytes ≤ 140737488355328 := by
    have h1 : (0 + n) * i.bytes ≤ (0 + n) * 8 := Nat.mul_le_mul_left _ hy
    omega
  obtain ⟨h1, h2, h3, h4⟩ := hr
  rcases A with _ | ad
  · have h0 : n = 0 := by
      rcases Nat.eq_zero_or_pos n with h0 | h0
      · exact h0
      · obtain ⟨b, o', e', _⟩ := h4 h0
        cases e'
    subst h0
    obtain rfl : l = [] := List.eq_nil_of_length_eq_zero h1
    refine wpList_plain hg fun K hK => ?_
    have hrun := run_append_none (P := P) W t o.type e i hU hi c
    unfold Oper.wp execOp
    simp only [ho, resolve, invoke, builtin, Sem.run_bind, Sem.run_pure, Result.andThen_ok, List.map_toArray, List.map_cons, List.map_nil, hv, hx, hrun]
    exact hK _ _ (h _ _ (World.ownsRow_nil _ _ _ _) (Below.refl _ _))
  · refine wpList_append_own _ hg s y t ho W.heap.size e i (.int k 0) 1 i.bytes hU hi hz hs rfl rfl (by omega) _ 0 [] hv (World.ownsRow_nil _ _ _ _) ad n c (nums k l) hx (by simp [nums, h1]) ?_ (nums_one k l) (by unfold maxLen; omega) hbytes (Nat.le_refl _) ?_
    · intro j u hj
      have hjl : j < l.length := by
        have := (List.getElem?_eq_some_iff.1 hj).1
        simpa [nums] using this
      obtain ⟨b, o', e', hb, hc⟩ := h4 (by omega)
      injection e' with e'
      subst e'
      have hadd : (⟨b, o', none⟩ : Addr).add j = ⟨b, o' + j, none⟩ := by unfold Addr.add; split <;> simp_all
      rw [hadd, hc j hjl, ← hj]
      simp [nums, hjl]
    · intro v' w' hown' hgrow _
      exact h v' w' (by simpa using hown') ((Below.refl _ W).grown hgrow (Nat.le_refl _) (fun k' hk' => by simp [Value.ownBlock] at hk'))

/-- The byte at a place. -/
theorem byte_at {w : World} {A : Option Addr} {n c i : Nat} {l : List Nat} (h : Rd .u8 w A n c l) (hl : ∀ d ∈ l, d < 256) (hi : i < n) :
    ∃ b o, A = some ⟨b, o, none⟩ ∧ b < w.heap.size ∧ ∃ d : Nat, d < 256 ∧ Hid (d = val 256 l / 256 ^ i % 256) ∧ w.cell? ⟨b, o + i, none⟩ = some (.int .u8 (d : Int)) := by
  obtain ⟨b, o, e, hb, d, ⟨hlt, hd⟩, hc⟩ := h.at_ hi
  refine ⟨b, o, e, hb, d, ?_, ?_, hc⟩
  · rw [← hd]; exact hl _ (List.getElem_mem hlt)
  · have e2 := lowd_val 256 (by omega) l hl
    have e3 : (lowd 256 l.length (val 256 l))[i]'(by rw [lowd_length]; exact hlt) = d := by rw [← hd]; congr 1
    unfold Hid
    rw [← e3, lowd_get]
end Go.Proofs.YtdfedhmejilnhaaGreatDoor
