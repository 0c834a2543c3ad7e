/- The value of the thin package that a law is given, opened: it proves that it is nine cells, and that the words of its number read as words. No conditions. -/
import Derived.Test.YtdfedhmejilnhaaGreatDoorVal1
import Derived.OpenShut
import Derived.ProofKit
import Derived.ChangeMaps5
namespace Go.Proofs.YtdfedhmejilnhaaGreatDoor
open Go.ChangeShapes Go.WideShapes Go.ChangeAt Go.RowKit

/-- Nine cells; the words of the number read as words. -/
def IsValue (w : World) (v : Value) : Prop :=
  ∃ (k : Int) (t : Bool) (s : ByteArray) (neg : Bool) (A : Option Addr) (n c : Nat) (l : List Nat) (A2 : Option Addr) (n2 c2 : Nat) (neg3 : Bool) (A3 : Option Addr) (n3 c3 : Nat) (A4 : Option Addr) (n4 c4 : Nat),
    v = .agg #[.int .i64 k, .bool t, .string s, .bool neg, .slice A n c, .slice A2 n2 c2, .bool neg3, .slice A3 n3 c3, .slice A4 n4 c4] ∧ Rd .u64 w A n c l ∧ ∀ d ∈ l, d < 18446744073709551616

theorem rd_words {w : World} {a : Option Addr} {len cap : Nat} {zs : List Int} (h : (a = none ∧ len = 0 ∧ cap = 0 ∧ zs = []) ∨
    ∃ x, a = some x ∧ len ≤ cap ∧ cap ≤ maxLen ∧ len ≤ zs.length ∧ (∀ i, i < zs.length → w.cell? (x.add i) = some (.int .u64 (zs.getD i 0))) ∧ ∀ n ∈ zs, (Lit.int .u64 n).wf = true) :
    ∃ l, Rd .u64 w a len cap l ∧ ∀ d ∈ l, d < 18446744073709551616 := by
  rcases h with ⟨rfl, rfl, rfl, rfl⟩ | ⟨x, rfl, hl, hm, hz, hcell, hwz⟩
  · exact ⟨[], Rd.nil _ _ (by simp [maxLen]), by simp⟩
  · refine ⟨(zs.take len).map Int.toNat, ⟨by rw [List.length_map, List.length_take]; omega, hl, hm, fun hn => ?_⟩, ?_⟩
    · obtain ⟨b, off, spot⟩ := x
      have hc0 := hcell 0 (by omega)
      have hspot : spot = none := by simpa [Addr.add] using World.cell?_spot hc0
      subst hspot
      refine ⟨b, off, rfl, ?_, fun j hj => ?_⟩
      · have := World.block_lt_of_cell? w _ hc0
        simpa [Addr.add] using this
      · have hj2 : j < zs.length := by rw [List.length_map, List.length_take] at hj; omega
        have hc := hcell j hj2
        have hadd : (⟨b, off, none⟩ : Addr).add j = ⟨b, off + j, none⟩ := by unfold Addr.add; split <;> simp_all
        rw [hadd] at hc
        have hb := bounds_u64 (hwz zs[j] (List.getElem_mem hj2))
        rw [hc]
        simp only [List.getD, List.getElem?_eq_getElem hj2, Option.getD_some, List.getElem_map, List.getElem_take]
        congr 2
        omega
    · intro d hd
      obtain ⟨z, hz2, rfl⟩ := List.mem_map.1 hd
      have hb := bounds_u64 (hwz z (List.mem_of_mem_take hz2))
      omega

section
variable {H : Type} {enc : TypeId × Value → H} {w : World} {base : Nat} {spare : Nat → Bool} {held : Bool}
/-- A slice of words, among cells. -/
theorem words_of {fuel : Nat} {cs : List Value} {x : DataW H × List MemPlace} (h : DataW.trod enc Tryz.prog w base spare held fuel 22 cs = some x) :
    ∃ (A : Option Addr) (n c : Nat) (l : List Nat), cs = [.slice A n c] ∧ Rd .u64 w A n c l ∧ ∀ d ∈ l, d < 18446744073709551616 := by
  rcases open_ints Tryz.underlying22 Tryz.underlying40 (by kernel_rfl) h with ⟨hcs, _⟩ | ⟨x, l, c, zs, hcs, _, hl, hm, hz, _, hcell, hwz⟩
  · obtain ⟨l, h1, h2⟩ := rd_words (w := w) (a := none) (len := 0) (cap := 0) (zs := []) (.inl ⟨rfl, rfl, rfl, rfl⟩)
    exact ⟨_, _, _, l, hcs, h1, h2⟩
  · obtain ⟨l, h1, h2⟩ := rd_words (w := w) (a := some x) (len := l) (cap := c) (zs := zs) (.inr ⟨_, rfl, hl, hm, by rw [hz]; split <;> omega, hcell, hwz⟩)
    exact ⟨_, _, _, l, hcs, h1, h2⟩

set_option maxRecDepth 100000 in
/-- A number, among cells. -/
theorem number_of {fuel : Nat} {cs : List Value} {x : DataW H × List MemPlace} (h : DataW.trod enc Tryz.prog w base spare held fuel 24 cs = some x) :
    ∃ (neg : Bool) (A : Option Addr) (n c : Nat) (l : List Nat), cs = [.bool neg, .slice A n c] ∧ Rd .u64 w A n c l ∧ ∀ d ∈ l, d < 18446744073709551616 := by
  obtain ⟨xs, m, _, _, hlen, hxl, hg⟩ := DataW.trod_struct Tryz.underlying24 h
  have hc : Tryz.prog.cellsOf 24 = 2 := by kernel_rfl
  have hcb : Tryz.prog.cellsOf 4 = 1 := by kernel_rfl
  have hcw : Tryz.prog.cellsOf 22 = 1 := by kernel_rfl
  rw [hc] at hlen
  match cs, hlen, xs, hxl with
  | [a, b], _, [y0, y1], _ =>
    have g0 := hg 0 _ rfl
    have g1 := hg 1 _ rfl
    simp [hcb] at g0
    simp [hcw] at g1
    obtain ⟨bb, e0, _⟩ := DataW.trod_bool Tryz.underlying4 g0
    obtain ⟨A, n, c, l, e1, h1, h2⟩ := words_of g1
    injection e0 with e0
    injection e1 with e1
    exact ⟨bb, A, n, c, l, by rw [e0, e1], h1, h2⟩

set_option maxRecDepth 100000 in
/-- A value of the thin package, opened. -/
theorem open_value {r : Reach} {b0 : Nat} {v : Value} {d : DataW H} {p : List MemPlace} (hv : Value.okWide Tryz.prog w r b0 26 v) (h : DataW.Trod enc Tryz.prog w base spare held 26 v d p) : IsValue w v := by
  obtain ⟨cs, rfl, hsz⟩ := okWide_struct Tryz.underlying26 hv
  obtain ⟨l⟩ := cs
  have hc : Tryz.prog.cellsOf 26 = 9 := by kernel_rfl
  have hci : Tryz.prog.cellsOf 3 = 1 := by kernel_rfl
  have hcb : Tryz.prog.cellsOf 4 = 1 := by kernel_rfl
  have hcs : Tryz.prog.cellsOf 9 = 1 := by kernel_rfl
  have hcn : Tryz.prog.cellsOf 24 = 2 := by kernel_rfl
  have hcw : Tryz.prog.cellsOf 22 = 1 := by kernel_rfl
  obtain ⟨fuel, hf⟩ := h
  obtain ⟨xs, m, _, _, hlen, hxl, hg⟩ := DataW.trod_struct Tryz.underlying26 hf
  match l, hsz.trans hc, xs, hxl with
  | [c0, c1, c2, c3, c4, c5, c6, c7, c8], _, [y0, y1, y2, y3, y4, y5, y6], _ =>
    have g0 := hg 0 _ rfl
    have g1 := hg 1 _ rfl
    have g2 := hg 2 _ rfl
    have g3 := hg 3 _ rfl
    have g4 := hg 4 _ rfl
    have g5 := hg 5 _ rfl
    have g6 := hg 6 _ rfl
    simp [hci, Value.cells] at g0
    simp [hcb, Value.cells] at g1
    simp [hcs, Value.cells] at g2
    simp [hcn, Value.cells] at g3
    simp [hcw, Value.cells] at g4
    simp [hcn, Value.cells] at g5
    simp [hcw, Value.cells] at g6
    obtain ⟨k, e0, _⟩ := DataW.trod_int Tryz.underlying3 g0
    obtain ⟨t, e1, _⟩ := DataW.trod_bool Tryz.underlying4 g1
    obtain ⟨s, e2, _⟩ := DataW.trod_string Tryz.underlying9 g2
    obtain ⟨neg, A, n, c, lw, e3, h1, h2⟩ := number_of g3
    obtain ⟨A2, n2, cc2, _, e4, _⟩ := words_of g4
    obtain ⟨neg3, A3, n3, cc3, _, e5, _⟩ := number_of g5
    obtain ⟨A4, n4, cc4, _, e6, _⟩ := words_of g6
    simp only [List.cons.injEq, and_true] at e0 e1 e2 e3 e4 e5 e6
    obtain ⟨e3, e3'⟩ := e3
    obtain ⟨e5, e5'⟩ := e5
    subst e0 e1 e2 e3 e3' e4 e5 e5' e6
    exact ⟨_, _, _, _, _, _, _, lw, _, _, _, _, _, _, _, _, _, _, rfl, h1, h2⟩
end
end Go.Proofs.YtdfedhmejilnhaaGreatDoor
