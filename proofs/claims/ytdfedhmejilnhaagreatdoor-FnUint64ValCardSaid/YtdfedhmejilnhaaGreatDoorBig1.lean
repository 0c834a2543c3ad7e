/- The package's natural numbers and integers in memory, first part: it proves what make, setWord, setUint64, norm, low64 and the small methods of an integer answer. Conditions: slices read as words; sizes of at most a million. -/
import Derived.Test.YtdfedhmejilnhaaGreatDoorMem
import Derived.Test.YtdfedhmejilnhaaGreatDoorAssert
import Derived.Outline
namespace Go.Proofs.YtdfedhmejilnhaaGreatDoor
open Go.RowKit

/-- The base of words. -/
def W64 : Nat := 18446744073709551616
theorem two_W64 : 2 ≤ W64 := by unfold W64; omega
theorem Tryz.infoWord : (Tryz.prog.info? 82).map (fun i => (i.zero, i.size, i.bytes)) = some (some (.int .u64 0), 1, 8) := by kernel_rfl

theorem digs_word (x : Nat) (h0 : 0 < x) (h : x < W64) : digs W64 x = [x] := by
  rw [← digs_lowd W64 two_W64 1 x (by simpa using h)]
  simp only [lowd, trimL, Nat.mod_eq_of_lt h]
  rw [if_neg (by omega)]

/-- An integer in memory: block g holds its sign and its words. -/
def IntAt (w : World) (g : Nat) (neg : Bool) (N : Nat) : Prop := ∃ A n c, Box w g 88 #[.bool neg, .slice A n c] ∧ Rd .u64 w A n c (digs W64 N)

theorem IntAt.below {w w' : World} {g : Nat} {neg : Bool} {N : Nat} (h : IntAt w g neg N) (hb : Below w.heap.size w w') : IntAt w' g neg N := by
  obtain ⟨A, n, c, hB, hr⟩ := h
  exact ⟨A, n, c, hB.below hb hB.lt, hr.below hb⟩
theorem IntAt.lt {w : World} {g : Nat} {neg : Bool} {N : Nat} (h : IntAt w g neg N) : g < w.heap.size := by
  obtain ⟨A, n, c, hB, hr⟩ := h
  exact hB.lt
theorem IntAt.drew {w : World} {g : Nat} {neg : Bool} {N : Nat} (h : IntAt w g neg N) : IntAt w.drew g neg N := h
theorem IntAt.drewN {w : World} {g : Nat} {neg : Bool} {N : Nat} (h : IntAt w g neg N) (m : Nat) : IntAt (w.drewN m) g neg N := by
  obtain ⟨A, n, c, hB, hr⟩ := h
  exact ⟨A, n, c, hB.drewN m, hr.drewN m⟩
theorem IntAt.alloc {w : World} {g : Nat} {neg : Bool} {N : Nat} (h : IntAt w g neg N) (o : Obj) : IntAt (w.alloc o) g neg N := h.below ((Below.refl _ w).alloc (Nat.le_refl _) o)
theorem IntAt.grown {w w' : World} {g g' : Nat} {neg : Bool} {N : Nat} {cs : Array Value} {t : TypeId} (h : IntAt w g neg N) (hB' : Box w g' t cs) (hcs : cs.all notInt = true) (hg : w.grownBy w' (some g')) (hne : g ≠ g') : IntAt w' g neg N := by
  obtain ⟨A, n, c, hB, hr⟩ := h
  exact ⟨A, n, c, hB.grown hg hne, hr.grown hB' hcs hg⟩

/-- The call hands back the integer at g, which is now N with a sign; nothing else that was there has turned. -/
def SetTo (g : Nat) (neg : Bool) (N : Nat) (w : World) (e : Ending) (w' : World) : Prop :=
  e = .returned (.pointer (some ⟨g, 0, none⟩)) ∧ IntAt w' g neg N ∧ w.grownBy w' (some g)

/-- The call hands back a new slice of n words, all 0. -/
def Fresh (n : Nat) (w : World) (e : Ending) (w' : World) : Prop :=
  ∃ c, n ≤ c ∧ c ≤ n + 4 ∧ e = .returned (.slice (some ⟨w.heap.size, 0, none⟩) n c) ∧ Row .u64 82 w' w.heap.size (List.replicate c 0) ∧ Below w.heap.size w w'

set_option maxRecDepth 100000 in
set_option maxHeartbeats 400000 in
/-- nat.make, where there is not enough room. -/
theorem make_fresh (A : Option Addr) (n0 c0 n : Nat) (h0 : c0 < n) (hn : n ≤ 1000000) (w : World) :
    Calls Tryz.prog 69 #[.slice A n0 c0, .int .i64 (n : Int)] w (Fresh n w) := by
  obtain ⟨i0, hi, hz0, hz1, hz2⟩ := info_parts Tryz.infoWord
  have H1 : Hid (∀ w : World, (Instr.makeSlice 86 (.int .i64 1) (.int .i64 1)).run Tryz.prog w = .ok (.slice (some ⟨w.heap.size, 0, none⟩) 1 1) (w.alloc (.cells (cellsOf .u64 (List.replicate 1 0)) 82))) :=
    fun w => run_makeNums 86 82 i0 .u64 Tryz.underlying86 hi hz0 hz1 (by omega) .i64 .i64 1 1 (Nat.le_refl _) (by omega) w
  have H2 : Hid (∀ w : World, (Instr.makeSlice 86 (.int .i64 (n : Int)) (.int .i64 ((n : Int) + 4))).run Tryz.prog w = .ok (.slice (some ⟨w.heap.size, 0, none⟩) n (n + 4)) (w.alloc (.cells (cellsOf .u64 (List.replicate (n + 4) 0)) 82))) :=
    fun w => run_makeNums 86 82 i0 .u64 Tryz.underlying86 hi hz0 hz1 (by omega) .i64 .i64 n (n + 4) (by omega) (by omega) w
  have hlt : ¬ ((n : Int) ≤ (c0 : Int)) := by omega
  by_cases h1 : n = 1
  · subst h1
    have H1 := H1.out
    clear H2 hlt hn
    show Calls Tryz.prog 69 #[.slice A n0 c0, .int .i64 1] w (Fresh 1 w)
    go_enter Tryz.func69, Tryz.ntmps69
    go_wp2
    go_ret
    exact ⟨1, Nat.le_refl _, by omega, rfl, Row.new _ _ _ [0] _ rfl, (Below.refl _ _).alloc (Nat.le_refl _) _⟩
  · have H2 := H2.out
    clear H1
    have h1b : ((n : Int) == 1) = false := by simp; omega
    go_enter Tryz.func69, Tryz.ntmps69
    go_wp2
    go_ret
    exact ⟨n + 4, by omega, Nat.le_refl _, rfl, Row.of_zero _ _ _ _ _ rfl, (Below.refl _ _).alloc (Nat.le_refl _) _⟩

set_option maxRecDepth 100000 in
set_option maxHeartbeats 400000 in
/-- nat.setWord of the nil slice. -/
theorem setWord_nil (x : Nat) (hx : x < W64) (w : World) : Calls Tryz.prog 68 #[.slice none 0 0, .int .u64 (x : Int)] w (Got .u64 (digs W64 x) w) := by
  by_cases h0 : x = 0
  · subst h0
    rw [digs_zero]
    show Calls Tryz.prog 68 #[.slice none 0 0, .int .u64 0] w (Got .u64 [] w)
    clear hx
    go_enter Tryz.func68, Tryz.ntmps68
    go_wp2
    go_ret
    exact ⟨_, _, _, rfl, Rd.nil _ _ (by simp), Below.refl _ _⟩
  · have hd := Lib.hid (digs_word x (by omega) hx)
    have hb0 : ((x : Int) == 0) = false := by simp; omega
    clear hx
    go_enter Tryz.func68, Tryz.ntmps68
    go_wp2_with fail
    refine (make_fresh none 0 0 1 (by omega) (by omega) _).mono ?_
    rintro e w1 ⟨c, hc1, hc2, rfl, hr, hb⟩
    have hz := hr.lt
    have hcell : w1.cell? ⟨w.heap.size, 0, none⟩ = some (.int .u64 0) := by rw [hr.cell (by simp; omega)]; simp
    have hfr := hr.free 0
    go_wp2
    go_ret
    refine ⟨_, _, _, rfl, ?_, hb.setCell (Nat.le_refl _) _⟩
    have hr2 := hr.set 0 x
    have hr3 := hr2.rd (n := 1) (by simp; omega) (by simp [maxLen]; omega)
    rw [hd.out]
    obtain ⟨c', rfl⟩ : ∃ c', c = c' + 1 := ⟨c - 1, by omega⟩
    simpa [List.replicate_succ] using hr3

set_option maxRecDepth 100000 in
set_option maxHeartbeats 400000 in
/-- nat.setUint64 of the nil slice. -/
theorem setUint64_nil (x : Nat) (hx : x < W64) (w : World) : Calls Tryz.prog 61 #[.slice none 0 0, .int .u64 (x : Int)] w (Got .u64 (digs W64 x) w) := by
  have H := Lib.hid (setWord_nil x hx)
  clear hx
  go_enter Tryz.func61, Tryz.ntmps61
  go_wp2_with fail
  refine (H.out _).mono ?_
  rintro e w1 ⟨A, n, c, rfl, hr, hb⟩
  go_wp2
  go_ret
  exact ⟨_, _, _, rfl, hr, hb⟩

theorem trimL_full (l : List Nat) (n : Nat) (h : l.length = n) : trimL l = trimL (l.take n) := by rw [List.take_of_length_le (by rw [h]; exact Nat.le_refl _)]
theorem trimL_drop (l : List Nat) (m : Nat) (hm : m < l.length) (h0 : l[m] = 0) : trimL (l.take (m + 1)) = trimL (l.take m) := by
  rw [List.take_succ_eq_append_getElem hm, h0, trimL_snoc_zero]
theorem trimL_stay (l : List Nat) (m : Nat) (hm : m < l.length) (h0 : l[m] ≠ 0) : trimL (l.take (m + 1)) = l.take (m + 1) := by
  rw [List.take_succ_eq_append_getElem hm, trimL_snoc_pos _ h0]

set_option maxRecDepth 100000 in
set_option maxHeartbeats 400000 in
/-- nat.norm. -/
theorem norm_any (A : Option Addr) (n c : Nat) (l : List Nat) (w : World) (h : Rd .u64 w A n c l) :
    Calls Tryz.prog 59 #[.slice A n c] w (GotSame .u64 (trimL l) w) := by
  have hcap := h.cap
  have hcm := h.capMax
  have hfull : Hid (trimL l = trimL (l.take n)) := trimL_full l n h.len
  go_enter Tryz.func59, Tryz.ntmps59
  go_wp2
  go_loop [3] (fun s => ∃ m : Nat, m ≤ n ∧ s = .int .i64 (m : Int) ∧ Hid (trimL l = trimL (l.take m))) (fun s => (intOf s).toNat)
  case atStart => exact ⟨n, Nat.le_refl _, rfl, hfull⟩
  case round =>
    obtain ⟨m, hm, rfl, ht⟩ := hrel
    clear hfull
    by_cases h0 : 0 < m
    · obtain ⟨b, o, rfl, hb, d, hd, hc⟩ := h.at_ (j := m - 1) (by omega)
      by_cases hd0 : d = 0
      · subst hd0
        have ht2 : Hid (trimL l = trimL (l.take (m - 1))) := by
          obtain ⟨hl, hd⟩ := hd
          have e := trimL_drop l (m - 1) hl hd
          rw [show m - 1 + 1 = m by omega] at e
          exact (Hid.out ht).trans e
        clear ht hd
        go_wp2
        go_round
        case rel => exact ⟨m - 1, by omega, by go_num, ht2⟩
        case measure => simp [intOf]; omega
      · have hb0 : ((d : Int) == 0) = false := by simp; omega
        have hfin : Hid (trimL l = l.take m) := by
          obtain ⟨hl, hd⟩ := hd
          have e := trimL_stay l (m - 1) hl (by omega)
          rw [show m - 1 + 1 = m by omega] at e
          exact (Hid.out ht).trans e
        have hc0 : ¬ c = 0 := by omega
        clear ht hd
        go_wp2
        go_ret
        exact ⟨_, _, _, rfl, by rw [hfin.out]; simpa using h.take hm, rfl⟩
    · have hm0 : m = 0 := by omega
      subst hm0
      have hfin : Hid (trimL l = []) := ht
      clear ht
      by_cases hc0 : c = 0
      · subst hc0
        go_wp2
        go_ret
        exact ⟨_, _, _, rfl, by rw [hfin.out]; exact Rd.nil _ _ (Nat.zero_le _), rfl⟩
      · go_wp2
        go_ret
        exact ⟨_, _, _, rfl, by rw [hfin.out]; exact Rd.nil _ _ hcm, rfl⟩
end Go.Proofs.YtdfedhmejilnhaaGreatDoor
