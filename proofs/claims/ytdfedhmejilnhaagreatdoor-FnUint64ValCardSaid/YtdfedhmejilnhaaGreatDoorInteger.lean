/- The value of a whole number: it proves what Integer answers where it answers that there is one. Conditions: the words of the number are words, of at most 40. -/
import Derived.Test.YtdfedhmejilnhaaGreatDoorHasWords
import Derived.Test.YtdfedhmejilnhaaGreatDoorWhole
import Derived.Deep.DeepCutAuto
namespace Go.Proofs.YtdfedhmejilnhaaGreatDoor
open Go.RowKit

/-- The call hands back a fraction and a truth; where it is true, the fraction is N with a sign. -/
def GotOk (neg : Bool) (N : Nat) (k : Int) (w : World) (e : Ending) (w' : World) : Prop :=
  ∃ (nb : Bool) (A : Option Addr) (n c : Nat) (A2 : Option Addr) (n2 c2 : Nat) (ok : Bool), e = .returned (.tuple #[.agg #[.bool nb, .slice A n c, .slice A2 n2 c2], .bool ok]) ∧ Below w.heap.size w w' ∧
    (ok = true → k = 3 ∧ nb = (neg && decide (0 < N)) ∧ Rd .i64 w' A n c (digs 65536 N))

/-- What a walk keeps: the value that came in, in a block of its own, and nothing old has turned. -/
def Kept (w : World) (cs : Array Value) (w' : World) : Prop := Box w' w.heap.size 26 cs ∧ Below w.heap.size w w'
theorem Kept.below {w w1 w2 : World} {cs : Array Value} (h : Kept w cs w1) (hb : Below w1.heap.size w1 w2) : Kept w cs w2 := ⟨h.1.below hb h.1.lt, h.2.trans (hb.mono h.2.size)⟩
theorem Kept.alloc {w w1 : World} {cs : Array Value} (h : Kept w cs w1) (o : Obj) : Kept w cs (w1.alloc o) := h.below ((Below.refl _ _).alloc (Nat.le_refl _) o)
theorem Kept.drew {w w1 : World} {cs : Array Value} (h : Kept w cs w1) : Kept w cs w1.drew := h.below (Below.refl _ _).drew
theorem Kept.set {w w1 : World} {cs : Array Value} (h : Kept w cs w1) {g : Nat} (hg : w.heap.size < g) (i : Nat) (u : Value) : Kept w cs (w1.setCell ⟨g, i, none⟩ u) := ⟨h.1.far (by show w.heap.size ≠ g; omega) u, h.2.setCell (by show w.heap.size ≤ g; omega) u⟩

theorem Kept.set2 {w w1 wX : World} {cs : Array Value} (h : Kept w cs w1) (hX : Kept w cs wX) (i : Nat) (u : Value) : Kept w cs (w1.setCell ⟨wX.heap.size, i, none⟩ u) := h.set hX.1.lt i u
theorem Kept.cells {w w' : World} {x0 x1 x2 x3 x4 x5 x6 x7 x8 : Value} (h : Kept w #[x0, x1, x2, x3, x4, x5, x6, x7, x8] w') : w'.cell? ⟨w.heap.size, 3, none⟩ = some x3 ∧ w'.cell? ⟨w.heap.size, 4, none⟩ = some x4 ∧ Kept w #[x0, x1, x2, x3, x4, x5, x6, x7, x8] w' := by
  obtain ⟨k0, k1, k2, k3, k4, k5, k6, k7, k8, hl0⟩ := h.1.nine
  exact ⟨k3, k4, h⟩

/-- A fraction lies in a block of its own: N with a sign. -/
def RatAt (neg : Bool) (N : Nat) (w : World) (cs : Array Value) (w0 : World) (s4 : Value) (wx : World) : Prop :=
  ∃ g A6 n6 c6 A7 n7 c7, s4 = .pointer (some ⟨g, 0, none⟩) ∧ Kept w cs wx ∧ Box wx g 31 #[.bool (neg && decide (0 < N)), .slice A6 n6 c6, .slice A7 n7 c7] ∧ Rd .i64 wx A6 n6 c6 (digs 65536 N) ∧ w0.heap.size ≤ g ∧ Below w0.heap.size w0 wx
theorem rat_new {neg : Bool} {N : Nat} {w w0 w2 : World} {cs : Array Value} {A6 : Option Addr} {n6 c6 : Nat} {A7 : Option Addr} {n7 c7 : Nat} (hK : Kept w cs w2) (hr : Rd .i64 w2 A6 n6 c6 (digs 65536 N)) (hb : Below w0.heap.size w0 w2) :
    RatAt neg N w cs w0 (.pointer (some ⟨w2.heap.size, 0, none⟩)) (w2.alloc (.cells #[.bool (neg && decide (0 < N)), .slice A6 n6 c6, .slice A7 n7 c7] 31)) :=
  ⟨_, _, _, _, _, _, _, rfl, hK.alloc _, Box.new _ _ _ _ rfl, hr.alloc _, hb.size, hb.alloc hb.size _⟩
theorem rat_set {neg : Bool} {N : Nat} {w w0 w2 : World} {cs : Array Value} {g : Nat} {x : Bool} {A6 : Option Addr} {n6 c6 : Nat} {A7 : Option Addr} {n7 c7 : Nat} (hT : Box w2 g 31 #[.bool x, .slice none 0 0, .slice none 0 0]) (hK : Kept w cs w2) (hg : w.heap.size < g) (hg0 : w0.heap.size ≤ g)
    (hr : Rd .i64 w2 A6 n6 c6 (digs 65536 N)) (hb : Below w0.heap.size w0 w2) :
    RatAt neg N w cs w0 (.pointer (some ⟨g, 0, none⟩)) (((w2.setCell ⟨g, 0, none⟩ (.bool (neg && decide (0 < N)))).setCell ⟨g, 1, none⟩ (.slice A6 n6 c6)).setCell ⟨g, 2, none⟩ (.slice A7 n7 c7)) := by
  have hblk : ∀ b, b ≠ g → (((w2.setCell ⟨g, 0, none⟩ (.bool (neg && decide (0 < N)))).setCell ⟨g, 1, none⟩ (.slice A6 n6 c6)).setCell ⟨g, 2, none⟩ (.slice A7 n7 c7)).heap[b]? = w2.heap[b]? := fun b hne => by
    rw [Below.heap_setCell _ _ _ _ hne, Below.heap_setCell _ _ _ _ hne, Below.heap_setCell _ _ _ _ hne]
  exact ⟨_, _, _, _, _, _, _, rfl, ((hK.set hg 0 _).set hg 1 _).set hg 2 _, ((hT.set 0 _).set 1 _).set 2 _, hr.apart hT (by simp [notInt]) _ (by simp) hblk, hg0, ((hb.setCell hg0 _).setCell hg0 _).setCell hg0 _⟩

theorem cells12 {w w' : World} {g : Nat} {x0 x1 x2 x3 x4 x5 x6 x7 x8 y0 y1 y2 : Value} (hK : Kept w #[x0, x1, x2, x3, x4, x5, x6, x7, x8] w') (hT : Box w' g 31 #[y0, y1, y2]) :
    w'.cell? ⟨g, 0, none⟩ = some y0 ∧ w'.cell? ⟨g, 1, none⟩ = some y1 ∧ w'.cell? ⟨g, 2, none⟩ = some y2 ∧ w'.cell? ⟨w.heap.size, 0, none⟩ = some x0 ∧ w'.cell? ⟨w.heap.size, 1, none⟩ = some x1 ∧ w'.cell? ⟨w.heap.size, 2, none⟩ = some x2 ∧ w'.cell? ⟨w.heap.size, 3, none⟩ = some x3 ∧ w'.cell? ⟨w.heap.size, 4, none⟩ = some x4 ∧ w'.cell? ⟨w.heap.size, 5, none⟩ = some x5 ∧ w'.cell? ⟨w.heap.size, 6, none⟩ = some x6 ∧ w'.cell? ⟨w.heap.size, 7, none⟩ = some x7 ∧ w'.cell? ⟨w.heap.size, 8, none⟩ = some x8 := by
  obtain ⟨k0, k1, k2, k3, k4, k5, k6, k7, k8, _⟩ := hK.1.nine
  obtain ⟨j0, j1, j2, _⟩ := hT.three
  exact ⟨j0, j1, j2, k0, k1, k2, k3, k4, k5, k6, k7, k8⟩
/-- Three stores into another block. -/
theorem cells12_set {w w' : World} {g e : Nat} {x0 x1 x2 x3 x4 x5 x6 x7 x8 y0 y1 y2 a b c : Value} (hK : Kept w #[x0, x1, x2, x3, x4, x5, x6, x7, x8] w') (hT : Box w' g 31 #[y0, y1, y2]) (he : w.heap.size < e) (hg : g ≠ e) :
    Kept w #[x0, x1, x2, x3, x4, x5, x6, x7, x8] (((w'.setCell ⟨e, 0, none⟩ a).setCell ⟨e, 1, none⟩ b).setCell ⟨e, 2, none⟩ c) ∧ Box (((w'.setCell ⟨e, 0, none⟩ a).setCell ⟨e, 1, none⟩ b).setCell ⟨e, 2, none⟩ c) g 31 #[y0, y1, y2] :=
  ⟨((hK.set he 0 _).set he 1 _).set he 2 _, ((hT.far hg _).far hg _).far hg _⟩

/-- The end of Integer: the fraction is stored into the result's block. -/
theorem got_ok {w w1 : World} {e : Nat} {x : Bool} {neg nb ok : Bool} {N : Nat} {k : Int} {A6 : Option Addr} {n6 c6 : Nat} {A7 : Option Addr} {n7 c7 : Nat} (hE : Box w1 e 31 #[.bool x, .slice none 0 0, .slice none 0 0]) (hr : Rd .i64 w1 A6 n6 c6 (digs 65536 N)) (hnb : nb = (neg && decide (0 < N))) (hb : Below w.heap.size w w1) (he : w.heap.size ≤ e) (hk : ok = true → k = 3) :
    ((((w1.setCell ⟨e, 0, none⟩ (.bool nb)).setCell ⟨e, 1, none⟩ (.slice A6 n6 c6)).setCell ⟨e, 2, none⟩ (.slice A7 n7 c7)).cell? ⟨e, 0, none⟩ = some (.bool nb) ∧ (((w1.setCell ⟨e, 0, none⟩ (.bool nb)).setCell ⟨e, 1, none⟩ (.slice A6 n6 c6)).setCell ⟨e, 2, none⟩ (.slice A7 n7 c7)).cell? ⟨e, 1, none⟩ = some (.slice A6 n6 c6) ∧ (((w1.setCell ⟨e, 0, none⟩ (.bool nb)).setCell ⟨e, 1, none⟩ (.slice A6 n6 c6)).setCell ⟨e, 2, none⟩ (.slice A7 n7 c7)).cell? ⟨e, 2, none⟩ = some (.slice A7 n7 c7)) ∧
    GotOk neg N k w (.returned (.tuple #[.agg #[.bool nb, .slice A6 n6 c6, .slice A7 n7 c7], .bool ok])) (((w1.setCell ⟨e, 0, none⟩ (.bool nb)).setCell ⟨e, 1, none⟩ (.slice A6 n6 c6)).setCell ⟨e, 2, none⟩ (.slice A7 n7 c7)) := by
  have hB3 : Box (((w1.setCell ⟨e, 0, none⟩ (.bool nb)).setCell ⟨e, 1, none⟩ (.slice A6 n6 c6)).setCell ⟨e, 2, none⟩ (.slice A7 n7 c7)) e 31 #[.bool nb, .slice A6 n6 c6, .slice A7 n7 c7] := ((hE.set 0 _).set 1 _).set 2 _
  have hblk : ∀ b, b ≠ e → (((w1.setCell ⟨e, 0, none⟩ (.bool nb)).setCell ⟨e, 1, none⟩ (.slice A6 n6 c6)).setCell ⟨e, 2, none⟩ (.slice A7 n7 c7)).heap[b]? = w1.heap[b]? := fun b hne => by
    rw [Below.heap_setCell _ _ _ _ hne, Below.heap_setCell _ _ _ _ hne, Below.heap_setCell _ _ _ _ hne]
  obtain ⟨r0, r1, r2, _⟩ := hB3.three
  exact ⟨⟨r0, r1, r2⟩, nb, A6, n6, c6, A7, n7, c7, ok, rfl, ((hb.setCell he _).setCell he _).setCell he _, fun h => ⟨hk h, hnb, hr.apart hE (by simp [notInt]) _ (by simp) hblk⟩⟩

set_option maxRecDepth 100000 in
set_option maxHeartbeats 4000000 in
/-- spec.Integer. -/
theorem integer_any (k : Int) (t : Bool) (s : ByteArray) (neg : Bool) (A : Option Addr) (n c : Nat) (l : List Nat) (A2 : Option Addr) (n2 c2 : Nat) (neg3 : Bool) (A3 : Option Addr) (n3 c3 : Nat) (A4 : Option Addr) (n4 c4 : Nat) (w : World)
    (h : Rd .u64 w A n c l) (hl : ∀ d ∈ l, d < W64) (hn : n ≤ 100) :
    Calls Tryz.prog 18 #[.agg #[.int .i64 k, .bool t, .string s, .bool neg, .slice A n c, .slice A2 n2 c2, .bool neg3, .slice A3 n3 c3, .slice A4 n4 c4]] w (GotOk neg (val W64 l) k w) := by
  by_cases hk : k = 3
  · subst hk
    have H1 := Lib.hid (fun w' (hb : Below w.heap.size w w') => of_any A n c l w' (h.below hb) (by omega) hl)
    have hl2 := hl
    clear hl
    have HH := Lib.hid h
    have hdl : Hid ((digs 65536 (val W64 l)).length ≤ 1000000) := by
      have h1 := val_lt W64 (by decide) l hl2
      rw [h.len] at h1
      refine Nat.le_trans (digs_length_le 65536 (by omega) _ (4 * n) ?_) (by omega)
      rw [← W64_four]; exact h1
    clear h hl2
    go_enter Tryz.func18, Tryz.ntmps18
    go_upto_region 3 with fail
    have hK : Kept w #[.int .i64 3, .bool t, .string s, .bool neg, .slice A n c, .slice A2 n2 c2, .bool neg3, .slice A3 n3 c3, .slice A4 n4 c4] ((w.alloc (.cells #[.int .i64 3, .bool t, .string s, .bool neg, .slice A n c, .slice A2 n2 c2, .bool neg3, .slice A3 n3 c3, .slice A4 n4 c4] 26)).alloc (.cells #[.bool false, .slice none 0 0, .slice none 0 0] 31)) :=
      ⟨(Box.new _ _ _ _ rfl).alloc _, ((Below.refl _ _).alloc (Nat.le_refl _) _).alloc (by simp) _⟩
    have hB1 : Box ((w.alloc (.cells #[.int .i64 3, .bool t, .string s, .bool neg, .slice A n c, .slice A2 n2 c2, .bool neg3, .slice A3 n3 c3, .slice A4 n4 c4] 26)).alloc (.cells #[.bool false, .slice none 0 0, .slice none 0 0] 31)) (w.heap.size + 1) 31 #[.bool false, .slice none 0 0, .slice none 0 0] := Box.new _ _ _ _ (by simp)
    generalize (w.alloc (.cells #[.int .i64 3, .bool t, .string s, .bool neg, .slice A n c, .slice A2 n2 c2, .bool neg3, .slice A3 n3 c3, .slice A4 n4 c4] 26)).alloc (.cells #[.bool false, .slice none 0 0, .slice none 0 0] 31) = w0 at *
    have hl1 := hB1.lt
    go_cut [4] (fun s4 wx => RatAt neg (val W64 l) w #[.int .i64 3, .bool t, .string s, .bool neg, .slice A n c, .slice A2 n2 c2, .bool neg3, .slice A3 n3 c3, .slice A4 n4 c4] w0 s4 wx)
    case first =>
      obtain ⟨k0, k1, k2, k3, k4, k5, k6, k7, k8, hl0⟩ := hK.1.nine
      go_region_with (first | (go_at_call 11; refine (H1.out _ ?_).mono ?_; (first | exact hK.drew.2 | exact (hK.drew.alloc _).2); rintro e w1 ⟨A5, n5, c5, rfl, hr5, hb5⟩; have hK1 : Kept w _ w1 := (by first | exact hK.drew.below hb5 | exact (hK.drew.alloc _).below hb5); have hz1 := hb5.size; have hb5' : Below w0.heap.size w0 w1 := (by first | exact below_of_drew hb5 | exact ((Below.refl _ _).drew.alloc (Nat.le_refl _) _).trans (hb5.mono (by simp))); obtain ⟨p0, p1, p2, p3, p4, p5, p6, p7, p8, p9⟩ := hK1.1.nine; (first | (have hT1 := (Box.new w0.drew 31 #[.bool false, .slice none 0 0, .slice none 0 0] w0.heap.size rfl).below hb5 (by simp); obtain ⟨a0, a1, a2, a3, a4, a5, a6⟩ := hT1.three) | skip)) | (go_at_call 25; refine (whole_any neg A5 n5 c5 _ _ (by first | exact hr5 | exact hr5.alloc _)).mono ?_; rintro e w2 ⟨A6, n6, c6, A7, n7, c7, rfl, hr6, hr7, hb6⟩; have hK2 : Kept w _ w2 := (by first | exact hK1.below hb6 | exact (hK1.alloc _).below hb6); have hz2 := hb6.size; have hb6' : Below w0.heap.size w0 w2 := (by first | exact hb5'.trans (hb6.mono hb5'.size) | exact (hb5'.alloc hb5'.size _).trans (hb6.mono (by have := hb5'.size; simp; omega))); (first | (have hT2 := hT1.below hb6 hT1.lt; obtain ⟨d0, d1, d2, d3, d4, d5, d6⟩ := hT2.three) | (have hT2 := (Box.new w1 31 #[.bool false, .slice none 0 0, .slice none 0 0] _ rfl).below hb6 (by simp); obtain ⟨d0, d1, d2, d3, d4, d5, d6⟩ := hT2.three) | skip)))
      all_goals
        have hz3 := hb5'.size
        go_wp2_with fail
        go_meet
        first
          | exact rat_new hK2 hr6 hb6'
          | exact rat_set hT2 hK2 (by omega) (by omega) hr6 hb6'
    case rest =>
      obtain ⟨g, A6, n6, c6, A7, n7, c7, rfl, hKc, hT, hr6, hg0, hbw⟩ := hcut
      have hlen6 : n6 ≤ 1000000 := by rw [← hr6.len]; exact hdl.out
      have HIN := Lib.hid (fun w' (hb : Below w.heap.size w w') (hr' : Rd .i64 w' A6 n6 c6 (digs 65536 (val W64 l))) => isNumber_any neg A n c l (neg && decide (0 < val W64 l)) A6 n6 c6 (val W64 l) w' (HH.out.below hb) hr' hlen6)
      obtain ⟨nb, hnb⟩ : ∃ nb, nb = (neg && decide (0 < val W64 l)) := ⟨_, rfl⟩
      rw [← hnb] at HIN hT
      have HNB := Lib.hid hnb
      obtain ⟨r1, hr1⟩ : ∃ r1, r1 = ((neg == (nb && decide (0 < n6))) && decide (l = lowd W64 ((n6 + 3) / 4) (val W64 l))) := ⟨_, rfl⟩
      rw [← hr1] at HIN
      have hE := hB1.below hbw hl1
      have hge : g ≠ w.heap.size + 1 := by omega
      have HT := Lib.hid hT
      have HK := Lib.hid hKc
      have HR6 := Lib.hid hr6
      have HE := Lib.hid hE
      clear hr1 hnb H1 hB1 hr6 hlen6 hK hbw
      have hS0 := cells12 hKc hT
      obtain ⟨z0, z1, z2, q0, q1, q2, hz⟩ := hE.three
      clear hKc hT hE
      cases r1
      · go_wp2_with fail
        refine wp_region_held_drew (S := fun w' => w'.cell? ⟨g, 0, none⟩ = some (.bool nb) ∧ w'.cell? ⟨g, 1, none⟩ = some (.slice A6 n6 c6) ∧ w'.cell? ⟨g, 2, none⟩ = some (.slice A7 n7 c7) ∧ w'.cell? ⟨w.heap.size, 0, none⟩ = some (.int .i64 3) ∧ w'.cell? ⟨w.heap.size, 1, none⟩ = some (.bool t) ∧ w'.cell? ⟨w.heap.size, 2, none⟩ = some (.string s) ∧ w'.cell? ⟨w.heap.size, 3, none⟩ = some (.bool neg) ∧ w'.cell? ⟨w.heap.size, 4, none⟩ = some (.slice A n c) ∧ w'.cell? ⟨w.heap.size, 5, none⟩ = some (.slice A2 n2 c2) ∧ w'.cell? ⟨w.heap.size, 6, none⟩ = some (.bool neg3) ∧ w'.cell? ⟨w.heap.size, 7, none⟩ = some (.slice A3 n3 c3) ∧ w'.cell? ⟨w.heap.size, 8, none⟩ = some (.slice A4 n4 c4)) (by kernel_rfl) hS0 (fun hHeld => ?_)
        refine wpAnyH_take (i := 0) (oi := _) (v := .agg #[.bool nb, .slice A6 n6 c6, .slice A7 n7 c7]) rfl (by kernel_rfl) (by kernel_rfl) (by kernel_rfl) (fun _ _ _ h => h) (Or.inl ⟨by kernel_rfl, ?_⟩) (by assumption) ?_
        · (intro w hSw; (try dsimp only at hSw); go_simp)
        try simp only [Act.put, List.setIfInBounds_toArray]
        refine wpAnyH_take (i := 1) (oi := _) (v := .pointer (some ⟨w.heap.size, 3, none⟩)) rfl (by kernel_rfl) (by kernel_rfl) (by kernel_rfl) (fun _ _ _ h => h) (Or.inl ⟨by kernel_rfl, ?_⟩) (by assumption) ?_
        · (intro w hSw; (try dsimp only at hSw); go_simp)
        try simp only [Act.put]
        refine wpAnyH_take (i := 2) (oi := _) (v := .agg #[.bool neg, .slice A n c]) rfl (by kernel_rfl) (by kernel_rfl) (by kernel_rfl) (fun _ _ _ h => h) (Or.inl ⟨by kernel_rfl, ?_⟩) (by assumption) ?_
        · (intro w hSw; (try dsimp only at hSw); go_simp)
        try simp only [Act.put]
        refine wpAnyH_take (i := 3) (oi := _) (v := .pointer (some ⟨g, 0, none⟩)) rfl (by kernel_rfl) (by kernel_rfl) (by kernel_rfl) (fun _ _ _ h => h) (Or.inl ⟨by kernel_rfl, ?_⟩) (by assumption) ?_
        · (intro w hSw; (try dsimp only at hSw); go_simp)
        try simp only [Act.put]
        refine wpAnyH_take (i := 4) (oi := _) (v := .bool nb) rfl (by kernel_rfl) (by kernel_rfl) (by kernel_rfl) (fun _ _ _ h => h) (Or.inl ⟨by kernel_rfl, ?_⟩) (by assumption) ?_
        · (intro w hSw; (try dsimp only at hSw); go_simp)
        try simp only [Act.put]
        refine wpAnyH_take (i := 5) (oi := _) (v := .pointer (some ⟨g, 1, none⟩)) rfl (by kernel_rfl) (by kernel_rfl) (by kernel_rfl) (fun _ _ _ h => h) (Or.inl ⟨by kernel_rfl, ?_⟩) (by assumption) ?_
        · (intro w hSw; (try dsimp only at hSw); go_simp)
        try simp only [Act.put]
        refine wpAnyH_take (i := 6) (oi := _) (v := .slice A6 n6 c6) rfl (by kernel_rfl) (by kernel_rfl) (by kernel_rfl) (fun _ _ _ h => h) (Or.inl ⟨by kernel_rfl, ?_⟩) (by assumption) ?_
        · (intro w hSw; (try dsimp only at hSw); go_simp)
        try simp only [Act.put]
        refine wpAnyH_ready (rs := [7]) (by kernel_rfl) (by simp) ?_
        refine AllReadyH.cons (o := _) rfl (fun K hK => ?_) AllReadyH.nil
        go_simp
        refine (HIN.out _ (by first | exact HK.out.2 | exact HK.out.2.drew) (by first | exact HR6.out | exact HR6.out.drew)).mono ?_
        rintro e w1 ⟨rfl, hb1'⟩
        have hb1 := below_of_drew hb1'
        have hK1 := HK.out.below hb1
        have hT1 := HT.out.below hb1 HT.out.lt
        have hS1 := cells12 hK1 hT1
        have hE1 := HE.out.below hb1 hz
        obtain ⟨y0, y1, y2, v0, v1, v2, hz1⟩ := hE1.three
        go_wp2_with fail
        refine hK.out _ _ hS1 (fun hHeld => ?_)
        clear hK K
        refine wpAnyH_take (i := 8) (oi := _) (v := .bool false) rfl (by kernel_rfl) (by kernel_rfl) (by kernel_rfl) (fun _ _ _ h => h) (Or.inl ⟨by kernel_rfl, ?_⟩) (by assumption) ?_
        · (intro w hSw; (try dsimp only at hSw); go_simp)
        try simp only [Act.put, List.setIfInBounds_toArray]
        refine wpAnyH_take (i := 9) (oi := _) (v := undef) rfl (by kernel_rfl) (by kernel_rfl) (by kernel_rfl) (fun _ _ _ h => h) (Or.inr ⟨by kernel_rfl, rfl⟩) (by assumption) ?_
        try simp only [Act.put]
        refine wpAnyH_take (i := 10) (oi := _) (v := undef) rfl (by kernel_rfl) (by kernel_rfl) (by kernel_rfl) (fun _ _ _ h => h) (Or.inr ⟨by kernel_rfl, rfl⟩) (by assumption) ?_
        try simp only [Act.put]
        refine wpAnyH_take (i := 11) (oi := _) (v := undef) rfl (by kernel_rfl) (by kernel_rfl) (by kernel_rfl) (fun _ _ _ h => h) (Or.inr ⟨by kernel_rfl, rfl⟩) (by assumption) ?_
        try simp only [Act.put]
        refine wpAnyH_take (i := 12) (oi := _) (v := undef) rfl (by kernel_rfl) (by kernel_rfl) (by kernel_rfl) (fun _ _ _ h => h) (Or.inr ⟨by kernel_rfl, rfl⟩) (by assumption) ?_
        try simp only [Act.put]
        refine wpAnyH_take (i := 13) (oi := _) (v := .bool false) rfl (by kernel_rfl) (by kernel_rfl) (by kernel_rfl) (fun _ _ _ h => h) (Or.inl ⟨by kernel_rfl, ?_⟩) (by assumption) ?_
        · (intro w hSw; (try dsimp only at hSw); go_simp)
        try simp only [Act.put]
        refine wpAnyH_take (i := 14) (oi := _) (v := .bool false) rfl (by kernel_rfl) (by kernel_rfl) (by kernel_rfl) (fun _ _ _ h => h) (Or.inl ⟨by kernel_rfl, ?_⟩) (by assumption) ?_
        · (intro w hSw; (try dsimp only at hSw); go_simp)
        try simp only [Act.put]
        refine wpAnyH_take (i := 15) (oi := _) (v := undef) rfl (by kernel_rfl) (by kernel_rfl) (by kernel_rfl) (fun _ _ _ h => h) (Or.inr ⟨by kernel_rfl, rfl⟩) (by assumption) ?_
        try simp only [Act.put]
        refine wpAnyH_take (i := 16) (oi := _) (v := undef) rfl (by kernel_rfl) (by kernel_rfl) (by kernel_rfl) (fun _ _ _ h => h) (Or.inr ⟨by kernel_rfl, rfl⟩) (by assumption) ?_
        try simp only [Act.put]
        refine wpAnyH_take (i := 17) (oi := _) (v := .bool false) rfl (by kernel_rfl) (by kernel_rfl) (by kernel_rfl) (fun _ _ _ h => h) (Or.inl ⟨by kernel_rfl, ?_⟩) (by assumption) ?_
        · (intro w hSw; (try dsimp only at hSw); go_simp)
        try simp only [Act.put]
        refine wpAnyH_ready (rs := [18]) (by kernel_rfl) (by simp) ?_
        refine AllReadyH.cons (o := _) rfl (fun K hK => ?_) AllReadyH.nil
        go_simp
        refine hK.out _ _ (cells12 (cells12_set hK1 hT1 (by omega) hge).1 (cells12_set hK1 hT1 (by omega) hge).2) (fun hHeld => ?_)
        clear hK K
        refine wpAnyH_ready (rs := [19]) (by kernel_rfl) (by simp) ?_
        refine AllReadyH.cons (o := _) rfl (fun K hK => ?_) AllReadyH.nil
        go_simp
        refine hK.out _ _ hHeld (fun hHeld2 => ?_)
        clear hK K
        refine wpAnyH_done (by kernel_rfl) ?_ _
        have HF := Lib.hid (got_ok (A7 := A7) (n7 := n7) (c7 := c7) (k := 3) (ok := false) hE1 (HR6.out.below hb1) HNB.out hK1.2 (by omega) (fun _ => rfl))
        obtain ⟨r0, r1, r2⟩ := HF.out.1
        go_wp2_with fail
        exact bodyPost_ret (v := .tuple #[.agg #[.bool nb, .slice A6 n6 c6, .slice A7 n7 c7], .bool false]) (by simp [results, Tryz.results18, go_sem, r0, r1, r2]) rfl HF.out.2
      · by_cases hn2 : n2 = 0
        · subst hn2
          have hrest := fun w' => rest_any 3 t s neg A n c A2 0 c2 neg3 A3 n3 c3 A4 n4 c4 w'
          generalize restB t s neg3 n3 n4 = r3 at hrest
          have HREST := Lib.hid hrest
          clear hrest
          go_wp2_with fail
          refine wp_region_held_drew (S := fun w' => w'.cell? ⟨g, 0, none⟩ = some (.bool nb) ∧ w'.cell? ⟨g, 1, none⟩ = some (.slice A6 n6 c6) ∧ w'.cell? ⟨g, 2, none⟩ = some (.slice A7 n7 c7) ∧ w'.cell? ⟨w.heap.size, 0, none⟩ = some (.int .i64 3) ∧ w'.cell? ⟨w.heap.size, 1, none⟩ = some (.bool t) ∧ w'.cell? ⟨w.heap.size, 2, none⟩ = some (.string s) ∧ w'.cell? ⟨w.heap.size, 3, none⟩ = some (.bool neg) ∧ w'.cell? ⟨w.heap.size, 4, none⟩ = some (.slice A n c) ∧ w'.cell? ⟨w.heap.size, 5, none⟩ = some (.slice A2 0 c2) ∧ w'.cell? ⟨w.heap.size, 6, none⟩ = some (.bool neg3) ∧ w'.cell? ⟨w.heap.size, 7, none⟩ = some (.slice A3 n3 c3) ∧ w'.cell? ⟨w.heap.size, 8, none⟩ = some (.slice A4 n4 c4)) (by kernel_rfl) hS0 (fun hHeld => ?_)
          refine wpAnyH_take (i := 0) (oi := _) (v := .agg #[.bool nb, .slice A6 n6 c6, .slice A7 n7 c7]) rfl (by kernel_rfl) (by kernel_rfl) (by kernel_rfl) (fun _ _ _ h => h) (Or.inl ⟨by kernel_rfl, ?_⟩) (by assumption) ?_
          · (intro w hSw; (try dsimp only at hSw); go_simp)
          try simp only [Act.put, List.setIfInBounds_toArray]
          refine wpAnyH_take (i := 1) (oi := _) (v := .pointer (some ⟨w.heap.size, 3, none⟩)) rfl (by kernel_rfl) (by kernel_rfl) (by kernel_rfl) (fun _ _ _ h => h) (Or.inl ⟨by kernel_rfl, ?_⟩) (by assumption) ?_
          · (intro w hSw; (try dsimp only at hSw); go_simp)
          try simp only [Act.put]
          refine wpAnyH_take (i := 2) (oi := _) (v := .agg #[.bool neg, .slice A n c]) rfl (by kernel_rfl) (by kernel_rfl) (by kernel_rfl) (fun _ _ _ h => h) (Or.inl ⟨by kernel_rfl, ?_⟩) (by assumption) ?_
          · (intro w hSw; (try dsimp only at hSw); go_simp)
          try simp only [Act.put]
          refine wpAnyH_take (i := 3) (oi := _) (v := .pointer (some ⟨g, 0, none⟩)) rfl (by kernel_rfl) (by kernel_rfl) (by kernel_rfl) (fun _ _ _ h => h) (Or.inl ⟨by kernel_rfl, ?_⟩) (by assumption) ?_
          · (intro w hSw; (try dsimp only at hSw); go_simp)
          try simp only [Act.put]
          refine wpAnyH_take (i := 4) (oi := _) (v := .bool nb) rfl (by kernel_rfl) (by kernel_rfl) (by kernel_rfl) (fun _ _ _ h => h) (Or.inl ⟨by kernel_rfl, ?_⟩) (by assumption) ?_
          · (intro w hSw; (try dsimp only at hSw); go_simp)
          try simp only [Act.put]
          refine wpAnyH_take (i := 5) (oi := _) (v := .pointer (some ⟨g, 1, none⟩)) rfl (by kernel_rfl) (by kernel_rfl) (by kernel_rfl) (fun _ _ _ h => h) (Or.inl ⟨by kernel_rfl, ?_⟩) (by assumption) ?_
          · (intro w hSw; (try dsimp only at hSw); go_simp)
          try simp only [Act.put]
          refine wpAnyH_take (i := 6) (oi := _) (v := .slice A6 n6 c6) rfl (by kernel_rfl) (by kernel_rfl) (by kernel_rfl) (fun _ _ _ h => h) (Or.inl ⟨by kernel_rfl, ?_⟩) (by assumption) ?_
          · (intro w hSw; (try dsimp only at hSw); go_simp)
          try simp only [Act.put]
          refine wpAnyH_ready (rs := [7]) (by kernel_rfl) (by simp) ?_
          refine AllReadyH.cons (o := _) rfl (fun K hK => ?_) AllReadyH.nil
          go_simp
          refine (HIN.out _ (by first | exact HK.out.2 | exact HK.out.2.drew) (by first | exact HR6.out | exact HR6.out.drew)).mono ?_
          rintro e w1 ⟨rfl, hb1'⟩
          have hb1 := below_of_drew hb1'
          have hK1 := HK.out.below hb1
          have hT1 := HT.out.below hb1 HT.out.lt
          have hS1 := cells12 hK1 hT1
          have hE1 := HE.out.below hb1 hz
          obtain ⟨y0, y1, y2, v0, v1, v2, hz1⟩ := hE1.three
          go_wp2_with fail
          refine hK.out _ _ hS1 (fun hHeld => ?_)
          clear hK K
          refine wpAnyH_take (i := 8) (oi := _) (v := .bool true) rfl (by kernel_rfl) (by kernel_rfl) (by kernel_rfl) (fun _ _ _ h => h) (Or.inl ⟨by kernel_rfl, ?_⟩) (by assumption) ?_
          · (intro w hSw; (try dsimp only at hSw); go_simp)
          try simp only [Act.put, List.setIfInBounds_toArray]
          refine wpAnyH_take (i := 9) (oi := _) (v := .pointer (some ⟨w.heap.size, 5, none⟩)) rfl (by kernel_rfl) (by kernel_rfl) (by kernel_rfl) (fun _ _ _ h => h) (Or.inl ⟨by kernel_rfl, ?_⟩) (by assumption) ?_
          · (intro w hSw; (try dsimp only at hSw); go_simp)
          try simp only [Act.put]
          refine wpAnyH_take (i := 10) (oi := _) (v := .slice A2 0 c2) rfl (by kernel_rfl) (by kernel_rfl) (by kernel_rfl) (fun _ _ _ h => h) (Or.inl ⟨by kernel_rfl, ?_⟩) (by assumption) ?_
          · (intro w hSw; (try dsimp only at hSw); go_simp)
          try simp only [Act.put]
          refine wpAnyH_take (i := 11) (oi := _) (v := .int .i64 0) rfl (by kernel_rfl) (by kernel_rfl) (by kernel_rfl) (fun _ _ _ h => h) (Or.inl ⟨by kernel_rfl, ?_⟩) (by assumption) ?_
          · (intro w hSw; (try dsimp only at hSw); go_simp)
          try simp only [Act.put]
          refine wpAnyH_take (i := 12) (oi := _) (v := .bool true) rfl (by kernel_rfl) (by kernel_rfl) (by kernel_rfl) (fun _ _ _ h => h) (Or.inl ⟨by kernel_rfl, ?_⟩) (by assumption) ?_
          · (intro w hSw; (try dsimp only at hSw); go_simp)
          try simp only [Act.put]
          refine wpAnyH_take (i := 13) (oi := _) (v := .bool true) rfl (by kernel_rfl) (by kernel_rfl) (by kernel_rfl) (fun _ _ _ h => h) (Or.inl ⟨by kernel_rfl, ?_⟩) (by assumption) ?_
          · (intro w hSw; (try dsimp only at hSw); go_simp)
          try simp only [Act.put]
          refine wpAnyH_take (i := 14) (oi := _) (v := .bool true) rfl (by kernel_rfl) (by kernel_rfl) (by kernel_rfl) (fun _ _ _ h => h) (Or.inl ⟨by kernel_rfl, ?_⟩) (by assumption) ?_
          · (intro w hSw; (try dsimp only at hSw); go_simp)
          try simp only [Act.put]
          refine wpAnyH_take (i := 15) (oi := _) (v := .agg #[.int .i64 3, .bool t, .string s, .bool neg, .slice A n c, .slice A2 0 c2, .bool neg3, .slice A3 n3 c3, .slice A4 n4 c4]) rfl (by kernel_rfl) (by kernel_rfl) (by kernel_rfl) (fun _ _ _ h => h) (Or.inl ⟨by kernel_rfl, ?_⟩) (by assumption) ?_
          · (intro w hSw; (try dsimp only at hSw); go_simp)
          try simp only [Act.put]
          refine wpAnyH_ready (rs := [16]) (by kernel_rfl) (by simp) ?_
          refine AllReadyH.cons (o := _) rfl (fun K hK => ?_) AllReadyH.nil
          go_simp
          refine (HREST.out _).mono ?_
          rintro e w2 ⟨rfl, hb2⟩
          have hK2 := hK1.below hb2
          have hT2 := hT1.below hb2 hT1.lt
          have hS2 := cells12 hK2 hT2
          have hE2 := hE1.below hb2 hz1
          clear y0 y1 y2 v0 v1 v2
          obtain ⟨y0, y1, y2, v0, v1, v2, hz2⟩ := hE2.three
          go_wp2_with fail
          refine hK.out _ _ hS2 (fun hHeld => ?_)
          clear hK K
          refine wpAnyH_take (i := 17) (oi := _) (v := .bool r3) rfl (by kernel_rfl) (by kernel_rfl) (by kernel_rfl) (fun _ _ _ h => h) (Or.inl ⟨by kernel_rfl, ?_⟩) (by assumption) ?_
          · (intro w hSw; (try dsimp only at hSw); go_simp)
          try simp only [Act.put, List.setIfInBounds_toArray]
          refine wpAnyH_ready (rs := [18]) (by kernel_rfl) (by simp) ?_
          refine AllReadyH.cons (o := _) rfl (fun K hK => ?_) AllReadyH.nil
          go_simp
          refine hK.out _ _ (cells12 (cells12_set hK2 hT2 (by omega) hge).1 (cells12_set hK2 hT2 (by omega) hge).2) (fun hHeld => ?_)
          clear hK K
          refine wpAnyH_ready (rs := [19]) (by kernel_rfl) (by simp) ?_
          refine AllReadyH.cons (o := _) rfl (fun K hK => ?_) AllReadyH.nil
          go_simp
          refine hK.out _ _ hHeld (fun hHeld2 => ?_)
          clear hK K
          refine wpAnyH_done (by kernel_rfl) ?_ _
          have HF := Lib.hid (got_ok (A7 := A7) (n7 := n7) (c7 := c7) (k := 3) (ok := r3) hE2 ((HR6.out.below hb1).below hb2) HNB.out hK2.2 (by omega) (fun _ => rfl))
          obtain ⟨r0, r1, r2⟩ := HF.out.1
          go_wp2_with fail
          exact bodyPost_ret (v := .tuple #[.agg #[.bool nb, .slice A6 n6 c6, .slice A7 n7 c7], .bool r3]) (by simp [results, Tryz.results18, go_sem, r0, r1, r2]) rfl HF.out.2
        · have hn3 : ((n2 : Int) == 0) = false := by simp; omega
          go_wp2_with fail
          refine wp_region_held_drew (S := fun w' => w'.cell? ⟨g, 0, none⟩ = some (.bool nb) ∧ w'.cell? ⟨g, 1, none⟩ = some (.slice A6 n6 c6) ∧ w'.cell? ⟨g, 2, none⟩ = some (.slice A7 n7 c7) ∧ w'.cell? ⟨w.heap.size, 0, none⟩ = some (.int .i64 3) ∧ w'.cell? ⟨w.heap.size, 1, none⟩ = some (.bool t) ∧ w'.cell? ⟨w.heap.size, 2, none⟩ = some (.string s) ∧ w'.cell? ⟨w.heap.size, 3, none⟩ = some (.bool neg) ∧ w'.cell? ⟨w.heap.size, 4, none⟩ = some (.slice A n c) ∧ w'.cell? ⟨w.heap.size, 5, none⟩ = some (.slice A2 n2 c2) ∧ w'.cell? ⟨w.heap.size, 6, none⟩ = some (.bool neg3) ∧ w'.cell? ⟨w.heap.size, 7, none⟩ = some (.slice A3 n3 c3) ∧ w'.cell? ⟨w.heap.size, 8, none⟩ = some (.slice A4 n4 c4)) (by kernel_rfl) hS0 (fun hHeld => ?_)
          refine wpAnyH_take (i := 0) (oi := _) (v := .agg #[.bool nb, .slice A6 n6 c6, .slice A7 n7 c7]) rfl (by kernel_rfl) (by kernel_rfl) (by kernel_rfl) (fun _ _ _ h => h) (Or.inl ⟨by kernel_rfl, ?_⟩) (by assumption) ?_
          · (intro w hSw; (try dsimp only at hSw); go_simp)
          try simp only [Act.put, List.setIfInBounds_toArray]
          refine wpAnyH_take (i := 1) (oi := _) (v := .pointer (some ⟨w.heap.size, 3, none⟩)) rfl (by kernel_rfl) (by kernel_rfl) (by kernel_rfl) (fun _ _ _ h => h) (Or.inl ⟨by kernel_rfl, ?_⟩) (by assumption) ?_
          · (intro w hSw; (try dsimp only at hSw); go_simp)
          try simp only [Act.put]
          refine wpAnyH_take (i := 2) (oi := _) (v := .agg #[.bool neg, .slice A n c]) rfl (by kernel_rfl) (by kernel_rfl) (by kernel_rfl) (fun _ _ _ h => h) (Or.inl ⟨by kernel_rfl, ?_⟩) (by assumption) ?_
          · (intro w hSw; (try dsimp only at hSw); go_simp)
          try simp only [Act.put]
          refine wpAnyH_take (i := 3) (oi := _) (v := .pointer (some ⟨g, 0, none⟩)) rfl (by kernel_rfl) (by kernel_rfl) (by kernel_rfl) (fun _ _ _ h => h) (Or.inl ⟨by kernel_rfl, ?_⟩) (by assumption) ?_
          · (intro w hSw; (try dsimp only at hSw); go_simp)
          try simp only [Act.put]
          refine wpAnyH_take (i := 4) (oi := _) (v := .bool nb) rfl (by kernel_rfl) (by kernel_rfl) (by kernel_rfl) (fun _ _ _ h => h) (Or.inl ⟨by kernel_rfl, ?_⟩) (by assumption) ?_
          · (intro w hSw; (try dsimp only at hSw); go_simp)
          try simp only [Act.put]
          refine wpAnyH_take (i := 5) (oi := _) (v := .pointer (some ⟨g, 1, none⟩)) rfl (by kernel_rfl) (by kernel_rfl) (by kernel_rfl) (fun _ _ _ h => h) (Or.inl ⟨by kernel_rfl, ?_⟩) (by assumption) ?_
          · (intro w hSw; (try dsimp only at hSw); go_simp)
          try simp only [Act.put]
          refine wpAnyH_take (i := 6) (oi := _) (v := .slice A6 n6 c6) rfl (by kernel_rfl) (by kernel_rfl) (by kernel_rfl) (fun _ _ _ h => h) (Or.inl ⟨by kernel_rfl, ?_⟩) (by assumption) ?_
          · (intro w hSw; (try dsimp only at hSw); go_simp)
          try simp only [Act.put]
          refine wpAnyH_ready (rs := [7]) (by kernel_rfl) (by simp) ?_
          refine AllReadyH.cons (o := _) rfl (fun K hK => ?_) AllReadyH.nil
          go_simp
          refine (HIN.out _ (by first | exact HK.out.2 | exact HK.out.2.drew) (by first | exact HR6.out | exact HR6.out.drew)).mono ?_
          rintro e w1 ⟨rfl, hb1'⟩
          have hb1 := below_of_drew hb1'
          have hK1 := HK.out.below hb1
          have hT1 := HT.out.below hb1 HT.out.lt
          have hS1 := cells12 hK1 hT1
          have hE1 := HE.out.below hb1 hz
          obtain ⟨y0, y1, y2, v0, v1, v2, hz1⟩ := hE1.three
          go_wp2_with fail
          refine hK.out _ _ hS1 (fun hHeld => ?_)
          clear hK K
          refine wpAnyH_take (i := 8) (oi := _) (v := .bool true) rfl (by kernel_rfl) (by kernel_rfl) (by kernel_rfl) (fun _ _ _ h => h) (Or.inl ⟨by kernel_rfl, ?_⟩) (by assumption) ?_
          · (intro w hSw; (try dsimp only at hSw); go_simp)
          try simp only [Act.put, List.setIfInBounds_toArray]
          refine wpAnyH_take (i := 9) (oi := _) (v := .pointer (some ⟨w.heap.size, 5, none⟩)) rfl (by kernel_rfl) (by kernel_rfl) (by kernel_rfl) (fun _ _ _ h => h) (Or.inl ⟨by kernel_rfl, ?_⟩) (by assumption) ?_
          · (intro w hSw; (try dsimp only at hSw); go_simp)
          try simp only [Act.put]
          refine wpAnyH_take (i := 10) (oi := _) (v := .slice A2 n2 c2) rfl (by kernel_rfl) (by kernel_rfl) (by kernel_rfl) (fun _ _ _ h => h) (Or.inl ⟨by kernel_rfl, ?_⟩) (by assumption) ?_
          · (intro w hSw; (try dsimp only at hSw); go_simp)
          try simp only [Act.put]
          refine wpAnyH_take (i := 11) (oi := _) (v := .int .i64 (n2 : Int)) rfl (by kernel_rfl) (by kernel_rfl) (by kernel_rfl) (fun _ _ _ h => h) (Or.inl ⟨by kernel_rfl, ?_⟩) (by assumption) ?_
          · (intro w hSw; (try dsimp only at hSw); go_simp)
          try simp only [Act.put]
          refine wpAnyH_take (i := 12) (oi := _) (v := .bool false) rfl (by kernel_rfl) (by kernel_rfl) (by kernel_rfl) (fun _ _ _ h => h) (Or.inl ⟨by kernel_rfl, ?_⟩) (by assumption) ?_
          · (intro w hSw; (try dsimp only at hSw); go_simp)
          try simp only [Act.put]
          refine wpAnyH_take (i := 13) (oi := _) (v := .bool false) rfl (by kernel_rfl) (by kernel_rfl) (by kernel_rfl) (fun _ _ _ h => h) (Or.inl ⟨by kernel_rfl, ?_⟩) (by assumption) ?_
          · (intro w hSw; (try dsimp only at hSw); go_simp)
          try simp only [Act.put]
          refine wpAnyH_take (i := 14) (oi := _) (v := .bool false) rfl (by kernel_rfl) (by kernel_rfl) (by kernel_rfl) (fun _ _ _ h => h) (Or.inl ⟨by kernel_rfl, ?_⟩) (by assumption) ?_
          · (intro w hSw; (try dsimp only at hSw); go_simp)
          try simp only [Act.put]
          refine wpAnyH_take (i := 15) (oi := _) (v := undef) rfl (by kernel_rfl) (by kernel_rfl) (by kernel_rfl) (fun _ _ _ h => h) (Or.inr ⟨by kernel_rfl, rfl⟩) (by assumption) ?_
          try simp only [Act.put]
          refine wpAnyH_take (i := 16) (oi := _) (v := undef) rfl (by kernel_rfl) (by kernel_rfl) (by kernel_rfl) (fun _ _ _ h => h) (Or.inr ⟨by kernel_rfl, rfl⟩) (by assumption) ?_
          try simp only [Act.put]
          refine wpAnyH_take (i := 17) (oi := _) (v := .bool false) rfl (by kernel_rfl) (by kernel_rfl) (by kernel_rfl) (fun _ _ _ h => h) (Or.inl ⟨by kernel_rfl, ?_⟩) (by assumption) ?_
          · (intro w hSw; (try dsimp only at hSw); go_simp)
          try simp only [Act.put]
          refine wpAnyH_ready (rs := [18]) (by kernel_rfl) (by simp) ?_
          refine AllReadyH.cons (o := _) rfl (fun K hK => ?_) AllReadyH.nil
          go_simp
          refine hK.out _ _ (cells12 (cells12_set hK1 hT1 (by omega) hge).1 (cells12_set hK1 hT1 (by omega) hge).2) (fun hHeld => ?_)
          clear hK K
          refine wpAnyH_ready (rs := [19]) (by kernel_rfl) (by simp) ?_
          refine AllReadyH.cons (o := _) rfl (fun K hK => ?_) AllReadyH.nil
          go_simp
          refine hK.out _ _ hHeld (fun hHeld2 => ?_)
          clear hK K
          refine wpAnyH_done (by kernel_rfl) ?_ _
          have HF := Lib.hid (got_ok (A7 := A7) (n7 := n7) (c7 := c7) (k := 3) (ok := false) hE1 (HR6.out.below hb1) HNB.out hK1.2 (by omega) (fun _ => rfl))
          obtain ⟨r0, r1, r2⟩ := HF.out.1
          go_wp2_with fail
          exact bodyPost_ret (v := .tuple #[.agg #[.bool nb, .slice A6 n6 c6, .slice A7 n7 c7], .bool false]) (by simp [results, Tryz.results18, go_sem, r0, r1, r2]) rfl HF.out.2
  · have hk2 : (k != 3) = true := by simp; exact hk
    go_enter Tryz.func18, Tryz.ntmps18
    go_wp2
    refine bodyPost_ret (v := .tuple #[.agg #[.bool false, .slice none 0 0, .slice none 0 0], .bool false]) (by simp [results, Tryz.results18, go_sem]) rfl ?_
    exact ⟨false, _, _, _, _, _, _, false, rfl, ((Below.refl _ _).alloc (Nat.le_refl _) _).alloc (by simp) _, fun e => by cases e⟩
end Go.Proofs.YtdfedhmejilnhaaGreatDoor
