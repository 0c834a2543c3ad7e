/- Natural numbers of one word: it proves what norm, set, add, sub and andNot answer where each number is at most one word. Conditions: the slices read so; the receiver of add and sub is nil, that of andNot lies in a block of its own. -/
import Derived.Test.YtbopmkjfmikmdaaGreatDoorNat1
namespace Go.Proofs.YtbopmkjfmikmdaaGreatDoor
open Go.RowKit

/-- The slice is a row of its own that reads as a number. -/
def OwnN (w : World) (r n c N : Nat) : Prop := ∃ l, Row .u64 97 w r l ∧ l.length = c ∧ n ≤ c ∧ 1 ≤ c ∧ c ≤ 100 ∧ l.take n = digs W64 N
/-- The call hands back a number in a row of its own. -/
def GotRow (N : Nat) (w : World) (e : Ending) (w' : World) : Prop := ∃ r n c, e = .returned (.slice (some ⟨r, 0, none⟩) n c) ∧ OwnN w' r n c N ∧ w.heap.size ≤ r ∧ Below w.heap.size w w'

theorem OwnN.rd {w : World} {r n c N : Nat} (h : OwnN w r n c N) : Rd .u64 w (some ⟨r, 0, none⟩) n c (digs W64 N) := by
  obtain ⟨l, h1, h2, h3, h4, h5, h6⟩ := h
  have := h1.rd (n := n) (by omega) (by unfold maxLen; omega)
  rw [h6, h2] at this
  exact this

set_option maxRecDepth 100000 in
set_option maxHeartbeats 400000 in
/-- nat.norm of a row of its own. -/
theorem norm_own (r n c : Nat) (l : List Nat) (w : World) (hrow : Row .u64 97 w r l) (hlen : l.length = c) (hn : n ≤ c) (hc1 : 1 ≤ c) (hc2 : c ≤ 100) :
    Calls Tryz.prog 85 #[.slice (some ⟨r, 0, none⟩) n c] w fun e w' => (∃ m, m ≤ c ∧ e = .returned (.slice (some ⟨r, 0, none⟩) m c) ∧ l.take m = trimL (l.take n)) ∧ w = w' := by
  obtain ⟨L, hL⟩ : ∃ L, L = trimL (l.take n) := ⟨_, rfl⟩
  rw [← hL]
  have hfull := Lib.hid hL
  clear hL
  have HL := Lib.hid hlen
  clear hlen
  go_enter Tryz.func85, Tryz.ntmps85
  go_wp2
  go_loop [3] (fun s => ∃ m : Nat, m ≤ n ∧ s = .int .i64 (m : Int) ∧ Hid (L = trimL (l.take m))) (fun s => (intOf s).toNat)
  case atStart => exact ⟨n, Nat.le_refl _, rfl, hfull⟩
  case round =>
    obtain ⟨m, hm, rfl, ht⟩ := hrel
    clear hfull
    by_cases h0 : 0 < m
    · have hml : m - 1 < l.length := by rw [HL.out]; omega
      have hc := hrow.cell hml
      obtain ⟨d, hd⟩ : ∃ d, l[m - 1] = d := ⟨_, rfl⟩
      rw [hd] at hc
      have hde := Lib.hid hd
      clear hd
      by_cases hd0 : d = 0
      · subst hd0
        have ht2 : Hid (L = trimL (l.take (m - 1))) := by
          have e := trimL_drop l (m - 1) hml hde.out
          rw [show m - 1 + 1 = m by omega] at e
          exact (Hid.out ht).trans e
        clear ht hde hml
        go_wp2
        go_round
        case rel => exact ⟨m - 1, by omega, by go_num, ht2⟩
        case measure => simp [intOf]; omega
      · have hb0 : ((d : Int) == 0) = false := by simp; omega
        have hfin : Hid (L = l.take m) := by
          have e := trimL_stay l (m - 1) hml (by rw [hde.out]; exact hd0)
          rw [show m - 1 + 1 = m by omega] at e
          exact (Hid.out ht).trans e
        clear ht hde hml
        go_wp2
        go_ret
        exact ⟨⟨m, by omega, rfl, by rw [hfin.out]⟩, rfl⟩
    · have hm0 : m = 0 := by omega
      subst hm0
      have hfin : Hid (L = []) := ht
      clear ht
      go_wp2
      go_ret
      exact ⟨⟨0, by omega, rfl, by rw [hfin.out]; rfl⟩, rfl⟩

theorem lowd_one (x : Nat) (hx : x < W64) : lowd W64 1 x = [x] := by simp [lowd, Nat.mod_eq_of_lt hx]

set_option maxRecDepth 100000 in
set_option maxHeartbeats 400000 in
/-- nat.set of one word. -/
theorem set_one (B : Option Addr) (c2 x : Nat) (w : World) (h : Rd .u64 w B 1 c2 [x]) (h0 : 0 < x) (hx : x < W64) :
    Calls Tryz.prog 74 #[.slice none 0 0, .slice B 1 c2] w (GotRow x w) := by
  obtain ⟨i0, hi, hz0, hz1, hz2⟩ := info_parts Tryz.infoWord
  have hsz : (Tryz.prog.info? 97).map (·.size) = some 1 := by rw [hi]; simp [hz1]
  have hd := Lib.hid (digs_word x h0 hx)
  rw [← digs_word x h0 hx] at h
  go_enter Tryz.func74, Tryz.ntmps74
  go_wp2_with fail
  refine (make_fresh none 0 0 1 (by omega) (by omega) _).mono ?_
  rintro e w1 ⟨c1, hc1, hc2, rfl, hrow, hb⟩
  rw [zeros_lowd] at hrow
  have hlt := hrow.lt
  go_wp2_with (with_reducible refine wp_copy_words rfl (.tmp 9) (.tmp 10) 93 93 rfl 97 Tryz.underlying93 hsz w.heap.size 0 1 c1 c1 x B c2 ?hd ?hs 97 hrow ?hr ?hc w.heap.size w hb ?hl ?_)
  case hd => rfl
  case hs => rfl
  case hr => exact h.below hb
  case hc => omega
  case hl => exact Nat.le_refl _
  intro w2 HR HB
  have hfin : Hid (OwnN w2 w.heap.size 1 c1 x) := by
    have hr2 := HR.out
    exact ⟨_, hr2, lowd_length _ _ _, hc1, hc1, by omega, by rw [take_lowd _ _ _ _ hc1, hd.out, lowd_one x hx]⟩
  clear HR hrow h
  go_wp2
  go_ret
  exact ⟨_, _, _, rfl, hfin.out, Nat.le_refl _, HB⟩
set_option maxRecDepth 100000 in
set_option maxHeartbeats 400000 in
/-- nat.add of one word and nothing. -/
theorem add_nil (B : Option Addr) (c2 x : Nat) (A : Option Addr) (c : Nat) (w : World) (h : Rd .u64 w B 1 c2 [x]) (h0 : 0 < x) (hx : x < W64) :
    Calls Tryz.prog 56 #[.slice none 0 0, .slice B 1 c2, .slice A 0 c] w (GotRow x w) := by
  have H := Lib.hid (set_one B c2 x w h h0 hx)
  clear h h0 hx
  go_enter Tryz.func56, Tryz.ntmps56
  go_wp2_with fail
  refine H.out.mono ?_
  rintro e w1 ⟨r, n, c1, rfl, h1, h2, h3⟩
  go_wp2
  go_ret
  exact ⟨_, _, _, rfl, h1, h2, h3⟩

theorem row_at {w : World} {g : Nat} {l : List Nat} (h : Row .u64 97 w g l) (j : Nat) (hj : j < l.length) : (∃ u : Nat, w.cell? ⟨g, j, none⟩ = some (.int .u64 (u : Int))) ∧ w.frozen? ⟨g, j, none⟩ = false ∧ g < w.heap.size :=
  ⟨⟨_, h.cell hj⟩, h.free j, h.lt⟩
theorem set_two (l : List Nat) (s d : Nat) (h : 2 ≤ l.length) : ((l.set 0 s).set 1 d).take 2 = [s, d] := by
  match l, h with
  | a :: b :: l, _ => rfl
theorem digs_two (N : Nat) (h : N < W64 + W64) : trimL [N % 18446744073709551616, N / 18446744073709551616] = digs W64 N := by
  have h1 : N < W64 ^ 2 := by unfold W64 at *; omega
  rw [← digs_lowd W64 two_W64 2 N h1]
  have e : lowd W64 2 N = [N % W64, N / W64 % W64] := rfl
  rw [e, Nat.mod_eq_of_lt (show N / W64 < W64 by unfold W64 at *; omega)]
  rfl

set_option maxRecDepth 100000 in
set_option maxHeartbeats 800000 in
/-- nat.add of one word and 1. -/
theorem add_one (A B : Option Addr) (n c c2 N : Nat) (w : World) (h : Rd .u64 w A n c (digs W64 N)) (hN : N < 9223372036854775809) (h2 : Rd .u64 w B 1 c2 [1]) :
    Calls Tryz.prog 56 #[.slice none 0 0, .slice A n c, .slice B 1 c2] w (GotRow (N + 1) w) := by
  rcases Nat.eq_zero_or_pos N with h0 | h0
  · subst h0
    rw [digs_zero] at h
    obtain rfl : n = 0 := h.len.symm
    have H := Lib.hid (add_nil B c2 1 A c w h2 (by omega) (lt_W64' 1 (by omega)))
    clear h h2 hN
    go_enter Tryz.func56, Tryz.ntmps56
    go_wp2_with fail
    refine H.out.mono ?_
    rintro e w1 ⟨r, n, c1, rfl, h1, h2, h3⟩
    go_wp2
    go_ret
    exact ⟨_, _, _, rfl, h1, h2, h3⟩
  · rw [digs_word N h0 (lt_W64' N (by omega))] at h
    obtain rfl : n = 1 := h.len.symm
    have hcap := h.cap
    have hcap2 := h2.cap
    have HA := Lib.hid (fun g cz l w' hrow hl (hb : Below w.heap.size w w') => addVV_one g cz l A B c c2 N 1 ((N + 1) % 18446744073709551616) ((N + 1) / 18446744073709551616) w' hrow hl (h.below hb) (h2.below hb) rfl rfl)
    have HD := Lib.hid (digs_two (N + 1) (by unfold W64; omega))
    generalize (N + 1) % 18446744073709551616 = s at *
    generalize (N + 1) / 18446744073709551616 = d at *
    clear h h2 hN h0
    go_enter Tryz.func56, Tryz.ntmps56
    go_wp2_with fail
    refine (make_fresh none 0 0 2 (by omega) (by omega) _).mono ?_
    rintro e w1 ⟨c1, hc1, hc2, rfl, hrow, hb⟩
    have hz := hb.size
    have i1 : (1 : Int) ≤ (c : Int) := by omega
    have i2 : (1 : Int) ≤ (c2 : Int) := by omega
    have i3 : (1 : Int) ≤ (c1 : Int) := by omega
    go_wp2_with fail
    go_region_held3 (fun _ => True) (trivial) (first | (go_at_call 86; refine (HA.out _ _ _ _ (Box.drew hrow) (by simp; omega) hb.drew).mono ?_; rintro e w2 ⟨rfl, hrow2, hg2⟩; obtain ⟨⟨u, hcell⟩, hfr, hlt2⟩ := row_at hrow2 1 (by simp; omega)))
    have hb2 := below_of_grown hb.drew hg2 hz (Nat.le_refl _)
    have hl2 : ((List.replicate c1 0).set 0 s).length = c1 := by simp
    have hrow3 := Lib.hid (hrow2.set 1 d)
    have hb3 := Lib.hid (hb2.setCell (Nat.le_refl _) (p := ⟨w.heap.size, 1, none⟩) (.int .u64 (d : Int)))
    have ht3 := Lib.hid (set_two (List.replicate c1 0) s d (by simp; omega))
    clear hrow hrow2 hg2 hb hb2
    have hl3 := Lib.hid hl2
    clear hl2
    go_wp2_with fail
    refine (norm_own w.heap.size 2 c1 _ _ hrow3.out (by rw [List.length_set]; exact hl3.out) (by omega) (by omega) (by omega)).mono ?_
    rintro e w3 ⟨⟨m, hm, rfl, hm2⟩, rfl⟩
    have HF : Hid (OwnN _ w.heap.size m c1 (N + 1)) := ⟨_, hrow3.out, by rw [List.length_set]; exact hl3.out, hm, by omega, by omega, by rw [hm2, ht3.out, HD.out]⟩
    clear hm2
    go_wp2
    go_ret
    exact ⟨_, _, _, rfl, HF.out, Nat.le_refl _, hb3.out⟩

set_option maxRecDepth 100000 in
set_option maxHeartbeats 800000 in
/-- nat.sub of one word and 1. -/
theorem sub_one (A B : Option Addr) (n c c2 N : Nat) (w : World) (h : Rd .u64 w A n c (digs W64 N)) (h0 : 0 < N) (hN : N < W64) (h2 : Rd .u64 w B 1 c2 [1]) :
    Calls Tryz.prog 54 #[.slice none 0 0, .slice A n c, .slice B 1 c2] w (GotRow (N - 1) w) := by
  rw [digs_word N h0 hN] at h
  obtain rfl : n = 1 := h.len.symm
  have hcap := h.cap
  have hcap2 := h2.cap
  have HA := Lib.hid (fun g cz l w' hrow hl (hb : Below w.heap.size w w') => subVV_one g cz l A B c c2 N 1 (N - 1) w' hrow hl (h.below hb) (h2.below hb) (by omega) hN)
  have HD : Hid (trimL [N - 1] = digs W64 (N - 1)) := by
    have e := digs_lowd W64 two_W64 1 (N - 1) (by rw [Nat.pow_one]; omega)
    rw [lowd_one (N - 1) (by omega)] at e
    exact e
  generalize N - 1 = s at *
  clear h h2 hN h0
  go_enter Tryz.func54, Tryz.ntmps54
  go_wp2_with fail
  refine (make_fresh none 0 0 1 (by omega) (by omega) _).mono ?_
  rintro e w1 ⟨c1, hc1, hc2, rfl, hrow, hb⟩
  have hz := hb.size
  have i1 : (1 : Int) ≤ (c : Int) := by omega
  have i2 : (1 : Int) ≤ (c2 : Int) := by omega
  have i3 : (1 : Int) ≤ (c1 : Int) := by omega
  go_wp2_with fail
  go_region_held3 (fun _ => True) (trivial) (first | (go_at_call 83; refine (HA.out _ _ _ _ (Box.drew hrow) (by simp; omega) hb.drew).mono ?_; rintro e w2 ⟨rfl, hrow2, hg2⟩))
  have hb2 := Lib.hid (below_of_grown hb.drew hg2 hz (Nat.le_refl _))
  have hrow3 := Lib.hid hrow2
  have hl3 : Hid (((List.replicate c1 0).set 0 s).length = c1) := by unfold Hid; simp
  have ht3 : Hid (((List.replicate c1 0).set 0 s).take 1 = [s]) := by
    unfold Hid
    obtain ⟨c', rfl⟩ : ∃ c', c1 = c' + 1 := ⟨c1 - 1, by omega⟩
    rfl
  clear hrow hrow2 hg2 hb
  go_wp2_with fail
  refine (norm_own w.heap.size 1 c1 _ _ hrow3.out hl3.out (by omega) (by omega) (by omega)).mono ?_
  rintro e w3 ⟨⟨m, hm, rfl, hm2⟩, rfl⟩
  have HF : Hid (OwnN _ w.heap.size m c1 s) := ⟨_, hrow3.out, hl3.out, hm, by omega, by omega, by rw [hm2, ht3.out, HD.out]⟩
  clear hm2
  go_wp2
  go_ret
  exact ⟨_, _, _, rfl, HF.out, Nat.le_refl _, hb2.out⟩
end Go.Proofs.YtbopmkjfmikmdaaGreatDoor
