/- The reference's words of a number: it proves that Words answers them. Conditions: the slices read as digits and words, of at most a million. -/
import Derived.Test.YtdfedhmejilnhaaGreatDoorVal2
import Derived.Test.YtdfedhmejilnhaaGreatDoorSpec4
import Derived.Test.YtdfedhmejilnhaaGreatDoorWords0
namespace Go.Proofs.YtdfedhmejilnhaaGreatDoor
open Go.RowKit

theorem Tryz.infoUint : (Tryz.prog.info? 40).map (fun i => (i.zero, i.size, i.bytes)) = some (some (.int .u64 0), 1, 8) := by kernel_rfl

theorem own_set {w : World} {base n j : Nat} {e : TypeId} {v : Value} {l : List Nat} (h : w.ownsRow base e 1 v n (nums .u64 l)) (hj : j < n) :
    ∃ g cap u, v = .slice (some ⟨g, 0, none⟩) n cap ∧ base ≤ g ∧ g < w.heap.size ∧ n ≤ cap ∧ w.frozen? ⟨g, j, none⟩ = false ∧ w.cell? ⟨g, j, none⟩ = some (.int .u64 ((u : Nat) : Int)) ∧ Hid (∃ hl : j < l.length, u = l[j]) ∧
      ∀ d : Nat, (w.setCell ⟨g, j, none⟩ (.int .u64 (d : Int))).ownsRow base e 1 v n (nums .u64 (l.set j d)) := by
  obtain ⟨h1, ⟨rfl, rfl⟩ | ⟨g, cap, cur, rfl, hg, hB, hn, hm, hs, ht⟩⟩ := h
  · omega
  · have hB' : Box w g e cur := hB
    have hl : l.length = n := by simpa [nums] using h1
    have hc : cur[j]? = some (.int .u64 ((l[j]'(by omega) : Nat) : Int)) := by
      have h2 : cur.toList[j]? = (nums .u64 l)[j]? := by rw [← ht, List.getElem?_take_of_lt (by omega)]
      rw [Array.getElem?_toList] at h2
      rw [h2]
      simp [nums, hl, hj]
    refine ⟨g, cap, l[j]'(by omega), rfl, hg, hB'.lt, hn, hB'.free j, by rw [hB'.cell]; exact hc, ⟨by omega, rfl⟩, fun d => ?_⟩
    refine ⟨by simpa [nums] using h1, .inr ⟨g, cap, cur.setIfInBounds j (.int .u64 (d : Int)), rfl, hg, hB'.set j _, hn, hm, by simpa using hs, ?_⟩⟩
    rw [Array.toList_setIfInBounds, List.take_set, ht]
    simp [nums, List.map_set]

set_option maxRecDepth 100000 in
set_option maxHeartbeats 4000000 in
/-- spec.Words. -/
theorem words_any (A : Option Addr) (n c a : Nat) (w : World) (h : Rd .i64 w A n c (digs 65536 a)) (hn : n ≤ 1000000) :
    Calls Tryz.prog 49 #[.slice A n c] w (Got .u64 (lowd W64 ((n + 3) / 4) a) w) := by
  obtain ⟨i0, hi, hz0, hz1, hz2⟩ := info_parts Tryz.infoUint
  go_enter Tryz.func49, Tryz.ntmps49
  go_wp2
  go_loopw [3, 4, 5, 9] (fun v _ _ k wr => ∃ (i m : Nat), i ≤ n ∧ Hid (m = (i + 3) / 4) ∧ k = .int .i64 (i : Int) ∧ wr.ownsRow w.heap.size 40 1 v m (nums .u64 (lowd W64 m (a % 65536 ^ i))) ∧ Below w.heap.size w wr) (fun _ _ _ k _ => n - (intOf k).toNat)
  case atStart =>
    exact ⟨0, 0, by omega, rfl, rfl, World.ownsRow_made w #[] 0 (Nat.le_refl _) (by simp [maxLen]) rfl, (Below.refl _ _).alloc (Nat.le_refl _) _⟩
  case round =>
    obtain ⟨i, m, hin, hm, rfl, hown, hb⟩ := hrel
    have hsz := hb.size
    by_cases c1 : i < n
    · obtain ⟨b1, o1, rfl, hb1, d, hd, hde, hc⟩ := digit_at (h.below hb) c1
      obtain ⟨r, hr⟩ : ∃ r, r = i % 4 := ⟨_, rfl⟩
      obtain ⟨q, hq⟩ : ∃ q, q = i / 4 := ⟨_, rfl⟩
      have hr2 : (i : Int) % 4 = (r : Int) := by omega
      have hq2 : (i : Int) / 4 = (q : Int) := by omega
      have hr3 : (16 : Int) * (r : Int) = ((16 * r : Nat) : Int) := by omega
      have hr4 : r < 4 := by omega
      rcases (show r = 0 ∨ r = 1 ∨ r = 2 ∨ r = 3 by omega) with c5 | c5 | c5 | c5
      · subst c5
        have hr6 : (i : Int) % 4 = 0 := hr2
        have hm2 : Hid ((m + 1) = (i + 1 + 3) / 4) := by have := hm.out; unfold Hid; omega
        have hqm : q = m := by have := hm.out; omega
        have hmn : q ≤ n := by omega
        have HIE : Hid (i = 4 * q + 0) := by unfold Hid; omega
        subst hqm
        clear hr hq
        go_wp2_with (at_builtin; refine wp_append_num wr .u64 _ rfl (.tmp 17) (.tmp 18) 22 rfl w.heap.size 40 i0 Tryz.underlying22 hi hz0 hz1 (by omega) _ _ _ rfl hown _ rfl rfl 0 rfl (by omega) (by omega) ?_)
        intro v' w1 hown' hbel
        have hown2 := hown'
        have hie : i = 4 * q := HIE.out
        rw [hie, words_new] at hown2
        obtain ⟨g, cap, u, rfl, hg, hgl, hcap, hfr, hce, ⟨hul, hue⟩, hset⟩ := own_set hown2 (j := q) (by omega)
        rw [lowd_get] at hue
        have hu2 : u < 65536 ^ 0 := by have : a % 65536 ^ (4 * q) / W64 ^ q % W64 < 65536 ^ 0 := words_last a q 0; rw [← hue] at this; exact this
        obtain ⟨v, hve⟩ : ∃ v, v = u + d * 65536 ^ 0 := ⟨_, rfl⟩
        have hv : bits BinOp.or IntKind.u64 (u : Int) ((d : Int)) = (v : Int) := by
          have := or_digit u d 0 (by omega) hu2 hd
          rw [hve, ← this]
          simp
        have hs := hset v
        have hst : (lowd W64 (q + 1) (a % 65536 ^ (4 * q))).set q (u + d * 65536 ^ 0) = lowd W64 (q + 1) (a % 65536 ^ (4 * q + 1)) := words_step a q 0 d u (by omega) (show d = a / 65536 ^ (4 * q) % 65536 by rw [← hie]; exact hde.out) hue
        rw [show 4 * q + 1 = i + 1 by omega] at hst
        rw [hve, hst, ← hve] at hs
        have HS := Lib.hid hs
        have HB := Lib.hid ((hb.trans hbel).setCell hg (p := ⟨g, q, none⟩) (.int .u64 (v : Int)))
        clear hset hs hst hown hb hm hr2 hr3 hr4 hue hve hde hie hown' hown2 hbel
        go_wp2_with fail
        go_region
        all_goals go_wp2
        all_goals go_roundw
        case rel => exact ⟨i + 1, q + 1, by omega, hm2, by go_num, HS.out, HB.out.drew⟩
        case measure => simp [intOf]; omega
      · subst c5
        have hr6 : (i : Int) % 4 = 1 := hr2
        have hm2 : Hid (m = (i + 1 + 3) / 4) := by have := hm.out; unfold Hid; omega
        have hqm : m = q + 1 := by have := hm.out; omega
        have hmn : m ≤ n := by have := hm.out; omega
        have hie : i = 4 * q + 1 := by omega
        subst hqm
        rw [hie] at hown
        obtain ⟨g, cap, u, rfl, hg, hgl, hcap, hfr, hce, ⟨hul, hue⟩, hset⟩ := own_set hown (j := q) (by omega)
        rw [lowd_get] at hue
        have hu2 : u < 65536 ^ 1 := by have := words_last a q 1; rw [← hue] at this; exact this
        obtain ⟨v, hve⟩ : ∃ v, v = u + d * 65536 ^ 1 := ⟨_, rfl⟩
        have hv : bits BinOp.or IntKind.u64 (u : Int) ((d : Int) * 65536) = (v : Int) := by
          have := or_digit u d 1 (by omega) hu2 hd
          rw [hve, ← this]
          simp
        have hs := hset v
        have hst := words_step a q 1 d u (by omega) (by rw [← hie]; exact hde.out) (hue)
        rw [show 4 * q + 1 + 1 = i + 1 by omega] at hst
        rw [hve, hst, ← hve] at hs
        have HS := Lib.hid hs
        have HB := Lib.hid ((hb).setCell hg (p := ⟨g, q, none⟩) (.int .u64 (v : Int)))
        clear hset hs hst hown hb hr hq hm hr2 hr3 hr4 hue hve hde hie
        go_wp2_with fail
        go_region
        all_goals go_wp2
        all_goals go_roundw
        case rel => exact ⟨i + 1, q + 1, by omega, hm2, by go_num, HS.out, HB.out.drew⟩
        case measure => simp [intOf]; omega
      · subst c5
        have hr6 : (i : Int) % 4 = 2 := hr2
        have hm2 : Hid (m = (i + 1 + 3) / 4) := by have := hm.out; unfold Hid; omega
        have hqm : m = q + 1 := by have := hm.out; omega
        have hmn : m ≤ n := by have := hm.out; omega
        have hie : i = 4 * q + 2 := by omega
        subst hqm
        rw [hie] at hown
        obtain ⟨g, cap, u, rfl, hg, hgl, hcap, hfr, hce, ⟨hul, hue⟩, hset⟩ := own_set hown (j := q) (by omega)
        rw [lowd_get] at hue
        have hu2 : u < 65536 ^ 2 := by have := words_last a q 2; rw [← hue] at this; exact this
        obtain ⟨v, hve⟩ : ∃ v, v = u + d * 65536 ^ 2 := ⟨_, rfl⟩
        have hv : bits BinOp.or IntKind.u64 (u : Int) ((d : Int) * 4294967296) = (v : Int) := by
          have := or_digit u d 2 (by omega) hu2 hd
          rw [hve, ← this]
          simp
        have hs := hset v
        have hst := words_step a q 2 d u (by omega) (by rw [← hie]; exact hde.out) (hue)
        rw [show 4 * q + 2 + 1 = i + 1 by omega] at hst
        rw [hve, hst, ← hve] at hs
        have HS := Lib.hid hs
        have HB := Lib.hid ((hb).setCell hg (p := ⟨g, q, none⟩) (.int .u64 (v : Int)))
        clear hset hs hst hown hb hr hq hm hr2 hr3 hr4 hue hve hde hie
        go_wp2_with fail
        go_region
        all_goals go_wp2
        all_goals go_roundw
        case rel => exact ⟨i + 1, q + 1, by omega, hm2, by go_num, HS.out, HB.out.drew⟩
        case measure => simp [intOf]; omega
      · subst c5
        have hr6 : (i : Int) % 4 = 3 := hr2
        have hm2 : Hid (m = (i + 1 + 3) / 4) := by have := hm.out; unfold Hid; omega
        have hqm : m = q + 1 := by have := hm.out; omega
        have hmn : m ≤ n := by have := hm.out; omega
        have hie : i = 4 * q + 3 := by omega
        subst hqm
        rw [hie] at hown
        obtain ⟨g, cap, u, rfl, hg, hgl, hcap, hfr, hce, ⟨hul, hue⟩, hset⟩ := own_set hown (j := q) (by omega)
        rw [lowd_get] at hue
        have hu2 : u < 65536 ^ 3 := by have := words_last a q 3; rw [← hue] at this; exact this
        obtain ⟨v, hve⟩ : ∃ v, v = u + d * 65536 ^ 3 := ⟨_, rfl⟩
        have hv : bits BinOp.or IntKind.u64 (u : Int) ((d : Int) * 281474976710656) = (v : Int) := by
          have := or_digit u d 3 (by omega) hu2 hd
          rw [hve, ← this]
          simp
        have hs := hset v
        have hst := words_step a q 3 d u (by omega) (by rw [← hie]; exact hde.out) (hue)
        rw [show 4 * q + 3 + 1 = i + 1 by omega] at hst
        rw [hve, hst, ← hve] at hs
        have HS := Lib.hid hs
        have HB := Lib.hid ((hb).setCell hg (p := ⟨g, q, none⟩) (.int .u64 (v : Int)))
        clear hset hs hst hown hb hr hq hm hr2 hr3 hr4 hue hve hde hie
        go_wp2_with fail
        go_region
        all_goals go_wp2
        all_goals go_roundw
        case rel => exact ⟨i + 1, q + 1, by omega, hm2, by go_num, HS.out, HB.out.drew⟩
        case measure => simp [intOf]; omega
    · have ha := (digs_length_le_iff 65536 (by omega) a n).1 (by rw [h.len]; exact Nat.le_refl _)
      obtain rfl : i = n := by omega
      rw [Nat.mod_eq_of_lt ha, hm.out] at hown
      clear hm
      go_wp2
      obtain ⟨A', c', rfl⟩ := own_form hown
      go_ret
      exact ⟨_, _, _, rfl, rd_own hown, hb⟩
end Go.Proofs.YtdfedhmejilnhaaGreatDoor
