/- It proves FnUint64Val: of an integer of at most 40 words the package tells it as a uint64, and that it is exact, just where it fits; of other values the statement says nothing. No condition. The card's tie is given. -/
import Derived.Test.YtdfedhmejilnhaaGreatDoorRows
import Derived.Test.YtdfedhmejilnhaaGreatDoorCards
import Derived.Test.YtdfedhmejilnhaaGreatDoorTie
import Derived.Test.YtdfedhmejilnhaaGreatDoorLawWhole
import Derived.Test.YtdfedhmejilnhaaGreatDoorImpl3
import Derived.Test.YtdfedhmejilnhaaGreatDoorImpl4
import Derived.Test.YtdfedhmejilnhaaGreatDoorSpec6
import Derived.WalkKit
import Derived.ProofKit
import Derived.OpenShut
import Derived.Below
import Derived.OpenVars
import Derived.LaidMore
import Derived.Stop.Joined
import Derived.SevenTiedAt
import Derived.ChangeMaps5
namespace Go.Proofs.YtdfedhmejilnhaaGreatDoor.fnUint64Val
open Go.ChangeShapes Go.WideShapes Go.ChangeAt Go.RowKit
set_option linter.unusedVariables false

theorem own : ownKnob Tryz.prog.godebug = none := by kernel_rfl
theorem laidOut : laidOutB Tryz.prog = true := by kernel_rfl

/-! ### THE WALK -/
set_option maxRecDepth 100000 in
set_option maxHeartbeats 3200000 in
theorem walk (x0 : Value) (w : World) (w0 : IsValue w x0) :
    Calls Tryz.prog 3 #[x0] w fun e w' => e = .returned (.bool true) ∧ Below w.heap.size w w' := by
  obtain ⟨k, t, s, neg, A, n, c, l, A2, n2, c2, neg3, A3, n3, c3, A4, n4, c4, rfl, hr, hl⟩ := w0
  have HW := Lib.hid (fun w' (hb : Below w.heap.size w w') => lawWhole_any k t s neg A n c l A2 n2 c2 neg3 A3 n3 c3 A4 n4 c4 w' (hr.below hb) hl)
  have HS := Lib.hid (fun w' (hb : Below w.heap.size w w') (hn : n ≤ 40) => uint64_impl t s neg A n c l A2 n2 c2 neg3 A3 n3 c3 A4 n4 c4 w' (hr.below hb) hl (by omega))
  have HD := Lib.hid (fun hn => digs_of_words l n hr.len hl hn)
  clear hr hl
  generalize val W64 l = N at *
  go_enter Tryz.func3, Tryz.ntmps3
  go_wp2_with fail
  have hb0 : Below w.heap.size w (w.alloc (.cells #[.int .i64 k, .bool t, .string s, .bool neg, .slice A n c, .slice A2 n2 c2, .bool neg3, .slice A3 n3 c3, .slice A4 n4 c4] 26)) := (Below.refl _ _).alloc (Nat.le_refl _) _
  have hX0 : Box (w.alloc (.cells #[.int .i64 k, .bool t, .string s, .bool neg, .slice A n c, .slice A2 n2 c2, .bool neg3, .slice A3 n3 c3, .slice A4 n4 c4] 26)) w.heap.size 26 #[.int .i64 k, .bool t, .string s, .bool neg, .slice A n c, .slice A2 n2 c2, .bool neg3, .slice A3 n3 c3, .slice A4 n4 c4] := Box.new _ _ _ _ rfl
  refine (fits1_any k t s neg A n c A2 n2 c2 neg3 A3 n3 c3 A4 n4 c4 _).mono ?_
  rintro e w1 ⟨fit, rfl, hb1⟩
  have hX1 := hX0.below hb1 hX0.lt
  have hbw1 := hb0.trans (hb1.mono hb0.size)
  obtain ⟨k0, k1, k2, k3, k4, k5, k6, k7, k8, hlt1⟩ := hX1.nine
  clear hb0 hb1 hX0
  cases fit
  · go_wp2
    go_ret
    exact ⟨rfl, hbw1⟩
  · go_wp2_with fail
    refine (HW.out _ hbw1).mono ?_
    rintro e w2 ⟨nb, A5, m, c5, A6, m2, c6, ok, rfl, hb2, hok⟩
    have hX2 := hX1.below hb2 hX1.lt
    have hbw2 := hbw1.trans (hb2.mono hbw1.size)
    clear k0 k1 k2 k3 k4 k5 k6 k7 k8
    obtain ⟨k0, k1, k2, k3, k4, k5, k6, k7, k8, hlt2⟩ := hX2.nine
    clear hX1 hb2
    cases ok
    · clear hok
      go_wp2
      go_ret
      exact ⟨rfl, hbw2.alloc hbw2.size _⟩
    · obtain ⟨rfl, hn, hnb, hr5⟩ := hok rfl
      have HNB := Lib.hid hnb
      clear hok hnb
      go_wp2_with fail
      have hK : Kept w #[.int .i64 3, .bool t, .string s, .bool neg, .slice A n c, .slice A2 n2 c2, .bool neg3, .slice A3 n3 c3, .slice A4 n4 c4] (w2.alloc (.cells #[.bool nb, .slice A5 m c5, .slice A6 m2 c6] 31)) := ⟨hX2.alloc _, hbw2.alloc hbw2.size _⟩
      have hT : Box (w2.alloc (.cells #[.bool nb, .slice A5 m c5, .slice A6 m2 c6] 31)) w2.heap.size 31 #[.bool nb, .slice A5 m c5, .slice A6 m2 c6] := Box.new _ _ _ _ rfl
      have hr6 := hr5.alloc (.cells #[.bool nb, .slice A5 m c5, .slice A6 m2 c6] 31)
      clear k0 k1 k2 k3 k4 k5 k6 k7 k8 hX2 hbw2 hr5
      generalize w2.alloc (.cells #[.bool nb, .slice A5 m c5, .slice A6 m2 c6] 31) = w3 at *
      have hS0 := cells12 hK hT
      have HK := Lib.hid hK
      have HT := Lib.hid hT
      have HR := Lib.hid hr6
      clear hK hT hr6
      have hm : m ≤ 10000 := by rw [← HR.out.len]; exact (HD.out hn).2.2
      have HS2 := Lib.hid (fun w' hb => HS.out w' hb hn)
      rw [← HNB.out] at HS2
      obtain ⟨ex, hex⟩ : ∃ ex, ex = (!nb && decide (N < W64)) := ⟨_, rfl⟩
      rw [← hex] at HS2
      have HEX := Lib.hid hex
      clear hex
      obtain ⟨j0, j1, j2, p0, p1, p2, p3, p4, p5, p6, p7, p8⟩ := hS0
      go_wp2_with fail
      refine (HS2.out _ HK.out.2).mono ?_
      rintro e w4 ⟨u, rfl, hu, hux, hb4⟩
      have HU := Lib.hid hux
      have hK4 := HK.out.below hb4
      have hT4 := HT.out.below hb4 HT.out.lt
      have hR4 := Lib.hid (HR.out.below hb4)
      clear j0 j1 j2 p0 p1 p2 p3 p4 p5 p6 p7 p8 hux
      have hS4 := cells12 hK4 hT4
      have HS4 := Lib.hid hS4
      obtain ⟨j0, j1, j2, p0, p1, p2, p3, p4, p5, p6, p7, p8⟩ := hS4
      go_wp2_with fail
      have hex := HEX.out
      clear j0 j1 j2 p0 p1 p2 p3 p4 p5 p6 p7 p8
      cases nb
      · by_cases hN : N < W64
        · have he : ex = true := by rw [hex, decide_eq_true hN]; rfl
          clear HEX hex
          subst he
          have hue := HU.out rfl
          subst hue
          have hbl : (decide (((bl u : Nat) : Int) ≤ 64)) = true := decide_eq_true (by have := (bl_le u 64).2 hN; omega)
          refine wp_region_held_drew (S := fun w' => w'.cell? ⟨w2.heap.size, 0, none⟩ = some (.bool false) ∧ w'.cell? ⟨w2.heap.size, 1, none⟩ = some (.slice A5 m c5) ∧ w'.cell? ⟨w2.heap.size, 2, none⟩ = some (.slice A6 m2 c6) ∧ w'.cell? ⟨w.heap.size, 0, none⟩ = some (.int .i64 3) ∧ w'.cell? ⟨w.heap.size, 1, none⟩ = some (.bool t) ∧ w'.cell? ⟨w.heap.size, 2, none⟩ = some (.string s) ∧ w'.cell? ⟨w.heap.size, 3, none⟩ = some (.bool neg) ∧ w'.cell? ⟨w.heap.size, 4, none⟩ = some (.slice A n c) ∧ w'.cell? ⟨w.heap.size, 5, none⟩ = some (.slice A2 n2 c2) ∧ w'.cell? ⟨w.heap.size, 6, none⟩ = some (.bool neg3) ∧ w'.cell? ⟨w.heap.size, 7, none⟩ = some (.slice A3 n3 c3) ∧ w'.cell? ⟨w.heap.size, 8, none⟩ = some (.slice A4 n4 c4)) (by kernel_rfl) HS4.out (fun hHeld => ?_)
          refine wpAnyH_take (i := 0) (oi := _) (v := .bool true) rfl (by kernel_rfl) (by kernel_rfl) (by kernel_rfl) (fun _ _ _ h => h) (Or.inl ⟨by kernel_rfl, ?_⟩) (by assumption) ?_
          · (intro w hSw; (try dsimp only at hSw); go_simp)
          try simp only [Act.put, List.setIfInBounds_toArray]
          refine wpAnyH_take (i := 1) (oi := _) (v := .pointer (some ⟨w2.heap.size, 0, none⟩)) rfl (by kernel_rfl) (by kernel_rfl) (by kernel_rfl) (fun _ _ _ h => h) (Or.inl ⟨by kernel_rfl, ?_⟩) (by assumption) ?_
          · (intro w hSw; (try dsimp only at hSw); go_simp)
          try simp only [Act.put]
          refine wpAnyH_take (i := 2) (oi := _) (v := .bool false) rfl (by kernel_rfl) (by kernel_rfl) (by kernel_rfl) (fun _ _ _ h => h) (Or.inl ⟨by kernel_rfl, ?_⟩) (by assumption) ?_
          · (intro w hSw; (try dsimp only at hSw); go_simp)
          try simp only [Act.put]
          refine wpAnyH_take (i := 3) (oi := _) (v := .bool true) rfl (by kernel_rfl) (by kernel_rfl) (by kernel_rfl) (fun _ _ _ h => h) (Or.inl ⟨by kernel_rfl, ?_⟩) (by assumption) ?_
          · (intro w hSw; (try dsimp only at hSw); go_simp)
          try simp only [Act.put]
          refine wpAnyH_take (i := 4) (oi := _) (v := .bool true) rfl (by kernel_rfl) (by kernel_rfl) (by kernel_rfl) (fun _ _ _ h => h) (Or.inl ⟨by kernel_rfl, ?_⟩) (by assumption) ?_
          · (intro w hSw; (try dsimp only at hSw); go_simp)
          try simp only [Act.put]
          refine wpAnyH_take (i := 5) (oi := _) (v := .pointer (some ⟨w2.heap.size, 1, none⟩)) rfl (by kernel_rfl) (by kernel_rfl) (by kernel_rfl) (fun _ _ _ h => h) (Or.inl ⟨by kernel_rfl, ?_⟩) (by assumption) ?_
          · (intro w hSw; (try dsimp only at hSw); go_simp)
          try simp only [Act.put]
          refine wpAnyH_take (i := 6) (oi := _) (v := .slice A5 m c5) rfl (by kernel_rfl) (by kernel_rfl) (by kernel_rfl) (fun _ _ _ h => h) (Or.inl ⟨by kernel_rfl, ?_⟩) (by assumption) ?_
          · (intro w hSw; (try dsimp only at hSw); go_simp)
          try simp only [Act.put]
          refine wpAnyH_ready (rs := [7]) (by kernel_rfl) (by simp) ?_
          refine AllReadyH.cons (o := _) rfl (fun K hK => ?_) AllReadyH.nil
          go_simp
          refine (len_any A5 m c5 u _ hR4.out.drew (by omega)).mono ?_
          rintro e w5 ⟨rfl, rfl⟩
          go_wp2_with fail
          refine hK.out _ _ HS4.out (fun hHeld => ?_)
          clear hK K
          refine wpAnyH_take (i := 8) (oi := _) (v := .bool true) rfl (by kernel_rfl) (by kernel_rfl) (by kernel_rfl) (fun _ _ _ h => h) (Or.inl ⟨by kernel_rfl, ?_⟩) (by assumption) ?_
          · (intro w hSw; (try dsimp only at hSw); go_simp)
          try simp only [Act.put, List.setIfInBounds_toArray]
          refine wpAnyH_take (i := 9) (oi := _) (v := .bool true) rfl (by kernel_rfl) (by kernel_rfl) (by kernel_rfl) (fun _ _ _ h => h) (Or.inl ⟨by kernel_rfl, ?_⟩) (by assumption) ?_
          · (intro w hSw; (try dsimp only at hSw); go_simp)
          try simp only [Act.put]
          refine wpAnyH_take (i := 10) (oi := _) (v := .bool true) rfl (by kernel_rfl) (by kernel_rfl) (by kernel_rfl) (fun _ _ _ h => h) (Or.inl ⟨by kernel_rfl, ?_⟩) (by assumption) ?_
          · (intro w hSw; (try dsimp only at hSw); go_simp)
          try simp only [Act.put]
          refine wpAnyH_take (i := 11) (oi := _) (v := .bool true) rfl (by kernel_rfl) (by kernel_rfl) (by kernel_rfl) (fun _ _ _ h => h) (Or.inl ⟨by kernel_rfl, ?_⟩) (by assumption) ?_
          · (intro w hSw; (try dsimp only at hSw); go_simp)
          try simp only [Act.put]
          refine wpAnyH_take (i := 12) (oi := _) (v := .bool true) rfl (by kernel_rfl) (by kernel_rfl) (by kernel_rfl) (fun _ _ _ h => h) (Or.inl ⟨by kernel_rfl, ?_⟩) (by assumption) ?_
          · (intro w hSw; (try dsimp only at hSw); go_simp)
          try simp only [Act.put]
          refine wpAnyH_take (i := 13) (oi := _) (v := .bool false) rfl (by kernel_rfl) (by kernel_rfl) (by kernel_rfl) (fun _ _ _ h => h) (Or.inl ⟨by kernel_rfl, ?_⟩) (by assumption) ?_
          · (intro w hSw; (try dsimp only at hSw); go_simp)
          try simp only [Act.put]
          refine wpAnyH_take (i := 14) (oi := _) (v := .bool false) rfl (by kernel_rfl) (by kernel_rfl) (by kernel_rfl) (fun _ _ _ h => h) (Or.inl ⟨by kernel_rfl, ?_⟩) (by assumption) ?_
          · (intro w hSw; (try dsimp only at hSw); go_simp)
          try simp only [Act.put]
          refine wpAnyH_take (i := 15) (oi := _) (v := .int .u64 (u : Int)) rfl (by kernel_rfl) (by kernel_rfl) (by kernel_rfl) (fun _ _ _ h => h) (Or.inl ⟨by kernel_rfl, ?_⟩) (by assumption) ?_
          · (intro w hSw; (try dsimp only at hSw); go_simp)
          try simp only [Act.put]
          refine wpAnyH_take (i := 18) (oi := _) (v := .pointer (some ⟨w2.heap.size, 1, none⟩)) rfl (by kernel_rfl) (by kernel_rfl) (by kernel_rfl) (fun _ _ _ h => h) (Or.inl ⟨by kernel_rfl, ?_⟩) (by assumption) ?_
          · (intro w hSw; (try dsimp only at hSw); go_simp)
          try simp only [Act.put]
          refine wpAnyH_take (i := 19) (oi := _) (v := .slice A5 m c5) rfl (by kernel_rfl) (by kernel_rfl) (by kernel_rfl) (fun _ _ _ h => h) (Or.inl ⟨by kernel_rfl, ?_⟩) (by assumption) ?_
          · (intro w hSw; (try dsimp only at hSw); go_simp)
          try simp only [Act.put]
          refine wpAnyH_ready (rs := [16]) (by kernel_rfl) (by simp) ?_
          refine AllReadyH.cons (o := _) rfl (fun K hK => ?_) AllReadyH.nil
          go_simp
          have hK6 := (hK4.alloc (.cells #[.int .u64 (u : Int)] 40)).drew
          have hT6 := (hT4.alloc (.cells #[.int .u64 (u : Int)] 40)).drew
          have hR6 := (hR4.out.alloc (.cells #[.int .u64 (u : Int)] 40)).drew
          refine hK.out _ _ (cells12 hK6 hT6) (fun hHeld => ?_)
          clear hK K
          refine wpAnyH_ready (rs := [17]) (by kernel_rfl) (by simp) ?_
          refine AllReadyH.cons (o := _) rfl (fun K hK => ?_) AllReadyH.nil
          go_simp
          refine (of_any _ 1 1 [u] _ ((rd_new w4 .u64 u 40 _ rfl).drew) (by omega) (by intro d hd; simp at hd; subst hd; exact hu)).mono ?_
          rw [val_one]
          rintro e w7 ⟨A7, m7, c7, rfl, hr7, hb7⟩
          have hK7 := hK6.below hb7
          have hT7 := hT6.below hb7 hT6.lt
          have hR7 := hR6.below hb7
          have hm7 : m7 ≤ 10000 := by rw [← hr7.len]; exact (HD.out hn).2.2
          go_wp2_with fail
          refine hK.out _ _ (cells12 hK7 hT7) (fun hHeld => ?_)
          clear hK K
          refine wpAnyH_ready (rs := [20]) (by kernel_rfl) (by simp) ?_
          refine AllReadyH.cons (o := _) rfl (fun K hK => ?_) AllReadyH.nil
          go_simp
          have hcmp := cmp_any A7 m7 c7 u A5 m c5 u _ hr7 hR7 (by omega) (by omega)
          rw [cmpN_eq] at hcmp
          refine hcmp.mono ?_
          rintro e w8 ⟨rfl, mm, rfl⟩
          have hK8 := hK7.below (below_drewN (Below.refl _ _) mm)
          have hT8 := hT7.drewN mm
          go_wp2_with fail
          refine hK.out _ _ (cells12 hK8 hT8) (fun hHeld => ?_)
          clear hK K
          refine wpAnyH_take (i := 21) (oi := _) (v := .bool true) rfl (by kernel_rfl) (by kernel_rfl) (by kernel_rfl) (fun _ _ _ h => h) (Or.inl ⟨by kernel_rfl, ?_⟩) (by assumption) ?_
          · (intro w hSw; (try dsimp only at hSw); go_simp)
          try simp only [Act.put, List.setIfInBounds_toArray]
          refine wpAnyH_take (i := 22) (oi := _) (v := .bool true) rfl (by kernel_rfl) (by kernel_rfl) (by kernel_rfl) (fun _ _ _ h => h) (Or.inl ⟨by kernel_rfl, ?_⟩) (by assumption) ?_
          · (intro w hSw; (try dsimp only at hSw); go_simp)
          try simp only [Act.put]
          refine wpAnyH_take (i := 23) (oi := _) (v := .bool true) rfl (by kernel_rfl) (by kernel_rfl) (by kernel_rfl) (fun _ _ _ h => h) (Or.inl ⟨by kernel_rfl, ?_⟩) (by assumption) ?_
          · (intro w hSw; (try dsimp only at hSw); go_simp)
          try simp only [Act.put]
          refine wpAnyH_ready (rs := [24]) (by kernel_rfl) (by simp) ?_
          refine AllReadyH.cons (o := _) rfl (fun K hK => ?_) AllReadyH.nil
          go_simp
          refine hK.out _ _ hHeld (fun hHeld2 => ?_)
          clear hK K
          refine wpAnyH_done (by kernel_rfl) ?_ _
          go_wp2
          go_ret
          exact ⟨rfl, hK8.2⟩
        · have he : ex = false := by rw [hex, decide_eq_false hN]; rfl
          clear HEX hex
          subst he
          have hbl : (decide (((bl N : Nat) : Int) ≤ 64)) = false := decide_eq_false (fun hh => hN ((bl_le N 64).1 (by omega)))
          refine wp_region_held_drew (S := fun w' => w'.cell? ⟨w2.heap.size, 0, none⟩ = some (.bool false) ∧ w'.cell? ⟨w2.heap.size, 1, none⟩ = some (.slice A5 m c5) ∧ w'.cell? ⟨w2.heap.size, 2, none⟩ = some (.slice A6 m2 c6) ∧ w'.cell? ⟨w.heap.size, 0, none⟩ = some (.int .i64 3) ∧ w'.cell? ⟨w.heap.size, 1, none⟩ = some (.bool t) ∧ w'.cell? ⟨w.heap.size, 2, none⟩ = some (.string s) ∧ w'.cell? ⟨w.heap.size, 3, none⟩ = some (.bool neg) ∧ w'.cell? ⟨w.heap.size, 4, none⟩ = some (.slice A n c) ∧ w'.cell? ⟨w.heap.size, 5, none⟩ = some (.slice A2 n2 c2) ∧ w'.cell? ⟨w.heap.size, 6, none⟩ = some (.bool neg3) ∧ w'.cell? ⟨w.heap.size, 7, none⟩ = some (.slice A3 n3 c3) ∧ w'.cell? ⟨w.heap.size, 8, none⟩ = some (.slice A4 n4 c4)) (by kernel_rfl) HS4.out (fun hHeld => ?_)
          refine wpAnyH_take (i := 0) (oi := _) (v := .bool false) rfl (by kernel_rfl) (by kernel_rfl) (by kernel_rfl) (fun _ _ _ h => h) (Or.inl ⟨by kernel_rfl, ?_⟩) (by assumption) ?_
          · (intro w hSw; (try dsimp only at hSw); go_simp)
          try simp only [Act.put, List.setIfInBounds_toArray]
          refine wpAnyH_take (i := 1) (oi := _) (v := .pointer (some ⟨w2.heap.size, 0, none⟩)) rfl (by kernel_rfl) (by kernel_rfl) (by kernel_rfl) (fun _ _ _ h => h) (Or.inl ⟨by kernel_rfl, ?_⟩) (by assumption) ?_
          · (intro w hSw; (try dsimp only at hSw); go_simp)
          try simp only [Act.put]
          refine wpAnyH_take (i := 2) (oi := _) (v := .bool false) rfl (by kernel_rfl) (by kernel_rfl) (by kernel_rfl) (fun _ _ _ h => h) (Or.inl ⟨by kernel_rfl, ?_⟩) (by assumption) ?_
          · (intro w hSw; (try dsimp only at hSw); go_simp)
          try simp only [Act.put]
          refine wpAnyH_take (i := 3) (oi := _) (v := .bool true) rfl (by kernel_rfl) (by kernel_rfl) (by kernel_rfl) (fun _ _ _ h => h) (Or.inl ⟨by kernel_rfl, ?_⟩) (by assumption) ?_
          · (intro w hSw; (try dsimp only at hSw); go_simp)
          try simp only [Act.put]
          refine wpAnyH_take (i := 4) (oi := _) (v := .bool true) rfl (by kernel_rfl) (by kernel_rfl) (by kernel_rfl) (fun _ _ _ h => h) (Or.inl ⟨by kernel_rfl, ?_⟩) (by assumption) ?_
          · (intro w hSw; (try dsimp only at hSw); go_simp)
          try simp only [Act.put]
          refine wpAnyH_take (i := 5) (oi := _) (v := .pointer (some ⟨w2.heap.size, 1, none⟩)) rfl (by kernel_rfl) (by kernel_rfl) (by kernel_rfl) (fun _ _ _ h => h) (Or.inl ⟨by kernel_rfl, ?_⟩) (by assumption) ?_
          · (intro w hSw; (try dsimp only at hSw); go_simp)
          try simp only [Act.put]
          refine wpAnyH_take (i := 6) (oi := _) (v := .slice A5 m c5) rfl (by kernel_rfl) (by kernel_rfl) (by kernel_rfl) (fun _ _ _ h => h) (Or.inl ⟨by kernel_rfl, ?_⟩) (by assumption) ?_
          · (intro w hSw; (try dsimp only at hSw); go_simp)
          try simp only [Act.put]
          refine wpAnyH_ready (rs := [7]) (by kernel_rfl) (by simp) ?_
          refine AllReadyH.cons (o := _) rfl (fun K hK => ?_) AllReadyH.nil
          go_simp
          refine (len_any A5 m c5 N _ hR4.out.drew (by omega)).mono ?_
          rintro e w5 ⟨rfl, rfl⟩
          go_wp2_with fail
          refine hK.out _ _ HS4.out (fun hHeld => ?_)
          clear hK K
          refine wpAnyH_take (i := 8) (oi := _) (v := .bool false) rfl (by kernel_rfl) (by kernel_rfl) (by kernel_rfl) (fun _ _ _ h => h) (Or.inl ⟨by kernel_rfl, ?_⟩) (by assumption) ?_
          · (intro w hSw; (try dsimp only at hSw); go_simp)
          try simp only [Act.put, List.setIfInBounds_toArray]
          refine wpAnyH_take (i := 9) (oi := _) (v := .bool false) rfl (by kernel_rfl) (by kernel_rfl) (by kernel_rfl) (fun _ _ _ h => h) (Or.inl ⟨by kernel_rfl, ?_⟩) (by assumption) ?_
          · (intro w hSw; (try dsimp only at hSw); go_simp)
          try simp only [Act.put]
          refine wpAnyH_take (i := 10) (oi := _) (v := .bool true) rfl (by kernel_rfl) (by kernel_rfl) (by kernel_rfl) (fun _ _ _ h => h) (Or.inl ⟨by kernel_rfl, ?_⟩) (by assumption) ?_
          · (intro w hSw; (try dsimp only at hSw); go_simp)
          try simp only [Act.put]
          refine wpAnyH_take (i := 11) (oi := _) (v := .bool true) rfl (by kernel_rfl) (by kernel_rfl) (by kernel_rfl) (fun _ _ _ h => h) (Or.inl ⟨by kernel_rfl, ?_⟩) (by assumption) ?_
          · (intro w hSw; (try dsimp only at hSw); go_simp)
          try simp only [Act.put]
          refine wpAnyH_take (i := 12) (oi := _) (v := .bool false) rfl (by kernel_rfl) (by kernel_rfl) (by kernel_rfl) (fun _ _ _ h => h) (Or.inl ⟨by kernel_rfl, ?_⟩) (by assumption) ?_
          · (intro w hSw; (try dsimp only at hSw); go_simp)
          try simp only [Act.put]
          refine wpAnyH_take (i := 13) (oi := _) (v := .bool true) rfl (by kernel_rfl) (by kernel_rfl) (by kernel_rfl) (fun _ _ _ h => h) (Or.inl ⟨by kernel_rfl, ?_⟩) (by assumption) ?_
          · (intro w hSw; (try dsimp only at hSw); go_simp)
          try simp only [Act.put]
          refine wpAnyH_take (i := 14) (oi := _) (v := .bool true) rfl (by kernel_rfl) (by kernel_rfl) (by kernel_rfl) (fun _ _ _ h => h) (Or.inl ⟨by kernel_rfl, ?_⟩) (by assumption) ?_
          · (intro w hSw; (try dsimp only at hSw); go_simp)
          try simp only [Act.put]
          refine wpAnyH_take (i := 15) (oi := _) (v := undef) rfl (by kernel_rfl) (by kernel_rfl) (by kernel_rfl) (fun _ _ _ h => h) (Or.inr ⟨by kernel_rfl, rfl⟩) (by assumption) ?_
          try simp only [Act.put]
          refine wpAnyH_take (i := 16) (oi := _) (v := undef) rfl (by kernel_rfl) (by kernel_rfl) (by kernel_rfl) (fun _ _ _ h => h) (Or.inr ⟨by kernel_rfl, rfl⟩) (by assumption) ?_
          try simp only [Act.put]
          refine wpAnyH_take (i := 17) (oi := _) (v := undef) rfl (by kernel_rfl) (by kernel_rfl) (by kernel_rfl) (fun _ _ _ h => h) (Or.inr ⟨by kernel_rfl, rfl⟩) (by assumption) ?_
          try simp only [Act.put]
          refine wpAnyH_take (i := 18) (oi := _) (v := undef) rfl (by kernel_rfl) (by kernel_rfl) (by kernel_rfl) (fun _ _ _ h => h) (Or.inr ⟨by kernel_rfl, rfl⟩) (by assumption) ?_
          try simp only [Act.put]
          refine wpAnyH_take (i := 19) (oi := _) (v := undef) rfl (by kernel_rfl) (by kernel_rfl) (by kernel_rfl) (fun _ _ _ h => h) (Or.inr ⟨by kernel_rfl, rfl⟩) (by assumption) ?_
          try simp only [Act.put]
          refine wpAnyH_take (i := 20) (oi := _) (v := undef) rfl (by kernel_rfl) (by kernel_rfl) (by kernel_rfl) (fun _ _ _ h => h) (Or.inr ⟨by kernel_rfl, rfl⟩) (by assumption) ?_
          try simp only [Act.put]
          refine wpAnyH_take (i := 21) (oi := _) (v := undef) rfl (by kernel_rfl) (by kernel_rfl) (by kernel_rfl) (fun _ _ _ h => h) (Or.inr ⟨by kernel_rfl, rfl⟩) (by assumption) ?_
          try simp only [Act.put]
          refine wpAnyH_take (i := 22) (oi := _) (v := .bool true) rfl (by kernel_rfl) (by kernel_rfl) (by kernel_rfl) (fun _ _ _ h => h) (Or.inl ⟨by kernel_rfl, ?_⟩) (by assumption) ?_
          · (intro w hSw; (try dsimp only at hSw); go_simp)
          try simp only [Act.put]
          refine wpAnyH_take (i := 23) (oi := _) (v := .bool true) rfl (by kernel_rfl) (by kernel_rfl) (by kernel_rfl) (fun _ _ _ h => h) (Or.inl ⟨by kernel_rfl, ?_⟩) (by assumption) ?_
          · (intro w hSw; (try dsimp only at hSw); go_simp)
          try simp only [Act.put]
          refine wpAnyH_ready (rs := [24]) (by kernel_rfl) (by simp) ?_
          refine AllReadyH.cons (o := _) rfl (fun K hK => ?_) AllReadyH.nil
          go_simp
          refine hK.out _ _ hHeld (fun hHeld2 => ?_)
          clear hK K
          refine wpAnyH_done (by kernel_rfl) ?_ _
          go_wp2
          go_ret
          exact ⟨rfl, hK4.drew.2⟩
      · have he : ex = false := by rw [hex]; rfl
        clear HEX hex
        subst he
        refine wp_region_held_drew (S := fun w' => w'.cell? ⟨w2.heap.size, 0, none⟩ = some (.bool true) ∧ w'.cell? ⟨w2.heap.size, 1, none⟩ = some (.slice A5 m c5) ∧ w'.cell? ⟨w2.heap.size, 2, none⟩ = some (.slice A6 m2 c6) ∧ w'.cell? ⟨w.heap.size, 0, none⟩ = some (.int .i64 3) ∧ w'.cell? ⟨w.heap.size, 1, none⟩ = some (.bool t) ∧ w'.cell? ⟨w.heap.size, 2, none⟩ = some (.string s) ∧ w'.cell? ⟨w.heap.size, 3, none⟩ = some (.bool neg) ∧ w'.cell? ⟨w.heap.size, 4, none⟩ = some (.slice A n c) ∧ w'.cell? ⟨w.heap.size, 5, none⟩ = some (.slice A2 n2 c2) ∧ w'.cell? ⟨w.heap.size, 6, none⟩ = some (.bool neg3) ∧ w'.cell? ⟨w.heap.size, 7, none⟩ = some (.slice A3 n3 c3) ∧ w'.cell? ⟨w.heap.size, 8, none⟩ = some (.slice A4 n4 c4)) (by kernel_rfl) HS4.out (fun hHeld => ?_)
        refine wpAnyH_take (i := 0) (oi := _) (v := .bool false) rfl (by kernel_rfl) (by kernel_rfl) (by kernel_rfl) (fun _ _ _ h => h) (Or.inl ⟨by kernel_rfl, ?_⟩) (by assumption) ?_
        · (intro w hSw; (try dsimp only at hSw); go_simp)
        try simp only [Act.put, List.setIfInBounds_toArray]
        refine wpAnyH_take (i := 1) (oi := _) (v := .pointer (some ⟨w2.heap.size, 0, none⟩)) rfl (by kernel_rfl) (by kernel_rfl) (by kernel_rfl) (fun _ _ _ h => h) (Or.inl ⟨by kernel_rfl, ?_⟩) (by assumption) ?_
        · (intro w hSw; (try dsimp only at hSw); go_simp)
        try simp only [Act.put]
        refine wpAnyH_take (i := 2) (oi := _) (v := .bool true) rfl (by kernel_rfl) (by kernel_rfl) (by kernel_rfl) (fun _ _ _ h => h) (Or.inl ⟨by kernel_rfl, ?_⟩) (by assumption) ?_
        · (intro w hSw; (try dsimp only at hSw); go_simp)
        try simp only [Act.put]
        refine wpAnyH_take (i := 3) (oi := _) (v := .bool false) rfl (by kernel_rfl) (by kernel_rfl) (by kernel_rfl) (fun _ _ _ h => h) (Or.inl ⟨by kernel_rfl, ?_⟩) (by assumption) ?_
        · (intro w hSw; (try dsimp only at hSw); go_simp)
        try simp only [Act.put]
        refine wpAnyH_take (i := 4) (oi := _) (v := .bool false) rfl (by kernel_rfl) (by kernel_rfl) (by kernel_rfl) (fun _ _ _ h => h) (Or.inl ⟨by kernel_rfl, ?_⟩) (by assumption) ?_
        · (intro w hSw; (try dsimp only at hSw); go_simp)
        try simp only [Act.put]
        refine wpAnyH_take (i := 5) (oi := _) (v := undef) rfl (by kernel_rfl) (by kernel_rfl) (by kernel_rfl) (fun _ _ _ h => h) (Or.inr ⟨by kernel_rfl, rfl⟩) (by assumption) ?_
        try simp only [Act.put]
        refine wpAnyH_take (i := 6) (oi := _) (v := undef) rfl (by kernel_rfl) (by kernel_rfl) (by kernel_rfl) (fun _ _ _ h => h) (Or.inr ⟨by kernel_rfl, rfl⟩) (by assumption) ?_
        try simp only [Act.put]
        refine wpAnyH_take (i := 7) (oi := _) (v := undef) rfl (by kernel_rfl) (by kernel_rfl) (by kernel_rfl) (fun _ _ _ h => h) (Or.inr ⟨by kernel_rfl, rfl⟩) (by assumption) ?_
        try simp only [Act.put]
        refine wpAnyH_take (i := 8) (oi := _) (v := undef) rfl (by kernel_rfl) (by kernel_rfl) (by kernel_rfl) (fun _ _ _ h => h) (Or.inr ⟨by kernel_rfl, rfl⟩) (by assumption) ?_
        try simp only [Act.put]
        refine wpAnyH_take (i := 9) (oi := _) (v := .bool false) rfl (by kernel_rfl) (by kernel_rfl) (by kernel_rfl) (fun _ _ _ h => h) (Or.inl ⟨by kernel_rfl, ?_⟩) (by assumption) ?_
        · (intro w hSw; (try dsimp only at hSw); go_simp)
        try simp only [Act.put]
        refine wpAnyH_take (i := 10) (oi := _) (v := .bool true) rfl (by kernel_rfl) (by kernel_rfl) (by kernel_rfl) (fun _ _ _ h => h) (Or.inl ⟨by kernel_rfl, ?_⟩) (by assumption) ?_
        · (intro w hSw; (try dsimp only at hSw); go_simp)
        try simp only [Act.put]
        refine wpAnyH_take (i := 11) (oi := _) (v := .bool true) rfl (by kernel_rfl) (by kernel_rfl) (by kernel_rfl) (fun _ _ _ h => h) (Or.inl ⟨by kernel_rfl, ?_⟩) (by assumption) ?_
        · (intro w hSw; (try dsimp only at hSw); go_simp)
        try simp only [Act.put]
        refine wpAnyH_take (i := 12) (oi := _) (v := .bool false) rfl (by kernel_rfl) (by kernel_rfl) (by kernel_rfl) (fun _ _ _ h => h) (Or.inl ⟨by kernel_rfl, ?_⟩) (by assumption) ?_
        · (intro w hSw; (try dsimp only at hSw); go_simp)
        try simp only [Act.put]
        refine wpAnyH_take (i := 13) (oi := _) (v := .bool true) rfl (by kernel_rfl) (by kernel_rfl) (by kernel_rfl) (fun _ _ _ h => h) (Or.inl ⟨by kernel_rfl, ?_⟩) (by assumption) ?_
        · (intro w hSw; (try dsimp only at hSw); go_simp)
        try simp only [Act.put]
        refine wpAnyH_take (i := 14) (oi := _) (v := .bool true) rfl (by kernel_rfl) (by kernel_rfl) (by kernel_rfl) (fun _ _ _ h => h) (Or.inl ⟨by kernel_rfl, ?_⟩) (by assumption) ?_
        · (intro w hSw; (try dsimp only at hSw); go_simp)
        try simp only [Act.put]
        refine wpAnyH_take (i := 15) (oi := _) (v := undef) rfl (by kernel_rfl) (by kernel_rfl) (by kernel_rfl) (fun _ _ _ h => h) (Or.inr ⟨by kernel_rfl, rfl⟩) (by assumption) ?_
        try simp only [Act.put]
        refine wpAnyH_take (i := 16) (oi := _) (v := undef) rfl (by kernel_rfl) (by kernel_rfl) (by kernel_rfl) (fun _ _ _ h => h) (Or.inr ⟨by kernel_rfl, rfl⟩) (by assumption) ?_
        try simp only [Act.put]
        refine wpAnyH_take (i := 17) (oi := _) (v := undef) rfl (by kernel_rfl) (by kernel_rfl) (by kernel_rfl) (fun _ _ _ h => h) (Or.inr ⟨by kernel_rfl, rfl⟩) (by assumption) ?_
        try simp only [Act.put]
        refine wpAnyH_take (i := 18) (oi := _) (v := undef) rfl (by kernel_rfl) (by kernel_rfl) (by kernel_rfl) (fun _ _ _ h => h) (Or.inr ⟨by kernel_rfl, rfl⟩) (by assumption) ?_
        try simp only [Act.put]
        refine wpAnyH_take (i := 19) (oi := _) (v := undef) rfl (by kernel_rfl) (by kernel_rfl) (by kernel_rfl) (fun _ _ _ h => h) (Or.inr ⟨by kernel_rfl, rfl⟩) (by assumption) ?_
        try simp only [Act.put]
        refine wpAnyH_take (i := 20) (oi := _) (v := undef) rfl (by kernel_rfl) (by kernel_rfl) (by kernel_rfl) (fun _ _ _ h => h) (Or.inr ⟨by kernel_rfl, rfl⟩) (by assumption) ?_
        try simp only [Act.put]
        refine wpAnyH_take (i := 21) (oi := _) (v := undef) rfl (by kernel_rfl) (by kernel_rfl) (by kernel_rfl) (fun _ _ _ h => h) (Or.inr ⟨by kernel_rfl, rfl⟩) (by assumption) ?_
        try simp only [Act.put]
        refine wpAnyH_take (i := 22) (oi := _) (v := .bool true) rfl (by kernel_rfl) (by kernel_rfl) (by kernel_rfl) (fun _ _ _ h => h) (Or.inl ⟨by kernel_rfl, ?_⟩) (by assumption) ?_
        · (intro w hSw; (try dsimp only at hSw); go_simp)
        try simp only [Act.put]
        refine wpAnyH_take (i := 23) (oi := _) (v := .bool true) rfl (by kernel_rfl) (by kernel_rfl) (by kernel_rfl) (fun _ _ _ h => h) (Or.inl ⟨by kernel_rfl, ?_⟩) (by assumption) ?_
        · (intro w hSw; (try dsimp only at hSw); go_simp)
        try simp only [Act.put]
        refine wpAnyH_ready (rs := [24]) (by kernel_rfl) (by simp) ?_
        refine AllReadyH.cons (o := _) rfl (fun K hK => ?_) AllReadyH.nil
        go_simp
        refine hK.out _ _ hHeld (fun hHeld2 => ?_)
        clear hK K
        refine wpAnyH_done (by kernel_rfl) ?_ _
        go_wp2
        go_ret
        exact ⟨rfl, hK4.drew.2⟩

/-! ### THE ROW -/
/-- The heap that the initialisers leave meets the condition. -/
theorem door_met (os : Os) (args : Array Value) : laidMetH Tryz.prog Rows.fnUint64ValRow.laid ((World.doorLaid Tryz.prog 400 os).forCall (fun _ _ => 0) ⟨#[], args, []⟩).memory :=
  laidMetH_of_parts3 (fuel := 8) (laidMet_of_run' 8 (by kernel_rfl) (by kernel_rfl)) (by kernel_rfl) (by kernel_rfl)

/-- Four variables read as four data. -/
theorem vars_four {H : Type} {enc : TypeId × Value → H} {P : Program} {w : World} {sp : Nat → Bool} {n0 n1 n2 n3 : String} {gs : List (DataW H)} {ps : List MemPlace} (h : DataW.TrodVars enc P w sp [n0, n1, n2, n3] gs ps) : ∃ a b c d, gs = [a, b, c, d] := by
  match gs, h with
  | [], h => exact h.elim
  | a :: gs, h =>
    obtain ⟨_, _, _, _, _, _, _, _, _, _, h, _⟩ := h
    match gs, h with
    | [], h => exact h.elim
    | b :: gs, h =>
      obtain ⟨_, _, _, _, _, _, _, _, _, _, h, _⟩ := h
      match gs, h with
      | [], h => exact h.elim
      | c :: gs, h =>
        obtain ⟨_, _, _, _, _, _, _, _, _, _, h, _⟩ := h
        match gs, h with
        | [], h => exact h.elim
        | d :: gs, h =>
          obtain ⟨_, _, _, _, _, _, _, _, _, _, h, _⟩ := h
          match gs, h with
          | [], _ => exact ⟨a, b, c, d, rfl⟩
          | _ :: _, h => exact h.elim

set_option maxRecDepth 100000 in
theorem lifted (os : Os) (started : os.Started) (H : Type) (enc : TypeId × Value → H) :
    ReturnsInHanded {} Tryz.checked os 3 .any (fun w args => (Rows.fnUint64ValSpec.pre enc Tryz.prog Tryz.f3 Rows.fnUint64ValRow.domain false w args ∧ laidMetH Tryz.prog Rows.fnUint64ValRow.laid w) ∧ sizedMet enc Tryz.prog Tryz.f3 (OpenSpec.ofChange Rows.fnUint64ValSpec) false w args)
      (Rows.fnUint64ValSpec.post enc Tryz.prog Tryz.f3 false true false false) := by
  refine returnsInHanded_of_change_and (C := Tryz.checked) (X := fun w _ => laidMetH Tryz.prog Rows.fnUint64ValRow.laid w) (fun _ _ _ hh h => h.of_heap hh) own started (by kernel_rfl) Tryz.func3
    (ChangeSpec.witness_shaped (enc := enc) (C := Tryz.checked) (os := os) (X := fun w _ => laidMetH Tryz.prog Rows.fnUint64ValRow.laid w) false (World.doorLaid Tryz.prog 400 os) #[.agg #[.int .i64 0, .bool false, .string ⟨#[]⟩, .bool false, .slice none 0 0, .slice none 0 0, .bool false, .slice none 0 0, .slice none 0 0]] 8 rfl (World.shaped_of_RefB (by kernel_rfl) (by kernel_rfl)) (by kernel_rfl) (by kernel_rfl) (by kernel_rfl) (door_met os _)) ?_
  intro W base args ds gs before hval0 hW _ _ hL _
  have hval : ∀ (j : Nat) t v, Tryz.f3.params[j]? = some t → args[j]? = some v → Value.okWide Tryz.prog W .any base t v := hval0
  have hW' := hW
  obtain ⟨p, q, hA0, hV, rfl, hfz, hnd⟩ := hW
  have hA : DataW.TrodAll enc Tryz.prog W 0 (fun _ => true) true Tryz.f3.params.toList args.toList ds p := hA0
  rw [Tryz.params3] at hA hval
  obtain ⟨v0, vs0, d0, ds0, p0, q0, hargs, rfl, rfl, h0, r0⟩ := trodAll_cons hA
  obtain ⟨rfl, rfl, rfl⟩ := trodAll_nil r0
  obtain rfl : args = #[v0] := by cases args; simp_all
  obtain ⟨g0, g1, g2, g3, rfl⟩ := vars_four hV
  have k0 := h0
  have lt0 : ∀ x ∈ p0, x.block < W.heap.size := by obtain ⟨m, hm⟩ := k0; exact DataW.trod_lt m _ _ _ hm
  have w0 := open_value (hval 0 26 v0 rfl rfl) h0
  clear hA0 hval0
  refine (walk v0 W w0).mono fun e W' ⟨he, bel⟩ => ?_
  subst he
  exact ⟨_, rfl, _, _, _, [], _, _, hW', trodAll_mk1 (shut_bool Tryz.underlying4 _), (trodAll_cons_mk (Below.trod laidOut (by kernel_rfl) (of_decide_eq_true (by kernel_rfl)) k0 bel lt0) trodAll_mk0), Below.trodVars laidOut bel (by kernel_rfl) hV, bel.frame _, fun h => by cases h⟩

theorem over : Rows.fnUint64ValRow.holds Tryz.pinned (OpenSpec.ofChange Rows.fnUint64ValSpec) :=
  OpenClaim.holds_of_wide 3 Tryz.f3 rfl rfl rfl rfl rfl rfl rfl ⟨rfl, rfl, rfl, rfl, rfl⟩ rfl rfl rfl rfl rfl (by kernel_rfl) Tryz.func3 (by kernel_rfl)
    (of_decide_eq_true (by kernel_rfl)) (by unfold Func.isWrapper; first | (rw [if_pos (by decide +kernel)]; kernel_rfl) | (rw [if_neg (by decide +kernel)]; exact ⟨rfl, rfl⟩))
    (fun os started H enc _ => lifted os started H enc)

/-- The statement. -/
theorem proved : Rows.FnUint64ValCardSaid := by
  unfold Rows.FnUint64ValCardSaid Rows.fnUint64ValCard
  exact Claim7.holds_tied_plain_at .later [] _ _ _ _ over (fun _ h => by cases h) (by kernel_rfl) (fun _ h => by cases h) fnUint64Val_row_tie rfl ⟨rfl, rfl⟩ (by kernel_rfl) rfl
    (fun f fn hf hfn => by
      obtain rfl : f = 3 := Option.some.inj ((show Tryz.prog.funcNamed "loop.example/pub-g03237/laws.FnUint64Val" = some 3 by kernel_rfl).symm.trans hf) |>.symm
      obtain rfl : fn = Tryz.f3 := (Option.some.inj (Tryz.func3.symm.trans hfn)).symm
      exact ⟨by kernel_rfl, fun j t ht => by
        rw [Tryz.params3] at ht
        have hm : t ∈ [26] := by simpa using Array.mem_of_getElem? ht
        have hall : ([26].all fun u => !Tryz.prog.wantsStandIn u) = true := by kernel_rfl
        exact (show Tryz.prog.wantsStandIn t = false by simpa using List.all_eq_true.1 hall t hm)⟩)
    (by kernel_rfl)
#print axioms proved
end Go.Proofs.YtdfedhmejilnhaaGreatDoor.fnUint64Val
