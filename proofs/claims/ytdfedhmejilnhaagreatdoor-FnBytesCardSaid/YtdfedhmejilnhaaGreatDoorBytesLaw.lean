/- It proves FnBytes: the package's bytes of an integer of at most 40 words are the reference's; of other values the statement says nothing. No condition. The card's tie is given. -/
import Derived.Test.YtdfedhmejilnhaaGreatDoorRows
import Derived.Test.YtdfedhmejilnhaaGreatDoorCards
import Derived.Test.YtdfedhmejilnhaaGreatDoorTie
import Derived.Test.YtdfedhmejilnhaaGreatDoorLawWhole
import Derived.Test.YtdfedhmejilnhaaGreatDoorImpl3
import Derived.Test.YtdfedhmejilnhaaGreatDoorBytesOf
import Derived.WalkKit
import Derived.ProofKit
import Derived.OpenShut
import Derived.Below
import Derived.OpenVars
import Derived.LaidMore
import Derived.Stop.Joined
import Derived.SevenTiedAt
import Derived.ChangeMaps5
namespace Go.Proofs.YtdfedhmejilnhaaGreatDoor.fnBytes
open Go.ChangeShapes Go.WideShapes Go.ChangeAt Go.RowKit
set_option linter.unusedVariables false

theorem own : ownKnob Tryz.prog.godebug = none := by kernel_rfl
theorem laidOut : laidOutB Tryz.prog = true := by kernel_rfl

/-! ### THE WALK -/
set_option maxRecDepth 100000 in
set_option maxHeartbeats 3200000 in
theorem walk (x0 : Value) (w : World) (w0 : IsValue w x0) :
    Calls Tryz.prog 5 #[x0] w fun e w' => e = .returned (.bool true) ∧ Below w.heap.size w w' := by
  obtain ⟨k, t, s, neg, A, n, c, l, A2, n2, c2, neg3, A3, n3, c3, A4, n4, c4, rfl, hr, hl⟩ := w0
  have HW := Lib.hid (fun w' (hb : Below w.heap.size w w') => lawWhole_any k t s neg A n c l A2 n2 c2 neg3 A3 n3 c3 A4 n4 c4 w' (hr.below hb) hl)
  have HS := Lib.hid (fun w' (hb : Below w.heap.size w w') (hn : n ≤ 40) => bytes_impl t s neg A n c l A2 n2 c2 neg3 A3 n3 c3 A4 n4 c4 w' (hr.below hb) hl hn)
  have HD := Lib.hid (fun hn => digs_of_words l n hr.len hl hn)
  clear hr hl
  generalize val W64 l = N at *
  go_enter Tryz.func5, Tryz.ntmps5
  go_wp2_with fail
  have hb0 : Below w.heap.size w (w.alloc (.cells #[.int .i64 k, .bool t, .string s, .bool neg, .slice A n c, .slice A2 n2 c2, .bool neg3, .slice A3 n3 c3, .slice A4 n4 c4] 26)) := (Below.refl _ _).alloc (Nat.le_refl _) _
  have hX0 : Box (w.alloc (.cells #[.int .i64 k, .bool t, .string s, .bool neg, .slice A n c, .slice A2 n2 c2, .bool neg3, .slice A3 n3 c3, .slice A4 n4 c4] 26)) w.heap.size 26 #[.int .i64 k, .bool t, .string s, .bool neg, .slice A n c, .slice A2 n2 c2, .bool neg3, .slice A3 n3 c3, .slice A4 n4 c4] := Box.new _ _ _ _ rfl
  refine (fits1_any k t s neg A n c A2 n2 c2 neg3 A3 n3 c3 A4 n4 c4 _).mono ?_
  rintro e w1 ⟨fit, rfl, hb1⟩
  have hX1 := hX0.below hb1 hX0.lt
  have hbw1 := hb0.trans (hb1.mono hb0.size)
  obtain ⟨k0, k1, k2, k3, k4, k5, k6, k7, k8, hlt1⟩ := hX1.nine
  clear hb0 hb1 hX0
  cases fit
  · go_wp2
    go_ret
    exact ⟨rfl, hbw1⟩
  · go_wp2_with fail
    refine (HW.out _ hbw1).mono ?_
    rintro e w2 ⟨nb, A5, m, c5, A6, m2, c6, ok, rfl, hb2, hok⟩
    have hX2 := hX1.below hb2 hX1.lt
    have hbw2 := hbw1.trans (hb2.mono hbw1.size)
    clear k0 k1 k2 k3 k4 k5 k6 k7 k8
    obtain ⟨k0, k1, k2, k3, k4, k5, k6, k7, k8, hlt2⟩ := hX2.nine
    clear hX1 hb2
    cases ok
    · clear hok
      go_wp2_with fail
      go_quiet (fail)
      go_wp2
      go_ret
      exact ⟨rfl, below_drewN (hbw2.alloc hbw2.size _) _⟩
    · obtain ⟨rfl, hn, hnb, hr5⟩ := hok rfl
      have HNB := Lib.hid hnb
      clear hok hnb
      go_wp2_with fail
      have hK : Kept w #[.int .i64 3, .bool t, .string s, .bool neg, .slice A n c, .slice A2 n2 c2, .bool neg3, .slice A3 n3 c3, .slice A4 n4 c4] (w2.alloc (.cells #[.bool nb, .slice A5 m c5, .slice A6 m2 c6] 31)) := ⟨hX2.alloc _, hbw2.alloc hbw2.size _⟩
      have hT : Box (w2.alloc (.cells #[.bool nb, .slice A5 m c5, .slice A6 m2 c6] 31)) w2.heap.size 31 #[.bool nb, .slice A5 m c5, .slice A6 m2 c6] := Box.new _ _ _ _ rfl
      have hr6 := hr5.alloc (.cells #[.bool nb, .slice A5 m c5, .slice A6 m2 c6] 31)
      clear k0 k1 k2 k3 k4 k5 k6 k7 k8 hX2 hbw2 hr5
      generalize w2.alloc (.cells #[.bool nb, .slice A5 m c5, .slice A6 m2 c6] 31) = w3 at *
      have hS0 := cells12 hK hT
      have HK := Lib.hid hK
      have HT := Lib.hid hT
      have HR := Lib.hid hr6
      clear hK hT hr6
      have HS2 := Lib.hid (fun w' hb => HS.out w' hb hn)
      have hm : m ≤ 10000 := by rw [← HR.out.len]; exact (HD.out hn).2.2
      have HO := Lib.hid (fun w' h => bytesOf_any A5 m c5 N w' h hm)
      go_region_held3 (fun w' => w'.cell? ⟨w2.heap.size, 0, none⟩ = some (.bool nb) ∧ w'.cell? ⟨w2.heap.size, 1, none⟩ = some (.slice A5 m c5) ∧ w'.cell? ⟨w2.heap.size, 2, none⟩ = some (.slice A6 m2 c6) ∧ w'.cell? ⟨w.heap.size, 0, none⟩ = some (.int .i64 3) ∧ w'.cell? ⟨w.heap.size, 1, none⟩ = some (.bool t) ∧ w'.cell? ⟨w.heap.size, 2, none⟩ = some (.string s) ∧ w'.cell? ⟨w.heap.size, 3, none⟩ = some (.bool neg) ∧ w'.cell? ⟨w.heap.size, 4, none⟩ = some (.slice A n c) ∧ w'.cell? ⟨w.heap.size, 5, none⟩ = some (.slice A2 n2 c2) ∧ w'.cell? ⟨w.heap.size, 6, none⟩ = some (.bool neg3) ∧ w'.cell? ⟨w.heap.size, 7, none⟩ = some (.slice A3 n3 c3) ∧ w'.cell? ⟨w.heap.size, 8, none⟩ = some (.slice A4 n4 c4)) (first | exact hS0 | exact hS1 | exact hS2) (first | (go_at_call 15; refine (HS2.out _ (by first | exact HK.out.2 | exact HK.out.2.drew)).mono ?_; rintro e w4 ⟨B4, b4, d4, rfl, hq4, hb4'⟩; have hb4 := below_of_drew hb4'; have hK4 := HK.out.below hb4; have hT4 := HT.out.below hb4 HT.out.lt; have hR4 := HR.out.below hb4; have hS1 := cells12 hK4 hT4) | (go_at_call 16; refine (HO.out _ hR4).mono ?_; rintro e w5 ⟨B5, b5, d5, rfl, hq5, hb5⟩; have hK5 := hK4.below hb5; have hS2 := cells12 hK5 (hT4.below hb5 hT4.lt)) | (go_at_call 14; refine (same_any _ _ _ _ _ _ _ _ (hq4.below hb5) hq5).mono ?_; rintro e w6 ⟨rfl, rfl⟩))
      go_wp2
      go_ret
      exact ⟨by simp, hK5.2⟩

/-! ### THE ROW -/
/-- The heap that the initialisers leave meets the condition. -/
theorem door_met (os : Os) (args : Array Value) : laidMetH Tryz.prog Rows.fnBytesRow.laid ((World.doorLaid Tryz.prog 400 os).forCall (fun _ _ => 0) ⟨#[], args, []⟩).memory :=
  laidMetH_of_parts3 (fuel := 8) (laidMet_of_run' 8 (by kernel_rfl) (by kernel_rfl)) (by kernel_rfl) (by kernel_rfl)

/-- Four variables read as four data. -/
theorem vars_four {H : Type} {enc : TypeId × Value → H} {P : Program} {w : World} {sp : Nat → Bool} {n0 n1 n2 n3 : String} {gs : List (DataW H)} {ps : List MemPlace} (h : DataW.TrodVars enc P w sp [n0, n1, n2, n3] gs ps) : ∃ a b c d, gs = [a, b, c, d] := by
  match gs, h with
  | [], h => exact h.elim
  | a :: gs, h =>
    obtain ⟨_, _, _, _, _, _, _, _, _, _, h, _⟩ := h
    match gs, h with
    | [], h => exact h.elim
    | b :: gs, h =>
      obtain ⟨_, _, _, _, _, _, _, _, _, _, h, _⟩ := h
      match gs, h with
      | [], h => exact h.elim
      | c :: gs, h =>
        obtain ⟨_, _, _, _, _, _, _, _, _, _, h, _⟩ := h
        match gs, h with
        | [], h => exact h.elim
        | d :: gs, h =>
          obtain ⟨_, _, _, _, _, _, _, _, _, _, h, _⟩ := h
          match gs, h with
          | [], _ => exact ⟨a, b, c, d, rfl⟩
          | _ :: _, h => exact h.elim

set_option maxRecDepth 100000 in
theorem lifted (os : Os) (started : os.Started) (H : Type) (enc : TypeId × Value → H) :
    ReturnsInHanded {} Tryz.checked os 5 .any (fun w args => (Rows.fnBytesSpec.pre enc Tryz.prog Tryz.f5 Rows.fnBytesRow.domain false w args ∧ laidMetH Tryz.prog Rows.fnBytesRow.laid w) ∧ sizedMet enc Tryz.prog Tryz.f5 (OpenSpec.ofChange Rows.fnBytesSpec) false w args)
      (Rows.fnBytesSpec.post enc Tryz.prog Tryz.f5 false true false false) := by
  refine returnsInHanded_of_change_and (C := Tryz.checked) (X := fun w _ => laidMetH Tryz.prog Rows.fnBytesRow.laid w) (fun _ _ _ hh h => h.of_heap hh) own started (by kernel_rfl) Tryz.func5
    (ChangeSpec.witness_shaped (enc := enc) (C := Tryz.checked) (os := os) (X := fun w _ => laidMetH Tryz.prog Rows.fnBytesRow.laid w) false (World.doorLaid Tryz.prog 400 os) #[.agg #[.int .i64 0, .bool false, .string ⟨#[]⟩, .bool false, .slice none 0 0, .slice none 0 0, .bool false, .slice none 0 0, .slice none 0 0]] 8 rfl (World.shaped_of_RefB (by kernel_rfl) (by kernel_rfl)) (by kernel_rfl) (by kernel_rfl) (by kernel_rfl) (door_met os _)) ?_
  intro W base args ds gs before hval0 hW _ _ hL _
  have hval : ∀ (j : Nat) t v, Tryz.f5.params[j]? = some t → args[j]? = some v → Value.okWide Tryz.prog W .any base t v := hval0
  have hW' := hW
  obtain ⟨p, q, hA0, hV, rfl, hfz, hnd⟩ := hW
  have hA : DataW.TrodAll enc Tryz.prog W 0 (fun _ => true) true Tryz.f5.params.toList args.toList ds p := hA0
  rw [Tryz.params5] at hA hval
  obtain ⟨v0, vs0, d0, ds0, p0, q0, hargs, rfl, rfl, h0, r0⟩ := trodAll_cons hA
  obtain ⟨rfl, rfl, rfl⟩ := trodAll_nil r0
  obtain rfl : args = #[v0] := by cases args; simp_all
  obtain ⟨g0, g1, g2, g3, rfl⟩ := vars_four hV
  have k0 := h0
  have lt0 : ∀ x ∈ p0, x.block < W.heap.size := by obtain ⟨m, hm⟩ := k0; exact DataW.trod_lt m _ _ _ hm
  have w0 := open_value (hval 0 26 v0 rfl rfl) h0
  clear hA0 hval0
  refine (walk v0 W w0).mono fun e W' ⟨he, bel⟩ => ?_
  subst he
  exact ⟨_, rfl, _, _, _, [], _, _, hW', trodAll_mk1 (shut_bool Tryz.underlying4 _), (trodAll_cons_mk (Below.trod laidOut (by kernel_rfl) (of_decide_eq_true (by kernel_rfl)) k0 bel lt0) trodAll_mk0), Below.trodVars laidOut bel (by kernel_rfl) hV, bel.frame _, fun h => by cases h⟩

theorem over : Rows.fnBytesRow.holds Tryz.pinned (OpenSpec.ofChange Rows.fnBytesSpec) :=
  OpenClaim.holds_of_wide 5 Tryz.f5 rfl rfl rfl rfl rfl rfl rfl ⟨rfl, rfl, rfl, rfl, rfl⟩ rfl rfl rfl rfl rfl (by kernel_rfl) Tryz.func5 (by kernel_rfl)
    (of_decide_eq_true (by kernel_rfl)) (by unfold Func.isWrapper; first | (rw [if_pos (by decide +kernel)]; kernel_rfl) | (rw [if_neg (by decide +kernel)]; exact ⟨rfl, rfl⟩))
    (fun os started H enc _ => lifted os started H enc)

/-- The statement. -/
theorem proved : Rows.FnBytesCardSaid := by
  unfold Rows.FnBytesCardSaid Rows.fnBytesCard
  exact Claim7.holds_tied_plain_at .later [] _ _ _ _ over (fun _ h => by cases h) (by kernel_rfl) (fun _ h => by cases h) fnBytes_row_tie rfl ⟨rfl, rfl⟩ (by kernel_rfl) rfl
    (fun f fn hf hfn => by
      obtain rfl : f = 5 := Option.some.inj ((show Tryz.prog.funcNamed "loop.example/pub-g03237/laws.FnBytes" = some 5 by kernel_rfl).symm.trans hf) |>.symm
      obtain rfl : fn = Tryz.f5 := (Option.some.inj (Tryz.func5.symm.trans hfn)).symm
      exact ⟨by kernel_rfl, fun j t ht => by
        rw [Tryz.params5] at ht
        have hm : t ∈ [26] := by simpa using Array.mem_of_getElem? ht
        have hall : ([26].all fun u => !Tryz.prog.wantsStandIn u) = true := by kernel_rfl
        exact (show Tryz.prog.wantsStandIn t = false by simpa using List.all_eq_true.1 hall t hm)⟩)
    (by kernel_rfl)
#print axioms proved
end Go.Proofs.YtdfedhmejilnhaaGreatDoor.fnBytes
