/- It proves FnTextCompare: the package's comparison of two texts is what the reference says of their order by bytes; of texts longer than 2^31 - 1 bytes the statement says nothing. No condition. The card's tie is given. -/
import Derived.Test.YtbopmkjfmikmdaaGreatDoorRows
import Derived.Test.YtbopmkjfmikmdaaGreatDoorCards
import Derived.Test.YtbopmkjfmikmdaaGreatDoorTie
import Derived.Test.YtbopmkjfmikmdaaGreatDoorText2
import Derived.WalkKit
import Derived.ProofKit
import Derived.OpenShut
import Derived.Below
import Derived.OpenVars
import Derived.LaidMore
import Derived.Stop.Joined
import Derived.SevenTiedAt
import Derived.ChangeMaps5
namespace Go.Proofs.YtbopmkjfmikmdaaGreatDoor.fnTextCompare
open Go.ChangeShapes Go.WideShapes Go.ChangeAt Go.RowKit
set_option linter.unusedVariables false

theorem own : ownKnob Tryz.prog.godebug = none := by kernel_rfl
theorem laidOut : laidOutB Tryz.prog = true := by kernel_rfl

/-! ### THE WALK -/
theorem op_six (a0 : Int) (w0 : (Lit.int .u8 a0).wf = true) : ∃ k : Nat, k < 6 ∧ a0 % 6 = (k : Int) ∧ 0 ≤ a0 ∧ a0 ≤ 255 := by
  have hb : 0 ≤ a0 ∧ a0 ≤ 255 := by simpa [Lit.wf, IntKind.min, IntKind.max, IntKind.bits, IntKind.signed] using w0
  exact ⟨(a0 % 6).toNat, by omega, by omega, by omega, by omega⟩

set_option maxRecDepth 100000 in
set_option maxHeartbeats 800000 in
theorem walk_lt (k : Nat) (hk : k < 6) (a0 : Int) (a1 a2 : ByteArray) (hm : a0 % 6 = (k : Int)) (h0 : 0 ≤ a0) (h1 : a0 ≤ 255) (z1 : a1.size ≤ 2147483647) (z2 : a2.size ≤ 2147483647) (c1 : Op.bytesLess a1.toList a2.toList = true) (w : World) :
    Calls Tryz.prog 6 #[.int .u8 a0, .string a1, .string a2] w fun e w' => e = .returned (.bool true) ∧ Below w.heap.size w w' := by
  have HS := Lib.hid (fun w => textCompare_any k hk a1 a2 w)
  have HO := Lib.hid (fun w => order_any k hk (-1) w)
  clear hk
  unfold cmpT at HS
  rw [if_pos c1] at HS
  have c2 : (a1.toList == a2.toList) = false := by
    rw [beq_eq_false_iff_ne]; intro e; rw [e, less_self] at c1; cases c1
  generalize ordB k (-1) = r at *
  cases r
  all_goals
    go_enter Tryz.func6, Tryz.ntmps6
    go_wp2_with fail
    refine (HS.out _).mono ?_
    rintro e w1 ⟨rfl, hb⟩
    go_wp2_with fail
    refine (HO.out _).mono ?_
    rintro e w2 ⟨rfl, rfl⟩
    go_wp2
    go_ret
    exact ⟨rfl, hb⟩

set_option maxRecDepth 100000 in
set_option maxHeartbeats 800000 in
theorem walk_gt (k : Nat) (hk : k < 6) (a0 : Int) (a1 a2 : ByteArray) (hm : a0 % 6 = (k : Int)) (h0 : 0 ≤ a0) (h1 : a0 ≤ 255) (z1 : a1.size ≤ 2147483647) (z2 : a2.size ≤ 2147483647) (c1 : Op.bytesLess a1.toList a2.toList = false) (c2 : (a1.toList == a2.toList) = false) (w : World) :
    Calls Tryz.prog 6 #[.int .u8 a0, .string a1, .string a2] w fun e w' => e = .returned (.bool true) ∧ Below w.heap.size w w' := by
  have HS := Lib.hid (fun w => textCompare_any k hk a1 a2 w)
  have HO := Lib.hid (fun w => order_any k hk 1 w)
  clear hk
  unfold cmpT at HS
  rw [if_neg (by rw [c1]; simp), if_neg (by rw [c2]; simp)] at HS
  generalize ordB k 1 = r at *
  cases r
  all_goals
    go_enter Tryz.func6, Tryz.ntmps6
    go_wp2_with fail
    refine (HS.out _).mono ?_
    rintro e w1 ⟨rfl, hb⟩
    go_wp2_with fail
    refine (HO.out _).mono ?_
    rintro e w2 ⟨rfl, rfl⟩
    go_wp2
    go_ret
    exact ⟨rfl, hb⟩

set_option maxRecDepth 100000 in
set_option maxHeartbeats 800000 in
theorem walk_eq (k : Nat) (hk : k < 6) (a0 : Int) (a1 a2 : ByteArray) (hm : a0 % 6 = (k : Int)) (h0 : 0 ≤ a0) (h1 : a0 ≤ 255) (z1 : a1.size ≤ 2147483647) (z2 : a2.size ≤ 2147483647) (c1 : Op.bytesLess a1.toList a2.toList = false) (c2 : (a1.toList == a2.toList) = true) (w : World) :
    Calls Tryz.prog 6 #[.int .u8 a0, .string a1, .string a2] w fun e w' => e = .returned (.bool true) ∧ Below w.heap.size w w' := by
  have HS := Lib.hid (fun w => textCompare_any k hk a1 a2 w)
  have HO := Lib.hid (fun w => order_any k hk 0 w)
  clear hk
  unfold cmpT at HS
  rw [if_neg (by rw [c1]; simp), if_pos c2] at HS
  generalize ordB k 0 = r at *
  cases r
  all_goals
    go_enter Tryz.func6, Tryz.ntmps6
    go_wp2_with fail
    refine (HS.out _).mono ?_
    rintro e w1 ⟨rfl, hb⟩
    go_wp2_with fail
    refine (HO.out _).mono ?_
    rintro e w2 ⟨rfl, rfl⟩
    go_wp2
    go_ret
    exact ⟨rfl, hb⟩

theorem walk (a0 : Int) (a1 a2 : ByteArray) (w0 : (Lit.int .u8 a0).wf = true) (w1 : a1.size ≤ maxLen) (w2 : a2.size ≤ maxLen) (w : World) :
    Calls Tryz.prog 6 #[.int .u8 a0, .string a1, .string a2] w fun e w' => e = .returned (.bool true) ∧ Below w.heap.size w w' := by
  obtain ⟨k, hk, hm, h0, h1⟩ := op_six a0 w0
  by_cases z1 : a1.size ≤ 2147483647
  · by_cases z2 : a2.size ≤ 2147483647
    · rcases Bool.eq_false_or_eq_true (Op.bytesLess a1.toList a2.toList) with c1 | c1
      · exact walk_lt k hk a0 a1 a2 hm h0 h1 z1 z2 c1 w
      · rcases Bool.eq_false_or_eq_true (a1.toList == a2.toList) with c2 | c2
        · exact walk_eq k hk a0 a1 a2 hm h0 h1 z1 z2 c1 c2 w
        · exact walk_gt k hk a0 a1 a2 hm h0 h1 z1 z2 c1 c2 w
    · go_enter Tryz.func6, Tryz.ntmps6
      go_wp2
      go_ret
      exact ⟨rfl, Below.refl _ _⟩
  · go_enter Tryz.func6, Tryz.ntmps6
    go_wp2
    go_ret
    exact ⟨rfl, Below.refl _ _⟩

/-! ### THE ROW -/
/-- The heap that the initialisers leave meets the condition. -/
theorem door_met (os : Os) (args : Array Value) : laidMetH Tryz.prog Rows.fnTextCompareRow.laid ((World.doorLaid Tryz.prog 400 os).forCall (fun _ _ => 0) ⟨#[], args, []⟩).memory :=
  laidMetH_of_parts3 (fuel := 8) (laidMet_of_run' 8 (by kernel_rfl) (by kernel_rfl)) (by kernel_rfl) (by kernel_rfl)

/-- Four variables read as four data. -/
theorem vars_four {H : Type} {enc : TypeId × Value → H} {P : Program} {w : World} {sp : Nat → Bool} {n0 n1 n2 n3 : String} {gs : List (DataW H)} {ps : List MemPlace} (h : DataW.TrodVars enc P w sp [n0, n1, n2, n3] gs ps) : ∃ a b c d, gs = [a, b, c, d] := by
  match gs, h with
  | [], h => exact h.elim
  | a :: gs, h =>
    obtain ⟨_, _, _, _, _, _, _, _, _, _, h, _⟩ := h
    match gs, h with
    | [], h => exact h.elim
    | b :: gs, h =>
      obtain ⟨_, _, _, _, _, _, _, _, _, _, h, _⟩ := h
      match gs, h with
      | [], h => exact h.elim
      | c :: gs, h =>
        obtain ⟨_, _, _, _, _, _, _, _, _, _, h, _⟩ := h
        match gs, h with
        | [], h => exact h.elim
        | d :: gs, h =>
          obtain ⟨_, _, _, _, _, _, _, _, _, _, h, _⟩ := h
          match gs, h with
          | [], _ => exact ⟨a, b, c, d, rfl⟩
          | _ :: _, h => exact h.elim

set_option maxRecDepth 100000 in
theorem lifted (os : Os) (started : os.Started) (H : Type) (enc : TypeId × Value → H) :
    ReturnsInHanded {} Tryz.checked os 6 .any (fun w args => (Rows.fnTextCompareSpec.pre enc Tryz.prog Tryz.f6 Rows.fnTextCompareRow.domain false w args ∧ laidMetH Tryz.prog Rows.fnTextCompareRow.laid w) ∧ sizedMet enc Tryz.prog Tryz.f6 (OpenSpec.ofChange Rows.fnTextCompareSpec) false w args)
      (Rows.fnTextCompareSpec.post enc Tryz.prog Tryz.f6 false true false false) := by
  refine returnsInHanded_of_change_and (C := Tryz.checked) (X := fun w _ => laidMetH Tryz.prog Rows.fnTextCompareRow.laid w) (fun _ _ _ hh h => h.of_heap hh) own started (by kernel_rfl) Tryz.func6
    (ChangeSpec.witness_shaped (enc := enc) (C := Tryz.checked) (os := os) (X := fun w _ => laidMetH Tryz.prog Rows.fnTextCompareRow.laid w) false (World.doorLaid Tryz.prog 400 os) #[.int .u8 0, .string ⟨#[]⟩, .string ⟨#[]⟩] 8 rfl (World.shaped_of_RefB (by kernel_rfl) (by kernel_rfl)) (by kernel_rfl) (by kernel_rfl) (by kernel_rfl) (door_met os _)) ?_
  intro W base args ds gs before hval0 hW _ _ hL _
  have hval : ∀ (j : Nat) t v, Tryz.f6.params[j]? = some t → args[j]? = some v → Value.okWide Tryz.prog W .any base t v := hval0
  have hW' := hW
  obtain ⟨p, q, hA0, hV, rfl, hfz, hnd⟩ := hW
  have hA : DataW.TrodAll enc Tryz.prog W 0 (fun _ => true) true Tryz.f6.params.toList args.toList ds p := hA0
  rw [Tryz.params6] at hA hval
  obtain ⟨v0, vs0, d0, ds0, p0, q0, hargs, rfl, rfl, h0, r0⟩ := trodAll_cons hA
  obtain ⟨v1, vs1, d1, ds1, p1, q1, rfl, rfl, rfl, h1, r1⟩ := trodAll_cons r0
  obtain ⟨v2, vs2, d2, ds2, p2, q2, rfl, rfl, rfl, h2, r2⟩ := trodAll_cons r1
  obtain ⟨rfl, rfl, rfl⟩ := trodAll_nil r2
  obtain rfl : args = #[v0, v1, v2] := by cases args; simp_all
  obtain ⟨g0, g1, g2, g3, rfl⟩ := vars_four hV
  have k0 := h0
  have lt0 : ∀ x ∈ p0, x.block < W.heap.size := by obtain ⟨m, hm⟩ := k0; exact DataW.trod_lt m _ _ _ hm
  have k1 := h1
  have lt1 : ∀ x ∈ p1, x.block < W.heap.size := by obtain ⟨m, hm⟩ := k1; exact DataW.trod_lt m _ _ _ hm
  have k2 := h2
  have lt2 : ∀ x ∈ p2, x.block < W.heap.size := by obtain ⟨m, hm⟩ := k2; exact DataW.trod_lt m _ _ _ hm
  obtain ⟨a0, rfl, rfl, rfl, w0⟩ := open_int Tryz.underlying5 (hval 0 5 v0 rfl rfl) h0
  obtain ⟨a1, rfl, rfl, rfl, w1⟩ := Go.ChangeMaps.open_string Tryz.underlying9 (hval 1 9 v1 rfl rfl) h1
  obtain ⟨a2, rfl, rfl, rfl, w2⟩ := Go.ChangeMaps.open_string Tryz.underlying9 (hval 2 9 v2 rfl rfl) h2
  clear hA0 hval0
  refine (walk a0 a1 a2 w0 w1 w2 W).mono fun e W' ⟨he, bel⟩ => ?_
  subst he
  exact ⟨_, rfl, _, _, _, [], _, _, hW', trodAll_mk1 (shut_bool Tryz.underlying4 _), (trodAll_cons_mk (Below.trod laidOut (by kernel_rfl) (of_decide_eq_true (by kernel_rfl)) k0 bel lt0) (trodAll_cons_mk (Below.trod laidOut (by kernel_rfl) (of_decide_eq_true (by kernel_rfl)) k1 bel lt1) (trodAll_cons_mk (Below.trod laidOut (by kernel_rfl) (of_decide_eq_true (by kernel_rfl)) k2 bel lt2) trodAll_mk0))), Below.trodVars laidOut bel (by kernel_rfl) hV, bel.frame _, fun h => by cases h⟩

theorem over : Rows.fnTextCompareRow.holds Tryz.pinned (OpenSpec.ofChange Rows.fnTextCompareSpec) :=
  OpenClaim.holds_of_wide 6 Tryz.f6 rfl rfl rfl rfl rfl rfl rfl ⟨rfl, rfl, rfl, rfl, rfl⟩ rfl rfl rfl rfl rfl (by kernel_rfl) Tryz.func6 (by kernel_rfl)
    (of_decide_eq_true (by kernel_rfl)) (by unfold Func.isWrapper; first | (rw [if_pos (by decide +kernel)]; kernel_rfl) | (rw [if_neg (by decide +kernel)]; exact ⟨rfl, rfl⟩))
    (fun os started H enc _ => lifted os started H enc)

/-- The statement. -/
theorem proved : Rows.FnTextCompareCardSaid := by
  unfold Rows.FnTextCompareCardSaid Rows.fnTextCompareCard
  exact Claim7.holds_tied_plain_at .later [] _ _ _ _ over (fun _ h => by cases h) (by kernel_rfl) (fun _ h => by cases h) fnTextCompare_row_tie rfl ⟨rfl, rfl⟩ (by kernel_rfl) rfl
    (fun f fn hf hfn => by
      obtain rfl : f = 6 := Option.some.inj ((show Tryz.prog.funcNamed "loop.example/pub-g03237/laws.FnTextCompare" = some 6 by kernel_rfl).symm.trans hf) |>.symm
      obtain rfl : fn = Tryz.f6 := (Option.some.inj (Tryz.func6.symm.trans hfn)).symm
      exact ⟨by kernel_rfl, fun j t ht => by
        rw [Tryz.params6] at ht
        have hm : t ∈ [5, 9, 9] := by simpa using Array.mem_of_getElem? ht
        have hall : ([5, 9, 9].all fun u => !Tryz.prog.wantsStandIn u) = true := by kernel_rfl
        exact (show Tryz.prog.wantsStandIn t = false by simpa using List.all_eq_true.1 hall t hm)⟩)
    (by kernel_rfl)
#print axioms proved
end Go.Proofs.YtbopmkjfmikmdaaGreatDoor.fnTextCompare
