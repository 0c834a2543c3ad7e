/- It proves FnSmallNot: all bits of an int64 are turned, and of a number of so many bits, from 1 to 62, those. No condition. The card's tie is given. -/
import Derived.Test.YtbopmkjfmikmdaaGreatDoorRows
import Derived.Test.YtbopmkjfmikmdaaGreatDoorCards
import Derived.Test.YtbopmkjfmikmdaaGreatDoorTie
import Derived.Test.YtbopmkjfmikmdaaGreatDoorUnary
import Derived.WalkKit
import Derived.ProofKit
import Derived.OpenShut
import Derived.Below
import Derived.OpenVars
import Derived.LaidMore
import Derived.Stop.Joined
import Derived.SevenTiedAt
namespace Go.Proofs.YtbopmkjfmikmdaaGreatDoor.fnSmallNot
open Go.ChangeShapes Go.WideShapes Go.ChangeAt Go.RowKit
set_option linter.unusedVariables false

theorem own : ownKnob Tryz.prog.godebug = none := by kernel_rfl
theorem laidOut : laidOutB Tryz.prog = true := by kernel_rfl

/-! ### THE WALK -/
set_option maxRecDepth 100000 in
set_option maxHeartbeats 400000 in
/-- impl.sign of 2. -/
theorem sign_two (w : World) : Calls Tryz.prog 12 #[.int .i64 2] w fun e w' => e = .returned (.tuple #[.int .i64 19, .bool true]) ∧ Below w.heap.size w w' := by
  go_enter Tryz.func12, Tryz.ntmps12
  go_wp2
  go_ret2
  exact ⟨rfl, (Below.refl _ _).alloc (Nat.le_refl _) _⟩

/-- The call answers an int64, exactly. -/
def GotInt (x : Int) (w : World) (e : Ending) (w' : World) : Prop := e = .returned (.tuple #[.int .i64 x, .bool true]) ∧ Below w.heap.size w w'

set_option maxRecDepth 100000 in
set_option maxHeartbeats 400000 in
/-- impl.SmallUnary of 2. -/
theorem smallUnary_any (a x p : Int) (H : ∀ w, Calls Tryz.prog 14 #[.int .i64 19, iv a, .int .u64 p] w (GotVal (iv x) w)) (w : World) : Calls Tryz.prog 7 #[.int .i64 2, .int .i64 a, .int .u64 p] w (GotInt x w) := by
  replace H := Lib.hid H
  go_enter Tryz.func7, Tryz.ntmps7
  go_wp2_with fail
  refine (sign_two _).mono ?_
  rintro e w1 ⟨rfl, hb⟩
  go_wp2_with fail
  refine (makeInt64_any a _).mono ?_
  rintro e w2 ⟨rfl, rfl⟩
  go_wp2_with fail
  refine (H.out _).mono ?_
  rintro e w3 ⟨rfl, hb2⟩
  go_wp2_with fail
  refine (int64Val_iv x _).mono ?_
  rintro e w4 ⟨rfl, rfl⟩
  go_wp2
  go_ret2
  exact ⟨rfl, hb.trans (hb2.mono hb.size)⟩

theorem prec_of (a1 : Int) (w1 : (Lit.int .u8 a1).wf = true) : ∃ k : Nat, k < 62 ∧ a1 % 62 = (k : Int) ∧ 0 ≤ a1 ∧ a1 ≤ 255 := by
  have hb : 0 ≤ a1 ∧ a1 ≤ 255 := by simpa [Lit.wf, IntKind.min, IntKind.max, IntKind.bits, IntKind.signed] using w1
  exact ⟨(a1 % 62).toNat, by omega, by omega, by omega, by omega⟩

theorem neg_wraps (a0 : Int) (hn : a0 < 0) (hl : -9223372036854775808 ≤ a0) : (-a0 - 1 != wrap64 (wrap64 (-a0) - 1)) = false := by
  have : wrap64 (wrap64 (-a0) - 1) = -a0 - 1 := by unfold wrap64; omega
  rw [this]; simp

set_option maxRecDepth 100000 in
set_option maxHeartbeats 800000 in
theorem walk_neg (a0 a1 : Int) (k : Nat) (hk : k < 62) (hm : a1 % 62 = (k : Int)) (h0 : 0 ≤ a1) (h1 : a1 ≤ 255) (hn : a0 < 0) (hl : -9223372036854775808 ≤ a0) (w : World) :
    Calls Tryz.prog 3 #[.int .i64 a0, .int .u8 a1] w fun e w' => e = .returned (.bool true) ∧ Below w.heap.size w w' := by
  have H1 := Lib.hid (fun w => smallUnary_any a0 (-a0 - 1) 0 (unary_neg a0 hl hn) w)
  have hw := neg_wraps a0 hn hl
  go_enter Tryz.func3, Tryz.ntmps3
  go_wp2_with fail
  refine (H1.out _).mono ?_
  rintro e w1 ⟨rfl, hb⟩
  go_wp2
  go_ret
  exact ⟨rfl, hb⟩

theorem shl_wrap (k : Nat) (hk : k < 62) : wrap64 (2 ^ (1 + k)) = ((2 ^ (k + 1) : Nat) : Int) := by
  obtain ⟨q1, q2⟩ := prec_facts (k + 1) (by omega) (by omega)
  have e : ((2 : Int) ^ (1 + k)) = ((2 ^ (k + 1) : Nat) : Int) := by rw [Nat.add_comm]; simp
  rw [e]
  generalize 2 ^ (k + 1) = T at *
  unfold wrap64; omega

set_option maxRecDepth 100000 in
set_option maxHeartbeats 800000 in
theorem walk_small (a : Nat) (a1 : Int) (k : Nat) (hk : k < 62) (hm : a1 % 62 = (k : Int)) (h0 : 0 ≤ a1) (h1 : a1 ≤ 255) (ha : a < 2 ^ (k + 1)) (w : World) :
    Calls Tryz.prog 3 #[.int .i64 (a : Int), .int .u8 a1] w fun e w' => e = .returned (.bool true) ∧ Below w.heap.size w w' := by
  obtain ⟨q1, q2⟩ := prec_facts (k + 1) (by omega) (by omega)
  have H1 := Lib.hid (fun w => smallUnary_any a (-a - 1) 0 (unary_pos a (by omega)) w)
  have H2 := Lib.hid (fun w => smallUnary_any a _ ((k + 1 : Nat) : Int) (unary_prec (k + 1) a (by omega) (by omega) ha) w)
  rw [show ((k + 1 : Nat) : Int) = 1 + (k : Int) by omega] at H2
  have hw := shl_wrap k hk
  generalize 2 ^ (k + 1) = T at *
  rw [show ((T - 1 - a : Nat) : Int) = (T : Int) - 1 - (a : Int) by omega] at H2
  go_enter Tryz.func3, Tryz.ntmps3
  go_wp2_with fail
  refine (H1.out _).mono ?_
  rintro e w1 ⟨rfl, hb⟩
  go_wp2_with fail
  refine (H2.out _).mono ?_
  rintro e w2 ⟨rfl, hb2⟩
  go_wp2
  go_ret
  exact ⟨by simp, hb.trans (hb2.mono hb.size)⟩

set_option maxRecDepth 100000 in
set_option maxHeartbeats 800000 in
theorem walk_great (a : Nat) (a1 : Int) (k : Nat) (hk : k < 62) (hm : a1 % 62 = (k : Int)) (h0 : 0 ≤ a1) (h1 : a1 ≤ 255) (ha : ¬ a < 2 ^ (k + 1)) (hl : a < 9223372036854775808) (w : World) :
    Calls Tryz.prog 3 #[.int .i64 (a : Int), .int .u8 a1] w fun e w' => e = .returned (.bool true) ∧ Below w.heap.size w w' := by
  obtain ⟨q1, q2⟩ := prec_facts (k + 1) (by omega) (by omega)
  have H1 := Lib.hid (fun w => smallUnary_any a (-a - 1) 0 (unary_pos a hl) w)
  have hw := shl_wrap k hk
  generalize 2 ^ (k + 1) = T at *
  have ht : (T : Int) ≤ (a : Int) := by omega
  go_enter Tryz.func3, Tryz.ntmps3
  go_wp2_with fail
  refine (H1.out _).mono ?_
  rintro e w1 ⟨rfl, hb⟩
  go_wp2
  go_ret
  exact ⟨rfl, hb⟩

theorem walk (a0 a1 : Int) (w0 : (Lit.int .i64 a0).wf = true) (w1 : (Lit.int .u8 a1).wf = true) (w : World) :
    Calls Tryz.prog 3 #[.int .i64 a0, .int .u8 a1] w fun e w' => e = .returned (.bool true) ∧ Below w.heap.size w w' := by
  have hb := bounds_i64 w0
  obtain ⟨k, hk, hm, h0, h1⟩ := prec_of a1 w1
  by_cases hn : a0 < 0
  · exact walk_neg a0 a1 k hk hm h0 h1 hn hb.1 w
  · obtain ⟨a, rfl⟩ := Int.eq_ofNat_of_zero_le (show 0 ≤ a0 by omega)
    by_cases ha : a < 2 ^ (k + 1)
    · exact walk_small a a1 k hk hm h0 h1 ha w
    · exact walk_great a a1 k hk hm h0 h1 ha (by omega) w

/-! ### THE ROW -/
/-- The heap that the initialisers leave meets the condition. -/
theorem door_met (os : Os) (args : Array Value) : laidMetH Tryz.prog Rows.fnSmallNotRow.laid ((World.doorLaid Tryz.prog 400 os).forCall (fun _ _ => 0) ⟨#[], args, []⟩).memory :=
  laidMetH_of_parts3 (fuel := 8) (laidMet_of_run' 8 (by kernel_rfl) (by kernel_rfl)) (by kernel_rfl) (by kernel_rfl)

/-- Four variables read as four data. -/
theorem vars_four {H : Type} {enc : TypeId × Value → H} {P : Program} {w : World} {sp : Nat → Bool} {n0 n1 n2 n3 : String} {gs : List (DataW H)} {ps : List MemPlace} (h : DataW.TrodVars enc P w sp [n0, n1, n2, n3] gs ps) : ∃ a b c d, gs = [a, b, c, d] := by
  match gs, h with
  | [], h => exact h.elim
  | a :: gs, h =>
    obtain ⟨_, _, _, _, _, _, _, _, _, _, h, _⟩ := h
    match gs, h with
    | [], h => exact h.elim
    | b :: gs, h =>
      obtain ⟨_, _, _, _, _, _, _, _, _, _, h, _⟩ := h
      match gs, h with
      | [], h => exact h.elim
      | c :: gs, h =>
        obtain ⟨_, _, _, _, _, _, _, _, _, _, h, _⟩ := h
        match gs, h with
        | [], h => exact h.elim
        | d :: gs, h =>
          obtain ⟨_, _, _, _, _, _, _, _, _, _, h, _⟩ := h
          match gs, h with
          | [], _ => exact ⟨a, b, c, d, rfl⟩
          | _ :: _, h => exact h.elim

set_option maxRecDepth 100000 in
theorem lifted (os : Os) (started : os.Started) (H : Type) (enc : TypeId × Value → H) :
    ReturnsInHanded {} Tryz.checked os 3 .any (fun w args => (Rows.fnSmallNotSpec.pre enc Tryz.prog Tryz.f3 Rows.fnSmallNotRow.domain false w args ∧ laidMetH Tryz.prog Rows.fnSmallNotRow.laid w) ∧ sizedMet enc Tryz.prog Tryz.f3 (OpenSpec.ofChange Rows.fnSmallNotSpec) false w args)
      (Rows.fnSmallNotSpec.post enc Tryz.prog Tryz.f3 false true false false) := by
  refine returnsInHanded_of_change_and (C := Tryz.checked) (X := fun w _ => laidMetH Tryz.prog Rows.fnSmallNotRow.laid w) (fun _ _ _ hh h => h.of_heap hh) own started (by kernel_rfl) Tryz.func3
    (ChangeSpec.witness_shaped (enc := enc) (C := Tryz.checked) (os := os) (X := fun w _ => laidMetH Tryz.prog Rows.fnSmallNotRow.laid w) false (World.doorLaid Tryz.prog 400 os) #[.int .i64 0, .int .u8 0] 8 rfl (World.shaped_of_RefB (by kernel_rfl) (by kernel_rfl)) (by kernel_rfl) (by kernel_rfl) (by kernel_rfl) (door_met os _)) ?_
  intro W base args ds gs before hval0 hW _ _ hL _
  have hval : ∀ (j : Nat) t v, Tryz.f3.params[j]? = some t → args[j]? = some v → Value.okWide Tryz.prog W .any base t v := hval0
  have hW' := hW
  obtain ⟨p, q, hA0, hV, rfl, hfz, hnd⟩ := hW
  have hA : DataW.TrodAll enc Tryz.prog W 0 (fun _ => true) true Tryz.f3.params.toList args.toList ds p := hA0
  rw [Tryz.params3] at hA hval
  obtain ⟨v0, vs0, d0, ds0, p0, q0, hargs, rfl, rfl, h0, r0⟩ := trodAll_cons hA
  obtain ⟨v1, vs1, d1, ds1, p1, q1, rfl, rfl, rfl, h1, r1⟩ := trodAll_cons r0
  obtain ⟨rfl, rfl, rfl⟩ := trodAll_nil r1
  obtain rfl : args = #[v0, v1] := by cases args; simp_all
  obtain ⟨g0, g1, g2, g3, rfl⟩ := vars_four hV
  have k0 := h0
  have lt0 : ∀ x ∈ p0, x.block < W.heap.size := by obtain ⟨m, hm⟩ := k0; exact DataW.trod_lt m _ _ _ hm
  have k1 := h1
  have lt1 : ∀ x ∈ p1, x.block < W.heap.size := by obtain ⟨m, hm⟩ := k1; exact DataW.trod_lt m _ _ _ hm
  obtain ⟨a0, rfl, rfl, rfl, w0⟩ := open_int Tryz.underlying2 (hval 0 2 v0 rfl rfl) h0
  obtain ⟨a1, rfl, rfl, rfl, w1⟩ := open_int Tryz.underlying5 (hval 1 5 v1 rfl rfl) h1
  clear hA0 hval0
  refine (walk a0 a1 w0 w1 W).mono fun e W' ⟨he, bel⟩ => ?_
  subst he
  exact ⟨_, rfl, _, _, _, [], _, _, hW', trodAll_mk1 (shut_bool Tryz.underlying4 _), (trodAll_cons_mk (Below.trod laidOut (by kernel_rfl) (of_decide_eq_true (by kernel_rfl)) k0 bel lt0) (trodAll_cons_mk (Below.trod laidOut (by kernel_rfl) (of_decide_eq_true (by kernel_rfl)) k1 bel lt1) trodAll_mk0)), Below.trodVars laidOut bel (by kernel_rfl) hV, bel.frame _, fun h => by cases h⟩

theorem over : Rows.fnSmallNotRow.holds Tryz.pinned (OpenSpec.ofChange Rows.fnSmallNotSpec) :=
  OpenClaim.holds_of_wide 3 Tryz.f3 rfl rfl rfl rfl rfl rfl rfl ⟨rfl, rfl, rfl, rfl, rfl⟩ rfl rfl rfl rfl rfl (by kernel_rfl) Tryz.func3 (by kernel_rfl)
    (of_decide_eq_true (by kernel_rfl)) (by unfold Func.isWrapper; first | (rw [if_pos (by decide +kernel)]; kernel_rfl) | (rw [if_neg (by decide +kernel)]; exact ⟨rfl, rfl⟩))
    (fun os started H enc _ => lifted os started H enc)

/-- The statement. -/
theorem proved : Rows.FnSmallNotCardSaid := by
  unfold Rows.FnSmallNotCardSaid Rows.fnSmallNotCard
  exact Claim7.holds_tied_plain_at .later [] _ _ _ _ over (fun _ h => by cases h) (by kernel_rfl) (fun _ h => by cases h) fnSmallNot_row_tie rfl ⟨rfl, rfl⟩ (by kernel_rfl) rfl
    (fun f fn hf hfn => by
      obtain rfl : f = 3 := Option.some.inj ((show Tryz.prog.funcNamed "loop.example/pub-g03237/laws.FnSmallNot" = some 3 by kernel_rfl).symm.trans hf) |>.symm
      obtain rfl : fn = Tryz.f3 := (Option.some.inj (Tryz.func3.symm.trans hfn)).symm
      exact ⟨by kernel_rfl, fun j t ht => by
        rw [Tryz.params3] at ht
        have hm : t ∈ [2, 5] := by simpa using Array.mem_of_getElem? ht
        have hall : ([2, 5].all fun u => !Tryz.prog.wantsStandIn u) = true := by kernel_rfl
        exact (show Tryz.prog.wantsStandIn t = false by simpa using List.all_eq_true.1 hall t hm)⟩)
    (by kernel_rfl)
#print axioms proved
end Go.Proofs.YtbopmkjfmikmdaaGreatDoor.fnSmallNot
