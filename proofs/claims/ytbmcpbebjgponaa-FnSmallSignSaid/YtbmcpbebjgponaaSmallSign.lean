/- It proves FnSmallSign: for every int64 the package's sign is the reference's. No condition. (The frame around the walk was written by the kit's proof-skeleton.) -/
import Derived.Test.YtbmcpbebjgponaaRows
import Derived.Test.YtbmcpbebjgponaaSpec3
import Derived.Test.YtbmcpbebjgponaaConst1
import Derived.WalkKit
import Derived.ProofKit
import Derived.OpenShut
import Derived.Below
namespace Go.Proofs.Ytbmcpbebjgponaa.fnSmallSign
open Go.ChangeShapes Go.WideShapes Go.ChangeAt Go.RowKit
set_option linter.unusedVariables false      -- a walk need not use every 'w<i>' (that an integer argument fits its kind)

theorem own : ownKnob Try.prog.godebug = none := by kernel_rfl

/-! ### STEP 1: THE WALK -/
/-- impl.SmallSign. -/
theorem smallSign_any (a : Int) (w : World) : Calls Try.prog 9 #[.int .i64 a] w fun e w' => e = .returned (.int .i64 (sgn a)) ∧ w = w' := by
  go_enter Try.func9, Try.ntmps9
  go_wp2_with fail
  refine (makeInt64_any a _).mono ?_
  rintro e w1 ⟨rfl, rfl⟩
  go_wp2_with fail
  refine (sign_i64 a _).mono ?_
  rintro e w1 ⟨rfl, rfl⟩
  go_wp2_with fail
  go_ret
  exact ⟨rfl, rfl⟩

theorem sgn_pos (a : Nat) : sgn (a : Int) = signN false a := by
  unfold sgn signN
  by_cases h : a = 0
  · subst h; simp
  · rw [if_neg (by omega), if_pos (by omega), if_neg h]; rfl
theorem sgn_neg (a : Int) (h : a < 0) : sgn a = signN true a.natAbs := by
  unfold sgn signN
  rw [if_pos h, if_neg (by omega)]; rfl

theorem of64_any (a : Int) (h1 : -9223372036854775808 ≤ a) (h2 : a ≤ 9223372036854775807) (w : World) : Calls Try.prog 11 #[.int .i64 a] w (GotRat (decide (a < 0)) a.natAbs 1 w) := by
  by_cases h : a < 0
  · rw [decide_eq_true h]; exact of64_neg a h h1 w
  · rw [decide_eq_false h]
    obtain ⟨m, rfl⟩ := Int.eq_ofNat_of_zero_le (by omega : 0 ≤ a)
    exact of64_pos m (by omega) w

theorem sgn_eq (a : Int) : sgn a = signN (decide (a < 0)) a.natAbs := by
  by_cases h : a < 0
  · rw [decide_eq_true h]; exact sgn_neg a h
  · rw [decide_eq_false h]
    obtain ⟨m, rfl⟩ := Int.eq_ofNat_of_zero_le (by omega : 0 ≤ a)
    exact sgn_pos m

set_option maxHeartbeats 400000 in
theorem walk (a0 : Int) (w0 : (Lit.int .i64 a0).wf = true) (w : World) :
    Calls Try.prog 3 #[.int .i64 a0] w fun e w' => e = .returned (.bool true) ∧ Below w.heap.size w w' := by
  have hb := bounds_i64 w0
  have hof := of64_any a0 hb.1 hb.2
  have HO := Lib.hid hof
  have he := sgn_eq a0
  have HE := Lib.hid he
  clear hof he hb
  generalize decide (a0 < 0) = ng at *
  go_enter Try.func3, Try.ntmps3
  go_wp2_with fail
  refine (smallSign_any a0 _).mono ?_
  rintro e w1 ⟨rfl, rfl⟩
  go_wp2_with fail
  refine (HO.out _).mono ?_
  rintro e w1 ⟨A, n, c, A2, n2, c2, rfl, hr, hr2, hb1⟩
  go_wp2_with fail
  refine (signOf_any ng A n c A2 n2 c2 a0.natAbs _ hr).mono ?_
  rw [← HE.out]
  rintro e w2 ⟨rfl, hb2⟩
  go_wp2_with fail
  go_ret
  exact ⟨by simp, hb1.trans (hb2.mono hb1.size)⟩

/-! ### THE ROW's STEP: WRITTEN OUT: LEAVE IT -/
set_option maxRecDepth 100000 in
theorem lifted (os : Os) (started : os.Started) (H : Type) (enc : TypeId × Value → H) :
    ReturnsInHanded {} Try.checked os 3 .any (Rows.fnSmallSignSpec.pre6 enc Try.prog Try.f3 Rows.fnSmallSignRow.domain false) (Rows.fnSmallSignSpec.post enc Try.prog Try.f3 false true false false) := by
  refine returnsInHanded_of_change (C := Try.checked) own started (by kernel_rfl) Try.func3
    (ChangeSpec.witness6 (enc := enc) (C := Try.checked) false ⟨#[], #[.int .i64 0], []⟩ 8 (by kernel_rfl) (by kernel_rfl) (by kernel_rfl) (by kernel_rfl)) ?_
  intro W base args ds gs before hval0 hW hcnd _
  have hval : ∀ (j : Nat) t v, Try.f3.params[j]? = some t → args[j]? = some v → Value.okWide Try.prog W .any base t v := hval0
  have hW' := hW
  obtain ⟨p, q, hA0, hV, rfl, hfz, hnd⟩ := hW
  have hA : DataW.TrodAll enc Try.prog W 0 (fun _ => true) true Try.f3.params.toList args.toList ds p := hA0
  rw [Try.params3] at hA hval
  obtain ⟨v0, vs0, d0, ds0, p0, q0, hargs, rfl, rfl, h0, r0⟩ := trodAll_cons hA
  obtain ⟨rfl, rfl, rfl⟩ := trodAll_nil r0
  obtain rfl : args = #[v0] := by cases args; simp_all
  obtain ⟨rfl, rfl⟩ := trodVars_none hV
  obtain ⟨a0, rfl, rfl, rfl, w0⟩ := open_int Try.underlying2 (hval 0 2 v0 rfl rfl) h0
  clear hA0 hval0
  simp only [List.append_nil] at hW'
  refine (walk a0 w0 W).mono fun e W' ⟨he, hb⟩ => ?_
  subst he
  exact ⟨_, rfl, _, _, _, [], _, [], hW', trodAll_mk1 (shut_bool Try.underlying4 _), (trodAll_cons_mk (shut_int Try.underlying2 w0) trodAll_mk0), rfl, hb.frame _, fun h => by cases h⟩

theorem over : Rows.fnSmallSignRow.holds Try.pinned (OpenSpec.ofChange Rows.fnSmallSignSpec) :=
  OpenClaim.holds_of_wide 3 Try.f3 rfl rfl rfl rfl rfl rfl rfl ⟨rfl, rfl, rfl, rfl, rfl⟩ rfl rfl rfl rfl rfl (by kernel_rfl) Try.func3 (by kernel_rfl)
    (of_decide_eq_true (by kernel_rfl)) (by unfold Func.isWrapper; first | (rw [if_pos (by decide +kernel)]; kernel_rfl) | (rw [if_neg (by decide +kernel)]; exact ⟨rfl, rfl⟩))
    (fun os started H enc _ => lifted os started H enc)

/-- ████ THE STATEMENT ████ -/
theorem proved : Rows.FnSmallSignSaid :=
  over
#print axioms proved
end Go.Proofs.Ytbmcpbebjgponaa.fnSmallSign
