/- It proves FnFromUint64: for every uint64 the package tells it as it is, and as an int64 exactly if it is below 2 to the power of 63. No condition. (The frame around the walk was written by the kit's proof-skeleton.) -/
import Derived.Test.YtbmcpbebjgponaaRows
import Derived.Test.YtbmcpbebjgponaaConst2
import Derived.WalkKit
import Derived.ProofKit
import Derived.OpenShut
import Derived.Below
namespace Go.Proofs.Ytbmcpbebjgponaa.fnFromUint64
open Go.ChangeShapes Go.WideShapes Go.ChangeAt Go.RowKit
set_option linter.unusedVariables false      -- a walk need not use every 'w<i>' (that an integer argument fits its kind)

theorem own : ownKnob Try.prog.godebug = none := by kernel_rfl

/-! ### STEP 1: THE WALK -/
theorem results4 {fn : Func} {t u v x : Tmp} (h : fn.results = #[.tmp t, .tmp u, .tmp v, .tmp x]) (tmps : Array Value) (P : Program) (w : World) :
    (results fn tmps).run P w = .ok (.tuple #[tmps.getD t undef, tmps.getD u undef, tmps.getD v undef, tmps.getD x undef]) w := by simp [results, h]

set_option maxRecDepth 100000 in
set_option maxHeartbeats 400000 in
/-- impl.FromUint64, small. -/
theorem from_small (x : Nat) (hx : x < 9223372036854775808) (w : World) :
    Calls Try.prog 19 #[.int .u64 (x : Int)] w fun e w' => e = .returned (.tuple #[.int .i64 (x : Int), .bool true, .int .u64 (x : Int), .bool true]) ∧ w = w' := by
  have H := Lib.hid (makeUint64_small x hx)
  have hu : IntKind.u64.wrap (x : Int) = (x : Int) := by rw [IntKind.wrap_u64]; omega
  clear hx
  go_enter Try.func19, Try.ntmps19
  go_wp2_with fail
  refine (H.out _).mono ?_
  rintro e w1 ⟨rfl, rfl⟩
  go_wp2_with fail
  refine (int64Val_iv _ _).mono ?_
  rintro e w1 ⟨rfl, rfl⟩
  go_wp2_with fail
  refine (uint64Val_iv _ _).mono ?_
  rintro e w1 ⟨rfl, rfl⟩
  go_wp2_with fail
  refine bodyPost_ret (results4 rfl _ _ _) rfl ?_
  exact ⟨rfl, rfl⟩

set_option maxRecDepth 100000 in
set_option maxHeartbeats 400000 in
/-- impl.FromUint64, great. -/
theorem from_great (x : Nat) (hx : ¬ x < 9223372036854775808) (hx2 : x < W64) (w : World) :
    Calls Try.prog 19 #[.int .u64 (x : Int)] w fun e w' => (∃ n, e = .returned (.tuple #[.int .i64 n, .bool false, .int .u64 (x : Int), .bool true])) ∧ Below w.heap.size w w' := by
  have H := Lib.hid (makeUint64_great x hx hx2)
  have HU : Hid (∀ g w, IntAt w g false x → Calls Try.prog 36 #[bv g] w fun e w' => e = .returned (.tuple #[.int .u64 (x : Int), .bool true]) ∧ Below w.heap.size w w') := by
    intro g w h
    have h1 := uint64Val_bv g false x w h
    rw [Nat.mod_eq_of_lt hx2, decide_eq_true hx2] at h1
    exact h1
  clear hx hx2
  go_enter Try.func19, Try.ntmps19
  go_wp2_with fail
  refine (H.out _).mono ?_
  rintro e w1 ⟨⟨g, rfl, hI⟩, hb1⟩
  go_wp2_with fail
  refine (int64Val_bv g false x _ hI).mono ?_
  rintro e w2 ⟨⟨n, rfl⟩, hb2⟩
  go_wp2_with fail
  refine (HU.out g _ (hI.below hb2)).mono ?_
  rintro e w3 ⟨rfl, hb3⟩
  go_wp2_with fail
  refine bodyPost_ret (results4 rfl _ _ _) rfl ?_
  exact ⟨⟨n, rfl⟩, (hb1.trans (hb2.mono hb1.size)).trans (hb3.mono (Nat.le_trans hb1.size hb2.size))⟩

set_option maxRecDepth 100000 in
set_option maxHeartbeats 400000 in
theorem walk_small (x : Nat) (hx : x < 9223372036854775808) (w : World) :
    Calls Try.prog 6 #[.int .u64 (x : Int)] w fun e w' => e = .returned (.bool true) ∧ w = w' := by
  have H := Lib.hid (from_small x hx)
  have hlt : (x : Int) < 9223372036854775808 := by omega
  have hw := wrap64_small x hx
  clear hx
  go_enter Try.func6, Try.ntmps6
  go_wp2_with fail
  refine (H.out _).mono ?_
  rintro e w1 ⟨rfl, rfl⟩
  go_wp2
  go_ret
  exact ⟨by simp, rfl⟩

set_option maxRecDepth 100000 in
set_option maxHeartbeats 400000 in
theorem walk_great (x : Nat) (hx : ¬ x < 9223372036854775808) (hx2 : x < W64) (w : World) :
    Calls Try.prog 6 #[.int .u64 (x : Int)] w fun e w' => e = .returned (.bool true) ∧ Below w.heap.size w w' := by
  have H := Lib.hid (from_great x hx hx2)
  have hlt : ¬ (x : Int) < 9223372036854775808 := by omega
  have hlb : decide ((x : Int) < 9223372036854775808) = false := decide_eq_false hlt
  clear hx hx2
  go_enter Try.func6, Try.ntmps6
  go_wp2_with fail
  refine (H.out _).mono ?_
  rintro e w1 ⟨⟨n, rfl⟩, hb1⟩
  go_wp2
  go_ret
  exact ⟨by simp, hb1⟩

theorem lt_W64 (x : Nat) (h : (x : Int) ≤ 18446744073709551615) : x < W64 := by unfold W64; omega

theorem walk (a0 : Int) (w0 : (Lit.int .u64 a0).wf = true) (w : World) :
    Calls Try.prog 6 #[.int .u64 a0] w fun e w' => e = .returned (.bool true) ∧ Below w.heap.size w w' := by
  have hb := bounds_u64 w0
  obtain ⟨x, rfl⟩ := Int.eq_ofNat_of_zero_le hb.1
  by_cases hx : x < 9223372036854775808
  · exact (walk_small x hx w).mono fun _ _ h => ⟨h.1, h.2 ▸ Below.refl _ _⟩
  · exact walk_great x hx (lt_W64 x hb.2) w

/-! ### THE ROW's STEP: WRITTEN OUT: LEAVE IT -/
set_option maxRecDepth 100000 in
theorem lifted (os : Os) (started : os.Started) (H : Type) (enc : TypeId × Value → H) :
    ReturnsInHanded {} Try.checked os 6 .any (Rows.fnFromUint64Spec.pre6 enc Try.prog Try.f6 Rows.fnFromUint64Row.domain false) (Rows.fnFromUint64Spec.post enc Try.prog Try.f6 false true false false) := by
  refine returnsInHanded_of_change (C := Try.checked) own started (by kernel_rfl) Try.func6
    (ChangeSpec.witness6 (enc := enc) (C := Try.checked) false ⟨#[], #[.int .u64 0], []⟩ 8 (by kernel_rfl) (by kernel_rfl) (by kernel_rfl) (by kernel_rfl)) ?_
  intro W base args ds gs before hval0 hW hcnd _
  have hval : ∀ (j : Nat) t v, Try.f6.params[j]? = some t → args[j]? = some v → Value.okWide Try.prog W .any base t v := hval0
  have hW' := hW
  obtain ⟨p, q, hA0, hV, rfl, hfz, hnd⟩ := hW
  have hA : DataW.TrodAll enc Try.prog W 0 (fun _ => true) true Try.f6.params.toList args.toList ds p := hA0
  rw [Try.params6] at hA hval
  obtain ⟨v0, vs0, d0, ds0, p0, q0, hargs, rfl, rfl, h0, r0⟩ := trodAll_cons hA
  obtain ⟨rfl, rfl, rfl⟩ := trodAll_nil r0
  obtain rfl : args = #[v0] := by cases args; simp_all
  obtain ⟨rfl, rfl⟩ := trodVars_none hV
  obtain ⟨a0, rfl, rfl, rfl, w0⟩ := open_int Try.underlying40 (hval 0 40 v0 rfl rfl) h0
  clear hA0 hval0
  simp only [List.append_nil] at hW'
  refine (walk a0 w0 W).mono fun e W' ⟨he, hg⟩ => ?_
  subst he
  exact ⟨_, rfl, _, _, _, [], _, [], hW', (trodAll_cons_mk (shut_bool Try.underlying4 _) trodAll_mk0), (trodAll_cons_mk (shut_int Try.underlying40 w0) trodAll_mk0), rfl, hg.frame _, fun h => by cases h⟩

theorem over : Rows.fnFromUint64Row.holds Try.pinned (OpenSpec.ofChange Rows.fnFromUint64Spec) :=
  OpenClaim.holds_of_wide 6 Try.f6 rfl rfl rfl rfl rfl rfl rfl ⟨rfl, rfl, rfl, rfl, rfl⟩ rfl rfl rfl rfl rfl (by kernel_rfl) Try.func6 (by kernel_rfl)
    (of_decide_eq_true (by kernel_rfl)) (by unfold Func.isWrapper; first | (rw [if_pos (by decide +kernel)]; kernel_rfl) | (rw [if_neg (by decide +kernel)]; exact ⟨rfl, rfl⟩))
    (fun os started H enc _ => lifted os started H enc)

/-- The statement. -/
theorem proved : Rows.FnFromUint64Said :=
  over
#print axioms proved
end Go.Proofs.Ytbmcpbebjgponaa.fnFromUint64

