/- It proves FnSmallBytes: for every int64 the package's bytes are those of the reference. No condition. (The frame around the walk was written by the kit's proof-skeleton.) -/
import Derived.Test.YtbmcpbebjgponaaRows
import Derived.Test.YtbmcpbebjgponaaSpec3
import Derived.Test.YtbmcpbebjgponaaBytes
import Derived.Test.YtbmcpbebjgponaaBytesOf
import Derived.WalkKit
import Derived.ProofKit
import Derived.OpenShut
import Derived.Below
namespace Go.Proofs.Ytbmcpbebjgponaa.fnSmallBytes
open Go.ChangeShapes Go.WideShapes Go.ChangeAt Go.RowKit
set_option linter.unusedVariables false      -- a walk need not use every 'w<i>' (that an integer argument fits its kind)

theorem own : ownKnob Try.prog.godebug = none := by kernel_rfl

/-! ### STEP 1: THE WALK -/
set_option maxRecDepth 100000 in
set_option maxHeartbeats 400000 in
/-- impl.SmallBytes. -/
theorem smallBytes_any (a : Int) (h1 : -9223372036854775808 ≤ a) (h2 : a ≤ 9223372036854775807) (w : World) : Calls Try.prog 13 #[.int .i64 a] w (Got .u8 (digs 256 a.natAbs) w) := by
  obtain ⟨i0, hi, hz0, hz1, hz2⟩ := info_parts Try.infoByte
  have hN : a.natAbs < W64 ^ 1 := by rw [Nat.pow_one]; unfold W64; omega
  have hd : (digs W64 a.natAbs).length ≤ 10000 := Nat.le_trans (digs_length_le W64 two_W64 _ 1 hN) (by omega)
  have hd2 : Hid ((digs 256 a.natAbs).length ≤ 10000) := by
    refine Nat.le_trans (digs_length_le 256 (by omega) _ 8 ?_) (by omega)
    rw [Nat.pow_one] at hN; exact hN
  have HB := Lib.hid (fun w => bytes_iv a (decide (a < 0)) a.natAbs w hd (i64toi_any a h1 h2))
  clear hN hd h1 h2
  generalize a.natAbs = N at *
  go_enter Try.func13, Try.ntmps13
  go_wp2_with fail
  refine (makeInt64_any a _).mono ?_
  rintro e w1 ⟨rfl, rfl⟩
  go_wp2_with fail
  refine (HB.out _).mono ?_
  rintro e w1 ⟨A, n, c, rfl, hr, hb⟩
  have hn : n ≤ 10000 := by rw [← hr.len]; exact hd2.out
  go_wp2_with (at_builtin; refine wp_append_copy w1 .u8 rfl (.const (.slice none 0 0)) (.tmp 5) 31 rfl 5 i0 Try.underlying31 hi hz0 hz1 (by omega) rfl A n c (digs 256 N) rfl hr (by omega) ?_; intro v' w2 hown hb2)
  go_ret
  exact got_own hown (hb.trans (hb2.mono hb.size))

set_option maxRecDepth 100000 in
set_option maxHeartbeats 400000 in
theorem walk (a0 : Int) (w0 : (Lit.int .i64 a0).wf = true) (w : World) :
    Calls Try.prog 4 #[.int .i64 a0] w fun e w' => e = .returned (.bool true) ∧ Below w.heap.size w w' := by
  have hb := bounds_i64 w0
  have HO := Lib.hid (of64_any a0 hb.1 hb.2)
  have HS := Lib.hid (smallBytes_any a0 hb.1 hb.2)
  have hlen : Hid ((digs 65536 a0.natAbs).length ≤ 10000) := by
    refine Nat.le_trans (digs_length_le 65536 (by omega) _ 4 ?_) (by omega)
    omega
  clear w0 hb
  generalize decide (a0 < 0) = ng at *
  generalize a0.natAbs = N at *
  go_enter Try.func4, Try.ntmps4
  go_wp2_with fail
  refine (HS.out _).mono ?_
  rintro e w1 ⟨A, n, c, rfl, hr, hb1⟩
  go_wp2_with fail
  refine (HO.out _).mono ?_
  rintro e w2 ⟨A2, n2, c2, A3, n3, c3, rfl, hr2, hr3, hb2⟩
  have hn2 : n2 ≤ 10000 := by rw [← hr2.len]; exact hlen.out
  go_wp2_with fail
  refine (bytesOf_any A2 n2 c2 N _ hr2 hn2).mono ?_
  rintro e w3 ⟨A4, n4, c4, rfl, hr4, hb3⟩
  go_wp2_with fail
  refine (same_any A n c A4 n4 c4 (digs 256 N) _ ((hr.below hb2).below hb3) hr4).mono ?_
  rintro e w4 ⟨rfl, rfl⟩
  go_wp2_with fail
  go_ret
  exact ⟨rfl, (hb1.trans (hb2.mono hb1.size)).trans (hb3.mono (Nat.le_trans hb1.size hb2.size))⟩

/-! ### THE ROW's STEP: WRITTEN OUT: LEAVE IT -/
set_option maxRecDepth 100000 in
theorem lifted (os : Os) (started : os.Started) (H : Type) (enc : TypeId × Value → H) :
    ReturnsInHanded {} Try.checked os 4 .any (Rows.fnSmallBytesSpec.pre6 enc Try.prog Try.f4 Rows.fnSmallBytesRow.domain false) (Rows.fnSmallBytesSpec.post enc Try.prog Try.f4 false true false false) := by
  refine returnsInHanded_of_change (C := Try.checked) own started (by kernel_rfl) Try.func4
    (ChangeSpec.witness6 (enc := enc) (C := Try.checked) false ⟨#[], #[.int .i64 0], []⟩ 8 (by kernel_rfl) (by kernel_rfl) (by kernel_rfl) (by kernel_rfl)) ?_
  intro W base args ds gs before hval0 hW hcnd _
  have hval : ∀ (j : Nat) t v, Try.f4.params[j]? = some t → args[j]? = some v → Value.okWide Try.prog W .any base t v := hval0
  have hW' := hW
  obtain ⟨p, q, hA0, hV, rfl, hfz, hnd⟩ := hW
  have hA : DataW.TrodAll enc Try.prog W 0 (fun _ => true) true Try.f4.params.toList args.toList ds p := hA0
  rw [Try.params4] at hA hval
  obtain ⟨v0, vs0, d0, ds0, p0, q0, hargs, rfl, rfl, h0, r0⟩ := trodAll_cons hA
  obtain ⟨rfl, rfl, rfl⟩ := trodAll_nil r0
  obtain rfl : args = #[v0] := by cases args; simp_all
  obtain ⟨rfl, rfl⟩ := trodVars_none hV
  obtain ⟨a0, rfl, rfl, rfl, w0⟩ := open_int Try.underlying2 (hval 0 2 v0 rfl rfl) h0
  clear hA0 hval0
  simp only [List.append_nil] at hW'
  refine (walk a0 w0 W).mono fun e W' ⟨he, hg⟩ => ?_
  subst he
  exact ⟨_, rfl, _, _, _, [], _, [], hW', (trodAll_cons_mk (shut_bool Try.underlying4 _) trodAll_mk0), (trodAll_cons_mk (shut_int Try.underlying2 w0) trodAll_mk0), rfl, hg.frame _, fun h => by cases h⟩

theorem over : Rows.fnSmallBytesRow.holds Try.pinned (OpenSpec.ofChange Rows.fnSmallBytesSpec) :=
  OpenClaim.holds_of_wide 4 Try.f4 rfl rfl rfl rfl rfl rfl rfl ⟨rfl, rfl, rfl, rfl, rfl⟩ rfl rfl rfl rfl rfl (by kernel_rfl) Try.func4 (by kernel_rfl)
    (of_decide_eq_true (by kernel_rfl)) (by unfold Func.isWrapper; first | (rw [if_pos (by decide +kernel)]; kernel_rfl) | (rw [if_neg (by decide +kernel)]; exact ⟨rfl, rfl⟩))
    (fun os started H enc _ => lifted os started H enc)

/-- The statement. -/
theorem proved : Rows.FnSmallBytesSaid :=
  over
#print axioms proved
end Go.Proofs.Ytbmcpbebjgponaa.fnSmallBytes

