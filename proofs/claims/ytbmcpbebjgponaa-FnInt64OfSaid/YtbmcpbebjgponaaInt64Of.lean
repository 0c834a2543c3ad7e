/- It proves FnInt64Of: of at most 300 bytes the package tells the number as an int64, and that it is one, just where the reference does; of more bytes the statement says nothing. No condition. (The frame around the walk was written by the kit's proof-skeleton.) -/
import Derived.Test.YtbmcpbebjgponaaRows
import Derived.Test.YtbmcpbebjgponaaOfBytes
import Derived.Test.YtbmcpbebjgponaaNatural
import Derived.Test.YtbmcpbebjgponaaSpec7
import Derived.WalkKit
import Derived.ProofKit
import Derived.OpenShut
import Derived.ShutString
import Derived.ChangeOld
import Derived.Below
namespace Go.Proofs.Ytbmcpbebjgponaa.fnInt64Of
open Go.ChangeShapes Go.WideShapes Go.ChangeAt Go.RowKit
open Go.ChangeMaps (open_string shut_string)
set_option linter.unusedVariables false

theorem own : ownKnob Try.prog.godebug = none := by kernel_rfl
theorem laidOut : laidOutB Try.prog = true := by kernel_rfl

/-- WHAT THE WALK IS TOLD OF A SLICE OF INTEGERS THAT CAME IN: it is nil; or it leads to a row of 'cap' cells, the numbers 'zs' (the first 'len' are its elements, the rest its spare room), each fitting its kind. -/
def IsRow (k : IntKind) (w : World) (a : Option Addr) (len cap : Nat) (zs : List Int) : Prop :=
  (a = none ∧ len = 0 ∧ cap = 0 ∧ zs = []) ∨
  ∃ x, a = some x ∧ len ≤ cap ∧ cap ≤ maxLen ∧ zs.length = cap ∧ (∀ i, i < zs.length → w.cell? (x.add i) = some (.int k (zs.getD i 0))) ∧ ∀ n ∈ zs, (Lit.int k n).wf = true

/-! ### STEP 1: THE WALK -/
set_option maxRecDepth 100000 in
set_option maxHeartbeats 400000 in
/-- impl.Int64Of. -/
theorem int64Of_any (A : Option Addr) (n c : Nat) (l : List Nat) (w : World) (h : Rd .u8 w A n c l) (hl : ∀ d ∈ l, d < 256) (hn : n ≤ 1000) :
    Calls Try.prog 15 #[.slice A n c] w fun e w' => (∃ x ok, e = .returned (.tuple #[.int .i64 x, .bool ok]) ∧ ok = decide (val 256 l < 9223372036854775808) ∧ (ok = true → x = (val 256 l : Nat))) ∧ Below w.heap.size w w' := by
  have HO := Lib.hid (ofBytes_any A n c l w h hl hn)
  clear h hl
  generalize val 256 l = N at *
  go_enter Try.func15, Try.ntmps15
  go_wp2_with fail
  refine HO.out.mono ?_
  rintro e w1 ⟨v, rfl, hv, hb⟩
  rcases hv with ⟨a, rfl, h1, h2, h3, h4⟩ | ⟨g, rfl, hI, hf⟩
  · have hfin : Hid (0 ≤ a ∧ N < 9223372036854775808 ∧ a = (N : Int)) := by
      have h5 : ¬ a < 0 := by intro h6; rw [decide_eq_true h6] at h3; cases h3
      refine ⟨by omega, by omega, by omega⟩
    clear h1 h2 h3 h4
    go_wp2_with fail
    refine (int64Val_iv a _).mono ?_
    rintro e w2 ⟨rfl, rfl⟩
    go_wp2_with fail
    go_ret2
    exact ⟨⟨a, true, rfl, (decide_eq_true hfin.out.2.1).symm, fun _ => hfin.out.2.2⟩, hb⟩
  · have hfin : Hid (¬ N < 9223372036854775808) := by
      intro h6
      unfold fits64 at hf
      rw [decide_eq_true h6] at hf
      simp at hf
    clear hf
    go_wp2_with fail
    refine (int64Val_bv g false N _ hI).mono ?_
    rintro e w2 ⟨⟨x, rfl⟩, hb2⟩
    go_wp2_with fail
    go_ret2
    exact ⟨⟨x, false, rfl, (decide_eq_false hfin.out).symm, fun h => by cases h⟩, hb.trans (hb2.mono hb.size)⟩

set_option maxRecDepth 100000 in
set_option maxHeartbeats 400000 in
theorem walk (a0 : Option Addr) (len0 cap0 : Nat) (z0 : List Int) (w : World) (w0 : IsRow .u8 w a0 len0 cap0 z0) :
    Calls Try.prog 5 #[.slice a0 len0 cap0] w fun e w' => e = .returned (.bool true) ∧ Below w.heap.size w w' := by
  obtain ⟨l, hr, hl⟩ := rd_of_row w0
  clear w0
  by_cases h1 : len0 ≤ 300
  · have HO := Lib.hid (int64Of_any a0 len0 cap0 l w hr hl (by omega))
    have HN := Lib.hid (fun w' (h : Below w.heap.size w w') => natural_any a0 len0 cap0 l w' (hr.below h) hl h1)
    have hlen : Hid ((digs 65536 (val 256 l)).length ≤ 10000) := by
      have hv := val_lt 256 (by omega) l hl
      rw [hr.len] at hv
      exact Nat.le_trans (digs_length_le 65536 (by omega) _ len0 (Nat.lt_of_lt_of_le hv (pow256_le len0))) (by omega)
    clear hr hl
    generalize val 256 l = N at *
    go_enter Try.func5, Try.ntmps5
    go_wp2_with fail
    refine HO.out.mono ?_
    rintro e w1 ⟨⟨x, ok, rfl, hok, hx⟩, hb1⟩
    have HK := Lib.hid hok
    have HX := Lib.hid hx
    clear hok hx
    go_wp2_with fail
    refine (HN.out _ hb1).mono ?_
    rintro e w2 ⟨A, n, c, rfl, hr2, hb2⟩
    go_wp2_with fail
    refine (whole_false A n c N _ hr2).mono ?_
    rintro e w3 ⟨A3, n3, c3, A4, n4, c4, rfl, hr3, hr4, hb3⟩
    go_wp2_with fail
    refine (fits_any x ok A3 n3 c3 A4 n4 c4 N _ hr3 (by rw [← hr3.len]; exact hlen.out) HK.out HX.out).mono ?_
    rintro e w4 ⟨rfl, hb4⟩
    go_wp2_with fail
    go_ret
    exact ⟨rfl, ((hb1.trans (hb2.mono hb1.size)).trans (hb3.mono (Nat.le_trans hb1.size hb2.size))).trans (hb4.mono (Nat.le_trans (Nat.le_trans hb1.size hb2.size) hb3.size))⟩
  · by_cases h2 : len0 ≤ 2147483647
    · go_enter Try.func5, Try.ntmps5
      go_wp2
      go_ret
      exact ⟨rfl, Below.refl _ _⟩
    · go_enter Try.func5, Try.ntmps5
      go_wp2
      go_ret
      exact ⟨rfl, Below.refl _ _⟩

/-! ### THE ROW's STEP: WRITTEN OUT: LEAVE IT -/
set_option maxRecDepth 100000 in
theorem lifted (os : Os) (started : os.Started) (H : Type) (enc : TypeId × Value → H) :
    ReturnsInHanded {} Try.checked os 5 .any (Rows.fnInt64OfSpec.pre6 enc Try.prog Try.f5 Rows.fnInt64OfRow.domain false) (Rows.fnInt64OfSpec.post enc Try.prog Try.f5 false true false false) := by
  refine returnsInHanded_of_change (C := Try.checked) own started (by kernel_rfl) Try.func5
    (ChangeSpec.witness6 (enc := enc) (C := Try.checked) false ⟨#[], #[.slice none 0 0], []⟩ 8 (by kernel_rfl) (by kernel_rfl) (by kernel_rfl) (by kernel_rfl)) ?_
  intro W base args ds gs before hval0 hW hcnd _
  have hval : ∀ (j : Nat) t v, Try.f5.params[j]? = some t → args[j]? = some v → Value.okWide Try.prog W .any base t v := hval0
  have hW' := hW
  obtain ⟨p, q, hA0, hV, rfl, hfz, hnd⟩ := hW
  have hA : DataW.TrodAll enc Try.prog W 0 (fun _ => true) true Try.f5.params.toList args.toList ds p := hA0
  rw [Try.params5] at hA hval
  obtain ⟨v0, vs0, d0, ds0, p0, q0, hargs, rfl, rfl, h0, r0⟩ := trodAll_cons hA
  obtain ⟨rfl, rfl, rfl⟩ := trodAll_nil r0
  obtain rfl : args = #[v0] := by cases args; simp_all
  obtain ⟨rfl, rfl⟩ := trodVars_none hV
  obtain ⟨a0, len0, cap0, rfl⟩ := okWide_slice Try.underlying31 (hval 0 31 v0 rfl rfl)
  have k0 := h0
  have lt0 : ∀ x ∈ p0, x.block < W.heap.size := by obtain ⟨m, hm⟩ := k0; exact DataW.trod_lt m _ _ _ hm
  obtain ⟨z0, w0⟩ : ∃ zs, IsRow .u8 W a0 len0 cap0 zs := by
    obtain ⟨fuel, hf⟩ := h0
    rcases open_ints Try.underlying31 Try.underlying5 (by kernel_rfl) hf with ⟨hcs, _⟩ | ⟨x, l, c, zs, hcs, _, hl, hm, hz, _, hcell, hwz⟩
    · simp [Value.cells] at hcs
      obtain ⟨rfl, rfl, rfl⟩ := hcs
      exact ⟨[], .inl ⟨rfl, rfl, rfl, rfl⟩⟩
    · simp [Value.cells] at hcs
      obtain ⟨rfl, rfl, rfl⟩ := hcs
      exact ⟨zs, .inr ⟨_, rfl, hl, hm, by simpa using hz, hcell, hwz⟩⟩
  clear hA0 hval0
  refine (walk a0 len0 cap0 z0 W w0).mono fun e W' ⟨he, bel⟩ => ?_
  subst he
  exact ⟨_, rfl, _, _, _, [], _, [], hW', trodAll_mk1 (shut_bool Try.underlying4 _), (trodAll_cons_mk (Below.trod laidOut (by kernel_rfl) (of_decide_eq_true (by kernel_rfl)) k0 bel lt0) trodAll_mk0), rfl, bel.frame _, fun h => by cases h⟩

theorem over : Rows.fnInt64OfRow.holds Try.pinned (OpenSpec.ofChange Rows.fnInt64OfSpec) :=
  OpenClaim.holds_of_wide 5 Try.f5 rfl rfl rfl rfl rfl rfl rfl ⟨rfl, rfl, rfl, rfl, rfl⟩ rfl rfl rfl rfl rfl (by kernel_rfl) Try.func5 (by kernel_rfl)
    (of_decide_eq_true (by kernel_rfl)) (by unfold Func.isWrapper; first | (rw [if_pos (by decide +kernel)]; kernel_rfl) | (rw [if_neg (by decide +kernel)]; exact ⟨rfl, rfl⟩))
    (fun os started H enc _ => lifted os started H enc)

/-- The statement. -/
theorem proved : Rows.FnInt64OfSaid := over
#print axioms proved
end Go.Proofs.Ytbmcpbebjgponaa.fnInt64Of

