/- It proves FnShiftOf: of at most 200 bytes the package shifts the number by so many bits as the reference does; of more bytes the statement says nothing. No condition. (The frame around the walk was written by the kit's proof-skeleton.) -/
import Derived.Test.YtbmcpbebjgponaaRows
import Derived.Test.YtbmcpbebjgponaaOfBytes
import Derived.Test.YtbmcpbebjgponaaNatural
import Derived.Test.YtbmcpbebjgponaaBytesOf
import Derived.Test.YtbmcpbebjgponaaShifted
import Derived.Test.YtbmcpbebjgponaaShift8
import Derived.Test.YtbmcpbebjgponaaBytes
import Derived.WalkKit
import Derived.ProofKit
import Derived.OpenShut
import Derived.ShutString
import Derived.ChangeOld
import Derived.Below
namespace Go.Proofs.Ytbmcpbebjgponaa.fnShiftOf
open Go.ChangeShapes Go.WideShapes Go.ChangeAt Go.RowKit
open Go.ChangeMaps (open_string shut_string)
set_option linter.unusedVariables false

theorem own : ownKnob Try.prog.godebug = none := by kernel_rfl
theorem laidOut : laidOutB Try.prog = true := by kernel_rfl

/-- WHAT THE WALK IS TOLD OF A SLICE OF INTEGERS THAT CAME IN: it is nil; or it leads to a row of 'cap' cells, the numbers 'zs' (the first 'len' are its elements, the rest its spare room), each fitting its kind. -/
def IsRow (k : IntKind) (w : World) (a : Option Addr) (len cap : Nat) (zs : List Int) : Prop :=
  (a = none ∧ len = 0 ∧ cap = 0 ∧ zs = []) ∨
  ∃ x, a = some x ∧ len ≤ cap ∧ cap ≤ maxLen ∧ zs.length = cap ∧ (∀ i, i < zs.length → w.cell? (x.add i) = some (.int k (zs.getD i 0))) ∧ ∀ n ∈ zs, (Lit.int k n).wf = true

/-! ### STEP 1: THE WALK -/
theorem shifted_lt (left : Bool) (B N n s : Nat) (hB : 256 ≤ B) (hN : N < 256 ^ n) : shifted left N s < B ^ (n + s) := by
  have h1 : shifted left N s ≤ N * 2 ^ s := by
    unfold shifted
    cases left
    · exact Nat.le_trans (Nat.div_le_self _ _) (Nat.le_mul_of_pos_right _ (Nat.two_pow_pos s))
    · exact Nat.le_refl _
  have h2 : N < B ^ n := Nat.lt_of_lt_of_le hN (Nat.pow_le_pow_left hB n)
  have h3 : (2 : Nat) ^ s ≤ B ^ s := Nat.pow_le_pow_left (by omega) s
  rw [Nat.pow_add]
  exact Nat.lt_of_le_of_lt h1 (Nat.lt_of_lt_of_le (Nat.mul_lt_mul_of_pos_right h2 (Nat.two_pow_pos s)) (Nat.mul_le_mul_left _ h3))

set_option maxRecDepth 100000 in
/-- impl.direction. -/
theorem direction_any (left : Bool) (w : World) : Calls Try.prog 38 #[.bool left] w fun e w' => e = .returned (.int .i64 (if left then 20 else 21)) ∧ w = w' := by
  cases left
  · go_enter Try.func38, Try.ntmps38
    go_wp2
    go_ret
    exact ⟨rfl, rfl⟩
  · go_enter Try.func38, Try.ntmps38
    go_wp2
    go_ret
    exact ⟨rfl, rfl⟩

set_option maxRecDepth 100000 in
set_option maxHeartbeats 400000 in
/-- impl.ShiftOf. -/
theorem shiftOf_any (A : Option Addr) (n c : Nat) (l : List Nat) (left : Bool) (s : Nat) (w : World) (h : Rd .u8 w A n c l) (hl : ∀ d ∈ l, d < 256) (hn : n ≤ 1000) (hs : s ≤ 1000) :
    Calls Try.prog 21 #[.slice A n c, .bool left, .int .u64 (s : Int)] w (Got .u8 (digs 256 (shifted left (val 256 l) s)) w) := by
  obtain ⟨i0, hi, hz0, hz1, hz2⟩ := info_parts Try.infoByte
  have HO := Lib.hid (ofBytes_any A n c l w h hl hn)
  have hNlt : val 256 l < 256 ^ n := by have := val_lt 256 (by omega) l hl; rw [h.len] at this; exact this
  have hNW : val 256 l < W64 ^ n := Nat.lt_of_lt_of_le hNlt (Nat.pow_le_pow_left (by decide) n)
  have hd0 : (digs W64 (val 256 l)).length ≤ 10000 := Nat.le_trans (digs_length_le W64 two_W64 _ n hNW) (by omega)
  have hd : Hid ((digs W64 (shifted left (val 256 l) s)).length ≤ 10000) := Nat.le_trans (digs_length_le W64 two_W64 _ (n + s) (shifted_lt left W64 _ n s (by decide) hNlt)) (by omega)
  have hd2 : Hid ((digs 256 (shifted left (val 256 l) s)).length ≤ 10000) := Nat.le_trans (digs_length_le 256 (by omega) _ (n + s) (shifted_lt left 256 _ n s (by omega) hNlt)) (by omega)
  have HS := Lib.hid (fun v w' (hv : IsV w' v false (val 256 l)) => shift_any v left (val 256 l) s w' hv hd0 (by omega))
  have HD := Lib.hid (direction_any left)
  clear h hl hNlt hNW hd0
  generalize val 256 l = N at *
  generalize shifted left N s = M at *
  have HV : Hid (∀ (v : Value) (w : World), IsV w v false M → Calls Try.prog 27 #[v] w (Got .u8 (digs 256 M) w)) := by
    intro v w hv
    rcases hv with ⟨a, rfl, h1, h2, h3, h4⟩ | ⟨g, rfl, hI, hf⟩
    · exact bytes_iv a false M w hd.out (fun w => by have := i64toi_any a h1 h2 w; rw [← h3, ← h4] at this; exact this)
    · exact bytes_bv g false M w hI hd.out
  generalize (if left = true then (20 : Int) else 21) = t at *
  go_enter Try.func21, Try.ntmps21
  go_wp2_with fail
  refine HO.out.mono ?_
  rintro e w1 ⟨v, rfl, hv, hb⟩
  go_wp2_with fail
  refine (HD.out _).mono ?_
  rintro e w1b ⟨rfl, rfl⟩
  go_wp2_with fail
  refine (HS.out v _ hv).mono ?_
  rintro e w2 ⟨v2, rfl, hv2, hb2⟩
  go_wp2_with fail
  refine (HV.out v2 _ hv2).mono ?_
  rintro e w3 ⟨A3, n3, c3, rfl, hr3, hb3⟩
  have hn3 : n3 ≤ 10000 := by rw [← hr3.len]; exact hd2.out
  have hbb := (hb.trans (hb2.mono hb.size)).trans (hb3.mono (Nat.le_trans hb.size hb2.size))
  go_wp2_with (at_builtin; refine wp_append_copy w3 .u8 rfl (.const (.slice none 0 0)) (.tmp 13) 31 rfl 5 i0 Try.underlying31 hi hz0 hz1 (by omega) rfl A3 n3 c3 (digs 256 M) rfl hr3 (by omega) ?_; intro v' w4 hown hb4)
  go_ret
  exact got_own hown (hbb.trans (hb4.mono hbb.size))

set_option maxRecDepth 100000 in
set_option maxHeartbeats 1000000 in
theorem walk (a0 : Option Addr) (len0 cap0 : Nat) (z0 : List Int) (a1 : Bool) (a2 : Int) (w : World) (w0 : IsRow .u8 w a0 len0 cap0 z0) (w2 : (Lit.int .u16 a2).wf = true) :
    Calls Try.prog 8 #[.slice a0 len0 cap0, .bool a1, .int .u16 a2] w fun e w' => e = .returned (.bool true) ∧ Below w.heap.size w w' := by
  obtain ⟨l, hr, hl⟩ := rd_of_row w0
  have hb16 := bounds_u16 w2
  obtain ⟨x, rfl⟩ := Int.eq_ofNat_of_zero_le hb16.1
  have hx2 : x ≤ 65535 := by omega
  clear w0 w2 hb16
  by_cases h1 : len0 ≤ 200
  · obtain ⟨s, hs⟩ : ∃ s, s = x % 1001 := ⟨_, rfl⟩
    have hs2 : (x : Int) % 1001 = (s : Int) := by omega
    have hs1 : s ≤ 1000 := by omega
    have HO := Lib.hid (shiftOf_any a0 len0 cap0 l a1 s w hr hl (by omega) hs1)
    have HN := Lib.hid (fun w' (h : Below w.heap.size w w') => natural_any a0 len0 cap0 l w' (hr.below h) hl (by omega))
    have hNlt : val 256 l < 256 ^ len0 := by have := val_lt 256 (by omega) l hl; rw [hr.len] at this; exact this
    have hlen : Hid ((digs 65536 (val 256 l)).length ≤ 10000) := Nat.le_trans (digs_length_le 65536 (by omega) _ len0 (Nat.lt_of_lt_of_le hNlt (pow256_le len0))) (by omega)
    have hlen2 : Hid ((digs 65536 (shifted a1 (val 256 l) s)).length ≤ 10000) := Nat.le_trans (digs_length_le 65536 (by omega) _ (len0 + s) (shifted_lt a1 65536 _ len0 s (by omega) hNlt)) (by omega)
    clear hr hl hNlt hs
    generalize val 256 l = N at *
    have hdec : decide ((200 : Int) < (len0 : Int)) = false := by simp; omega
    go_enter Try.func8, Try.ntmps8
    go_wp2_with fail
    refine HO.out.mono ?_
    rintro e w1 ⟨A1, n1, c1, rfl, hr1, hb1⟩
    have HR1 := Lib.hid hr1
    clear hr1
    go_wp2_with fail
    refine (HN.out _ hb1).mono ?_
    rintro e w2 ⟨A, n, c, rfl, hr2, hb2⟩
    go_wp2_with fail
    refine (whole_false A n c N _ hr2).mono ?_
    rintro e w3 ⟨A3, n3, c3, A4, n4, c4, rfl, hr3, hr4, hb3⟩
    go_wp2_with fail
    refine (shifted_any a1 A3 n3 c3 A4 n4 c4 N s _ hr3 (by rw [← hr3.len]; exact hlen.out) (by omega)).mono ?_
    rintro e w4 ⟨A5, n5, c5, A6, n6, c6, rfl, hr5, hr6, hb4⟩
    go_wp2_with fail
    refine (bytesOf_any A5 n5 c5 (shifted a1 N s) _ hr5 (by rw [← hr5.len]; exact hlen2.out)).mono ?_
    rintro e w5 ⟨A7, n7, c7, rfl, hr7, hb5⟩
    have hb12 := hb1.trans (hb2.mono hb1.size)
    have hb13 := hb12.trans (hb3.mono hb12.size)
    have hb14 := hb13.trans (hb4.mono hb13.size)
    have hb15 := hb14.trans (hb5.mono hb14.size)
    have hr1b := (((HR1.out.below hb2).below hb3).below hb4).below hb5
    go_wp2_with fail
    refine (same_any A1 n1 c1 A7 n7 c7 _ _ hr1b hr7).mono ?_
    rintro e w6 ⟨rfl, rfl⟩
    go_wp2_with fail
    go_ret
    exact ⟨rfl, hb15⟩
  · by_cases h2 : len0 ≤ 2147483647
    · have hdec : decide ((200 : Int) < (len0 : Int)) = true := by simp; omega
      go_enter Try.func8, Try.ntmps8
      go_wp2
      go_ret
      exact ⟨rfl, Below.refl _ _⟩
    · go_enter Try.func8, Try.ntmps8
      go_wp2
      go_ret
      exact ⟨rfl, Below.refl _ _⟩

/-! ### THE ROW's STEP: WRITTEN OUT: LEAVE IT -/
set_option maxRecDepth 100000 in
theorem lifted (os : Os) (started : os.Started) (H : Type) (enc : TypeId × Value → H) :
    ReturnsInHanded {} Try.checked os 8 .any (Rows.fnShiftOfSpec.pre6 enc Try.prog Try.f8 Rows.fnShiftOfRow.domain false) (Rows.fnShiftOfSpec.post enc Try.prog Try.f8 false true false false) := by
  refine returnsInHanded_of_change (C := Try.checked) own started (by kernel_rfl) Try.func8
    (ChangeSpec.witness6 (enc := enc) (C := Try.checked) false ⟨#[], #[.slice none 0 0, .bool false, .int .u16 0], []⟩ 8 (by kernel_rfl) (by kernel_rfl) (by kernel_rfl) (by kernel_rfl)) ?_
  intro W base args ds gs before hval0 hW hcnd _
  have hval : ∀ (j : Nat) t v, Try.f8.params[j]? = some t → args[j]? = some v → Value.okWide Try.prog W .any base t v := hval0
  have hW' := hW
  obtain ⟨p, q, hA0, hV, rfl, hfz, hnd⟩ := hW
  have hA : DataW.TrodAll enc Try.prog W 0 (fun _ => true) true Try.f8.params.toList args.toList ds p := hA0
  rw [Try.params8] at hA hval
  obtain ⟨v0, vs0, d0, ds0, p0, q0, hargs, rfl, rfl, h0, r0⟩ := trodAll_cons hA
  obtain ⟨v1, vs1, d1, ds1, p1, q1, rfl, rfl, rfl, h1, r1⟩ := trodAll_cons r0
  obtain ⟨v2, vs2, d2, ds2, p2, q2, rfl, rfl, rfl, h2, r2⟩ := trodAll_cons r1
  obtain ⟨rfl, rfl, rfl⟩ := trodAll_nil r2
  obtain rfl : args = #[v0, v1, v2] := by cases args; simp_all
  obtain ⟨rfl, rfl⟩ := trodVars_none hV
  obtain ⟨a0, len0, cap0, rfl⟩ := okWide_slice Try.underlying31 (hval 0 31 v0 rfl rfl)
  have k0 := h0
  have lt0 : ∀ x ∈ p0, x.block < W.heap.size := by obtain ⟨m, hm⟩ := k0; exact DataW.trod_lt m _ _ _ hm
  obtain ⟨z0, w0⟩ : ∃ zs, IsRow .u8 W a0 len0 cap0 zs := by
    obtain ⟨fuel, hf⟩ := h0
    rcases open_ints Try.underlying31 Try.underlying5 (by kernel_rfl) hf with ⟨hcs, _⟩ | ⟨x, l, c, zs, hcs, _, hl, hm, hz, _, hcell, hwz⟩
    · simp [Value.cells] at hcs
      obtain ⟨rfl, rfl, rfl⟩ := hcs
      exact ⟨[], .inl ⟨rfl, rfl, rfl, rfl⟩⟩
    · simp [Value.cells] at hcs
      obtain ⟨rfl, rfl, rfl⟩ := hcs
      exact ⟨zs, .inr ⟨_, rfl, hl, hm, by simpa using hz, hcell, hwz⟩⟩
  obtain ⟨a1, rfl, rfl, rfl⟩ := open_bool Try.underlying4 (hval 1 4 v1 rfl rfl) h1
  obtain ⟨a2, rfl, rfl, rfl, w2⟩ := open_int Try.underlying45 (hval 2 45 v2 rfl rfl) h2
  clear hA0 hval0
  refine (walk a0 len0 cap0 z0 a1 a2 W w0 w2).mono fun e W' ⟨he, bel⟩ => ?_
  subst he
  exact ⟨_, rfl, _, _, _, [], _, [], hW', trodAll_mk1 (shut_bool Try.underlying4 _), (trodAll_cons_mk (Below.trod laidOut (by kernel_rfl) (of_decide_eq_true (by kernel_rfl)) k0 bel lt0) (trodAll_cons_mk (shut_bool Try.underlying4 _) (trodAll_cons_mk (shut_int Try.underlying45 w2) trodAll_mk0))), rfl, bel.frame _, fun h => by cases h⟩

theorem over : Rows.fnShiftOfRow.holds Try.pinned (OpenSpec.ofChange Rows.fnShiftOfSpec) :=
  OpenClaim.holds_of_wide 8 Try.f8 rfl rfl rfl rfl rfl rfl rfl ⟨rfl, rfl, rfl, rfl, rfl⟩ rfl rfl rfl rfl rfl (by kernel_rfl) Try.func8 (by kernel_rfl)
    (of_decide_eq_true (by kernel_rfl)) (by unfold Func.isWrapper; first | (rw [if_pos (by decide +kernel)]; kernel_rfl) | (rw [if_neg (by decide +kernel)]; exact ⟨rfl, rfl⟩))
    (fun os started H enc _ => lifted os started H enc)

/-- The statement. -/
theorem proved : Rows.FnShiftOfSaid := over
#print axioms proved
end Go.Proofs.Ytbmcpbebjgponaa.fnShiftOf

