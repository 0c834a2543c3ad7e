/- It proves FnBackOf: of at most 300 bytes the package tells the number by these bytes, without those that are 0 at the end; of more bytes the statement says nothing. No condition. (The frame around the walk was written by the kit's proof-skeleton.) -/
import Derived.Test.YtbmcpbebjgponaaRows
import Derived.Test.YtbmcpbebjgponaaOfBytes
import Derived.Test.YtbmcpbebjgponaaBytesOf
import Derived.WalkKit
import Derived.ProofKit
import Derived.OpenShut
import Derived.ShutString
import Derived.ChangeOld
import Derived.Below
namespace Go.Proofs.Ytbmcpbebjgponaa.fnBackOf
open Go.ChangeShapes Go.WideShapes Go.ChangeAt Go.RowKit
open Go.ChangeMaps (open_string shut_string)
set_option linter.unusedVariables false

theorem own : ownKnob Try.prog.godebug = none := by kernel_rfl
theorem laidOut : laidOutB Try.prog = true := by kernel_rfl

/-- WHAT THE WALK IS TOLD OF A SLICE OF INTEGERS THAT CAME IN: it is nil; or it leads to a row of 'cap' cells, the numbers 'zs' (the first 'len' are its elements, the rest its spare room), each fitting its kind. -/
def IsRow (k : IntKind) (w : World) (a : Option Addr) (len cap : Nat) (zs : List Int) : Prop :=
  (a = none ∧ len = 0 ∧ cap = 0 ∧ zs = []) ∨
  ∃ x, a = some x ∧ len ≤ cap ∧ cap ≤ maxLen ∧ zs.length = cap ∧ (∀ i, i < zs.length → w.cell? (x.add i) = some (.int k (zs.getD i 0))) ∧ ∀ n ∈ zs, (Lit.int k n).wf = true

/-! ### STEP 1: THE WALK -/
set_option maxRecDepth 100000 in
set_option maxHeartbeats 400000 in
/-- impl.BackOf. -/
theorem backOf_any (A : Option Addr) (n c : Nat) (l : List Nat) (w : World) (h : Rd .u8 w A n c l) (hl : ∀ d ∈ l, d < 256) (hn : n ≤ 1000) :
    Calls Try.prog 20 #[.slice A n c] w (Got .u8 (trimL l) w) := by
  obtain ⟨i0, hi, hz0, hz1, hz2⟩ := info_parts Try.infoByte
  have HO := Lib.hid (ofBytes_any A n c l w h hl hn)
  have hNlt : val 256 l < 256 ^ n := by have := val_lt 256 (by omega) l hl; rw [h.len] at this; exact this
  have hNW : val 256 l < W64 ^ n := Nat.lt_of_lt_of_le hNlt (Nat.pow_le_pow_left (by decide) n)
  have hd : Hid ((digs W64 (val 256 l)).length ≤ 10000) := Nat.le_trans (digs_length_le W64 two_W64 _ n hNW) (by omega)
  have hd2 : Hid ((digs 256 (val 256 l)).length ≤ 10000) := Nat.le_trans (digs_length_le 256 (by omega) _ n hNlt) (by omega)
  have HV : Hid (∀ (v : Value) (w : World), IsV w v false (val 256 l) → Calls Try.prog 27 #[v] w (Got .u8 (digs 256 (val 256 l)) w)) := by
    intro v w hv
    rcases hv with ⟨a, rfl, h1, h2, h3, h4⟩ | ⟨g, rfl, hI, hf⟩
    · exact bytes_iv a false (val 256 l) w hd.out (fun w => by have := i64toi_any a h1 h2 w; rw [← h3, ← h4] at this; exact this)
    · exact bytes_bv g false (val 256 l) w hI hd.out
  rw [trimL_val 256 (by omega) l hl]
  clear h hl hNlt hNW
  generalize val 256 l = N at *
  go_enter Try.func20, Try.ntmps20
  go_wp2_with fail
  refine HO.out.mono ?_
  rintro e w1 ⟨v, rfl, hv, hb⟩
  go_wp2_with fail
  refine (HV.out v _ hv).mono ?_
  rintro e w2 ⟨A2, n2, c2, rfl, hr2, hb2⟩
  have hn2 : n2 ≤ 10000 := by rw [← hr2.len]; exact hd2.out
  go_wp2_with (at_builtin; refine wp_append_copy w2 .u8 rfl (.const (.slice none 0 0)) (.tmp 5) 31 rfl 5 i0 Try.underlying31 hi hz0 hz1 (by omega) rfl A2 n2 c2 (digs 256 N) rfl hr2 (by omega) ?_; intro v' w3 hown hb3)
  go_ret
  exact got_own hown ((hb.trans (hb2.mono hb.size)).trans (hb3.mono (Nat.le_trans hb.size hb2.size)))

set_option maxRecDepth 100000 in
set_option maxHeartbeats 1000000 in
theorem walk (a0 : Option Addr) (len0 cap0 : Nat) (z0 : List Int) (w : World) (w0 : IsRow .u8 w a0 len0 cap0 z0) :
    Calls Try.prog 7 #[.slice a0 len0 cap0] w fun e w' => e = .returned (.bool true) ∧ Below w.heap.size w w' := by
  obtain ⟨l, h, hl⟩ := rd_of_row w0
  clear w0
  have hcap := h.cap
  have hcm := h.capMax
  by_cases h2 : len0 ≤ 2147483647
  · have hfull : Hid (trimL l = trimL (l.take len0)) := trimL_full l len0 h.len
    go_enter Try.func7, Try.ntmps7
    go_wp2
    go_loop [3] (fun s => ∃ m : Nat, m ≤ len0 ∧ s = .int .i64 (m : Int) ∧ Hid (trimL l = trimL (l.take m))) (fun s => (intOf s).toNat)
    case atStart => exact ⟨len0, Nat.le_refl _, rfl, hfull⟩
    case round =>
      obtain ⟨m, hm, rfl, ht⟩ := hrel
      clear hfull
      by_cases h0 : 0 < m
      · obtain ⟨b, o, rfl, hb, d, hd, hc⟩ := h.at_ (j := m - 1) (by omega)
        by_cases hd0 : d = 0
        · subst hd0
          have ht2 : Hid (trimL l = trimL (l.take (m - 1))) := by
            obtain ⟨hl, hd⟩ := hd
            have e := trimL_drop l (m - 1) hl hd
            rw [show m - 1 + 1 = m by omega] at e
            exact (Hid.out ht).trans e
          clear ht hd
          go_wp2
          go_round
          case rel => exact ⟨m - 1, by omega, by go_num, ht2⟩
          case measure => simp [intOf]; omega
        · have hb0 : ((d : Int) == 0) = false := by simp <;> omega
          have hfin2 : Hid (trimL l = l.take m) := by
            obtain ⟨hl, hd⟩ := hd
            have e := trimL_stay l (m - 1) hl (by omega)
            rw [show m - 1 + 1 = m by omega] at e
            exact (Hid.out ht).trans e
          have hc0 : ¬ cap0 = 0 := by omega
          clear ht hd
          by_cases h300 : len0 ≤ 300
          · have hle : (len0 : Int) ≤ 300 := by omega
            have hd3 : decide ((300 : Int) < (len0 : Int)) = false := by simp <;> omega
            have hmi : (m : Int) ≤ (cap0 : Int) := by omega
            have hmz : (0 : Int) ≤ (m : Int) := by omega
            have HB := Lib.hid (fun w' (hw : Rd .u8 w' (some ⟨b, o, none⟩) len0 cap0 l) => backOf_any (some ⟨b, o, none⟩) len0 cap0 l w' hw hl (by omega))
            have HR := Lib.hid h
            clear h hl
            go_wp2_with fail
            go_region_held3 (fun _ => True) (trivial) (first | (go_at_call 20; refine (HB.out _ ?_).mono ?_; (first | exact HR.out | exact Rd.drew HR.out | exact Rd.drewN HR.out _); rintro e wq ⟨A3, n3, c3, rfl, hrq, hbq⟩) | (go_at_call 12; refine (same_any A3 n3 c3 _ _ _ (trimL l) _ hrq (by rw [hfin2.out]; exact (HR.out.take hm).below (below_of_drew hbq))).mono ?_; rintro e wp ⟨rfl, rfl⟩))
            go_wp2
            go_ret
            exact ⟨by simp, below_of_drew hbq⟩
          · have hgt : (300 : Int) < (len0 : Int) := by omega
            have hd3 : decide ((300 : Int) < (len0 : Int)) = true := by simp <;> omega
            clear h hl
            go_wp2_with fail
            go_quiet (fail)
            go_wp2
            go_ret
            exact ⟨rfl, below_drewN (Below.refl _ _) _⟩
      · have hm0 : m = 0 := by omega
        subst hm0
        have hfin2 : Hid (trimL l = l.take 0) := ht
        clear ht
        by_cases hc0 : cap0 = 0
        · subst hc0
          obtain rfl : len0 = 0 := by omega
          by_cases h300 : 0 ≤ 300
          · have hle : (0 : Int) ≤ 300 := by omega
            have hd3 : decide ((300 : Int) < (0 : Int)) = false := by simp <;> omega
            have hmi : (0 : Int) ≤ (0 : Int) := by omega
            have hmz : (0 : Int) ≤ (0 : Int) := by omega
            have HB := Lib.hid (fun w' (hw : Rd .u8 w' a0 0 0 l) => backOf_any a0 0 0 l w' hw hl (by omega))
            have HR := Lib.hid h
            clear h hl
            go_wp2_with fail
            go_region_held3 (fun _ => True) (trivial) (first | (go_at_call 20; refine (HB.out _ ?_).mono ?_; (first | exact HR.out | exact Rd.drew HR.out | exact Rd.drewN HR.out _); rintro e wq ⟨A3, n3, c3, rfl, hrq, hbq⟩) | (go_at_call 12; refine (same_any A3 n3 c3 _ _ _ (trimL l) _ hrq (by rw [hfin2.out]; exact Rd.nil _ _ (by simp [maxLen]))).mono ?_; rintro e wp ⟨rfl, rfl⟩))
            go_wp2
            go_ret
            exact ⟨by simp, below_of_drew hbq⟩
          · have hgt : (300 : Int) < (0 : Int) := by omega
            have hd3 : decide ((300 : Int) < (0 : Int)) = true := by simp <;> omega
            clear h hl
            go_wp2_with fail
            go_quiet (fail)
            go_wp2
            go_ret
            exact ⟨rfl, below_drewN (Below.refl _ _) _⟩
        · skip
          by_cases h300 : len0 ≤ 300
          · have hle : (len0 : Int) ≤ 300 := by omega
            have hd3 : decide ((300 : Int) < (len0 : Int)) = false := by simp <;> omega
            have hmi : (0 : Int) ≤ (cap0 : Int) := by omega
            have hmz : (0 : Int) ≤ (0 : Int) := by omega
            have HB := Lib.hid (fun w' (hw : Rd .u8 w' a0 len0 cap0 l) => backOf_any a0 len0 cap0 l w' hw hl (by omega))
            have HR := Lib.hid h
            clear h hl
            go_wp2_with fail
            go_region_held3 (fun _ => True) (trivial) (first | (go_at_call 20; refine (HB.out _ ?_).mono ?_; (first | exact HR.out | exact Rd.drew HR.out | exact Rd.drewN HR.out _); rintro e wq ⟨A3, n3, c3, rfl, hrq, hbq⟩) | (go_at_call 12; refine (same_any A3 n3 c3 _ _ _ (trimL l) _ hrq (by rw [hfin2.out]; exact Rd.nil _ _ hcm)).mono ?_; rintro e wp ⟨rfl, rfl⟩))
            go_wp2
            go_ret
            exact ⟨by simp, below_of_drew hbq⟩
          · have hgt : (300 : Int) < (len0 : Int) := by omega
            have hd3 : decide ((300 : Int) < (len0 : Int)) = true := by simp <;> omega
            clear h hl
            go_wp2_with fail
            go_quiet (fail)
            go_wp2
            go_ret
            exact ⟨rfl, below_drewN (Below.refl _ _) _⟩
  · go_enter Try.func7, Try.ntmps7
    go_wp2
    go_ret
    exact ⟨rfl, Below.refl _ _⟩

/-! ### THE ROW's STEP: WRITTEN OUT: LEAVE IT -/
set_option maxRecDepth 100000 in
theorem lifted (os : Os) (started : os.Started) (H : Type) (enc : TypeId × Value → H) :
    ReturnsInHanded {} Try.checked os 7 .any (Rows.fnBackOfSpec.pre6 enc Try.prog Try.f7 Rows.fnBackOfRow.domain false) (Rows.fnBackOfSpec.post enc Try.prog Try.f7 false true false false) := by
  refine returnsInHanded_of_change (C := Try.checked) own started (by kernel_rfl) Try.func7
    (ChangeSpec.witness6 (enc := enc) (C := Try.checked) false ⟨#[], #[.slice none 0 0], []⟩ 8 (by kernel_rfl) (by kernel_rfl) (by kernel_rfl) (by kernel_rfl)) ?_
  intro W base args ds gs before hval0 hW hcnd _
  have hval : ∀ (j : Nat) t v, Try.f7.params[j]? = some t → args[j]? = some v → Value.okWide Try.prog W .any base t v := hval0
  have hW' := hW
  obtain ⟨p, q, hA0, hV, rfl, hfz, hnd⟩ := hW
  have hA : DataW.TrodAll enc Try.prog W 0 (fun _ => true) true Try.f7.params.toList args.toList ds p := hA0
  rw [Try.params7] at hA hval
  obtain ⟨v0, vs0, d0, ds0, p0, q0, hargs, rfl, rfl, h0, r0⟩ := trodAll_cons hA
  obtain ⟨rfl, rfl, rfl⟩ := trodAll_nil r0
  obtain rfl : args = #[v0] := by cases args; simp_all
  obtain ⟨rfl, rfl⟩ := trodVars_none hV
  obtain ⟨a0, len0, cap0, rfl⟩ := okWide_slice Try.underlying31 (hval 0 31 v0 rfl rfl)
  have k0 := h0
  have lt0 : ∀ x ∈ p0, x.block < W.heap.size := by obtain ⟨m, hm⟩ := k0; exact DataW.trod_lt m _ _ _ hm
  obtain ⟨z0, w0⟩ : ∃ zs, IsRow .u8 W a0 len0 cap0 zs := by
    obtain ⟨fuel, hf⟩ := h0
    rcases open_ints Try.underlying31 Try.underlying5 (by kernel_rfl) hf with ⟨hcs, _⟩ | ⟨x, l, c, zs, hcs, _, hl, hm, hz, _, hcell, hwz⟩
    · simp [Value.cells] at hcs
      obtain ⟨rfl, rfl, rfl⟩ := hcs
      exact ⟨[], .inl ⟨rfl, rfl, rfl, rfl⟩⟩
    · simp [Value.cells] at hcs
      obtain ⟨rfl, rfl, rfl⟩ := hcs
      exact ⟨zs, .inr ⟨_, rfl, hl, hm, by simpa using hz, hcell, hwz⟩⟩
  clear hA0 hval0
  refine (walk a0 len0 cap0 z0 W w0).mono fun e W' ⟨he, bel⟩ => ?_
  subst he
  exact ⟨_, rfl, _, _, _, [], _, [], hW', trodAll_mk1 (shut_bool Try.underlying4 _), (trodAll_cons_mk (Below.trod laidOut (by kernel_rfl) (of_decide_eq_true (by kernel_rfl)) k0 bel lt0) trodAll_mk0), rfl, bel.frame _, fun h => by cases h⟩

theorem over : Rows.fnBackOfRow.holds Try.pinned (OpenSpec.ofChange Rows.fnBackOfSpec) :=
  OpenClaim.holds_of_wide 7 Try.f7 rfl rfl rfl rfl rfl rfl rfl ⟨rfl, rfl, rfl, rfl, rfl⟩ rfl rfl rfl rfl rfl (by kernel_rfl) Try.func7 (by kernel_rfl)
    (of_decide_eq_true (by kernel_rfl)) (by unfold Func.isWrapper; first | (rw [if_pos (by decide +kernel)]; kernel_rfl) | (rw [if_neg (by decide +kernel)]; exact ⟨rfl, rfl⟩))
    (fun os started H enc _ => lifted os started H enc)

/-- The statement. -/
theorem proved : Rows.FnBackOfSaid := over
#print axioms proved
end Go.Proofs.Ytbmcpbebjgponaa.fnBackOf

