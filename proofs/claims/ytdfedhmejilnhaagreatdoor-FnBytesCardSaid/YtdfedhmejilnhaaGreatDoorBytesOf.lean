/- The statements' own helpers bytesOf and same: it proves that they answer the bytes of a number, and whether two lists of bytes are one. Conditions: the slice reads as digits, of at most ten thousand; lists of at most a million bytes. -/
import Derived.Test.YtdfedhmejilnhaaGreatDoorSpec6
import Derived.Laws.BytesArg
namespace Go.Proofs.YtdfedhmejilnhaaGreatDoor
open Go.RowKit

theorem Tryz.infoByte : (Tryz.prog.info? 5).map (fun i => (i.zero, i.size, i.bytes)) = some (some (.int .u8 0), 1, 1) := by kernel_rfl

theorem pow256 (m : Nat) : (256 : Nat) ^ m = 2 ^ (8 * m) := by rw [Nat.pow_mul]
theorem bytes_len (N m : Nat) (h : bl N ≤ 8 * m) : (digs 256 N).length ≤ m := by
  refine digs_length_le 256 (by omega) N m ?_
  rw [pow256]
  exact (bl_le N (8 * m)).1 h
theorem bytes_more (N j : Nat) (h : 8 * j < bl N) : j < (digs 256 N).length := by
  rcases Nat.lt_or_ge j (digs 256 N).length with h1 | h1
  · exact h1
  · have h2 := (digs_length_le_iff 256 (by omega) N j).1 h1
    rw [pow256] at h2
    have := (bl_le N (8 * j)).2 h2
    omega
theorem bl_digits (N n : Nat) (h : (digs 65536 N).length = n) : bl N ≤ 16 * n := by
  rw [bl_le]
  have h1 := (digs_length_le_iff 65536 (by omega) N n).1 (by omega)
  rwa [show (65536 : Nat) ^ n = 2 ^ (16 * n) by rw [Nat.pow_mul]] at h1

theorem bit_step (N j k : Nat) : N / 2 ^ (8 * j) % 2 ^ (k + 1) = N / 2 ^ (8 * j) % 2 ^ k + if hasB N (8 * j + k) then 2 ^ k else 0 := by
  rw [Nat.pow_succ, Nat.mod_mul, Nat.div_div_eq_div_mul, ← Nat.pow_add]
  unfold hasB
  have h2 := Nat.mod_two_eq_zero_or_one (N / 2 ^ (8 * j + k))
  rcases h2 with h | h
  · rw [h]; simp
  · rw [h]; simp
theorem or_bit (x k : Nat) (hx : x < 2 ^ k) (hk : k < 8) : bits BinOp.or IntKind.u8 (x : Int) (2 ^ k) = ((x + 2 ^ k : Nat) : Int) := by
  have h1 : (2 : Nat) ^ k ≤ 2 ^ 7 := Nat.pow_le_pow_right (by omega) (by omega)
  rw [show ((2 : Int) ^ k) = ((2 ^ k : Nat) : Int) by simp, u8_or_nat _ _ (by omega) (by omega), Nat.or_comm, nat_join k _ _ (by simp) hx, Nat.add_comm]

set_option maxRecDepth 100000 in
set_option maxHeartbeats 1000000 in
/-- laws.bytesOf. -/
theorem bytesOf_any (A : Option Addr) (n c N : Nat) (w : World) (h : Rd .i64 w A n c (digs 65536 N)) (hn : n ≤ 10000) :
    Calls Tryz.prog 16 #[.slice A n c] w (Got .u8 (digs 256 N) w) := by
  obtain ⟨i0, hi, hz0, hz1, hz2⟩ := info_parts Tryz.infoByte
  have hbl : bl N ≤ 160000 := by have := bl_digits N n h.len; omega
  have hlenle : (digs 256 N).length ≤ 20000 := bytes_len N 20000 (by omega)
  obtain ⟨L, hL⟩ : ∃ L, L = bl N := ⟨_, rfl⟩
  have HL : Hid (bl N = L) := hL.symm
  rw [← hL] at hbl
  clear hL
  have HC : Hid (∀ w1 : World, Below w.heap.size w w1 → Calls Tryz.prog 9 #[.slice A n c] w1 fun e w' => e = .returned (.int .i64 ((L : Nat) : Int)) ∧ w1 = w') := by
    intro w1 hb
    have := len_any A n c N w1 (h.below hb) (by omega)
    rw [HL.out] at this
    exact this
  have HH : Hid (∀ (w1 : World) (i : Nat), i ≤ 1000000 → Below w.heap.size w w1 → Calls Tryz.prog 24 #[.slice A n c, .int .i64 (i : Int)] w1 fun e w' => e = .returned (.bool (hasB N i)) ∧ w1 = w') :=
    fun w1 i hi1 hb => has_any A n c N i w1 (h.below hb) (by omega) (by omega)
  clear h
  go_enter Tryz.func16, Tryz.ntmps16
  go_wp2
  go_loopw [3, 4] (fun v s wr => ∃ j : Nat, j ≤ (digs 256 N).length ∧ s = .int .i64 (8 * (j : Int)) ∧ wr.ownsRow w.heap.size 5 1 v j (nums .u8 (lowd 256 j N)) ∧ Below w.heap.size w wr) (fun _ s _ => L + 8 - (intOf s).toNat)
  case atStart =>
    exact ⟨0, Nat.zero_le _, rfl, World.ownsRow_made w #[] 0 (Nat.le_refl _) (by simp [maxLen]) rfl, (Below.refl _ _).alloc (Nat.le_refl _) _⟩
  case round =>
    obtain ⟨j, hj, rfl, hown, hb⟩ := hrel
    have hsz := hb.size
    have hj2 : j ≤ 20000 := by omega
    go_wp2_with fail
    refine (HC.out _ hb).mono ?_
    rintro e w1 ⟨rfl, rfl⟩
    by_cases c1 : 8 * j < L
    · have c1i : 8 * (j : Int) < (L : Int) := by omega
      have hjl : Hid (j < (digs 256 N).length) := bytes_more N j (by rw [HL.out]; exact c1)
      have hL16 : L ≤ 160000 := hbl
      go_wp2
      go_loop [5, 6] (fun s t => ∃ k x : Nat, k ≤ 8 ∧ x < 2 ^ k ∧ t = .int .i64 (k : Int) ∧ s = .int .u8 (x : Int) ∧ Hid (x = N / 2 ^ (8 * j) % 2 ^ k)) (fun _ t => 8 - (intOf t).toNat)
      case atStart => exact ⟨0, 0, Nat.zero_le _, by simp, rfl, rfl, by simp [Hid, Nat.mod_one]⟩
      case round =>
        obtain ⟨k, x, hk, hx, rfl, rfl, hxe⟩ := hrel
        by_cases ck : k < 8
        · have hst := bit_step N j k
          have hx2 : x < 2 ^ (k + 1) := by rw [Nat.pow_succ]; omega
          by_cases hbit : hasB N (8 * j + k) = true
          · have hor := or_bit x k hx ck
            obtain ⟨y, hy⟩ : ∃ y, y = x + 2 ^ k := ⟨_, rfl⟩
            have hye : Hid (y = N / 2 ^ (8 * j) % 2 ^ (k + 1)) := by unfold Hid; rw [hst, hbit, hy, hxe.out]; simp
            have hy2 : Hid (y < 2 ^ (k + 1)) := by unfold Hid; rw [hy, Nat.pow_succ]; omega
            rw [← hy] at hor
            have hsh : IntKind.u8.wrap (2 ^ k) = (2 : Int) ^ k := by
              have h1 : (2 : Nat) ^ k ≤ 2 ^ 7 := Nat.pow_le_pow_right (by omega) (by omega)
              rw [IntKind.wrap_u8', show ((2 : Int) ^ k) = ((2 ^ k : Nat) : Int) by simp]; omega
            have HX := Lib.hid hx
            have HX2 := Lib.hid hx2
            clear hst hy hxe hx hx2
            go_wp2_with fail
            rw [show (8 * (j : Int) + (k : Int)) = ((8 * j + k : Nat) : Int) from by omega]
            refine (HH.out _ _ (by omega) hb).mono ?_
            rw [hbit]
            rintro e w2 ⟨rfl, rfl⟩
            clear hbit
            go_wp2
            go_round
            case rel => exact ⟨k + 1, y, by omega, hy2.out, by go_num, rfl, hye⟩
            case measure => simp [intOf]; omega
          · have hbit2 : hasB N (8 * j + k) = false := by simpa using hbit
            have hye : Hid (x = N / 2 ^ (8 * j) % 2 ^ (k + 1)) := by unfold Hid; rw [hst, hbit2, hxe.out]; simp
            have HX2 := Lib.hid hx2
            clear hst hxe hx hx2 hbit
            go_wp2_with fail
            rw [show (8 * (j : Int) + (k : Int)) = ((8 * j + k : Nat) : Int) from by omega]
            refine (HH.out _ _ (by omega) hb).mono ?_
            rw [hbit2]
            rintro e w2 ⟨rfl, rfl⟩
            clear hbit2
            go_wp2
            go_round
            case rel => exact ⟨k + 1, x, by omega, HX2.out, by go_num, rfl, hye⟩
            case measure => simp [intOf]; omega
        · obtain rfl : k = 8 := by omega
          have hbyte : Hid (x = N / 256 ^ j % 256) := by unfold Hid; rw [pow256]; exact hxe.out
          have hx256 : x < 256 := hx
          clear hx hxe
          go_wp2_with (at_builtin; refine wp_append_num wr .u8 _ rfl (.tmp 27) (.tmp 29) 44 rfl w.heap.size 5 i0 Tryz.underlying44 hi hz0 hz1 (by omega) _ _ _ rfl hown _ rfl rfl (N / 256 ^ j % 256) ?hd (by omega) (by omega) ?_)
          case hd => rw [hbyte.out]; simp
          intro v' w2 hown' hbel
          have hown2 : w2.ownsRow w.heap.size 5 1 v' (j + 1) (nums .u8 (lowd 256 (j + 1) N)) := by rw [lowd_succ]; exact hown'
          have hb2 := hb.trans hbel
          clear hown' hbel hown hb hbyte
          go_wp2
          go_roundw
          case rel => exact ⟨j + 1, hjl.out, by go_num, hown2, hb2⟩
          case measure => simp [intOf]; omega
    · have hfin : Hid (lowd 256 j N = digs 256 N) := by
        have h1 := bytes_len N j (by rw [HL.out]; omega)
        have h2 : j = (digs 256 N).length := by omega
        unfold Hid
        rw [h2, lowd_eq_digs 256 (by omega)]
      have c1i : ¬ 8 * (j : Int) < (L : Int) := by omega
      go_wp2
      go_ret
      exact got_own (by rw [← hfin.out]; exact hown) hb

/-- Bytes as a text. -/
theorem run_text {P : Program} (w : World) (src e dst : TypeId) (hs : P.underlying src = some (.slice e)) (he : P.underlying e = some (.int .u8)) (hd : P.underlying dst = some .string) (A : Option Addr) (n c : Nat) (l : List Nat) (h : Rd .u8 w A n c l) :
    (convert src dst (.slice A n c)).run P w = .ok (.string (strOfNums (l.map fun (d : Nat) => (d : Int)))) w := by
  obtain ⟨h1, h2, h3, h4⟩ := h
  rcases A with _ | ⟨b, o, sp⟩
  · rcases Nat.eq_zero_or_pos n with h0 | h0
    · subst h0
      obtain rfl : l = [] := List.eq_nil_of_length_eq_zero h1
      exact run_convert_bytes_nil w src e hs he 0 c dst hd
    · obtain ⟨b, o, e', _⟩ := h4 h0
      cases e'
  · rcases Nat.eq_zero_or_pos n with h0 | h0
    · subst h0
      obtain rfl : l = [] := List.eq_nil_of_length_eq_zero h1
      rw [run_convert_bytes_string w src dst e _ 0 c hs he hd, run_bytesToString w _ 0 c [] (by simp [loadCells, loadCellsFrom])]
      rfl
    · obtain ⟨b', o', e', hb, hc⟩ := h4 h0
      injection e' with e'
      rw [e']
      refine run_convert_bytes_arg w src e hs he b' o' n c _ (by simpa using h1) (fun i hi => ?_) dst hd
      rw [hc i (by omega)]
      simp [List.getD, h1, hi]

set_option maxHeartbeats 400000 in
/-- laws.same, of one list. -/
theorem same_any (A : Option Addr) (n c : Nat) (A2 : Option Addr) (n2 c2 : Nat) (l : List Nat) (w : World) (h : Rd .u8 w A n c l) (h2 : Rd .u8 w A2 n2 c2 l) :
    Calls Tryz.prog 14 #[.slice A n c, .slice A2 n2 c2] w fun e w' => e = .returned (.bool true) ∧ w = w' := by
  have e1 := run_text w 44 5 9 Tryz.underlying44 Tryz.underlying5 Tryz.underlying9 A n c l h
  have e2 := run_text w 44 5 9 Tryz.underlying44 Tryz.underlying5 Tryz.underlying9 A2 n2 c2 l h2
  generalize strOfNums (l.map fun (d : Nat) => (d : Int)) = s at *
  clear h h2
  go_enter Tryz.func14, Tryz.ntmps14
  go_wp2
  go_ret
  exact ⟨by simp, rfl⟩
end Go.Proofs.YtdfedhmejilnhaaGreatDoor
