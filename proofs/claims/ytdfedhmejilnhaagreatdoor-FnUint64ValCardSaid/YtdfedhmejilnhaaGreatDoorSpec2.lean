/- The reference's natural numbers: it proves that Of answers the digits of the number of words. Conditions: the slice reads as words, of at most a million. -/
import Derived.Test.YtdfedhmejilnhaaGreatDoorSpec1
import Derived.Test.YtdfedhmejilnhaaGreatDoorBig1
namespace Go.Proofs.YtdfedhmejilnhaaGreatDoor
open Go.RowKit

theorem word_bits (N i k d : Nat) (hd : d = N / 18446744073709551616 ^ i % 18446744073709551616) (hk : k < 4) :
    ∃ e : Nat, Hid (e = N / 65536 ^ (4 * i + k) % 65536) ∧ e < 65536 ∧ bits BinOp.and IntKind.u64 ((d : Int) / 2 ^ (16 * k)) 65535 = (e : Int) := by
  refine ⟨N / 65536 ^ (4 * i + k) % 65536, rfl, Nat.mod_lt _ (by omega), ?_⟩
  have hd2 : d < 18446744073709551616 := by rw [hd]; exact Nat.mod_lt _ (by omega)
  have e1 : ((d : Int) / 2 ^ (16 * k)) = ((d / 65536 ^ k : Nat) : Int) := by
    rw [show (65536 : Nat) ^ k = 2 ^ (16 * k) by rw [Nat.pow_mul]]
    simp
  rw [e1, show (65535 : Int) = ((65535 : Nat) : Int) from rfl, u64_and_nat _ _ (Nat.lt_of_le_of_lt (Nat.div_le_self _ _) hd2) (by omega), nat_mask16, hd, word_digit N i k hk]


set_option maxRecDepth 100000 in
set_option maxHeartbeats 400000 in
/-- spec.Of. -/
theorem of_any (A : Option Addr) (n c : Nat) (l : List Nat) (w : World) (h : Rd .u64 w A n c l) (hn : n ≤ 1000000) (hl : ∀ d ∈ l, d < W64) :
    Calls Tryz.prog 11 #[.slice A n c] w (Got .i64 (digs 65536 (val W64 l)) w) := by
  obtain ⟨i0, hi, hz0, hz1, hz2⟩ := info_parts Tryz.infoInt
  go_enter Tryz.func11, Tryz.ntmps11
  go_wp2
  go_loopw [10, 3] (fun s v wr => ∃ i : Nat, i ≤ n ∧ s = .int .i64 (i : Int) ∧ wr.ownsRow w.heap.size 3 1 v (4 * i) (nums .i64 (lowd 65536 (4 * i) (val W64 l))) ∧ Below w.heap.size w wr) (fun s _ _ => n - (intOf s).toNat)
  case atStart =>
    exact ⟨0, Nat.zero_le _, rfl, World.ownsRow_made w #[] 0 (Nat.le_refl _) (by simp [maxLen]) rfl, (Below.refl _ _).alloc (Nat.le_refl _) _⟩
  case round =>
    obtain ⟨i, hin, rfl, hown, hb⟩ := hrel
    have hsz := hb.size
    by_cases hlt : i < n
    · obtain ⟨b, o, rfl, hbb, d, hd, hc⟩ := (h.below hb).at_ hlt
      go_wp2
      obtain ⟨wo, rfl⟩ : ∃ wo : World, wo = wr := ⟨_, rfl⟩
      go_loopw [6, 3] (fun s v wr => ∃ k : Nat, k ≤ 4 ∧ s = .int .i64 (k : Int) ∧ wr.ownsRow w.heap.size 3 1 v (4 * i + k) (nums .i64 (lowd 65536 (4 * i + k) (val W64 l))) ∧ Below w.heap.size w wr) (fun s _ _ => 4 - (intOf s).toNat)
      case atStart => exact ⟨0, by omega, rfl, hown, hb⟩
      case round =>
        obtain ⟨k, hk, rfl, hownk, hbk⟩ := hrel
        have hszk := hbk.size
        clear hown hb hsz
        by_cases hk4 : k < 4
        · have hd' : d = val W64 l / 18446744073709551616 ^ i % 18446744073709551616 := by
            obtain ⟨hl2, hd⟩ := hd
            have e := lowd_val W64 (by decide) l hl
            have e2 : (lowd W64 l.length (val W64 l))[i]'(by rw [lowd_length]; exact hl2) = d := by
              rw [← hd]; congr 1
            rw [← e2, lowd_get]; rfl
          obtain ⟨e, he, he65, hbit⟩ := word_bits (val W64 l) i k d hd' hk4
          clear hd'
          go_wp2_with (at_builtin; refine wpList_append_own _ rfl _ _ 29 rfl w.heap.size 3 i0 (.int .i64 0) 1 8 Tryz.underlying29 hi hz0 hz1 hz2 rfl (by decide) _ _ _ rfl (hownk.alloc _) ⟨wr.heap.size, 0, none⟩ 1 1 [.int .i64 (e : Int)] rfl rfl ?c1 ?c2 ?c3 ?c4 ?c5 ?_)
          case c1 => exact new_one wr .i64 _ 3 _ rfl
          case c2 => intro u hu; simp at hu; subst hu; rfl
          case c3 => unfold maxLen; omega
          case c4 => omega
          case c5 => simp; omega
          intro v' w1 hown' hgrow _
          have hown2 : w1.ownsRow w.heap.size 3 1 v' (4 * i + (k + 1)) (nums .i64 (lowd 65536 (4 * i + (k + 1)) (val W64 l))) := by
            rw [← Nat.add_assoc, lowd_succ]
            refine own_snoc hown' ?_
            rw [← Hid.out he]
          have hb2 : Below w.heap.size w w1 := (hbk.alloc hszk _).grown hgrow (by simp; omega) (fun k hk => (hownk.lt k hk).1)
          clear hown' hgrow hownk hbk hbit he
          go_wp2
          go_roundw
          case rel => exact ⟨k + 1, by omega, by go_num, hown2, hb2⟩
          case measure => simp [intOf]; omega
        · have hk0 : k = 4 := by omega
          subst hk0
          go_wp2
          go_roundw
          case rel => exact ⟨i + 1, by omega, by go_num, by rw [Nat.mul_add, Nat.mul_one]; exact hownk, hbk⟩
          case measure => simp [intOf]; omega
    · have hi0 : i = n := by omega
      subst hi0
      obtain ⟨A', c', rfl⟩ := own_form hown
      have hr := rd_own hown
      have hfin : Hid (trimL (lowd 65536 (4 * i) (val W64 l)) = digs 65536 (val W64 l)) := by
        refine digs_lowd 65536 (by omega) _ _ ?_
        have h1 := val_lt W64 (by decide) l hl
        rw [h.len] at h1
        have e : W64 ^ i = 65536 ^ (4 * i) := by rw [Nat.pow_mul]; rfl
        omega
      clear hown
      go_wp2_with fail
      refine (trim_any _ _ _ _ _ hr).mono ?_
      rintro e w' ⟨A2, n2, c2, rfl, hr2, rfl⟩
      go_wp2
      go_ret
      exact ⟨_, _, _, rfl, by rw [← hfin.out]; exact hr2, hb⟩
end Go.Proofs.YtdfedhmejilnhaaGreatDoor
