/- Bytes of a value of the thin package: it proves what it answers. Conditions: the value is of Kind Int, its words are words, of at most 40. -/
import Derived.Test.YtdfedhmejilnhaaGreatDoorImpl1
import Derived.Test.YtdfedhmejilnhaaGreatDoorBytes
namespace Go.Proofs.YtdfedhmejilnhaaGreatDoor
open Go.RowKit

/-- constant.Bytes of an integer. -/
theorem bytes_V (v : Value) (neg : Bool) (N : Nat) (w : World) (h : IsV w v neg N) (hlen : (digs W64 N).length ≤ 10000) : Calls Tryz.prog 23 #[v] w (Got .u8 (digs 256 N) w) := by
  rcases h with ⟨a, rfl, h1, h2, h3, h4⟩ | ⟨g, rfl, hI, _⟩
  · exact bytes_iv a neg N w hlen (fun w => by have := i64toi_any a h1 h2 w; rw [← h3, ← h4] at this; exact this)
  · exact bytes_bv g neg N w hI hlen

theorem digs_of_words (l : List Nat) (n : Nat) (h : l.length = n) (hl : ∀ d ∈ l, d < W64) (hn : n ≤ 40) : (digs W64 (val W64 l)).length ≤ 10000 ∧ (digs 256 (val W64 l)).length ≤ 10000 ∧ (digs 65536 (val W64 l)).length ≤ 10000 := by
  have hv := val_lt W64 (by decide) l hl
  rw [h] at hv
  refine ⟨Nat.le_trans (digs_length_le W64 two_W64 _ n hv) (by omega), Nat.le_trans (digs_length_le 256 (by omega) _ (8 * n) ?_) (by omega), Nat.le_trans (digs_length_le 65536 (by omega) _ (4 * n) ?_) (by omega)⟩
  · rw [← W64_pow]; exact hv
  · rw [Nat.pow_mul]; exact hv

set_option maxRecDepth 100000 in
set_option maxHeartbeats 400000 in
/-- impl.Bytes. -/
theorem bytes_impl (t : Bool) (s : ByteArray) (neg : Bool) (A : Option Addr) (n c : Nat) (l : List Nat) (A2 : Option Addr) (n2 c2 : Nat) (neg3 : Bool) (A3 : Option Addr) (n3 c3 : Nat) (A4 : Option Addr) (n4 c4 : Nat) (w : World) (h : Rd .u64 w A n c l) (hl : ∀ d ∈ l, d < W64) (hn : n ≤ 40) :
    Calls Tryz.prog 15 #[.agg #[.int .i64 3, .bool t, .string s, .bool neg, .slice A n c, .slice A2 n2 c2, .bool neg3, .slice A3 n3 c3, .slice A4 n4 c4]] w (Got .u8 (digs 256 (val W64 l)) w) := by
  obtain ⟨i0, hi, hz0, hz1, hz2⟩ := info_parts Tryz.infoByteB
  have hd := digs_of_words l n h.len hl hn
  have HD := Lib.hid hd
  have HW := Lib.hid (fun w' (hb : Below w.heap.size w w') => whole_impl t s neg A n c l A2 n2 c2 neg3 A3 n3 c3 A4 n4 c4 w' (h.below hb) hl (by omega))
  clear h hl hd
  generalize (neg && decide (0 < val W64 l)) = nb at *
  generalize val W64 l = N at *
  have HS := Lib.hid (fun v w (h : IsV w v nb N) => bytes_V v nb N w h HD.out.1)
  go_enter Tryz.func15, Tryz.ntmps15
  go_wp2_with fail
  refine (HW.out _ ((Below.refl _ _).alloc (Nat.le_refl _) _)).mono ?_
  rintro e w1 ⟨v, rfl, hv, hb1'⟩
  have hb1 := ((Below.refl w.heap.size w).alloc (Nat.le_refl _) (.cells #[.int .i64 3, .bool t, .string s, .bool neg, .slice A n c, .slice A2 n2 c2, .bool neg3, .slice A3 n3 c3, .slice A4 n4 c4] 26)).trans (hb1'.mono (by simp))
  go_wp2_with fail
  refine (HS.out v _ hv).mono ?_
  rintro e w2 ⟨A5, n5, c5, rfl, hr5, hb2⟩
  have hn5 : n5 ≤ 10000 := by rw [← hr5.len]; exact HD.out.2.1
  go_wp2_with (at_builtin; refine wp_append_copy w2 .u8 rfl (.const (.slice none 0 0)) (.tmp 5) 44 rfl 5 i0 Tryz.underlying44 hi hz0 hz1 (by omega) rfl A5 n5 c5 (digs 256 N) rfl hr5 (by omega) ?_; intro v' w3 hown hb3)
  go_ret
  exact got_own hown ((hb1.trans (hb2.mono hb1.size)).trans (hb3.mono (Nat.le_trans hb1.size hb2.size)))
end Go.Proofs.YtdfedhmejilnhaaGreatDoor
