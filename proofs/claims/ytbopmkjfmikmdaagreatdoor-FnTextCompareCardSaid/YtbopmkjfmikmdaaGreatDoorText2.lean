/- Comparison of texts: it proves what Compare answers of two texts that are no sums. Conditions: the texts lie in two blocks, their locks are free. -/
import Derived.Test.YtbopmkjfmikmdaaGreatDoorText
namespace Go.Proofs.YtbopmkjfmikmdaaGreatDoor
open Go.RowKit

/-- The call answers this truth; only what lies from B on may have turned. -/
def TellsIn (b : Bool) (B : Nat) (w0 : World) (e : Ending) (w' : World) : Prop := e = .returned (.bool b) ∧ Below B w0 w'

set_option maxRecDepth 100000 in
set_option maxHeartbeats 1600000 in
theorem compare_sv0 (g g2 : Nat) (a b : ByteArray) (hne : g2 ≠ g) (B : Nat) (w0 w : World) (hb : Below B w0 w) (hB : B ≤ g) (hB2 : B ≤ g2) (h1 : StrAt w g a) (h2 : StrAt w g2 b) :
    Calls Tryz.prog 17 #[sv g, .int .i64 39, sv g2] w (TellsIn (ordB 0 (cmpT a.toList b.toList)) B w0) := by
  have H := Lib.hid (match_same (sv g) (sv g2) 1 (ord_sv g) (ord_sv g2))
  have H1 := Lib.hid (string_any g a w h1)
  have H2 : Hid (∀ w1, w.grownBy w1 (some g) → StrAt w1 g2 b) := fun w1 hg => Box.grown h2 hg hne
  have HS := Lib.hid hb.size
  have hlt1 := Box.lt h1
  clear h1 h2
  rw [← (cmpT_ord a.toList b.toList).1]
  unfold sv at *
  go_enter Tryz.func17, Tryz.ntmps17
  go_wp2_with fail
  refine (H.out _).mono ?_
  rintro e w1 ⟨rfl, rfl⟩
  go_wp2_with fail
  refine H1.out.mono ?_
  rintro e w2 ⟨rfl, _, hg⟩
  have hs2 := H2.out w2 hg
  have hb2 := below_of_grown hb hg (by omega) hB
  clear hg hb
  go_wp2_with fail
  refine (string_any g2 b w2 hs2).mono ?_
  rintro e w3 ⟨rfl, hs3, hg3⟩
  have hb3 := below_of_grown hb2 hg3 (Nat.le_of_lt (Nat.lt_of_le_of_lt hB2 (Box.lt hs2))) hB2
  clear hs3 hg3 hb2 hs2
  go_wp2
  go_ret
  exact ⟨rfl, hb3⟩

set_option maxRecDepth 100000 in
set_option maxHeartbeats 1600000 in
theorem compare_sv1 (g g2 : Nat) (a b : ByteArray) (hne : g2 ≠ g) (B : Nat) (w0 w : World) (hb : Below B w0 w) (hB : B ≤ g) (hB2 : B ≤ g2) (h1 : StrAt w g a) (h2 : StrAt w g2 b) :
    Calls Tryz.prog 17 #[sv g, .int .i64 44, sv g2] w (TellsIn (ordB 1 (cmpT a.toList b.toList)) B w0) := by
  have H := Lib.hid (match_same (sv g) (sv g2) 1 (ord_sv g) (ord_sv g2))
  have H1 := Lib.hid (string_any g a w h1)
  have H2 : Hid (∀ w1, w.grownBy w1 (some g) → StrAt w1 g2 b) := fun w1 hg => Box.grown h2 hg hne
  have HS := Lib.hid hb.size
  have hlt1 := Box.lt h1
  clear h1 h2
  rw [← (cmpT_ord a.toList b.toList).2.1]
  unfold sv at *
  go_enter Tryz.func17, Tryz.ntmps17
  go_wp2_with fail
  refine (H.out _).mono ?_
  rintro e w1 ⟨rfl, rfl⟩
  go_wp2_with fail
  refine H1.out.mono ?_
  rintro e w2 ⟨rfl, _, hg⟩
  have hs2 := H2.out w2 hg
  have hb2 := below_of_grown hb hg (by omega) hB
  clear hg hb
  go_wp2_with fail
  refine (string_any g2 b w2 hs2).mono ?_
  rintro e w3 ⟨rfl, hs3, hg3⟩
  have hb3 := below_of_grown hb2 hg3 (Nat.le_of_lt (Nat.lt_of_le_of_lt hB2 (Box.lt hs2))) hB2
  clear hs3 hg3 hb2 hs2
  go_wp2
  go_ret
  exact ⟨rfl, hb3⟩

set_option maxRecDepth 100000 in
set_option maxHeartbeats 1600000 in
theorem compare_sv2 (g g2 : Nat) (a b : ByteArray) (hne : g2 ≠ g) (B : Nat) (w0 w : World) (hb : Below B w0 w) (hB : B ≤ g) (hB2 : B ≤ g2) (h1 : StrAt w g a) (h2 : StrAt w g2 b) :
    Calls Tryz.prog 17 #[sv g, .int .i64 40, sv g2] w (TellsIn (ordB 2 (cmpT a.toList b.toList)) B w0) := by
  have H := Lib.hid (match_same (sv g) (sv g2) 1 (ord_sv g) (ord_sv g2))
  have H1 := Lib.hid (string_any g a w h1)
  have H2 : Hid (∀ w1, w.grownBy w1 (some g) → StrAt w1 g2 b) := fun w1 hg => Box.grown h2 hg hne
  have HS := Lib.hid hb.size
  have hlt1 := Box.lt h1
  clear h1 h2
  rw [← (cmpT_ord a.toList b.toList).2.2.1]
  unfold sv at *
  go_enter Tryz.func17, Tryz.ntmps17
  go_wp2_with fail
  refine (H.out _).mono ?_
  rintro e w1 ⟨rfl, rfl⟩
  go_wp2_with fail
  refine H1.out.mono ?_
  rintro e w2 ⟨rfl, _, hg⟩
  have hs2 := H2.out w2 hg
  have hb2 := below_of_grown hb hg (by omega) hB
  clear hg hb
  go_wp2_with fail
  refine (string_any g2 b w2 hs2).mono ?_
  rintro e w3 ⟨rfl, hs3, hg3⟩
  have hb3 := below_of_grown hb2 hg3 (Nat.le_of_lt (Nat.lt_of_le_of_lt hB2 (Box.lt hs2))) hB2
  clear hs3 hg3 hb2 hs2
  go_wp2
  go_ret
  exact ⟨rfl, hb3⟩

set_option maxRecDepth 100000 in
set_option maxHeartbeats 1600000 in
theorem compare_sv3 (g g2 : Nat) (a b : ByteArray) (hne : g2 ≠ g) (B : Nat) (w0 w : World) (hb : Below B w0 w) (hB : B ≤ g) (hB2 : B ≤ g2) (h1 : StrAt w g a) (h2 : StrAt w g2 b) :
    Calls Tryz.prog 17 #[sv g, .int .i64 45, sv g2] w (TellsIn (ordB 3 (cmpT a.toList b.toList)) B w0) := by
  have H := Lib.hid (match_same (sv g) (sv g2) 1 (ord_sv g) (ord_sv g2))
  have H1 := Lib.hid (string_any g a w h1)
  have H2 : Hid (∀ w1, w.grownBy w1 (some g) → StrAt w1 g2 b) := fun w1 hg => Box.grown h2 hg hne
  have HS := Lib.hid hb.size
  have hlt1 := Box.lt h1
  clear h1 h2
  rw [← (cmpT_ord a.toList b.toList).2.2.2.1]
  unfold sv at *
  go_enter Tryz.func17, Tryz.ntmps17
  go_wp2_with fail
  refine (H.out _).mono ?_
  rintro e w1 ⟨rfl, rfl⟩
  go_wp2_with fail
  refine H1.out.mono ?_
  rintro e w2 ⟨rfl, _, hg⟩
  have hs2 := H2.out w2 hg
  have hb2 := below_of_grown hb hg (by omega) hB
  clear hg hb
  go_wp2_with fail
  refine (string_any g2 b w2 hs2).mono ?_
  rintro e w3 ⟨rfl, hs3, hg3⟩
  have hb3 := below_of_grown hb2 hg3 (Nat.le_of_lt (Nat.lt_of_le_of_lt hB2 (Box.lt hs2))) hB2
  clear hs3 hg3 hb2 hs2
  go_wp2
  go_ret
  exact ⟨rfl, hb3⟩

set_option maxRecDepth 100000 in
set_option maxHeartbeats 1600000 in
theorem compare_sv4 (g g2 : Nat) (a b : ByteArray) (hne : g2 ≠ g) (B : Nat) (w0 w : World) (hb : Below B w0 w) (hB : B ≤ g) (hB2 : B ≤ g2) (h1 : StrAt w g a) (h2 : StrAt w g2 b) :
    Calls Tryz.prog 17 #[sv g, .int .i64 41, sv g2] w (TellsIn (ordB 4 (cmpT a.toList b.toList)) B w0) := by
  have H := Lib.hid (match_same (sv g) (sv g2) 1 (ord_sv g) (ord_sv g2))
  have H1 := Lib.hid (string_any g a w h1)
  have H2 : Hid (∀ w1, w.grownBy w1 (some g) → StrAt w1 g2 b) := fun w1 hg => Box.grown h2 hg hne
  have HS := Lib.hid hb.size
  have hlt1 := Box.lt h1
  clear h1 h2
  rw [← (cmpT_ord a.toList b.toList).2.2.2.2.1]
  unfold sv at *
  go_enter Tryz.func17, Tryz.ntmps17
  go_wp2_with fail
  refine (H.out _).mono ?_
  rintro e w1 ⟨rfl, rfl⟩
  go_wp2_with fail
  refine H1.out.mono ?_
  rintro e w2 ⟨rfl, _, hg⟩
  have hs2 := H2.out w2 hg
  have hb2 := below_of_grown hb hg (by omega) hB
  clear hg hb
  go_wp2_with fail
  refine (string_any g2 b w2 hs2).mono ?_
  rintro e w3 ⟨rfl, hs3, hg3⟩
  have hb3 := below_of_grown hb2 hg3 (Nat.le_of_lt (Nat.lt_of_le_of_lt hB2 (Box.lt hs2))) hB2
  clear hs3 hg3 hb2 hs2
  go_wp2
  go_ret
  exact ⟨rfl, hb3⟩

set_option maxRecDepth 100000 in
set_option maxHeartbeats 1600000 in
theorem compare_sv5 (g g2 : Nat) (a b : ByteArray) (hne : g2 ≠ g) (B : Nat) (w0 w : World) (hb : Below B w0 w) (hB : B ≤ g) (hB2 : B ≤ g2) (h1 : StrAt w g a) (h2 : StrAt w g2 b) :
    Calls Tryz.prog 17 #[sv g, .int .i64 46, sv g2] w (TellsIn (ordB 5 (cmpT a.toList b.toList)) B w0) := by
  have H := Lib.hid (match_same (sv g) (sv g2) 1 (ord_sv g) (ord_sv g2))
  have H1 := Lib.hid (string_any g a w h1)
  have H2 : Hid (∀ w1, w.grownBy w1 (some g) → StrAt w1 g2 b) := fun w1 hg => Box.grown h2 hg hne
  have HS := Lib.hid hb.size
  have hlt1 := Box.lt h1
  clear h1 h2
  rw [← (cmpT_ord a.toList b.toList).2.2.2.2.2]
  unfold sv at *
  go_enter Tryz.func17, Tryz.ntmps17
  go_wp2_with fail
  refine (H.out _).mono ?_
  rintro e w1 ⟨rfl, rfl⟩
  go_wp2_with fail
  refine H1.out.mono ?_
  rintro e w2 ⟨rfl, _, hg⟩
  have hs2 := H2.out w2 hg
  have hb2 := below_of_grown hb hg (by omega) hB
  clear hg hb
  go_wp2_with fail
  refine (string_any g2 b w2 hs2).mono ?_
  rintro e w3 ⟨rfl, hs3, hg3⟩
  have hb3 := below_of_grown hb2 hg3 (Nat.le_of_lt (Nat.lt_of_le_of_lt hB2 (Box.lt hs2))) hB2
  clear hs3 hg3 hb2 hs2
  go_wp2
  go_ret
  exact ⟨rfl, hb3⟩

/-- constant.Compare of two texts. -/
theorem compare_sv (k : Nat) (hk : k < 6) (g g2 : Nat) (a b : ByteArray) (hne : g2 ≠ g) (B : Nat) (w0 w : World) (hb : Below B w0 w) (hB : B ≤ g) (hB2 : B ≤ g2) (h1 : StrAt w g a) (h2 : StrAt w g2 b) :
    Calls Tryz.prog 17 #[sv g, .int .i64 (tokOf k), sv g2] w (TellsIn (ordB k (cmpT a.toList b.toList)) B w0) := by
  match k, hk with
  | 0, _ => exact compare_sv0 g g2 a b hne B w0 w hb hB hB2 h1 h2
  | 1, _ => exact compare_sv1 g g2 a b hne B w0 w hb hB hB2 h1 h2
  | 2, _ => exact compare_sv2 g g2 a b hne B w0 w hb hB hB2 h1 h2
  | 3, _ => exact compare_sv3 g g2 a b hne B w0 w hb hB hB2 h1 h2
  | 4, _ => exact compare_sv4 g g2 a b hne B w0 w hb hB hB2 h1 h2
  | 5, _ => exact compare_sv5 g g2 a b hne B w0 w hb hB hB2 h1 h2

set_option maxRecDepth 100000 in
set_option maxHeartbeats 800000 in
/-- impl.TextCompare. -/
theorem textCompare_any (k : Nat) (hk : k < 6) (a b : ByteArray) (w : World) : Calls Tryz.prog 11 #[.int .i64 (k : Int), .string a, .string b] w (Tells (ordB k (cmpT a.toList b.toList)) w) := by
  have H := Lib.hid (fun w => comparison_any k hk w)
  have HC := Lib.hid (fun g g2 a b hne B w0 w hb hB hB2 h1 h2 => compare_sv k hk g g2 a b hne B w0 w hb hB hB2 h1 h2)
  generalize tokOf k = t at *
  clear hk
  go_enter Tryz.func11, Tryz.ntmps11
  go_wp2_with fail
  refine (H.out _).mono ?_
  rintro e w1 ⟨rfl, hb⟩
  go_wp2_with fail
  refine (makeString_any a _).mono ?_
  rintro e w2 ⟨g, s1, rfl, he1, hs1, hg1, hb2⟩
  have HE1 := Lib.hid he1
  clear he1
  go_wp2_with fail
  refine (makeString_any b _).mono ?_
  rintro e w3 ⟨g2, s2, rfl, he2, hs2, hg2, hb3⟩
  have HE2 := Lib.hid he2
  have hlt := Box.lt hs1
  have hz1 := hb.size
  have hz2 := hb2.size
  have hb4 := Lib.hid ((hb.trans (hb2.mono hz1)).trans (hb3.mono (Nat.le_trans hz1 hz2)))
  have hs3 := Lib.hid (Box.below hs1 hb3 hlt)
  have hs4 := Lib.hid hs2
  clear hs1 hs2 hb hb2 hb3 he2
  go_wp2_with fail
  refine (HC.out g g2 s1 s2 (by omega) w.heap.size w _ hb4.out (by omega) (by omega) hs3.out hs4.out).mono ?_
  rw [HE1.out, HE2.out]
  generalize ordB k (cmpT a.toList b.toList) = r at *
  rintro e w4 ⟨rfl, hb5⟩
  go_wp2
  go_ret
  exact ⟨rfl, hb5⟩
end Go.Proofs.YtbopmkjfmikmdaaGreatDoor
