/- The reference's shift of a number: it proves what Shifted answers of a fraction that is not negated. Conditions: the slices read as digits, of at most ten thousand. -/
import Derived.Test.YtbmcpbebjgponaaSpec5
import Derived.Test.YtbmcpbebjgponaaSpec7
import Derived.Test.YtbmcpbebjgponaaShr
namespace Go.Proofs.Ytbmcpbebjgponaa
open Go.RowKit

set_option maxRecDepth 100000 in
set_option maxHeartbeats 800000 in
/-- spec.Shifted to the right, of a fraction that is not negated. -/
theorem shifted_right (A : Option Addr) (n c : Nat) (A2 : Option Addr) (n2 c2 N s : Nat) (w : World) (h : Rd .i64 w A n c (digs 65536 N)) (hn : n ≤ 10000) (hs : s ≤ 100000) :
    Calls Try.prog 22 #[.agg #[.bool false, .slice A n c, .slice A2 n2 c2], .bool false, .int .i64 (s : Int)] w (GotRat false (N / 2 ^ s) 1 w) := by
  have H1 := Lib.hid (fun w' (h' : Rd .i64 w' A n c (digs 65536 N)) => shr_any A n c N s w' h' (by omega) (by omega))
  have HR := Lib.hid h
  clear h
  go_enter Try.func22, Try.ntmps22
  go_wp2_with fail
  refine (H1.out _ ((HR.out.alloc _).alloc _)).mono ?_
  rintro e w1 ⟨A3, n3, c3, rfl, hr3, hb3⟩
  go_wp2_with fail
  refine (whole_false A3 n3 c3 _ _ hr3).mono ?_
  rintro e w2 ⟨A4, n4, c4, A5, n5, c5, rfl, hr4, hr5, hb4⟩
  have hbox := (((Box.new (w.alloc (.cells #[.bool false, .slice A n c, .slice A2 n2 c2] 27)) 27 #[.bool false, .slice none 0 0, .slice none 0 0] (w.heap.size + 1) (by simp)).below hb3 (by simp)).below hb4 (by have := hb3.size; simp at this; omega))
  obtain ⟨k0, k1, k2, f0, f1, f2, hlt⟩ := hbox.three
  have hbel : Below w.heap.size w w2 := ((((Below.refl _ w).alloc (Nat.le_refl _) _).alloc (by simp) _).trans (hb3.mono (by simp; omega))).trans (hb4.mono (by have := hb3.size; simp at this; omega))
  go_wp2
  have hend := rat_end (neg := false) hbox (by simp [notInt]) hr4 hr5 hbel (by omega) _ rfl
  obtain ⟨r0, r1, r2, hgot⟩ := hend
  exact bodyPost_ret (v := .agg #[.bool false, .slice A4 n4 c4, .slice A5 n5 c5]) (by simp [results, Try.results22, go_sem, r0, r1, r2]) rfl hgot

set_option maxRecDepth 100000 in
set_option maxHeartbeats 800000 in
/-- spec.Shifted to the left, of a fraction that is not negated. -/
theorem shifted_left (A : Option Addr) (n c : Nat) (A2 : Option Addr) (n2 c2 N s : Nat) (w : World) (h : Rd .i64 w A n c (digs 65536 N)) (hn : n ≤ 10000) (hs : s ≤ 100000) :
    Calls Try.prog 22 #[.agg #[.bool false, .slice A n c, .slice A2 n2 c2], .bool true, .int .i64 (s : Int)] w (GotRat false (N * 2 ^ s) 1 w) := by
  have H1 := Lib.hid (fun w' (h' : Rd .i64 w' A n c (digs 65536 N)) => shl_any A n c N s w' h' (by omega) (by omega))
  have HR := Lib.hid h
  clear h
  go_enter Try.func22, Try.ntmps22
  go_wp2
  have hb0 : Box ((w.alloc (.cells #[.bool false, .slice A n c, .slice A2 n2 c2] 27)).alloc (.cells #[.bool false, .slice none 0 0, .slice none 0 0] 27)) w.heap.size 27 #[.bool false, .slice A n c, .slice A2 n2 c2] := (Box.new _ _ _ _ rfl).alloc _
  have hb1 : Box ((w.alloc (.cells #[.bool false, .slice A n c, .slice A2 n2 c2] 27)).alloc (.cells #[.bool false, .slice none 0 0, .slice none 0 0] 27)) (w.heap.size + 1) 27 #[.bool false, .slice none 0 0, .slice none 0 0] := Box.new _ _ _ _ (by simp)
  have hbel0 := ((Below.refl w.heap.size w).alloc (Nat.le_refl _) (.cells #[.bool false, .slice A n c, .slice A2 n2 c2] 27)).alloc (by simp) (.cells #[.bool false, .slice none 0 0, .slice none 0 0] 27)
  have HR0 := Lib.hid ((HR.out.alloc (.cells #[.bool false, .slice A n c, .slice A2 n2 c2] 27)).alloc (.cells #[.bool false, .slice none 0 0, .slice none 0 0] 27))
  generalize (w.alloc (.cells #[.bool false, .slice A n c, .slice A2 n2 c2] 27)).alloc (.cells #[.bool false, .slice none 0 0, .slice none 0 0] 27) = w0 at *
  have hl0 := hb0.lt
  have hl1 := hb1.lt
  have HB0 := Lib.hid hb0
  have HB1 := Lib.hid hb1
  have HBEL := Lib.hid hbel0
  obtain ⟨i0, i1, i2, _⟩ := hb0.three
  clear hb0 hb1 hbel0 HR
  go_region_with (first | (go_at_call 34; refine (H1.out _ (by exact HR0.out)).mono ?_; rintro e w1 ⟨A3, n3, c3, rfl, hr3, hb3⟩; obtain ⟨j0, j1, j2, _⟩ := (HB0.out.below (below_of_drew hb3) hl0).three) | (go_at_call 17; refine (whole_false A3 n3 c3 _ _ hr3).mono ?_; rintro e w2 ⟨A4, n4, c4, A5, n5, c5, rfl, hr4, hr5, hb4⟩; have hbox := (HB1.out.below (below_of_drew hb3) hl1).below hb4 (by have := hb3.size; simp at this; omega); obtain ⟨k0, k1, k2, f0, f1, f2, hlt⟩ := hbox.three))
  all_goals
    have hbel : Below w.heap.size w w2 := (HBEL.out.trans ((below_of_drew hb3).mono (by omega))).trans (hb4.mono (by have := hb3.size; simp at this; omega))
    clear HB0 HB1 HBEL HR0 H1
    go_wp2
    have hend := rat_end (neg := false) hbox (by simp [notInt]) hr4 hr5 hbel (by omega) _ rfl
    obtain ⟨r0, r1, r2, hgot⟩ := hend
    exact bodyPost_ret (v := .agg #[.bool false, .slice A4 n4 c4, .slice A5 n5 c5]) (by simp [results, Try.results22, go_sem, r0, r1, r2]) rfl hgot

/-- spec.Shifted of a fraction that is not negated. -/
theorem shifted_any (left : Bool) (A : Option Addr) (n c : Nat) (A2 : Option Addr) (n2 c2 N s : Nat) (w : World) (h : Rd .i64 w A n c (digs 65536 N)) (hn : n ≤ 10000) (hs : s ≤ 100000) :
    Calls Try.prog 22 #[.agg #[.bool false, .slice A n c, .slice A2 n2 c2], .bool left, .int .i64 (s : Int)] w (GotRat false (if left then N * 2 ^ s else N / 2 ^ s) 1 w) := by
  cases left
  · exact shifted_right A n c A2 n2 c2 N s w h hn hs
  · exact shifted_left A n c A2 n2 c2 N s w h hn hs
end Go.Proofs.Ytbmcpbebjgponaa
