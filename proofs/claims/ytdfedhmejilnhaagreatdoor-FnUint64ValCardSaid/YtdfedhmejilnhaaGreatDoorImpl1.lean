/- The package's value of a value of the thin package: it proves what wordsOf, of, Make and whole answer. Conditions: the words of the number are words, of at most 1000. -/
import Derived.Test.YtdfedhmejilnhaaGreatDoorConst2
import Derived.Test.YtdfedhmejilnhaaGreatDoorMake
import Derived.Test.YtdfedhmejilnhaaGreatDoorVal1
import Derived.LaidEqlPtr
namespace Go.Proofs.YtdfedhmejilnhaaGreatDoor
open Go.RowKit

set_option maxRecDepth 100000 in
set_option maxHeartbeats 800000 in
/-- impl.wordsOf. -/
theorem wordsOf_any (A : Option Addr) (n c : Nat) (l : List Nat) (w : World) (h : Rd .u64 w A n c l) (hn : n ≤ 1000) :
    Calls Tryz.prog 45 #[.slice A n c] w (Got .u64 l w) := by
  obtain ⟨i0, hi, hz0, hz1, hz2⟩ := info_parts Tryz.infoWord
  have hcap := h.cap
  have HL := Lib.hid h.len
  go_enter Tryz.func45, Tryz.ntmps45
  go_wp2
  go_loopw [3, 8] (fun v s wr => ∃ i : Nat, i ≤ n ∧ s = .int .i64 (i : Int) ∧ wr.ownsRow w.heap.size 82 1 v i (nums .u64 (l.take i)) ∧ Below w.heap.size w wr) (fun _ s _ => n - (intOf s).toNat)
  case atStart => exact ⟨0, Nat.zero_le _, rfl, World.ownsRow_nil _ _ _ _, Below.refl _ _⟩
  case round =>
    obtain ⟨i, hin, rfl, hown, hb⟩ := hrel
    have hsz := hb.size
    by_cases hlt : i < n
    · obtain ⟨b, o, rfl, hbb, d, hd, hc⟩ := (h.below hb).at_ hlt
      have HT : Hid (l.take i ++ [d] = l.take (i + 1)) := by
        obtain ⟨hl, he⟩ := hd.out
        unfold Hid
        rw [List.take_succ_eq_append_getElem hl, he]
      clear hd
      go_wp2_with (at_builtin; refine wp_append_num wr .u64 _ rfl (.tmp 12) (.tmp 14) 80 rfl w.heap.size 82 i0 Tryz.underlying80 hi hz0 hz1 (by omega) _ _ _ rfl hown _ rfl rfl d ?hd (by omega) (by omega) ?_)
      case hd => rfl
      intro v' w1 hown' hb1
      rw [HT.out] at hown'
      have hb2 := hb.trans hb1
      clear hown hb1 hb
      go_wp2
      go_roundw
      case rel => exact ⟨i + 1, by omega, by go_num, hown', hb2⟩
      case measure => simp [intOf]; omega
    · obtain rfl : i = n := by omega
      have hfin : Hid (l.take i = l) := List.take_of_length_le (by rw [HL.out]; exact Nat.le_refl _)
      rw [hfin.out] at hown
      go_wp2
      go_ret
      exact got_own hown hb

/-- The call hands back an integer in a new block. -/
def GotP (neg : Bool) (N : Nat) (w : World) (e : Ending) (w' : World) : Prop :=
  ∃ g, e = .returned (.pointer (some ⟨g, 0, none⟩)) ∧ IntAt w' g neg N ∧ Below w.heap.size w w' ∧ w.heap.size ≤ g

theorem run_neq_ptr_same {P : Program} (w : World) {tp te : TypeId} {j : TypeInfo} (a : Addr) (hp : P.underlying tp = some (.pointer te)) (hte : P.info? te = some j) :
    (binOp .neq tp (.pointer (some a)) (.pointer (some a))).run P w = .ok (.bool false) w := by
  have h : ∀ d : Nat, (Op.equalIn (d + 1) tp (.pointer (some a)) (.pointer (some a))).run P w = .ok true w := fun d => by
    simp [Op.equalIn, run_underlying hp, sizeOf, typeInfo, hte, run_sameAddr_same]
  simp only [binOp]
  simp [Op.equal, Op.maxDepth, h 9999]

set_option maxRecDepth 100000 in
set_option maxHeartbeats 800000 in
/-- Int.Set of an integer onto itself. -/
theorem set_self (g : Nat) (w : World) : Calls Tryz.prog 60 #[.pointer (some ⟨g, 0, none⟩), .pointer (some ⟨g, 0, none⟩)] w fun e w' => e = .returned (.pointer (some ⟨g, 0, none⟩)) ∧ w = w' := by
  have hj : (Tryz.prog.info? 88).isSome = true := by kernel_rfl
  obtain ⟨j, hj⟩ := Option.isSome_iff_exists.1 hj
  have H := fun w => run_neq_ptr_same (P := Tryz.prog) w ⟨g, 0, none⟩ Tryz.underlying60 hj
  clear hj
  go_enter Tryz.func60, Tryz.ntmps60
  go_wp2
  go_ret
  exact ⟨rfl, rfl⟩

set_option maxRecDepth 100000 in
set_option maxHeartbeats 800000 in
/-- Int.Neg of an integer onto itself. -/
theorem neg_self (g : Nat) (A : Option Addr) (n c N : Nat) (w : World) (hB : Box w g 88 #[.bool false, .slice A n c]) (hr : Rd .u64 w A n c (digs W64 N)) :
    Calls Tryz.prog 46 #[.pointer (some ⟨g, 0, none⟩), .pointer (some ⟨g, 0, none⟩)] w (SetTo g (decide (0 < N)) N w) := by
  obtain ⟨k0, k1, f0, f1, hlt⟩ := hB.two
  have hpos := digs_length_pos W64 two_W64 N
  rw [hr.len] at hpos
  have hs0 : Hid (∀ b : Bool, IntAt (w.setCell ⟨g, 0, none⟩ (.bool b)) g b N ∧ w.grownBy (w.setCell ⟨g, 0, none⟩ (.bool b)) (some g)) := fun b =>
    ⟨⟨A, n, c, hB.set 0 _, hr.grown hB (by simp [notInt]) (grown_set (grown_refl _ _) 0 _)⟩, grown_set (grown_refl _ _) 0 _⟩
  by_cases hn : 0 < n
  · rw [decide_eq_true (hpos.1 hn)]
    have hn2 : (0 : Int) < (n : Int) := by omega
    have hn3 : decide ((0 : Int) < (n : Int)) = true := decide_eq_true hn2
    clear hpos hr hB
    go_enter Tryz.func46, Tryz.ntmps46
    go_wp2_with fail
    refine (set_self g _).mono ?_
    rintro e w1 ⟨rfl, rfl⟩
    go_wp2
    go_ret
    exact ⟨rfl, hs0.out true⟩
  · rw [decide_eq_false (fun h => hn (hpos.2 h))]
    have hn0 : n = 0 := by omega
    subst hn0
    clear hpos hr hB
    go_enter Tryz.func46, Tryz.ntmps46
    go_wp2_with fail
    refine (set_self g _).mono ?_
    rintro e w1 ⟨rfl, rfl⟩
    go_wp2
    go_ret
    exact ⟨rfl, hs0.out false⟩

@[go_sem] theorem any_bool (v : Value) (w : World) : (Instr.typeAssert (.iface 60 v) 20 4 true).run Tryz.prog w = .ok (.tuple #[.bool false, .bool false]) w := by kernel_rfl
@[go_sem] theorem any_string (v : Value) (w : World) : (Instr.typeAssert (.iface 60 v) 20 9 true).run Tryz.prog w = .ok (.tuple #[.string ⟨#[]⟩, .bool false]) w := by kernel_rfl
@[go_sem] theorem any_int64 (v : Value) (w : World) : (Instr.typeAssert (.iface 60 v) 20 2 true).run Tryz.prog w = .ok (.tuple #[.int .i64 0, .bool false]) w := by kernel_rfl
@[go_sem] theorem any_int (v : Value) (w : World) : (Instr.typeAssert (.iface 60 v) 20 60 true).run Tryz.prog w = .ok (.tuple #[v, .bool true]) w := by kernel_rfl

/-- The call hands back a value of the package that is the integer N with a sign. -/
def GotVal (neg : Bool) (N : Nat) (w : World) (e : Ending) (w' : World) : Prop := ∃ v, e = .returned v ∧ IsV w' v neg N ∧ Below w.heap.size w w'

set_option maxRecDepth 100000 in
set_option maxHeartbeats 800000 in
/-- constant.Make of an integer. -/
theorem make_int (g : Nat) (neg : Bool) (N : Nat) (w : World) (hI : IntAt w g neg N) (h0 : N = 0 → neg = false) :
    Calls Tryz.prog 31 #[.iface 60 (.pointer (some ⟨g, 0, none⟩))] w (GotVal neg N w) := by
  have H := Lib.hid (makeInt_any g neg N w hI h0)
  clear hI h0
  go_enter Tryz.func31, Tryz.ntmps31
  go_wp2_with fail
  refine H.out.mono ?_
  rintro e w1 ⟨⟨v, rfl, hv⟩, rfl⟩
  go_wp2
  go_ret
  exact ⟨v, rfl, hv, Below.refl _ _⟩

set_option maxRecDepth 100000 in
set_option maxHeartbeats 800000 in
/-- impl.of. -/
theorem of_impl (neg : Bool) (A : Option Addr) (n c : Nat) (l : List Nat) (w : World) (h : Rd .u64 w A n c l) (hl : ∀ d ∈ l, d < W64) (hn : n ≤ 1000) :
    Calls Tryz.prog 32 #[.agg #[.bool neg, .slice A n c]] w (GotP (neg && decide (0 < val W64 l)) (val W64 l) w) := by
  have HW := Lib.hid (fun w' (hb : Below w.heap.size w w') => wordsOf_any A n c l w' (h.below hb) hn)
  have HS := Lib.hid (fun g A n c w hB hr => setBits_any g A n c l w hB hr hl)
  clear h hl
  generalize val W64 l = N at *
  have hb0 : Below w.heap.size w ((w.alloc (.cells #[.bool neg, .slice A n c] 24)).alloc (.cells #[.bool false, .slice none 0 0] 88)) := ((Below.refl _ _).alloc (Nat.le_refl _) _).alloc (by simp) _
  have hBn := Box.new w 24 #[.bool neg, .slice A n c] w.heap.size rfl
  cases neg
  · rw [Bool.false_and]
    go_enter Tryz.func32, Tryz.ntmps32
    go_wp2_with fail
    refine (HW.out _ hb0).mono ?_
    rintro e w1 ⟨A1, n1, c1, rfl, hr1, hb1⟩
    have hB1 := (Box.new (w.alloc (.cells #[.bool false, .slice A n c] 24)) 88 #[.bool false, .slice none 0 0] (w.heap.size + 1) (by simp)).below hb1 (by simp)
    have hBm := (hBn.alloc (.cells #[.bool false, .slice none 0 0] 88)).below hb1 (by simp; omega)
    go_wp2_with fail
    refine (HS.out _ _ _ _ _ hB1 hr1).mono ?_
    rintro e w2 ⟨rfl, hI, hg⟩
    obtain ⟨m0, m1, _, _, hlm⟩ := (hBm.grown hg (by omega)).two
    have hbel := below_of_grown (hb0.trans (hb1.mono (by simp; omega))) hg (by have := hb1.size; simp at this; omega) (by omega)
    clear hr1 hB1 hBm hg hb1
    go_wp2
    go_ret
    exact ⟨_, rfl, hI, hbel, by omega⟩
  · rw [Bool.true_and]
    go_enter Tryz.func32, Tryz.ntmps32
    go_wp2_with fail
    refine (HW.out _ hb0).mono ?_
    rintro e w1 ⟨A1, n1, c1, rfl, hr1, hb1⟩
    have hB1 := (Box.new (w.alloc (.cells #[.bool true, .slice A n c] 24)) 88 #[.bool false, .slice none 0 0] (w.heap.size + 1) (by simp)).below hb1 (by simp)
    have hBm := (hBn.alloc (.cells #[.bool false, .slice none 0 0] 88)).below hb1 (by simp; omega)
    go_wp2_with fail
    refine (HS.out _ _ _ _ _ hB1 hr1).mono ?_
    rintro e w2 ⟨rfl, hI, hg⟩
    obtain ⟨m0, m1, _, _, hlm⟩ := (hBm.grown hg (by omega)).two
    have hbel := below_of_grown (hb0.trans (hb1.mono (by simp; omega))) hg (by have := hb1.size; simp at this; omega) (by omega)
    clear hr1 hB1 hBm hg hb1
    obtain ⟨A3, n3, c3, hB3, hr3⟩ := hI
    have HNG := Lib.hid (neg_self _ A3 n3 c3 N w2 hB3 hr3)
    clear hB3 hr3
    go_wp2_with fail
    refine HNG.out.mono ?_
    rintro e w3 ⟨rfl, hI3, hg3⟩
    have hbel3 := below_of_grown hbel hg3 hbel.size (by omega)
    clear hg3 hbel
    go_wp2
    go_ret
    exact ⟨_, rfl, hI3, hbel3, by omega⟩

set_option maxRecDepth 100000 in
set_option maxHeartbeats 800000 in
/-- impl.whole of a value of Kind Int. -/
theorem whole_impl (t : Bool) (s : ByteArray) (neg : Bool) (A : Option Addr) (n c : Nat) (l : List Nat) (A2 : Option Addr) (n2 c2 : Nat) (neg3 : Bool) (A3 : Option Addr) (n3 c3 : Nat) (A4 : Option Addr) (n4 c4 : Nat) (w : World) (h : Rd .u64 w A n c l) (hl : ∀ d ∈ l, d < W64) (hn : n ≤ 1000) :
    Calls Tryz.prog 20 #[.agg #[.int .i64 3, .bool t, .string s, .bool neg, .slice A n c, .slice A2 n2 c2, .bool neg3, .slice A3 n3 c3, .slice A4 n4 c4]] w (GotVal (neg && decide (0 < val W64 l)) (val W64 l) w) := by
  have HO := Lib.hid (fun w' (hb : Below w.heap.size w w') => of_impl neg A n c l w' (h.below hb) hl hn)
  have h0 : val W64 l = 0 → (neg && decide (0 < val W64 l)) = false := by intro e; rw [e]; simp
  have H0 := Lib.hid h0
  clear h hl h0
  generalize (neg && decide (0 < val W64 l)) = nb at *
  generalize val W64 l = N at *
  have hb0 : Below w.heap.size w (w.alloc (.cells #[.int .i64 3, .bool t, .string s, .bool neg, .slice A n c, .slice A2 n2 c2, .bool neg3, .slice A3 n3 c3, .slice A4 n4 c4] 26)) := (Below.refl _ _).alloc (Nat.le_refl _) _
  go_enter Tryz.func20, Tryz.ntmps20
  go_wp2_with fail
  refine (HO.out _ hb0).mono ?_
  rintro e w1 ⟨g, rfl, hI, hb1, hge⟩
  have hb2 := hb0.trans (hb1.mono hb0.size)
  have HM := Lib.hid (make_int g nb N w1 hI H0.out)
  clear hI hb1
  go_wp2_with fail
  refine HM.out.mono ?_
  rintro e w2 ⟨v, rfl, hv, hb3⟩
  have hb4 := hb2.trans (hb3.mono hb2.size)
  go_wp2
  go_ret
  exact ⟨v, rfl, hv, hb4⟩
end Go.Proofs.YtdfedhmejilnhaaGreatDoor
