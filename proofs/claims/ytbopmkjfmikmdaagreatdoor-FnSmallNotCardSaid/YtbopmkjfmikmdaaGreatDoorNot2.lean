/- Bits left out: it proves what nat.andNot answers of such as UnaryOp hands it. Conditions: one word each; the receiver lies in a row of its own. -/
import Derived.Test.YtbopmkjfmikmdaaGreatDoorNot1
import Derived.Laws.CopyOwn
import Derived.StillTailTactics
namespace Go.Proofs.YtbopmkjfmikmdaaGreatDoor
open Go.RowKit

set_option maxRecDepth 100000 in
set_option maxHeartbeats 800000 in
/-- nat.make where there is room for one word. -/
theorem make_room (r n c : Nat) (hc : 1 ≤ c) (w : World) : Calls Tryz.prog 82 #[.slice (some ⟨r, 0, none⟩) n c, .int .i64 1] w fun e w' => e = .returned (.slice (some ⟨r, 0, none⟩) 1 c) ∧ w = w' := by
  have i1 : (1 : Int) ≤ (c : Int) := by omega
  go_enter Tryz.func82, Tryz.ntmps82
  go_wp2
  go_ret
  exact ⟨rfl, rfl⟩

theorem trim_one (s : Nat) (hs : s < W64) : trimL [s] = digs W64 s := by
  have e := digs_lowd W64 two_W64 1 s (by rw [Nat.pow_one]; exact hs)
  rw [lowd_one s hs] at e
  exact e
theorem grown_setRow (w : World) (g : Nat) (cs : Array Value) : w.grownBy (w.setRow g cs) (some g) := ⟨rfl, rfl, rfl, by simp [World.setRow], fun k _ hne => setRow_other w g k cs (by rintro rfl; exact hne rfl)⟩

/-- copy of one word to the head of a row. -/
theorem wp_copy_head {P : Program} {ops : Array Oper} {rest : List Oper} {o : Oper} {a : Act} {Q : Exit → Act → World → Prop} {w : World} (hgd : o.guard = none) (d s : Operand) (dT sT : TypeId)
    (ho : o.op = .call { callee := .builtin .copy, args := #[d, s], argTypes := #[dT, sT] }) (elem : TypeId) (hu : P.underlying dT = some (.slice elem)) (hsz : (P.info? elem).map (·.size) = some 1)
    (G cz : Nat) (l : List Nat) (A : Option Addr) (c x : Nat) (hd : a.eval d = .slice (some ⟨G, 0, none⟩) 1 cz) (hs : a.eval s = .slice A 1 c)
    (t : TypeId) (hrow : Row .u64 t w G l) (h : Rd .u64 w A 1 c [x]) (hl : 1 ≤ l.length)
    (hk : ∀ w', Hid (Row .u64 t w' G (x :: l.drop 1)) → w.grownBy w' (some G) → wpList P ops Q rest (a.put o.dst (goInt 1)) w') : wpList P ops Q (o :: rest) a w := by
  obtain ⟨h1, h2, h3, h4⟩ := h
  obtain ⟨b, o', rfl, hlt, hc⟩ := h4 (by omega)
  refine wpList_copy_own hgd d s dT sT ho elem hu hsz G 0 1 cz ⟨b, o', none⟩ 1 c hd hs (cellsOf .u64 l) t hrow [Value.int .u64 (x : Int)] rfl ?_ (by simp [cellsOf, nums]; omega) (by intro v hv; simp at hv; subst hv; rfl) ?_
  · intro j v hj
    match j, hj with
    | 0, hj =>
      simp at hj
      subst hj
      have := hc 0 (by simp)
      simpa [Addr.add] using this
  · refine hk _ ?_ (grown_setRow _ _ _)
    have := setRow_heap w G _ ((cellsOf .u64 l).toList.take 0 ++ ([Value.int .u64 (x : Int)] ++ (cellsOf .u64 l).toList.drop (0 + 1))).toArray t _ hrow
    unfold Hid Row Box
    rw [show cellsOf .u64 (x :: l.drop 1) = ((cellsOf .u64 l).toList.take 0 ++ ([Value.int .u64 (x : Int)] ++ (cellsOf .u64 l).toList.drop (0 + 1))).toArray by simp [cellsOf, nums]]
    exact this

set_option maxRecDepth 100000 in
set_option maxHeartbeats 800000 in
/-- nat.andNot of one word and nothing. -/
theorem andNot_none (r n c N : Nat) (A B : Option Addr) (c1 c2 Y : Nat) (w : World) (ho : OwnN w r n c N) (h1 : Rd .u64 w A 1 c1 [Y]) (hY : Y < W64) :
    Calls Tryz.prog 57 #[.slice (some ⟨r, 0, none⟩) n c, .slice A 1 c1, .slice B 0 c2] w fun e w' => (∃ m, e = .returned (.slice (some ⟨r, 0, none⟩) m c) ∧ OwnN w' r m c Y) ∧ w.grownBy w' (some r) := by
  obtain ⟨l, hrow, hl, hn, hc1, hc2, _⟩ := ho
  have hcap := h1.cap
  have i1 : (1 : Int) ≤ (c : Int) := by omega
  have i2 : (1 : Int) ≤ (c1 : Int) := by omega
  obtain ⟨i0, hi, hz0, hz1, hz2⟩ := info_parts Tryz.infoWord
  have hsz : (Tryz.prog.info? 97).map (·.size) = some 1 := by rw [hi]; simp [hz1]
  have HM := Lib.hid (fun w => make_room r n c hc1 w)
  have hrowD : Row .u64 97 w.drew r l := hrow
  have HR := Lib.hid h1
  clear h1
  go_enter Tryz.func57, Tryz.ntmps57
  go_wp2_with fail
  refine (HM.out _).mono ?_
  rintro e w1 ⟨rfl, rfl⟩
  go_wp2_with fail
  go_loop [9] (fun i => i = .int .i64 0) (fun _ => 0)
  case atStart => rfl
  case round =>
    subst hrel
    go_wp2_with fail
    go_still_tail 8, (by kernel_rfl)
    change wpList _ _ _ _ _ w.drew
    have hgD : w.grownBy w.drew (some r) := grown_drew (grown_refl _ _)
    have hRD := Lib.hid (HR.out.drew)
    generalize w.drew = wd at *
    go_wp2_with (with_reducible (refine wp_copy_head rfl (.tmp 41) (.tmp 45) 93 93 rfl 97 Tryz.underlying93 hsz r c l A c1 Y ?hd ?hs 97 hrowD ?hr ?hc ?_))
    case hd => rfl
    case hs => rfl
    case hr => exact hRD.out
    case hc => omega
    intro w2 HR2 HG
    have hlen : Hid ((Y :: l.tail).length = c) := by unfold Hid; simp; omega
    have hG2 := Lib.hid (grown_trans hgD HG)
    have hD := Lib.hid (trim_one Y hY)
    clear HG hgD hRD hrowD HR hrow
    go_wp2_with fail
    refine (norm_own r 1 c _ _ HR2.out hlen.out (by omega) (by omega) (by omega)).mono ?_
    rintro e w3 ⟨⟨m, hm, rfl, hm2⟩, rfl⟩
    have HF : Hid (OwnN _ r m c Y) := ⟨_, HR2.out, hlen.out, hm, by omega, by omega, by rw [hm2]; exact hD.out⟩
    clear hm2
    go_wp2
    go_ret
    exact ⟨⟨m, rfl, HF.out⟩, hG2.out⟩

set_option maxRecDepth 100000 in
set_option maxHeartbeats 1600000 in
/-- nat.andNot of one word and one word. -/
theorem andNot_word (r n c N : Nat) (A B : Option Addr) (c1 c2 Y X Z : Nat) (w : World) (ho : OwnN w r n c N) (h1 : Rd .u64 w A 1 c1 [Y]) (h2 : Rd .u64 w B 1 c2 [X]) (hZ : Z < W64) (hz : bits BinOp.andNot IntKind.u64 (Y : Int) (X : Int) = (Z : Int)) :
    Calls Tryz.prog 57 #[.slice (some ⟨r, 0, none⟩) n c, .slice A 1 c1, .slice B 1 c2] w fun e w' => (∃ m, e = .returned (.slice (some ⟨r, 0, none⟩) m c) ∧ OwnN w' r m c Z) ∧ w.grownBy w' (some r) := by
  obtain ⟨l, hrow, hl, hn, hc1, hc2, _⟩ := ho
  have hcap := h1.cap
  have i1 : (1 : Int) ≤ (c : Int) := by omega
  have i2 : (1 : Int) ≤ (c1 : Int) := by omega
  obtain ⟨b1, o1, rfl, _, x', ⟨hxl, hxe⟩, k1⟩ := h1.at_ (j := 0) (by omega)
  obtain ⟨b2, o2, rfl, _, y', ⟨hyl, hye⟩, k2⟩ := h2.at_ (j := 0) (by omega)
  simp only [List.getElem_cons_zero] at hxe hye
  subst hxe hye
  rw [Nat.add_zero] at k1 k2
  obtain ⟨i0, hi, hz0, hz1, hz2⟩ := info_parts Tryz.infoWord
  have hsz : (Tryz.prog.info? 97).map (·.size) = some 1 := by rw [hi]; simp [hz1]
  have HM := Lib.hid (fun w => make_room r n c hc1 w)
  obtain ⟨⟨u, hcell⟩, hfr, hlt⟩ := row_at hrow 0 (by omega)
  have HS : Hid (∀ wd, w.grownBy wd (some r) → Row .u64 97 wd r l → Row .u64 97 (wd.setCell ⟨r, 0, none⟩ (.int .u64 (Z : Int))) r (l.set 0 Z) ∧ w.grownBy (wd.setCell ⟨r, 0, none⟩ (.int .u64 (Z : Int))) (some r)) := fun wd h hr => ⟨hr.set 0 Z, grown_set h 0 _⟩
  have HR := Lib.hid hrow
  have hlen : Hid ((l.set 0 Z).length = c) := by unfold Hid; simp; omega
  have ht : Hid ((l.set 0 Z).take 1 = [Z]) := by
    unfold Hid
    match l, (show 1 ≤ l.length by omega) with
    | a :: l, _ => rfl
  have hD := Lib.hid (trim_one Z hZ)
  clear h1 h2 hrow hl
  go_enter Tryz.func57, Tryz.ntmps57
  go_wp2_with fail
  refine (HM.out _).mono ?_
  rintro e w1 ⟨rfl, rfl⟩
  go_wp2_with fail
  go_loopw [9] (fun i wr => (i = .int .i64 0 ∧ wr = w) ∨ (i = .int .i64 1 ∧ Hid (Row .u64 97 wr r (l.set 0 Z) ∧ w.grownBy wr (some r)))) (fun i _ => 1 - (intOf i).toNat)
  case atStart => exact .inl ⟨rfl, rfl⟩
  case round =>
    rcases hrel with ⟨rfl, rfl⟩ | ⟨rfl, hfin⟩
    · go_wp2_with fail
      go_region
      all_goals go_wp2
      all_goals go_roundw
      case rel => exact .inr ⟨rfl, (HS.out wr (grown_refl _ _) HR.out).1, grown_drew (HS.out wr (grown_refl _ _) HR.out).2⟩
      case measure => simp [intOf]
    · by_cases e1 : c = 1
      · subst e1
        by_cases e2 : c1 = 1
        · subst e2
          go_wp2_with fail
          go_still_tail 8, (by kernel_rfl)
          change wpList _ _ _ _ _ wr.drew
          have hrD : Hid (Row .u64 97 wr.drew r (l.set 0 Z)) := hfin.out.1
          have hGD := Lib.hid (grown_drew hfin.out.2)
          clear hfin
          generalize wr.drew = wd at *
          go_wp2_with (with_reducible (refine wpList_copy_nothing rfl (.tmp 41) (.tmp 45) 93 93 rfl 97 Tryz.underlying93 hsz (some ⟨r, 0, none⟩) (some ⟨b1, o1, none⟩) 0 0 0 0 ?hd ?hs ?hn ?_))
          case hd => rfl
          case hs => rfl
          case hn => rfl
          go_wp2_with fail
          refine (norm_own r 1 _ _ _ hrD.out hlen.out (by omega) (by omega) (by omega)).mono ?_
          rintro e w3 ⟨⟨m, hm, rfl, hm2⟩, rfl⟩
          have HF : Hid (OwnN _ r m _ Z) := ⟨_, hrD.out, hlen.out, hm, by omega, by omega, by rw [hm2, ht.out]; exact hD.out⟩
          clear hm2
          go_wp2
          go_ret
          exact ⟨⟨m, rfl, HF.out⟩, hGD.out⟩
        · have i3 : ¬ (c1 : Int) = 1 := by omega
          go_wp2_with fail
          go_still_tail 8, (by kernel_rfl)
          change wpList _ _ _ _ _ wr.drew
          have hrD : Hid (Row .u64 97 wr.drew r (l.set 0 Z)) := hfin.out.1
          have hGD := Lib.hid (grown_drew hfin.out.2)
          clear hfin
          generalize wr.drew = wd at *
          go_wp2_with (with_reducible (refine wpList_copy_nothing rfl (.tmp 41) (.tmp 45) 93 93 rfl 97 Tryz.underlying93 hsz (some ⟨r, 0, none⟩) (some ⟨b1, o1 + 1, none⟩) 0 0 0 (c1 - 1) ?hd ?hs ?hn ?_))
          case hd => rfl
          case hs => rfl
          case hn => rfl
          go_wp2_with fail
          refine (norm_own r 1 _ _ _ hrD.out hlen.out (by omega) (by omega) (by omega)).mono ?_
          rintro e w3 ⟨⟨m, hm, rfl, hm2⟩, rfl⟩
          have HF : Hid (OwnN _ r m _ Z) := ⟨_, hrD.out, hlen.out, hm, by omega, by omega, by rw [hm2, ht.out]; exact hD.out⟩
          clear hm2
          go_wp2
          go_ret
          exact ⟨⟨m, rfl, HF.out⟩, hGD.out⟩
      · have i4 : ¬ (c : Int) = 1 := by omega
        by_cases e2 : c1 = 1
        · subst e2
          go_wp2_with fail
          go_still_tail 8, (by kernel_rfl)
          change wpList _ _ _ _ _ wr.drew
          have hrD : Hid (Row .u64 97 wr.drew r (l.set 0 Z)) := hfin.out.1
          have hGD := Lib.hid (grown_drew hfin.out.2)
          clear hfin
          generalize wr.drew = wd at *
          go_wp2_with (with_reducible (refine wpList_copy_nothing rfl (.tmp 41) (.tmp 45) 93 93 rfl 97 Tryz.underlying93 hsz (some ⟨r, 1, none⟩) (some ⟨b1, o1, none⟩) 0 (c - 1) 0 0 ?hd ?hs ?hn ?_))
          case hd => rfl
          case hs => rfl
          case hn => rfl
          go_wp2_with fail
          refine (norm_own r 1 _ _ _ hrD.out hlen.out (by omega) (by omega) (by omega)).mono ?_
          rintro e w3 ⟨⟨m, hm, rfl, hm2⟩, rfl⟩
          have HF : Hid (OwnN _ r m _ Z) := ⟨_, hrD.out, hlen.out, hm, by omega, by omega, by rw [hm2, ht.out]; exact hD.out⟩
          clear hm2
          go_wp2
          go_ret
          exact ⟨⟨m, rfl, HF.out⟩, hGD.out⟩
        · have i3 : ¬ (c1 : Int) = 1 := by omega
          go_wp2_with fail
          go_still_tail 8, (by kernel_rfl)
          change wpList _ _ _ _ _ wr.drew
          have hrD : Hid (Row .u64 97 wr.drew r (l.set 0 Z)) := hfin.out.1
          have hGD := Lib.hid (grown_drew hfin.out.2)
          clear hfin
          generalize wr.drew = wd at *
          go_wp2_with (with_reducible (refine wpList_copy_nothing rfl (.tmp 41) (.tmp 45) 93 93 rfl 97 Tryz.underlying93 hsz (some ⟨r, 1, none⟩) (some ⟨b1, o1 + 1, none⟩) 0 (c - 1) 0 (c1 - 1) ?hd ?hs ?hn ?_))
          case hd => rfl
          case hs => rfl
          case hn => rfl
          go_wp2_with fail
          refine (norm_own r 1 _ _ _ hrD.out hlen.out (by omega) (by omega) (by omega)).mono ?_
          rintro e w3 ⟨⟨m, hm, rfl, hm2⟩, rfl⟩
          have HF : Hid (OwnN _ r m _ Z) := ⟨_, hrD.out, hlen.out, hm, by omega, by omega, by rw [hm2, ht.out]; exact hD.out⟩
          clear hm2
          go_wp2
          go_ret
          exact ⟨⟨m, rfl, HF.out⟩, hGD.out⟩

end Go.Proofs.YtbopmkjfmikmdaaGreatDoor
