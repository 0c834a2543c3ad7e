/- Copying and clearing of words, as laws for the walk: it proves what copy writes into a row of zeros, and that clear of zeros turns nothing. Conditions: the words that are copied lie elsewhere. -/
import Derived.Test.YtbopmkjfmikmdaaGreatDoorShift2
namespace Go.Proofs.YtbopmkjfmikmdaaGreatDoor
open Go.RowKit

theorem zeros_lowd (C : Nat) : List.replicate C 0 = lowd W64 C 0 := by
  apply List.ext_getElem
  · simp [lowd_length]
  · intro j h1 h2
    rw [lowd_get]; simp

theorem mul_pow_low (B X q j : Nat) (hB : 0 < B) (h : j < q) : X * B ^ q / B ^ j % B = 0 := by
  obtain ⟨r, rfl⟩ : ∃ r, q = j + (r + 1) := ⟨q - j - 1, by omega⟩
  rw [Nat.pow_add, Nat.pow_succ, ← Nat.mul_assoc, Nat.mul_comm X, Nat.mul_assoc, Nat.mul_div_cancel_left _ (Nat.pow_pos hB), ← Nat.mul_assoc, Nat.mul_mod_left]
theorem mul_pow_high (B X q j : Nat) (hB : 0 < B) : X * B ^ q / B ^ (q + j) = X / B ^ j := by
  rw [Nat.pow_add, Nat.mul_comm X, ← Nat.div_div_eq_div_mul, Nat.mul_div_cancel_left _ (Nat.pow_pos hB)]

theorem splice_nums {k : IntKind} (l0 l : List Nat) (q : Nat) : splice (nums k l0) q (nums k l) = nums k (splice l0 q l) := by
  unfold splice nums
  simp [List.map_take, List.map_drop]
/-- Words laid over zeros. -/
theorem splice_zero (C q X : Nat) (hC : q + (digs W64 X).length ≤ C) : splice (lowd W64 C 0) q (digs W64 X) = lowd W64 C (X * W64 ^ q) := by
  have hX := lt_pow_digs W64 two_W64 X
  unfold splice
  apply List.ext_getElem
  · simp [lowd_length]; omega
  · intro j h1 h2
    rw [lowd_length] at h2
    rw [lowd_get]
    rcases Nat.lt_or_ge j q with h3 | h3
    · rw [List.getElem_append_left (by rw [List.length_take, lowd_length]; omega), List.getElem_take, lowd_get, mul_pow_low W64 X q j W64_pos h3]; simp
    · obtain ⟨i, rfl⟩ : ∃ i, j = q + i := ⟨j - q, by omega⟩
      rw [List.getElem_append_right (by rw [List.length_take, lowd_length]; omega), mul_pow_high W64 X q i W64_pos]
      have e : q + i - (List.take q (lowd W64 C 0)).length = i := by rw [List.length_take, lowd_length]; omega
      rcases Nat.lt_or_ge i (digs W64 X).length with h4 | h4
      · rw [List.getElem_append_left (by rw [e]; exact h4), digs_get]
        simp only [e]
      · rw [List.getElem_append_right (by rw [e]; exact h4), List.getElem_drop, lowd_get]
        have h5 : X < W64 ^ i := Nat.lt_of_lt_of_le hX (Nat.pow_le_pow_right W64_pos h4)
        rw [Nat.div_eq_of_lt h5]; simp

/-- copy of words into a row of zeros. -/
theorem wp_copy_words {P : Program} {ops : Array Oper} {rest : List Oper} {o : Oper} {a : Act} {Q : Exit → Act → World → Prop} {w : World} (hgd : o.guard = none) (d s : Operand) (dT sT : TypeId)
    (ho : o.op = .call { callee := .builtin .copy, args := #[d, s], argTypes := #[dT, sT] }) (elem : TypeId) (hu : P.underlying dT = some (.slice elem)) (hsz : (P.info? elem).map (·.size) = some 1)
    (G q m cz C X : Nat) (A : Option Addr) (c : Nat) (hd : a.eval d = .slice (some ⟨G, q, none⟩) m cz) (hs : a.eval s = .slice A m c)
    (t : TypeId) (hrow : Row .u64 t w G (lowd W64 C 0)) (h : Rd .u64 w A m c (digs W64 X)) (hC : q + m ≤ C) (B : Nat) (w0 : World) (hb : Below B w0 w) (hBG : B ≤ G)
    (hk : ∀ w', Hid (Row .u64 t w' G (lowd W64 C (X * W64 ^ q))) → Below B w0 w' → wpList P ops Q rest (a.put o.dst (goInt m)) w') : wpList P ops Q (o :: rest) a w := by
  have hlen := h.len
  have hl2 : (nums .u64 (digs W64 X)).length = m := by rw [nums_length, hlen]
  refine wpList_copy_splice hgd d s dT sT ho elem hu hsz _ A m cz m c hd hs G q (nums .u64 (lowd W64 C 0)) t hrow (nums .u64 (digs W64 X)) (by rw [hl2]; simp) ?_ (by rw [hl2, nums_length, lowd_length]; exact hC) (nums_one _ _) B w0 hb hBG ?_
  · intro hpos
    rw [hl2] at hpos
    obtain ⟨h1, h2, h3, h4⟩ := h
    obtain ⟨b, o', e, hlt, hc⟩ := h4 hpos
    refine ⟨rfl, ⟨b, o', none⟩, e, fun j v hj => ?_⟩
    have hjl : j < (digs W64 X).length := by
      have := (List.getElem?_eq_some_iff.1 hj).1
      simpa [nums] using this
    have hadd : (⟨b, o', none⟩ : Addr).add j = ⟨b, o' + j, none⟩ := by unfold Addr.add; split <;> simp_all
    rw [hadd, hc j hjl, ← hj]
    simp [nums, hjl]
  · intro w' hg' hb'
    rw [hl2]
    refine hk w' ?_ hb'
    have e := hg'.out
    rw [splice_nums, splice_zero C q X (by rw [hlen]; exact hC)] at e
    exact e

/-- Zeros laid over zeros. -/
theorem row_setCells {t : TypeId} {G : Nat} {l : List Nat} : ∀ (n o : Nat) (w : World), Row .u64 t w G l → (∀ j, j < n → l[o + j]? = some 0) → Row .u64 t (w.setCells G o (List.replicate n (.int .u64 0))) G l
  | 0, _, _, h, _ => h
  | n + 1, o, w, h, hz => by
    have h0 := hz 0 (by omega)
    have h1 : Row .u64 t (w.setCell ⟨G, o, none⟩ (.int .u64 0)) G l := by
      obtain ⟨hl, he⟩ := List.getElem?_eq_some_iff.1 h0
      have := h.set o 0
      rw [(congrArg (l.set o) he.symm).trans (List.set_getElem_self hl)] at this
      exact this
    exact row_setCells n (o + 1) _ h1 (fun j hj => by have := hz (j + 1) (by omega); rw [show o + 1 + j = o + (j + 1) by omega]; exact this)
theorem below_setCells {B G : Nat} {w0 : World} (hBG : B ≤ G) : ∀ (vs : List Value) (o : Nat) (w : World), Below B w0 w → Below B w0 (w.setCells G o vs)
  | [], _, _, h => h
  | _ :: vs, o, _, h => below_setCells hBG vs (o + 1) _ (h.setCell hBG _)

/-- clear of zeros. -/
theorem wp_clear_zeros {P : Program} {ops : Array Oper} {rest : List Oper} {o : Oper} {a : Act} {Q : Exit → Act → World → Prop} {w : World} (hgd : o.guard = none) (s : Operand) (sT : TypeId)
    (ho : o.op = .call { callee := .builtin .clear, args := #[s], argTypes := #[sT] }) (elem : TypeId) (i : TypeInfo) (hu : P.underlying sT = some (.slice elem)) (hi : P.info? elem = some i) (hz : i.zero = some (.int .u64 0))
    (hdst : o.dst = none) (G q cz C Z : Nat) (hs : a.eval s = .slice (some ⟨G, 0, none⟩) q cz) (hC : q ≤ C)
    (t : TypeId) (hrow : Row .u64 t w G (lowd W64 C (Z * W64 ^ q))) (B : Nat) (w0 : World) (hb : Below B w0 w) (hBG : B ≤ G)
    (hk : ∀ w', Hid (Row .u64 t w' G (lowd W64 C (Z * W64 ^ q))) → Below B w0 w' → wpList P ops Q rest a w') : wpList P ops Q (o :: rest) a w := by
  refine wpList_plain hgd fun K hK => ?_
  have hzv : ∀ w, (zeroValue elem).run P w = .ok (.int .u64 0) w := by intro w; simp [zeroValue, typeInfo, hi, hz]
  have hzero : ∀ j, j < q → (lowd W64 C (Z * W64 ^ q))[j]? = some 0 := by
    intro j hj
    rw [List.getElem?_eq_getElem (by rw [lowd_length]; omega), lowd_get, mul_pow_low W64 Z q j W64_pos hj]
  rcases Nat.eq_zero_or_pos q with h0 | h0
  · subst h0
    have hrun : (Builtin.clear_ #[sT] o.type #[.slice (some ⟨G, 0, none⟩) 0 cz]).run P w = .ok (.tuple #[]) w := by
      simp [Builtin.clear_, run_underlying hu]
    unfold Oper.wp execOp
    simp only [ho, resolve, invoke, builtin, Sem.run_bind, Sem.run_pure, Result.andThen_ok, List.map_toArray, List.map_cons, List.map_nil, hs, hrun]
    refine hK _ _ ?_
    rw [hdst]
    exact hk w hrow hb
  · have hrun := Lib.run_clear_slice (P := P) w sT elem o.type (.int .u64 0) hu hzv rfl rfl G 0 q cz h0 (fun j hj => by rw [Nat.zero_add, hrow.cell (by rw [lowd_length]; omega)]; rfl) (fun j _ => hrow.free _)
    unfold Oper.wp execOp
    simp only [ho, resolve, invoke, builtin, Sem.run_bind, Sem.run_pure, Result.andThen_ok, List.map_toArray, List.map_cons, List.map_nil, hs, hrun]
    refine hK _ _ ?_
    rw [hdst]
    exact hk _ (row_setCells q 0 w hrow (fun j hj => by rw [Nat.zero_add]; exact hzero j hj)) (below_setCells hBG _ _ _ hb)
end Go.Proofs.YtbopmkjfmikmdaaGreatDoor
