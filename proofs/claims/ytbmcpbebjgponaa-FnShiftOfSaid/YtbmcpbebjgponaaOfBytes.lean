/- The thin package's integers by their bytes: it proves that ofBytes answers the integer of the bytes, and how a slice of bytes that came in reads. Conditions: at most a thousand bytes. -/
import Derived.Test.YtbmcpbebjgponaaMake
import Derived.OpenShut
namespace Go.Proofs.Ytbmcpbebjgponaa
open Go.RowKit

/-- A slice of bytes that came in. -/
theorem rd_of_row {w : World} {a : Option Addr} {len cap : Nat} {zs : List Int} (h : (a = none ∧ len = 0 ∧ cap = 0 ∧ zs = []) ∨
    ∃ x, a = some x ∧ len ≤ cap ∧ cap ≤ maxLen ∧ zs.length = cap ∧ (∀ i, i < zs.length → w.cell? (x.add i) = some (.int .u8 (zs.getD i 0))) ∧ ∀ n ∈ zs, (Lit.int .u8 n).wf = true) :
    ∃ l, Rd .u8 w a len cap l ∧ ∀ d ∈ l, d < 256 := by
  rcases h with ⟨rfl, rfl, rfl, rfl⟩ | ⟨x, rfl, hl, hm, hz, hcell, hwz⟩
  · exact ⟨[], Rd.nil _ _ (by simp [maxLen]), by simp⟩
  · refine ⟨(zs.take len).map Int.toNat, ⟨by rw [List.length_map, List.length_take]; omega, hl, hm, fun hn => ?_⟩, ?_⟩
    · obtain ⟨b, off, spot⟩ := x
      have hc0 := hcell 0 (by omega)
      have hspot : spot = none := by simpa [Addr.add] using World.cell?_spot hc0
      subst hspot
      refine ⟨b, off, rfl, ?_, fun j hj => ?_⟩
      · have := World.block_lt_of_cell? w _ hc0
        simpa [Addr.add] using this
      · have hj2 : j < zs.length := by rw [List.length_map, List.length_take] at hj; omega
        have hc := hcell j hj2
        have hadd : (⟨b, off, none⟩ : Addr).add j = ⟨b, off + j, none⟩ := by unfold Addr.add; split <;> simp_all
        rw [hadd] at hc
        have hb := bounds_u8 (hwz zs[j] (List.getElem_mem hj2))
        rw [hc]
        simp only [List.getD, List.getElem?_eq_getElem hj2, Option.getD_some, List.getElem_map, List.getElem_take]
        congr 2
        omega
    · intro d hd
      obtain ⟨z, hz2, rfl⟩ := List.mem_map.1 hd
      have hb := bounds_u8 (hwz z (List.mem_of_mem_take hz2))
      omega

theorem Try.infoByteO : (Try.prog.info? 5).map (fun i => (i.zero, i.size, i.bytes)) = some (some (.int .u8 0), 1, 1) := by kernel_rfl

set_option maxRecDepth 100000 in
set_option maxHeartbeats 400000 in
/-- impl.ofBytes. -/
theorem ofBytes_any (A : Option Addr) (n c : Nat) (l : List Nat) (w : World) (h : Rd .u8 w A n c l) (hl : ∀ d ∈ l, d < 256) (hn : n ≤ 1000) :
    Calls Try.prog 31 #[.slice A n c] w (GotV false (val 256 l) w) := by
  obtain ⟨i0, hi, hz0, hz1, hz2⟩ := info_parts Try.infoByteO
  have HM := Lib.hid (fun A c w hr => makeFromBytes_any A n c l w hr hl hn)
  clear hl
  go_enter Try.func31, Try.ntmps31
  go_wp2_with (at_builtin; refine wp_append_copy w .u8 rfl (.const (.slice none 0 0)) (.tmp 3) 31 rfl 5 i0 Try.underlying31 hi hz0 hz1 (by omega) rfl A n c l rfl h (by omega) ?_; intro v' w2 hown hb2)
  obtain ⟨A2, c2, rfl⟩ := own_form hown
  refine (HM.out _ _ _ (rd_own hown)).mono ?_
  rintro e w3 ⟨v, rfl, hv, hb3⟩
  go_wp2
  go_ret
  exact ⟨v, rfl, hv, hb2.trans (hb3.mono hb2.size)⟩
end Go.Proofs.Ytbmcpbebjgponaa
