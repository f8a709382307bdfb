/- From the row's readings to words and bytes; the check of the text of one byte 97. No condition. -/
import Derived.Test.YtccecngaimpejaaDoorSim
namespace Go.Proofs.YtccecngaimpejaaDoor
open Go.RowKit Go.Lib
open Crc (W)

theorem word_of_wf {a : Int} (h : (Lit.int .u32 a).wf = true) : ∃ x : W, a = num x := by
  have hx : 0 ≤ a ∧ a ≤ 4294967295 := by simpa [Lit.wf, IntKind.min, IntKind.max, IntKind.signed, IntKind.bits] using h
  refine ⟨BitVec.ofNat 32 a.toNat, ?_⟩
  rw [num_ofNat _ (by omega)]; omega

theorem byte_of_wf {a : Int} (h : (Lit.int .u8 a).wf = true) : ∃ x : UInt8, a = bnum x := by
  have hx : 0 ≤ a ∧ a ≤ 255 := by simpa [Lit.wf, IntKind.min, IntKind.max, IntKind.signed, IntKind.bits] using h
  refine ⟨UInt8.ofNat a.toNat, ?_⟩
  unfold bnum
  rw [UInt8.toNat_ofNat']; omega

theorem bytes_of_row {w : World} {a : Option Addr} {len cap : Nat} {zs : List Int}
    (h : (a = none ∧ len = 0 ∧ cap = 0 ∧ zs = []) ∨
      ∃ x, a = some x ∧ len ≤ cap ∧ cap ≤ maxLen ∧ zs.length = cap ∧ (∀ i, i < zs.length → w.cell? (x.add i) = some (.int .u8 (zs.getD i 0))) ∧ ∀ n ∈ zs, (Lit.int .u8 n).wf = true) :
    ∃ l : List UInt8, l.length = len ∧ Reads w a l ∧ len ≤ cap ∧ len ≤ 9223372036854775807 ∧ (a = none → cap = 0) := by
  rcases h with ⟨rfl, rfl, rfl, rfl⟩ | ⟨x, rfl, hl, hm, hz, hcell, hwz⟩
  · exact ⟨[], rfl, Or.inl rfl, by omega, by omega, fun _ => rfl⟩
  · unfold maxLen at hm
    refine ⟨(zs.take len).map (fun z => UInt8.ofNat z.toNat), by simp; omega, ?_, hl, by omega, fun h => by cases h⟩
    by_cases h0 : len = 0
    · subst h0; exact Or.inl rfl
    · obtain ⟨b, off, spot⟩ := x
      have hc0 := hcell 0 (by omega)
      have hspot : spot = none := by simpa [Addr.add] using World.cell?_spot hc0
      subst hspot
      refine Or.inr ⟨b, off, rfl, fun i hi => ?_⟩
      have hi' : i < len := by simp at hi; omega
      have hadd : (⟨b, off, none⟩ : Addr).add i = ⟨b, off + i, none⟩ := by unfold Addr.add; split <;> simp_all
      have hc := hcell i (by omega)
      rw [hadd] at hc
      rw [hc]
      have hin : i < zs.length := by omega
      have hg : zs.getD i 0 = zs[i] := by rw [List.getD_eq_getElem?_getD, List.getElem?_eq_getElem hin]; rfl
      have hw := hwz zs[i] (List.getElem_mem hin)
      have hx : 0 ≤ zs[i] ∧ zs[i] ≤ 255 := by simpa [Lit.wf, IntKind.min, IntKind.max, IntKind.signed, IntKind.bits] using hw
      rw [hg, List.getD_eq_getElem?_getD, List.getElem?_map, List.getElem?_take, if_pos hi', List.getElem?_eq_getElem hin]
      show some (Value.int .u8 zs[i]) = some (Value.int .u8 (bnum (UInt8.ofNat zs[i].toNat)))
      unfold bnum
      rw [UInt8.toNat_ofNat']
      congr 2; omega

theorem num_ieee : num Crc.ieee = 3988292384 := by decide
theorem num_0 : num 0#32 = 0 := by decide
theorem num_a : num (Crc.crc Crc.ieee 0#32 [97]) = 3904355907 := by rw [Crc.crc_a]; decide

/-- The text of the one byte 97, in a block of its own. -/
theorem reads_a (w : World) (T : TypeId) : Reads (w.alloc (.cells #[.int .u8 97] T (0, 0))) (some ⟨w.heap.size, 0, none⟩) [97] :=
  Or.inr ⟨w.heap.size, 0, rfl, fun i hi => by
    have h0 : i = 0 := by simp at hi; omega
    subst h0
    rw [cell_of_row _ _ _ _ _ _ (heap_alloc_new w _)]
    rfl⟩

end Go.Proofs.YtccecngaimpejaaDoor
