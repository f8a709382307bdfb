/- The contract of slicingMakeTable: eight tables, row k of them k + 1 bytes of the division. -/
import Derived.Test.YtccecngaimpejaaDoorSim
namespace Go.Proofs.YtccecngaimpejaaDoor
open Go.RowKit Go.Lib
open Crc (W)

/-- Cell m of the eight tables. -/
def slot8 (p : W) (j i : Nat) : W := Crc.divs p (j + 1) (BitVec.ofNat 32 i)

/-- Block B holds eight tables, of which the first is whole, of each the first k places are filled, and of the tables below m one place more. -/
def Grid (p : W) (B T k m : Nat) (w : World) : Prop :=
  ∃ cs : Array Value, w.heap[B]? = some (.cells cs T (0, 0)) ∧ cs.size = 2048 ∧ (∀ i, i < 256 → cs[i]? = some (.int .u32 (num (slot8 p 0 i)))) ∧
    ∀ j i, j < 8 → (i < k ∨ (i = k ∧ j < m)) → i < 256 → cs[j * 256 + i]? = some (.int .u32 (num (slot8 p j i)))

theorem Grid.first {p : W} {B T k m : Nat} {w : World} (h : Grid p B T k m w) (i : Nat) (hi : i < 256) : w.cell? ⟨B, i, none⟩ = some (.int .u32 (num (Crc.div p (BitVec.ofNat 32 i)))) := by
  obtain ⟨cs, hb, _, hc, _⟩ := h
  rw [cell_of_row w B _ cs T (0, 0) hb]; exact hc i hi
theorem Grid.cell {p : W} {B T k m : Nat} {w : World} (h : Grid p B T k m w) (j i : Nat) (hj : j < 8) (hi : i < k) (hk : k ≤ 256) : w.cell? ⟨B, j * 256 + i, none⟩ = some (.int .u32 (num (slot8 p j i))) := by
  obtain ⟨cs, hb, _, _, hc⟩ := h
  rw [cell_of_row w B _ cs T (0, 0) hb]; exact hc j i hj (Or.inl hi) (by omega)
theorem Grid.any {p : W} {B T k m : Nat} {w : World} (h : Grid p B T k m w) (i : Nat) (hi : i < 2048) : ∃ v, w.cell? ⟨B, i, none⟩ = some v := by
  obtain ⟨cs, hb, hs, _⟩ := h
  rw [cell_of_row w B _ cs T (0, 0) hb]
  exact ⟨_, Array.getElem?_eq_getElem (by omega)⟩
theorem Grid.free {p : W} {B T k m : Nat} {w : World} (h : Grid p B T k m w) (i : Nat) : w.frozen? ⟨B, i, none⟩ = false := by
  obtain ⟨cs, hb, _, _⟩ := h
  exact frozen_of_row w B i cs T hb
theorem Grid.start {p : W} {B T k : Nat} {w : World} (h : Grid p B T k 0 w) : Grid p B T k 1 w := by
  obtain ⟨cs, hb, hs, h1, h2⟩ := h
  refine ⟨cs, hb, hs, h1, fun j i hj hi hlt => ?_⟩
  by_cases e : i < k
  · exact h2 j i hj (Or.inl e) hlt
  · obtain rfl : j = 0 := by omega
    simpa using h1 i hlt
theorem Grid.next {p : W} {B T k : Nat} {w : World} (h : Grid p B T k 8 w) : Grid p B T (k + 1) 0 w := by
  obtain ⟨cs, hb, hs, h1, h2⟩ := h
  refine ⟨cs, hb, hs, h1, fun j i hj hi hlt => h2 j i hj (by omega) hlt⟩
theorem Grid.store {p : W} {B T k m : Nat} {w : World} (h : Grid p B T k m w) (h1 : 1 ≤ m) (hm : m < 8) (hk : k < 256) (x : W) (hx : x = slot8 p m k) :
    Grid p B T k (m + 1) (w.setCell ⟨B, m * 256 + k, none⟩ (.int .u32 (num x))) := by
  obtain ⟨cs, hb, hs, hc, h2⟩ := h
  refine ⟨_, heap_setCell_same w B (m * 256 + k) cs T _ hb, by simp [hs], fun i hi => ?_, fun j i hj hi hlt => ?_⟩
  · rw [Array.getElem?_setIfInBounds, if_neg (by omega)]; exact hc i hi
  · rw [Array.getElem?_setIfInBounds]
    by_cases e : m * 256 + k = j * 256 + i
    · obtain rfl : m = j := by omega
      obtain rfl : k = i := by omega
      rw [if_pos rfl, if_pos (by omega), hx]
    · rw [if_neg e]
      exact h2 j i hj (by
        rcases hi with hi | ⟨hi, hj'⟩
        · exact Or.inl hi
        · refine Or.inr ⟨hi, ?_⟩
          rcases Nat.lt_or_ge j m with h | h
          · exact h
          · exact absurd (by subst hi; rw [show m = j by omega]) e) hlt

theorem zero_tables (w : World) : (zeroValue 72).run Tryd.prog w = .ok (.agg (zeros 2048)) w := by kernel_rfl

theorem u32_row (c : W) : bits .and .u32 (num c) 255 = (row c : Int) := num_low c
theorem slot8_0 (p : W) (i : Nat) : slot8 p 0 i = Crc.div p (BitVec.ofNat 32 i) := rfl

/-- Behind the first table's making: the grid with nothing but its first row. -/
theorem Grid.made {p : W} {B T : Nat} {w : World} (h : Filled B T 2048 0 256 (fun i => Crc.div p (BitVec.ofNat 32 i)) w) : Grid p B T 0 0 w := by
  obtain ⟨cs, hb, hs, hc⟩ := h
  exact ⟨cs, hb, hs, fun i hi => by rw [slot8_0]; simpa using hc i hi, fun j i hj hi _ => absurd hi (by omega)⟩

set_option maxRecDepth 100000 in
theorem slicingMake_any (p : W) (w : World) :
    Calls Tryd.prog 17 #[.int .u32 (num p)] w fun e w' => e = .returned (.pointer (some ⟨w.heap.size, 0, none⟩)) ∧ Grid p w.heap.size 72 256 0 w' ∧ Below w.heap.size w w' ∧ w'.heap.size = w.heap.size + 1 := by
  have hz := zero_tables
  have hp := populate_any p w.heap.size 72 2048 (w.alloc (.cells (zeros 2048) 72 (0, 0))) (by omega) (fun i => Crc.div p (BitVec.ofNat 32 i)) (Filled.new _ _ _ _) (fun _ _ => rfl)
  have HP := Lib.hid hp
  clear hp
  go_enter Tryd.func17, Tryd.ntmps17
  go_wp2_with fail
  refine HP.out.mono ?_
  rintro e w1 ⟨rfl, hf, ho⟩
  have HF := Lib.hid (Grid.made hf)
  have HO := Lib.hid ho
  clear hf ho HP hz
  go_wp2_with fail
  go_loopw [4] (fun i wr => ∃ k : Nat, k ≤ 256 ∧ i = .int .i64 k ∧ Grid p w.heap.size 72 k 0 wr ∧ OnlyAt w.heap.size w1 wr) (fun i _ => 256 - (intOf i).toNat)
  case atStart => exact ⟨0, by omega, rfl, HF.out, OnlyAt.refl _ _⟩
  case round =>
    obtain ⟨k, hk, rfl, hfl, hon⟩ := hrel
    by_cases hlt : k < 256
    · obtain ⟨wo, rfl⟩ : ∃ wo : World, wo = wr := ⟨_, rfl⟩
      have h0 := hfl.first k hlt
      have HFL := Lib.hid hfl.start
      have HON := Lib.hid hon
      clear hfl hon
      go_wp2
      go_loopw [5, 6] (fun x i wr => ∃ m : Nat, 1 ≤ m ∧ m ≤ 8 ∧ i = .int .i64 m ∧ x = .int .u32 (num (Crc.divs p m (BitVec.ofNat 32 k))) ∧ Grid p w.heap.size 72 k m wr ∧ OnlyAt w.heap.size w1 wr) (fun _ i _ => 8 - (intOf i).toNat)
      case atStart => exact ⟨1, by omega, by omega, rfl, rfl, HFL.out, HON.out⟩
      case round =>
        clear h0 HFL HON
        obtain ⟨m, hm1, hm, rfl, rfl, hgr, hon⟩ := hrel
        have HG := Lib.hid hgr
        have HO2 := Lib.hid hon
        clear hgr hon
        by_cases hm8 : m < 8
        · obtain ⟨c, hcc⟩ : ∃ c, c = Crc.divs p m (BitVec.ofNat 32 k) := ⟨_, rfl⟩
          rw [← hcc]
          have HC := Lib.hid hcc
          clear hcc
          have hrow := u32_row c
          have hlt8 := row_lt c
          have htab := HG.out.first (row c) hlt8
          rw [ofNat_row] at htab
          have hx : bits .xor .u32 (num (Crc.div p (Crc.low c))) (num c / 256) = num (Crc.div p c) := by rw [num_shr8, num_xor, ← Crc.div_parts]
          obtain ⟨v, hv⟩ := HG.out.any (m * 256 + k) (by omega)
          have hfree := HG.out.free (m * 256 + k)
          go_wp2
          go_roundw
          case rel => exact ⟨m + 1, by omega, by omega, by go_num, by rw [HC.out]; rfl, HG.out.store hm1 hm8 hlt _ (by rw [HC.out]; rfl), HO2.out.setCell _ _⟩
          case measure => simp [intOf]; omega
        · obtain rfl : m = 8 := by omega
          go_wp2
          go_roundw
          case rel => exact ⟨k + 1, by omega, by go_num, HG.out.next, HO2.out⟩
          case measure => simp [intOf]; omega
    · have HFL := Lib.hid hfl
      have HON := Lib.hid hon
      clear hfl hon
      go_wp2
      go_ret
      obtain rfl : k = 256 := by omega
      exact ⟨rfl, HFL.out, ((Below.refl _ _).alloc (Nat.le_refl _) _).trans (HO.out.trans HON.out).below, by rw [(HO.out.trans HON.out).size]; simp⟩

end Go.Proofs.YtccecngaimpejaaDoor
