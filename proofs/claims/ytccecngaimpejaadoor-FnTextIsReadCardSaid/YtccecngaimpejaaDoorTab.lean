/- The contracts of the functions that make one table: simplePopulateTable, simpleMakeTable, MakeTable. -/
import Derived.Test.YtccecngaimpejaaDoorDiv
namespace Go.Proofs.YtccecngaimpejaaDoor
open Go.RowKit Go.Lib
open Crc (W)

/-- Nothing but block B has turned. -/
structure OnlyAt (B : Nat) (w w' : World) : Prop where
  os : w'.os = w.os
  tape : w'.tape = w.tape
  output : w'.output = w.output
  size : w'.heap.size = w.heap.size
  block : ∀ k, k ≠ B → w'.heap[k]? = w.heap[k]?

theorem OnlyAt.refl (B : Nat) (w : World) : OnlyAt B w w := ⟨rfl, rfl, rfl, rfl, fun _ _ => rfl⟩
theorem OnlyAt.setCell {B : Nat} {a w : World} (h : OnlyAt B a w) (o : Nat) (u : Value) : OnlyAt B a (w.setCell ⟨B, o, none⟩ u) :=
  ⟨h.os, h.tape, h.output, by rw [← h.size]; simp [World.setCell], fun k hk => (Below.heap_setCell _ _ _ _ hk).trans (h.block k hk)⟩
theorem OnlyAt.trans {B : Nat} {a b c : World} (h : OnlyAt B a b) (k : OnlyAt B b c) : OnlyAt B a c :=
  ⟨k.os.trans h.os, k.tape.trans h.tape, k.output.trans h.output, k.size.trans h.size, fun i hi => (k.block i hi).trans (h.block i hi)⟩
theorem OnlyAt.below {B : Nat} {a b : World} (h : OnlyAt B a b) : Below B a b :=
  ⟨h.os, h.tape, h.output, by rw [h.size]; exact Nat.le_refl _, fun k hk => h.block k (by omega)⟩

/-- Block B holds n cells, and from its cell off on k words of f. -/
def Filled (B T n off k : Nat) (f : Nat → W) (w : World) : Prop :=
  ∃ cs : Array Value, w.heap[B]? = some (.cells cs T (0, 0)) ∧ cs.size = n ∧ ∀ i, i < k → cs[off + i]? = some (.int .u32 (num (f i)))

theorem Filled.cell {B T n off k : Nat} {f : Nat → W} {w : World} (h : Filled B T n off k f w) (i : Nat) (hi : i < k) : w.cell? ⟨B, off + i, none⟩ = some (.int .u32 (num (f i))) := by
  obtain ⟨cs, hb, _, hc⟩ := h
  rw [cell_of_row w B _ cs T (0, 0) hb]; exact hc i hi
theorem Filled.any {B T n off k : Nat} {f : Nat → W} {w : World} (h : Filled B T n off k f w) (i : Nat) (hi : i < n) : ∃ v, w.cell? ⟨B, i, none⟩ = some v := by
  obtain ⟨cs, hb, hs, _⟩ := h
  rw [cell_of_row w B _ cs T (0, 0) hb]
  exact ⟨_, Array.getElem?_eq_getElem (by omega)⟩
theorem Filled.free {B T n off k : Nat} {f : Nat → W} {w : World} (h : Filled B T n off k f w) (i : Nat) : w.frozen? ⟨B, i, none⟩ = false := by
  obtain ⟨cs, hb, _, _⟩ := h
  exact frozen_of_row w B i cs T hb
/-- The next word is stored. -/
theorem Filled.store {B T n off k : Nat} {f : Nat → W} {w : World} (h : Filled B T n off k f w) (hk : off + k < n) (x : W) (hx : x = f k) :
    Filled B T n off (k + 1) f (w.setCell ⟨B, off + k, none⟩ (.int .u32 (num x))) := by
  obtain ⟨cs, hb, hs, hc⟩ := h
  refine ⟨_, heap_setCell_same w B (off + k) cs T _ hb, by simp [hs], fun i hi => ?_⟩
  rw [Array.getElem?_setIfInBounds]
  by_cases e : i = k
  · subst e; subst hx; simp; omega
  · rw [if_neg (by omega)]; exact hc i (by omega)

set_option maxRecDepth 100000 in
theorem populate_any (p : W) (B T n : Nat) (w : World) (hn : 256 ≤ n) (f : Nat → W) (h : Filled B T n 0 0 f w) (hf : ∀ i, i < 256 → Crc.div p (BitVec.ofNat 32 i) = f i) :
    Calls Tryd.prog 20 #[.int .u32 (num p), .pointer (some ⟨B, 0, none⟩)] w fun e w' => e = .returned (.tuple #[]) ∧ Filled B T n 0 256 f w' ∧ OnlyAt B w w' := by
  have HF := Lib.hid hf
  have H0 := Lib.hid h
  clear hf h
  go_enter Tryd.func20, Tryd.ntmps20
  go_wp2
  go_loopw [4] (fun i wr => ∃ k : Nat, k ≤ 256 ∧ i = .int .i64 k ∧ Filled B T n 0 k f wr ∧ OnlyAt B w wr) (fun i _ => 256 - (intOf i).toNat)
  case atStart => exact ⟨0, by omega, rfl, H0.out, OnlyAt.refl _ _⟩
  case round =>
    obtain ⟨k, hk, rfl, hfl, hon⟩ := hrel
    by_cases hlt : k < 256
    · obtain ⟨wo, rfl⟩ : ∃ wo : World, wo = wr := ⟨_, rfl⟩
      have HFL := Lib.hid hfl
      have HON := Lib.hid hon
      clear hfl hon
      go_wp2
      go_loop [5, 6] (fun x i => ∃ j : Nat, j ≤ 8 ∧ i = .int .i64 j ∧ x = .int .u32 (num (Crc.steps p j (BitVec.ofNat 32 k)))) (fun _ i => 8 - (intOf i).toNat)
      case atStart => exact ⟨0, by omega, rfl, by rw [show num (Crc.steps p 0 (BitVec.ofNat 32 k)) = k from num_ofNat k (by omega)]⟩
      case round =>
        obtain ⟨j, hj, rfl, rfl⟩ := hrel
        by_cases hj8 : j < 8
        · go_wp2
          all_goals
            go_round
            case rel => exact ⟨j + 1, by omega, by go_num, by first | rw [step_odd p _ ‹_›]; rfl | rw [step_evn p _ ‹_›]; rfl⟩
            case measure => simp [intOf]; omega
        · obtain rfl : j = 8 := by omega
          have hany := HFL.out.any k (by omega)
          obtain ⟨v, hv⟩ := hany
          have hfree := HFL.out.free k
          go_wp2
          go_roundw
          case rel => exact ⟨k + 1, by omega, by go_num, by simpa using HFL.out.store (by omega) (Crc.steps p 8 (BitVec.ofNat 32 k)) (HF.out k hlt), HON.out.setCell _ _⟩
          case measure => simp [intOf]; omega
    · go_wp2
      go_end0
      obtain rfl : k = 256 := by omega
      exact ⟨rfl, hfl, hon⟩


/-- n words of naught. -/
def zeros (n : Nat) : Array Value := Array.replicate n (.int .u32 0)

theorem Filled.new (n T : Nat) (f : Nat → W) (w : World) : Filled w.heap.size T n 0 0 f (w.alloc (.cells (zeros n) T (0, 0))) :=
  ⟨zeros n, heap_alloc_new w _, by simp [zeros], fun i hi => absurd hi (by omega)⟩

end Go.Proofs.YtccecngaimpejaaDoor
