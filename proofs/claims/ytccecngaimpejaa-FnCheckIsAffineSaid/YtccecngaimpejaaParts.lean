/- The contract of the thin package's Check: parts of bytes, one behind the other. -/
import Derived.Test.YtccecngaimpejaaChk
namespace Go.Proofs.Ytccecngaimpejaa
open Go.RowKit Go.Lib
open Crc (W)

/-- A part: a slice's address, length, capacity, and the bytes that it reads as. -/
structure Part where
  ao : Option Addr
  n : Nat
  cap : Nat
  l : List UInt8

def Part.val (q : Part) : Value := .slice q.ao q.n q.cap

def Part.ok (w : World) (q : Part) : Prop := q.l.length = q.n ∧ q.n ≤ 9223372036854775807 ∧ q.n ≤ q.cap ∧ Reads w q.ao q.l ∧ (q.ao = none → q.cap = 0)
theorem Part.ok.keep {w w' : World} {q : Part} (h : q.ok w) (hb : Below w.heap.size w w') : q.ok w' := ⟨h.1, h.2.1, h.2.2.1, h.2.2.2.1.keep hb, h.2.2.2.2⟩

/-- All bytes of the parts. -/
def bytesOf (ps : List Part) : List UInt8 := ps.flatMap Part.l

/-- An address under which parts lie. -/
def ReadsParts (w : World) (ao : Option Addr) (ps : List Part) : Prop :=
  (∀ q ∈ ps, q.ok w) ∧ (ps = [] ∨ ∃ b off, ao = some ⟨b, off, none⟩ ∧ b < w.heap.size ∧ ∀ i q, ps[i]? = some q → w.cell? ⟨b, off + i, none⟩ = some q.val)

theorem ReadsParts.keep {w w' : World} {ao : Option Addr} {ps : List Part} (h : ReadsParts w ao ps) (hb : Below w.heap.size w w') : ReadsParts w' ao ps := by
  refine ⟨fun q hq => (h.1 q hq).keep hb, ?_⟩
  rcases h.2 with h2 | ⟨b, off, he, hlt, hc⟩
  · exact Or.inl h2
  · exact Or.inr ⟨b, off, he, Nat.lt_of_lt_of_le hlt hb.size, fun i q hq => (hb.cell (p := ⟨b, off + i, none⟩) hlt).trans (hc i q hq)⟩

theorem bytesOf_snoc {ps : List Part} {k : Nat} {q : Part} (h : ps[k]? = some q) : bytesOf (ps.take (k + 1)) = bytesOf (ps.take k) ++ q.l := by
  rw [List.take_add_one, h]
  simp [bytesOf]

set_option maxRecDepth 100000 in
theorem check_any (ao : Option Addr) (n cap : Nat) (ps : List Part) (w : World) (hn : ps.length = n) (hl : n ≤ 9223372036854775807) (hr : ReadsParts w ao ps) :
    Calls Try.prog 16 #[.slice ao n cap] w fun e w' => e = .returned (.int .u32 (num (Crc.crc Crc.ieee 0#32 (bytesOf ps)))) ∧ Below w.heap.size w w' := by
  have HN := Lib.hid hn
  have HR := Lib.hid hr
  clear hn hr
  go_enter Try.func16, Try.ntmps16
  go_wp2_with fail
  go_loopw [3, 8] (fun c i wr => ∃ k : Nat, k ≤ n ∧ i = .int .i64 k ∧ c = .int .u32 (num (Crc.crc Crc.ieee 0#32 (bytesOf (ps.take k)))) ∧ Below w.heap.size w wr) (fun _ i _ => n - (intOf i).toNat)
  case atStart => exact ⟨0, by omega, rfl, by rw [List.take_zero, show bytesOf [] = [] from rfl, Crc.crc_nil, num_0], Below.refl _ _⟩
  case round =>
    obtain ⟨k, hk, rfl, rfl, hb⟩ := hrel
    have HB := Lib.hid hb
    clear hb
    by_cases hlt : k < n
    · obtain ⟨q, hq⟩ : ∃ q, ps[k]? = some q := ⟨_, List.getElem?_eq_getElem (by rw [HN.out]; exact hlt)⟩
      have HQ := Lib.hid hq
      clear hq
      obtain ⟨qa, qn, qc, ql⟩ := q
      have hmem : (⟨qa, qn, qc, ql⟩ : Part) ∈ ps := List.mem_of_getElem? HQ.out
      have hok := ((HR.out.keep HB.out).1 _ hmem)
      have HK := Lib.hid hok
      have hex : ∃ b off, ao = some ⟨b, off, none⟩ ∧ wr.cell? ⟨b, off + k, none⟩ = some (.slice qa qn qc) := by
        rcases (HR.out.keep HB.out).2 with h | ⟨b, off, he, _, hc⟩
        · rw [h] at hmem; cases hmem
        · exact ⟨b, off, he, hc k _ HQ.out⟩
      obtain ⟨b, off, rfl, hcell⟩ := hex
      clear hmem hok
      go_wp2_with fail
      refine (updateIEEE_any _ qa qn qc ql wr HK.out.1 HK.out.2.1 HK.out.2.2.1 HK.out.2.2.2.1).mono ?_
      rintro e w1 ⟨rfl, hb1⟩
      have HB1 := Lib.hid (HB.out.trans (hb1.mono HB.out.size))
      clear hb1 hcell
      go_wp2_with fail
      go_roundw
      case rel => exact ⟨k + 1, by omega, by go_num, by rw [bytesOf_snoc HQ.out, Crc.crc_append], HB1.out⟩
      case measure => simp [intOf]; omega
    · obtain rfl : k = n := by omega
      go_wp2_with fail
      go_ret
      exact ⟨ret_int (by rw [← HN.out, List.take_length]), HB.out⟩

/-- One part in a block of its own: [][]byte with one element. -/
theorem parts_one {w : World} {q : Part} (h : q.ok w) (T : TypeId) : ReadsParts (w.alloc (.cells #[q.val] T (0, 0))) (some ⟨w.heap.size, 0, none⟩) [q] := by
  have hb : Below w.heap.size w (w.alloc (.cells #[q.val] T (0, 0))) := (Below.refl _ _).alloc (Nat.le_refl _) _
  refine ⟨fun q' hq' => ?_, Or.inr ⟨w.heap.size, 0, rfl, by simp, fun i q' hq' => ?_⟩⟩
  · rw [List.mem_singleton] at hq'
    subst hq'
    exact h.keep hb
  · cases i with
    | zero =>
      obtain rfl : q = q' := by simpa using hq'
      rw [cell_of_row _ _ _ _ _ _ (heap_alloc_new w _)]
      rfl
    | succ i => simp at hq'

/-- The check of one part. -/
theorem check_one (q : Part) (T : TypeId) (w : World) (hq : q.ok w) :
    Calls Try.prog 16 #[.slice (some ⟨w.heap.size, 0, none⟩) 1 1] (w.alloc (.cells #[.slice q.ao q.n q.cap] T)) fun e w' => e = .returned (.int .u32 (num (Crc.crc Crc.ieee 0#32 q.l))) ∧ Below w.heap.size w w' := by
  have h := check_any (some ⟨w.heap.size, 0, none⟩) 1 1 [q] (w.alloc (.cells #[q.val] T)) rfl (by omega) (parts_one hq T)
  refine h.mono ?_
  rintro e w' ⟨rfl, hb⟩
  refine ⟨by simp [bytesOf], ((Below.refl _ _).alloc (Nat.le_refl _) _).trans (hb.mono (by simp))⟩

/-- The text of the one byte 97, as a part. -/
theorem part_a (w : World) (T : TypeId) : Part.ok (w.alloc (.cells #[.int .u8 97] T)) ⟨some ⟨w.heap.size, 0, none⟩, 1, 1, [97]⟩ :=
  ⟨rfl, show 1 ≤ 9223372036854775807 by omega, show 1 ≤ 1 by omega, reads_a w T, fun h => by cases h⟩

end Go.Proofs.Ytccecngaimpejaa
