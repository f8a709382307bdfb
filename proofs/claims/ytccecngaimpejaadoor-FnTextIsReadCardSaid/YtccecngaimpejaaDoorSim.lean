/- The contract of simpleUpdate: the check byte by byte by a table. -/
import Derived.Test.YtccecngaimpejaaDoorTab
namespace Go.Proofs.YtccecngaimpejaaDoor
open Go.RowKit Go.Lib
open Crc (W)

/-- The table's row that the round takes. -/
def row (c : W) : Nat := (Crc.low c).toNat
theorem row_lt (c : W) : row c < 256 := by
  have : (Crc.low c).toNat = c.toNat % 2 ^ 8 := Nat.and_two_pow_sub_one_eq_mod c.toNat 8
  unfold row; omega
theorem row_eq (c : W) : row c = c.toNat % 256 := Nat.and_two_pow_sub_one_eq_mod c.toNat 8
theorem ofNat_row (c : W) : BitVec.ofNat 32 (row c) = Crc.low c := by
  unfold row; exact BitVec.ofNat_toNat ..

theorem u8_row (c : W) (x : UInt8) : bits .xor .u8 (num c % 256) (bnum x) = (row (c ^^^ Crc.byte x) : Int) := by
  have hx := x.toNat_lt
  have e : num c % 256 = ((c.toNat % 256 : Nat) : Int) := by unfold num; simp
  rw [e]
  unfold bnum
  rw [u8_xor_nat _ _ (by omega) (by omega)]
  congr 1
  rw [row_eq, BitVec.toNat_xor]
  have hb : (Crc.byte x).toNat = x.toNat := by unfold Crc.byte; rw [BitVec.toNat_ofNat]; omega
  rw [hb]
  have h : ∀ n : Nat, n % 256 = n &&& 255 := fun n => (Nat.and_two_pow_sub_one_eq_mod n 8).symm
  rw [h, h, Nat.and_xor_distrib_right, ← h x.toNat, Nat.mod_eq_of_lt hx]

set_option maxRecDepth 100000 in
theorem simpleUpdate_any (p s : W) (B : Nat) (ao : Option Addr) (n cap : Nat) (l : List UInt8) (w : World) (hn : l.length = n) (hl : n ≤ 9223372036854775807) (hr : Reads w ao l)
    (ht : ∀ i, i < 256 → w.cell? ⟨B, i, none⟩ = some (.int .u32 (num (Crc.div p (BitVec.ofNat 32 i))))) :
    Calls Tryd.prog 19 #[.int .u32 (num s), .pointer (some ⟨B, 0, none⟩), .slice ao n cap] w fun e w' => e = .returned (.int .u32 (num (Crc.crc p s l))) ∧ w = w' := by
  have HN := Lib.hid hn
  have HT := Lib.hid ht
  clear hn ht
  go_enter Tryd.func19, Tryd.ntmps19
  go_wp2
  go_loop [0, 13] (fun c i => ∃ k : Nat, k ≤ n ∧ i = .int .i64 k ∧ c = .int .u32 (num (Crc.upd p (~~~ s) (l.take k)))) (fun _ i => n - (intOf i).toNat)
  case atStart => exact ⟨0, by omega, rfl, by rw [num_not']; rfl⟩
  case round =>
    obtain ⟨k, hk, rfl, rfl⟩ := hrel
    by_cases hlt : k < n
    · rcases hr with rfl | ⟨b, off, rfl, hc⟩
      · exact absurd HN.out (by simp; omega)
      have hcell := hc k (by rw [HN.out]; exact hlt)
      clear hc
      have hts := take_snoc (l := l) (k := k) (by rw [HN.out]; exact hlt)
      obtain ⟨x, hx⟩ : ∃ x, x = l.getD k 0 := ⟨_, rfl⟩
      rw [← hx] at hcell hts
      clear hx
      have HS := Lib.hid hts
      clear hts
      obtain ⟨c, hcc⟩ : ∃ c, c = Crc.upd p (~~~ s) (l.take k) := ⟨_, rfl⟩
      rw [← hcc]
      have HC := Lib.hid hcc
      clear hcc
      have hrow := u8_row c x
      have hlt8 := row_lt (c ^^^ Crc.byte x)
      have htab := HT.out (row (c ^^^ Crc.byte x)) hlt8
      rw [ofNat_row] at htab
      go_wp2
      go_round
      case rel => exact ⟨k + 1, by omega, by go_num, by rw [num_shr8, num_xor, ← Crc.div_table, HS.out, Crc.upd_snoc, ← HC.out]⟩
      case measure => simp [intOf]; omega
    · go_wp2
      go_ret
      obtain rfl : k = n := by omega
      rw [← HN.out, List.take_length, num_not']
      exact ⟨rfl, rfl⟩

/-- What is there stays readable where old blocks are as they were. -/
theorem Reads.below {w w' : World} {B : Nat} {ao : Option Addr} {l : List UInt8} (h : Reads w ao l) (hb : Below B w w') (hB : ∀ a, ao = some a → l ≠ [] → a.block < B) : Reads w' ao l := by
  rcases h with h | ⟨b, off, he, hc⟩
  · exact Or.inl h
  · by_cases hl : l = []
    · exact Or.inl hl
    · exact Or.inr ⟨b, off, he, fun i hi => (hb.cell (p := ⟨b, off + i, none⟩) (show b < B from hB ⟨b, off, none⟩ he hl)).trans (hc i hi)⟩
/-- Where bytes are read there is a block. -/
theorem Reads.old {w : World} {ao : Option Addr} {l : List UInt8} (h : Reads w ao l) : ∀ a, ao = some a → l ≠ [] → a.block < w.heap.size := by
  intro a he hl
  rcases h with h | ⟨b, off, he', hc⟩
  · exact absurd h hl
  · subst he'
    obtain rfl := Option.some.inj he
    have hp : 0 < l.length := List.length_pos_iff.2 hl
    exact block_lt_of_cell (hc 0 hp)
theorem Reads.keep {w w' : World} {ao : Option Addr} {l : List UInt8} (h : Reads w ao l) (hb : Below w.heap.size w w') : Reads w' ao l := h.below hb h.old

end Go.Proofs.YtccecngaimpejaaDoor
