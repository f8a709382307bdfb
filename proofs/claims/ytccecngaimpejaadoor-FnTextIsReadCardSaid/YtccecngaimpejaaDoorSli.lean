/- The contract of slicingUpdate: the check eight bytes at a time by eight tables. -/
import Derived.Test.YtccecngaimpejaaDoorTabs
import Derived.Deep.QuietTactic
import Derived.BigQuiet
import Derived.Deep.LoopGhost
namespace Go.Proofs.YtccecngaimpejaaDoor
open Go.RowKit Go.Lib
open Crc (W)

set_option maxRecDepth 100000 in
theorem le32_any (b off n cap : Nat) (b0 b1 b2 b3 : UInt8) (w : World) (hn : 4 ≤ n) (hl : n ≤ 9223372036854775807)
    (h0 : w.cell? ⟨b, off, none⟩ = some (.int .u8 (bnum b0))) (h1 : w.cell? ⟨b, off + 1, none⟩ = some (.int .u8 (bnum b1)))
    (h2 : w.cell? ⟨b, off + 2, none⟩ = some (.int .u8 (bnum b2))) (h3 : w.cell? ⟨b, off + 3, none⟩ = some (.int .u8 (bnum b3))) :
    Calls Tryd.prog 18 #[.slice (some ⟨b, off, none⟩) n cap] w fun e w' => e = .returned (.int .u32 (num (Crc.le4 b0 b1 b2 b3))) ∧ ∃ m, w' = w.drewN m := by
  have k0 : (0 : Int) < n := by omega
  have k1 : (1 : Int) < n := by omega
  have k2 : (2 : Int) < n := by omega
  have k3 : (3 : Int) < n := by omega
  have e0 := bnum_wrap b0
  have e1 := bnum_wrap b1
  have e2 := bnum_wrap b2
  have e3 := bnum_wrap b3
  go_enter Tryd.func18, Tryd.ntmps18
  go_wp2
  go_quiet (fail)
  go_wp2
  go_ret
  exact ⟨ret_int (num_le4 b0 b1 b2 b3), nq, rfl⟩


theorem drewN_cell (w : World) (d : Nat) (a : Addr) : (w.drewN d).cell? a = w.cell? a := rfl

/-- The length in a slot. -/
def lenOf : Value → Nat | .slice _ n _ => n | _ => 0

theorem take8 {l : List UInt8} {k : Nat} (h : k + 8 ≤ l.length) :
    l.take (k + 8) = l.take k ++ [l.getD k 0, l.getD (k + 1) 0, l.getD (k + 2) 0, l.getD (k + 3) 0, l.getD (k + 4) 0, l.getD (k + 5) 0, l.getD (k + 6) 0, l.getD (k + 7) 0] := by
  rw [take_snoc (k := k + 7) (by omega), take_snoc (k := k + 6) (by omega), take_snoc (k := k + 5) (by omega), take_snoc (k := k + 4) (by omega),
    take_snoc (k := k + 3) (by omega), take_snoc (k := k + 2) (by omega), take_snoc (k := k + 1) (by omega), take_snoc (k := k) (by omega)]
  simp

/-- The high byte's row. -/
def hirow (c : W) : Nat := (c >>> 24).toNat
theorem hirow_lt (c : W) : hirow c < 256 := by
  have := c.isLt
  unfold hirow; rw [BitVec.toNat_ushiftRight, Nat.shiftRight_eq_div_pow]; omega
theorem ofNat_hirow (c : W) : BitVec.ofNat 32 (hirow c) = c >>> 24 := by unfold hirow; exact BitVec.ofNat_toNat ..
theorem u32_hirow (c : W) : num c / (16777216 : Int) = (hirow c : Int) := num_shr24 c
theorem u32_row16 (c : W) : bits .and .u32 (num c / (65536 : Int)) 255 = (row (c >>> 16) : Int) := by rw [num_shr16]; exact u32_row _
theorem u32_row8 (c : W) : bits .and .u32 (num c / (256 : Int)) 255 = (row (c >>> 8) : Int) := by rw [num_shr8]; exact u32_row _
theorem slot8_row (p c : W) (j : Nat) : slot8 p j (row c) = Crc.divs p (j + 1) (Crc.low c) := by unfold slot8; rw [ofNat_row]
theorem slot8_hirow (p c : W) (j : Nat) : slot8 p j (hirow c) = Crc.divs p (j + 1) (c >>> 24) := by unfold slot8; rw [ofNat_hirow]
theorem slot8_byte (p : W) (j : Nat) (b : UInt8) : slot8 p j b.toNat = Crc.divs p (j + 1) (Crc.byte b) := rfl

/-- The round's eight look-ups come to eight bytes of the division. -/
theorem round8 (p c c' : W) (b0 b1 b2 b3 b4 b5 b6 b7 : UInt8) (h : c' = c ^^^ Crc.le4 b0 b1 b2 b3) :
    slot8 p 0 b7.toNat ^^^ slot8 p 1 b6.toNat ^^^ slot8 p 2 b5.toNat ^^^ slot8 p 3 b4.toNat ^^^ slot8 p 4 (hirow c') ^^^ slot8 p 5 (row (c' >>> 16)) ^^^ slot8 p 6 (row (c' >>> 8)) ^^^ slot8 p 7 (row c') =
      Crc.upd p c [b0, b1, b2, b3, b4, b5, b6, b7] := by
  rw [Crc.upd8, ← h, slot8_hirow, slot8_row, slot8_row, slot8_row]
  rfl

set_option maxRecDepth 100000 in
set_option maxHeartbeats 1000000 in
/-- A text of sixteen bytes or more. -/
theorem slicing_long (p s : W) (B T b off n cap : Nat) (l : List UInt8) (w : World) (hn : l.length = n) (hl : n ≤ 9223372036854775807) (h16 : 16 ≤ n) (hcap : n ≤ cap)
    (hr : ∀ i, i < l.length → w.cell? ⟨b, off + i, none⟩ = some (.int .u8 (bnum (l.getD i 0)))) (ht : Grid p B T 256 0 w) :
    Calls Tryd.prog 16 #[.int .u32 (num s), .pointer (some ⟨B, 0, none⟩), .slice (some ⟨b, off, none⟩) n cap] w fun e w' => e = .returned (.int .u32 (num (Crc.crc p s l))) ∧ ∃ m, w' = w.drewN m := by
  have HN := Lib.hid hn
  have HR := Lib.hid hr
  have HT := Lib.hid ht
  clear hn hr ht
  go_enter Tryd.func16, Tryd.ntmps16
  go_wp2_with fail
  go_loopw [0, 2] (fun c v wr => ∃ k m cc d : Nat, k + m = n ∧ k + cc = cap ∧ 1 ≤ m ∧ v = .slice (some ⟨b, off + k, none⟩) m cc ∧ c = .int .u32 (num (Crc.upd p (~~~ s) (l.take k))) ∧ wr = w.drewN d) (fun _ v _ => lenOf v)
  case atStart => exact ⟨0, n, cap, 0, by omega, by omega, by omega, rfl, by rw [num_not']; rfl, rfl⟩
  case round =>
    obtain ⟨k, m, cc, d, hkm, hkc, hm1, rfl, rfl, rfl⟩ := hrel
    have HKM := Lib.hid hkm
    have HKC := Lib.hid hkc
    have hmc : m ≤ cc := by omega
    have hmb : m ≤ 9223372036854775807 := by omega
    clear hkm hkc
    by_cases hgo : 8 < m
    · have HTK := Lib.hid (take8 (l := l) (k := k) (by rw [HN.out]; have := HKM.out; omega))
      have hcell : ∀ i, i < 8 → w.cell? ⟨b, off + k + i, none⟩ = some (.int .u8 (bnum (l.getD (k + i) 0))) := fun i hi => by
        rw [Nat.add_assoc]; exact HR.out (k + i) (by rw [HN.out]; have := HKM.out; omega)
      obtain ⟨b0, hb0⟩ : ∃ x, x = l.getD k 0 := ⟨_, rfl⟩
      obtain ⟨b1, hb1⟩ : ∃ x, x = l.getD (k + 1) 0 := ⟨_, rfl⟩
      obtain ⟨b2, hb2⟩ : ∃ x, x = l.getD (k + 2) 0 := ⟨_, rfl⟩
      obtain ⟨b3, hb3⟩ : ∃ x, x = l.getD (k + 3) 0 := ⟨_, rfl⟩
      obtain ⟨b4, hb4⟩ : ∃ x, x = l.getD (k + 4) 0 := ⟨_, rfl⟩
      obtain ⟨b5, hb5⟩ : ∃ x, x = l.getD (k + 5) 0 := ⟨_, rfl⟩
      obtain ⟨b6, hb6⟩ : ∃ x, x = l.getD (k + 6) 0 := ⟨_, rfl⟩
      obtain ⟨b7, hb7⟩ : ∃ x, x = l.getD (k + 7) 0 := ⟨_, rfl⟩
      have g0 := hcell 0 (by omega)
      have g1 := hcell 1 (by omega)
      have g2 := hcell 2 (by omega)
      have g3 := hcell 3 (by omega)
      simp only [Nat.add_zero] at g0
      rw [← hb0] at g0
      rw [← hb1] at g1
      rw [← hb2] at g2
      rw [← hb3] at g3
      have HLE := Lib.hid (fun e => le32_any b (off + k) m cc b0 b1 b2 b3 (w.drewN e) (by omega) hmb (by simpa using g0) (by simpa using g1) (by simpa using g2) (by simpa using g3))
      clear g0 g1 g2 g3
      have HCL := Lib.hid hcell
      have HBS := Lib.hid (And.intro hb0 (And.intro hb1 (And.intro hb2 (And.intro hb3 (And.intro hb4 (And.intro hb5 (And.intro hb6 hb7)))))))
      clear hcell hb0 hb1 hb2 hb3 hb4 hb5 hb6 hb7
      go_wp2_with fail
      refine (HLE.out _).mono ?_
      rintro e w1 ⟨rfl, md, rfl⟩
      clear HLE
      have hcell := HCL.out
      obtain ⟨hb0, hb1, hb2, hb3, hb4, hb5, hb6, hb7⟩ := HBS.out
      have g4 := hcell 4 (by omega)
      have g5 := hcell 5 (by omega)
      have g6 := hcell 6 (by omega)
      have g7 := hcell 7 (by omega)
      rw [← hb4] at g4
      rw [← hb5] at g5
      rw [← hb6] at g6
      rw [← hb7] at g7
      have HL : Hid (Crc.upd p (~~~ s) (l.take (k + 8)) = Crc.upd p (Crc.upd p (~~~ s) (l.take k)) [b0, b1, b2, b3, b4, b5, b6, b7]) := by
        show _ = _
        rw [HTK.out, Crc.upd_append, hb0, hb1, hb2, hb3, hb4, hb5, hb6, hb7]
      clear hcell HCL HBS HTK hb0 hb1 hb2 hb3 hb4 hb5 hb6 hb7
      obtain ⟨c, hcc⟩ : ∃ c, c = Crc.upd p (~~~ s) (l.take k) := ⟨_, rfl⟩
      rw [← hcc] at HL
      rw [← hcc]
      clear hcc
      obtain ⟨c', hc'⟩ : ∃ c', c' = c ^^^ Crc.le4 b0 b1 b2 b3 := ⟨_, rfl⟩
      have hx18 : bits .xor .u32 (num c) (num (Crc.le4 b0 b1 b2 b3)) = num c' := by rw [num_xor, hc']
      have HR8 := Lib.hid (round8 p c c' b0 b1 b2 b3 b4 b5 b6 b7 hc')
      clear hc'
      have r4 := u32_hirow c'
      have r5 := u32_row16 c'
      have r6 := u32_row8 c'
      have r7 := u32_row c'
      have l4 := hirow_lt c'
      have l5 := row_lt (c' >>> 16)
      have l6 := row_lt (c' >>> 8)
      have l7 := row_lt c'
      have t0 := HT.out.cell 0 b7.toNat (by omega) (by have := b7.toNat_lt; omega) (by omega)
      have t1 := HT.out.cell 1 b6.toNat (by omega) (by have := b6.toNat_lt; omega) (by omega)
      have t2 := HT.out.cell 2 b5.toNat (by omega) (by have := b5.toNat_lt; omega) (by omega)
      have t3 := HT.out.cell 3 b4.toNat (by omega) (by have := b4.toNat_lt; omega) (by omega)
      have t4 := HT.out.cell 4 (hirow c') (by omega) l4 (by omega)
      have t5 := HT.out.cell 5 (row (c' >>> 16)) (by omega) l5 (by omega)
      have t6 := HT.out.cell 6 (row (c' >>> 8)) (by omega) l6 (by omega)
      have t7 := HT.out.cell 7 (row c') (by omega) l7 (by omega)
      obtain ⟨x0, hx0⟩ : ∃ x, x = slot8 p 0 b7.toNat := ⟨_, rfl⟩
      obtain ⟨x1, hx1⟩ : ∃ x, x = slot8 p 1 b6.toNat := ⟨_, rfl⟩
      obtain ⟨x2, hx2⟩ : ∃ x, x = slot8 p 2 b5.toNat := ⟨_, rfl⟩
      obtain ⟨x3, hx3⟩ : ∃ x, x = slot8 p 3 b4.toNat := ⟨_, rfl⟩
      obtain ⟨x4, hx4⟩ : ∃ x, x = slot8 p 4 (hirow c') := ⟨_, rfl⟩
      obtain ⟨x5, hx5⟩ : ∃ x, x = slot8 p 5 (row (c' >>> 16)) := ⟨_, rfl⟩
      obtain ⟨x6, hx6⟩ : ∃ x, x = slot8 p 6 (row (c' >>> 8)) := ⟨_, rfl⟩
      obtain ⟨x7, hx7⟩ : ∃ x, x = slot8 p 7 (row c') := ⟨_, rfl⟩
      rw [← hx0] at t0
      rw [← hx1] at t1
      rw [← hx2] at t2
      rw [← hx3] at t3
      rw [← hx4] at t4
      rw [← hx5] at t5
      rw [← hx6] at t6
      rw [← hx7] at t7
      rw [← hx0, ← hx1, ← hx2, ← hx3, ← hx4, ← hx5, ← hx6, ← hx7] at HR8
      clear hx0 hx1 hx2 hx3 hx4 hx5 hx6 hx7
      obtain ⟨i4, hi4⟩ : ∃ i, i = hirow c' := ⟨_, rfl⟩
      obtain ⟨i5, hi5⟩ : ∃ i, i = row (c' >>> 16) := ⟨_, rfl⟩
      obtain ⟨i6, hi6⟩ : ∃ i, i = row (c' >>> 8) := ⟨_, rfl⟩
      obtain ⟨i7, hi7⟩ : ∃ i, i = row c' := ⟨_, rfl⟩
      rw [← hi4] at r4 l4 t4
      rw [← hi5] at r5 l5 t5
      rw [← hi6] at r6 l6 t6
      rw [← hi7] at r7 l7 t7
      clear hi4 hi5 hi6 hi7
      obtain ⟨j0, hj0⟩ : ∃ i, i = b7.toNat := ⟨_, rfl⟩
      obtain ⟨j1, hj1⟩ : ∃ i, i = b6.toNat := ⟨_, rfl⟩
      obtain ⟨j2, hj2⟩ : ∃ i, i = b5.toNat := ⟨_, rfl⟩
      obtain ⟨j3, hj3⟩ : ∃ i, i = b4.toNat := ⟨_, rfl⟩
      have m0 : j0 < 256 := by rw [hj0]; exact b7.toNat_lt
      have m1 : j1 < 256 := by rw [hj1]; exact b6.toNat_lt
      have m2 : j2 < 256 := by rw [hj2]; exact b5.toNat_lt
      have m3 : j3 < 256 := by rw [hj3]; exact b4.toNat_lt
      rw [← hj0] at t0
      rw [← hj1] at t1
      rw [← hj2] at t2
      rw [← hj3] at t3
      rw [show bnum b7 = (j0 : Int) by rw [hj0]; rfl] at g7
      rw [show bnum b6 = (j1 : Int) by rw [hj1]; rfl] at g6
      rw [show bnum b5 = (j2 : Int) by rw [hj2]; rfl] at g5
      rw [show bnum b4 = (j3 : Int) by rw [hj3]; rfl] at g4
      clear hj0 hj1 hj2 hj3
      simp only [Nat.zero_mul, Nat.zero_add, Nat.one_mul, Nat.reduceMul] at t0 t1 t2 t3 t4 t5 t6 t7
      have hxor := num_xor
      go_wp2_with fail
      go_quiet (fail)
      go_wp2_with fail
      go_roundw
      case rel => exact ⟨k + 8, m - 8, cc - 8, _, by have := HKM.out; omega, by have := HKC.out; omega, by omega, by rw [Nat.add_assoc], by rw [HL.out, ← HR8.out], rfl⟩
      case measure => simp [lenOf]; omega
    · have HS := Lib.hid (simpleUpdate_any p (~~~ Crc.upd p (~~~ s) (l.take k)) B (some ⟨b, off + k, none⟩) m cc (l.drop k) (w.drewN d) (by rw [List.length_drop, HN.out]; have := HKM.out; omega) hmb
        (Or.inr ⟨b, off + k, rfl, fun i hi => by
          rw [List.length_drop] at hi
          have := HR.out (k + i) (by omega)
          rw [Nat.add_assoc, drewN_cell, this, List.getD_eq_getElem?_getD, List.getD_eq_getElem?_getD, List.getElem?_drop]⟩)
        (fun i hi => by rw [drewN_cell]; exact HT.out.first i hi))
      go_wp2_with fail
      rw [num_not']
      refine HS.out.mono ?_
      rintro e w1 ⟨rfl, rfl⟩
      go_wp2
      go_ret
      exact ⟨ret_int (by rw [Crc.crc_resume, List.take_append_drop]), d, rfl⟩

end Go.Proofs.YtccecngaimpejaaDoor
