/- The contracts of the thin package's Text. -/
import Derived.Test.YtccecngaimpejaaDoorZz
namespace Go.Proofs.YtccecngaimpejaaDoor
open Go.RowKit Go.Lib
open Crc (W)

theorem Keep2.below {R Z B : Nat} {w w' : World} (h : Keep2 R Z w w') (hR : B ≤ R) (hZ : B ≤ Z) (hB : B ≤ w.heap.size) : Below B w w' :=
  ⟨h.os, h.tape, h.output, h.size, fun k hk => h.block k (by omega) (by omega) (by omega)⟩

theorem rd_new (v : Value) (w : World) : Rd w.heap.size v 0 (w.alloc (.cells #[v, .int .i64 0, .int .i64 (-1)] 41)) := ⟨-1, heap_alloc_new w _⟩

set_option maxRecDepth 100000 in
set_option maxHeartbeats 1000000 in
theorem text_some (ao : Option Addr) (n cap m : Nat) (l : List UInt8) (w : World) (hn : l.length = n) (hl : n ≤ 2147483647) (hm : m < n) (hm5 : m < 512)
    (hz : ∀ j, j < m → l.getD j 0 ≠ 0) (hz0 : l.getD m 0 = 0) (hr : Reads w ao l) (hnil : ao = none → cap = 0) :
    Calls Tryd.prog 4 #[.slice ao n cap] w fun e w' => e = .returned (.tuple #[.string ⟨(latin (l.take m)).toArray⟩, .int .u32 (num (Crc.crc Crc.ieee 0#32 (l.take (m + 1)))), .int .i64 ((n - (m + 1) : Nat) : Int), .int .i64 0]) ∧ Below w.heap.size w w' := by
  have HC := Lib.hid (clone_any ao n cap l w hn hl hr hnil)
  have HN := Lib.hid hn
  have HZ := Lib.hid hz
  have HZ0 := Lib.hid hz0
  clear hn hz hz0 hr hnil
  go_enter Tryd.func4, Tryd.ntmps4
  go_wp2_with fail
  refine HC.out.mono ?_
  rintro e w1 ⟨co, cp, rfl, hcp, hrd, _, hblk, hb1⟩
  have HB1 := Lib.hid hb1
  have HRD := Lib.hid hrd
  have HBK := Lib.hid hblk
  clear hcp hrd hblk hb1 HC
  go_wp2_with fail
  refine (newReader_any co n cp w1).mono ?_
  rintro e w2 ⟨rfl, rfl⟩
  have hA : Below w1.heap.size w1 (w1.alloc (.cells #[.slice co n cp, .int .i64 0, .int .i64 (-1)] 41)) := (Below.refl _ _).alloc (Nat.le_refl _) _
  obtain ⟨b, off, rfl, hc⟩ : ∃ b off, co = some ⟨b, off, none⟩ ∧ ∀ i, i < l.length → w1.cell? ⟨b, off + i, none⟩ = some (.int .u8 (bnum (l.getD i 0))) := by
    rcases HRD.out with h | h
    · have := HN.out; rw [h] at this; simp at this; omega
    · exact h
  have hblt : b < w1.heap.size := HBK.out ⟨b, off, none⟩ rfl
  have HZZ := Lib.hid (zz_text w1.heap.size b off n cp m l _ HN.out hl hm hm5 HZ.out HZ0.out (rd_new (.slice (some ⟨b, off, none⟩) n cp) w1) (fun i hi => (hA.cell (p := ⟨b, off + i, none⟩) hblt).trans (hc i (by rw [HN.out]; exact hi))) (Nat.ne_of_lt hblt))
  have HA := Lib.hid hA
  clear hA hc hblt HRD HBK
  go_wp2_with fail
  refine HZZ.out.mono ?_
  rintro e w3 ⟨rfl, hrd3, hk3⟩
  have HRD3 := Lib.hid hrd3
  have HK3 := Lib.hid (Keep2.below (B := w.heap.size) hk3 HB1.out.size (by have := HB1.out.size; simp; omega) (by have := HB1.out.size; simp; omega))
  clear hrd3 hk3 HZZ
  go_wp2_with fail
  refine (len_any w1.heap.size _ n cp (m + 1) w3 (by omega) (by omega) HRD3.out).mono ?_
  rintro e w4 ⟨rfl, d, rfl⟩
  go_wp2_with fail
  refine (kind_nil _).mono ?_
  rintro e w5 ⟨rfl, rfl⟩
  go_wp2_with fail
  refine bodyPost_ret (v := .tuple #[.string ⟨(latin (l.take m)).toArray⟩, .int .u32 (num (Crc.crc Crc.ieee 0#32 (l.take (m + 1)))), .int .i64 ((n - (m + 1) : Nat) : Int), .int .i64 0]) (by simp [results, Tryd.results4, go_sem]) rfl ⟨rfl, ?_⟩
  exact Below.drewN ((HB1.out.trans (HA.out.mono HB1.out.size)).trans HK3.out) d

set_option maxRecDepth 100000 in
set_option maxHeartbeats 1000000 in
theorem text_none (ao : Option Addr) (n cap : Nat) (eof : Addr) (l : List UInt8) (w : World) (hn : l.length = n) (hl : n < 512)
    (hz : ∀ j, j < n → l.getD j 0 ≠ 0) (he : w.cell? ⟨0, 0, none⟩ = some (.iface 74 (.pointer (some eof)))) (hr : Reads w ao l) (hnil : ao = none → cap = 0) :
    Calls Tryd.prog 4 #[.slice ao n cap] w fun e w' => (∃ d : Nat, e = .returned (.tuple #[.string ⟨#[]⟩, .int .u32 (num 0#32), .int .i64 d, .int .i64 1])) ∧ Below w.heap.size w w' := by
  have HC := Lib.hid (clone_any ao n cap l w hn (by omega) hr hnil)
  have HN := Lib.hid hn
  have HZ := Lib.hid hz
  have HE := Lib.hid he
  clear hn hz he hr hnil
  go_enter Tryd.func4, Tryd.ntmps4
  go_wp2_with fail
  refine HC.out.mono ?_
  rintro e w1 ⟨co, cp, rfl, hcp, hrd, _, hblk, hb1⟩
  have HB1 := Lib.hid hb1
  have HRD := Lib.hid hrd
  have HBK := Lib.hid hblk
  clear hcp hrd hblk hb1 HC
  go_wp2_with fail
  refine (newReader_any co n cp w1).mono ?_
  rintro e w2 ⟨rfl, rfl⟩
  have hA : Below w1.heap.size w1 (w1.alloc (.cells #[.slice co n cp, .int .i64 0, .int .i64 (-1)] 41)) := (Below.refl _ _).alloc (Nat.le_refl _) _
  have h0 : 0 < w.heap.size := block_lt_of_cell HE.out
  have he1 : w1.cell? ⟨0, 0, none⟩ = some (.iface 74 (.pointer (some eof))) := (HB1.out.cell (p := ⟨0, 0, none⟩) h0).trans HE.out
  have h01 : 0 < w1.heap.size := block_lt_of_cell he1
  have HZZ := Lib.hid (zz_end w1.heap.size co n cp eof l _ HN.out hl HZ.out ((hA.cell (p := ⟨0, 0, none⟩) h01).trans he1) (rd_new (.slice co n cp) w1) (fun i hi => by
    rcases HRD.out with h | ⟨b, off, e1, hc⟩
    · have := HN.out; rw [h] at this; simp at this; omega
    · have hblt : b < w1.heap.size := HBK.out ⟨b, off, none⟩ e1
      exact ⟨b, off, e1, Nat.ne_of_lt hblt, (hA.cell (p := ⟨b, off + i, none⟩) hblt).trans (hc i (by rw [HN.out]; exact hi))⟩) (Nat.ne_of_lt h01))
  have HA := Lib.hid hA
  have HE1 := Lib.hid he1
  clear hA HRD HBK h0 h01 he1
  go_wp2_with fail
  refine HZZ.out.mono ?_
  rintro e w3 ⟨rfl, hrd3, hk3⟩
  have HRD3 := Lib.hid hrd3
  have HK3 := Lib.hid (Keep2.below (B := w.heap.size) hk3 HB1.out.size (by have := HB1.out.size; simp; omega) (by have := HB1.out.size; simp; omega))
  have hE3 : w3.cell? ⟨0, 0, none⟩ = some (.iface 74 (.pointer (some eof))) := by
    have hb := (HB1.out.trans (HA.out.mono HB1.out.size)).trans HK3.out
    exact (hb.cell (p := ⟨0, 0, none⟩) (block_lt_of_cell HE.out)).trans HE.out
  have HE3 := Lib.hid hE3
  clear hrd3 hk3 HZZ hE3
  go_wp2_with fail
  refine (len_any w1.heap.size _ n cp n w3 (by omega) (by omega) HRD3.out).mono ?_
  rintro e w4 ⟨rfl, d, rfl⟩
  go_wp2_with fail
  refine (kind_eof eof _ (by exact HE3.out)).mono ?_
  rintro e w5 ⟨rfl, rfl⟩
  go_wp2_with fail
  refine bodyPost_ret (v := .tuple #[.string ⟨#[]⟩, .int .u32 (num 0#32), .int .i64 ((n - n : Nat) : Int), .int .i64 1]) (by simp [results, Tryd.results4, go_sem]) rfl ⟨⟨_, rfl⟩, ?_⟩
  exact Below.drewN ((HB1.out.trans (HA.out.mono HB1.out.size)).trans HK3.out) d

end Go.Proofs.YtccecngaimpejaaDoor
