/- The contracts of ZZString: a text read by a gzip Reader of the call's own. -/
import Derived.Test.YtccecngaimpejaaDoorEnd
namespace Go.Proofs.YtccecngaimpejaaDoor
open Go.RowKit Go.Lib
open Crc (W)

theorem zero_reader : ∃ zc : Array Value, zc.size = 524 ∧ zc[8]? = some (.int .u32 0) ∧ ∀ w, (zeroValue 54).run Tryd.prog w = .ok (.agg zc) w :=
  ⟨#[.string ⟨#[]⟩, .slice none 0 0, .int .u64 0, .int .i64 0, .string ⟨#[]⟩, .int .u8 0, .nilIface, .nilIface, .int .u32 0, .int .u32 0] ++ Array.replicate 512 (.int .u8 0) ++ #[.nilIface, .bool false],
    by simp, by simp, fun _ => by kernel_rfl⟩

/-- The block that the call makes. -/
theorem Zb.made {R : Nat} {l : List UInt8} {zc : Array Value} (w : World) (hs : zc.size = 524) (h8 : zc[8]? = some (.int .u32 0)) :
    Zb R w.heap.size l 0 0#32 (w.alloc (.cells (zc.setIfInBounds 6 (.iface 29 (.pointer (some ⟨R, 0, none⟩)))) 54)) := by
  refine ⟨_, heap_alloc_new w _, by simp [hs], ?_, ?_, fun j hj => absurd hj (by omega)⟩
  · rw [Array.getElem?_setIfInBounds, if_pos rfl, if_pos (by omega)]
  · rw [Array.getElem?_setIfInBounds, if_neg (by omega), h8, num_0]

theorem Rd.lt {R : Nat} {v : Value} {k : Nat} {w : World} (h : Rd R v k w) : R < w.heap.size := by
  obtain ⟨p, h⟩ := h
  exact block_of h

set_option maxRecDepth 100000 in
set_option maxHeartbeats 1000000 in
theorem zz_text (R b off n cap m : Nat) (l : List UInt8) (w : World) (hn : l.length = n) (hl : n ≤ 2147483647) (hm : m < n) (hm5 : m < 512)
    (hz : ∀ j, j < m → l.getD j 0 ≠ 0) (hz0 : l.getD m 0 = 0) (hr : Rd R (.slice (some ⟨b, off, none⟩) n cap) 0 w) (hd : ∀ i, i < n → w.cell? ⟨b, off + i, none⟩ = some (.int .u8 (bnum (l.getD i 0)))) (hbR : b ≠ R) :
    Calls Tryd.prog 9 #[.iface 29 (.pointer (some ⟨R, 0, none⟩))] w fun e w' => e = .returned (.tuple #[.string ⟨(latin (l.take m)).toArray⟩, .int .u32 (num (Crc.crc Crc.ieee 0#32 (l.take (m + 1)))), .nilIface]) ∧
      Rd R (.slice (some ⟨b, off, none⟩) n cap) (m + 1) w' ∧ Keep2 R w.heap.size w w' := by
  obtain ⟨zc, hsz, h8, hzero⟩ := zero_reader
  have hblt : b < w.heap.size := block_lt_of_cell (hd 0 (by omega))
  have hA : Below w.heap.size w (w.alloc (.cells (zc.setIfInBounds 6 (.iface 29 (.pointer (some ⟨R, 0, none⟩)))) 54)) := (Below.refl _ _).alloc (Nat.le_refl _) _
  have HT := Lib.hid (text_any R w.heap.size b off n cap m l _ hn hl hm hm5 hz hz0 (hr.keep (hA.block R hr.lt)) (fun i hi => (hA.cell (p := ⟨b, off + i, none⟩) hblt).trans (hd i hi)) (Zb.made w hsz h8) hbR (Nat.ne_of_lt hblt) (Nat.ne_of_lt hr.lt))
  have HA := Lib.hid hA
  clear hn hz hz0 hr hd hA h8 hblt
  go_enter Tryd.func9, Tryd.ntmps9
  go_wp2_with fail
  refine HT.out.mono ?_
  rintro e w1 ⟨rfl, hrd, hzb, hk⟩
  have g8 : w1.cell? ⟨w.heap.size, 8, none⟩ = some (.int .u32 (num (Crc.crc Crc.ieee 0#32 (l.take (m + 1))))) := by
    obtain ⟨cs, zh, _, _, z8, _⟩ := hzb
    rw [cell_of_row w1 _ _ _ _ _ zh]; exact z8
  have HRD := Lib.hid hrd
  have HK := Lib.hid hk
  clear hrd hzb hk HT hzero
  go_wp2_with fail
  go_quiet (fail)
  go_wp2_with fail
  go_ret3
  exact ⟨rfl, HRD.out, (Keep2.ofBelow HA.out).trans ⟨HK.out.os, HK.out.tape, HK.out.output, HK.out.size, HK.out.block⟩⟩

set_option maxRecDepth 100000 in
set_option maxHeartbeats 1000000 in
theorem zz_end (R : Nat) (co : Option Addr) (n cap : Nat) (eof : Addr) (l : List UInt8) (w : World) (hn : l.length = n) (hl : n < 512)
    (hz : ∀ j, j < n → l.getD j 0 ≠ 0) (he : w.cell? ⟨0, 0, none⟩ = some (.iface 74 (.pointer (some eof))))
    (hr : Rd R (.slice co n cap) 0 w) (hd : ∀ i, i < n → ∃ b off, co = some ⟨b, off, none⟩ ∧ b ≠ R ∧ w.cell? ⟨b, off + i, none⟩ = some (.int .u8 (bnum (l.getD i 0)))) (h0R : 0 ≠ R) :
    Calls Tryd.prog 9 #[.iface 29 (.pointer (some ⟨R, 0, none⟩))] w fun e w' => e = .returned (.tuple #[.string ⟨#[]⟩, .int .u32 (num 0#32), .iface 74 (.pointer (some eof))]) ∧
      Rd R (.slice co n cap) n w' ∧ Keep2 R w.heap.size w w' := by
  obtain ⟨zc, hsz, h8, hzero⟩ := zero_reader
  have h0 : 0 < w.heap.size := block_lt_of_cell he
  have hA : Below w.heap.size w (w.alloc (.cells (zc.setIfInBounds 6 (.iface 29 (.pointer (some ⟨R, 0, none⟩)))) 54)) := (Below.refl _ _).alloc (Nat.le_refl _) _
  have HT := Lib.hid (end_any R w.heap.size co n cap eof l _ hn hl hz ((hA.cell (p := ⟨0, 0, none⟩) h0).trans he) (hr.keep (hA.block R hr.lt)) (fun i hi => by
    obtain ⟨b, off, e1, e2, e3⟩ := hd i hi
    have hblt : b < w.heap.size := block_lt_of_cell e3
    exact ⟨b, off, e1, e2, Nat.ne_of_lt hblt, (hA.cell (p := ⟨b, off + i, none⟩) hblt).trans e3⟩) (Zb.made w hsz h8) h0R (Nat.ne_of_lt h0) (Nat.ne_of_lt hr.lt))
  have HA := Lib.hid hA
  clear hn hz hr hd hA h8 he h0
  go_enter Tryd.func9, Tryd.ntmps9
  go_wp2_with fail
  refine HT.out.mono ?_
  rintro e w1 ⟨rfl, hrd, hzb, hk⟩
  have g8 : w1.cell? ⟨w.heap.size, 8, none⟩ = some (.int .u32 (num 0#32)) := by
    obtain ⟨cs, zh, _, _, z8, _⟩ := hzb
    rw [cell_of_row w1 _ _ _ _ _ zh]; exact z8
  have HRD := Lib.hid hrd
  have HK := Lib.hid hk
  clear hrd hzb hk HT hzero
  go_wp2_with fail
  go_quiet (fail)
  go_wp2_with fail
  go_ret3
  exact ⟨rfl, HRD.out, (Keep2.ofBelow HA.out).trans ⟨HK.out.os, HK.out.tape, HK.out.output, HK.out.size, HK.out.block⟩⟩

end Go.Proofs.YtccecngaimpejaaDoor
