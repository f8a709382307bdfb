/- The contracts of slicingUpdate at every text, SlicingUpdate, Slicing, UpdateIEEE and Check. -/
import Derived.Test.YtccecngaimpejaaDoorSli
import Derived.Test.YtccecngaimpejaaDoorOpen
namespace Go.Proofs.YtccecngaimpejaaDoor
open Go.RowKit Go.Lib
open Crc (W)

set_option maxRecDepth 100000 in
theorem slicing_short (p s : W) (B T : Nat) (ao : Option Addr) (n cap : Nat) (l : List UInt8) (w : World) (hn : l.length = n) (h16 : n < 16)
    (hr : Reads w ao l) (ht : Grid p B T 256 0 w) :
    Calls Tryd.prog 16 #[.int .u32 (num s), .pointer (some ⟨B, 0, none⟩), .slice ao n cap] w fun e w' => e = .returned (.int .u32 (num (Crc.crc p s l))) ∧ ∃ m, w' = w.drewN m := by
  have HS := Lib.hid (simpleUpdate_any p s B ao n cap l w hn (by omega) hr ht.first)
  have HN := Lib.hid hn
  clear hn hr ht
  by_cases h0 : n = 0
  · subst h0
    have h00 : ((0 : Nat) : Int) == 0 := rfl
    go_enter Tryd.func16, Tryd.ntmps16
    go_wp2_with fail
    go_ret
    have hl0 : l = [] := List.length_eq_zero_iff.1 HN.out
    exact ⟨ret_int (by rw [hl0, Crc.crc_nil]), 0, rfl⟩
  · have hp : 0 < n := by omega
    go_enter Tryd.func16, Tryd.ntmps16
    go_wp2_with fail
    refine HS.out.mono ?_
    rintro e w1 ⟨rfl, rfl⟩
    go_wp2
    go_ret
    exact ⟨rfl, 0, rfl⟩

theorem slicing_any (p s : W) (B T : Nat) (ao : Option Addr) (n cap : Nat) (l : List UInt8) (w : World) (hn : l.length = n) (hl : n ≤ 9223372036854775807) (hcap : n ≤ cap)
    (hr : Reads w ao l) (ht : Grid p B T 256 0 w) :
    Calls Tryd.prog 16 #[.int .u32 (num s), .pointer (some ⟨B, 0, none⟩), .slice ao n cap] w fun e w' => e = .returned (.int .u32 (num (Crc.crc p s l))) ∧ ∃ m, w' = w.drewN m := by
  by_cases h16 : n < 16
  · exact slicing_short p s B T ao n cap l w hn h16 hr ht
  · rcases hr with rfl | ⟨b, off, rfl, hc⟩
    · exact absurd hn (by simp; omega)
    · exact slicing_long p s B T b off n cap l w hn hl (by omega) hcap hc ht

theorem Below.drewN {B : Nat} {a w : World} (h : Below B a w) (m : Nat) : Below B a (w.drewN m) := ⟨h.os, h.tape, h.output, h.size, h.block⟩

theorem updateIEEE_any (s : W) (ao : Option Addr) (n cap : Nat) (l : List UInt8) (w : World) (hn : l.length = n) (hl : n ≤ 9223372036854775807) (hcap : n ≤ cap) (hr : Reads w ao l) :
    Calls Tryd.prog 15 #[.int .u32 (num s), .slice ao n cap] w fun e w' => e = .returned (.int .u32 (num (Crc.crc Crc.ieee s l))) ∧ Below w.heap.size w w' := by
  have HN := Lib.hid hn
  have HR := Lib.hid hr
  have hm := slicingMake_any Crc.ieee w
  rw [num_ieee] at hm
  have HM := Lib.hid hm
  clear hn hr hm
  go_enter Tryd.func15, Tryd.ntmps15
  go_wp2_with fail
  refine HM.out.mono ?_
  rintro e w1 ⟨rfl, hg, hb, hs⟩
  have HG := Lib.hid hg
  have HB := Lib.hid hb
  clear hg hb hs HM
  go_wp2_with fail
  refine (slicing_any Crc.ieee s _ _ _ _ _ l w1 HN.out hl hcap (HR.out.keep HB.out) HG.out).mono ?_
  rintro e w' ⟨rfl, m, rfl⟩
  go_wp2
  go_ret
  exact ⟨rfl, Below.drewN HB.out m⟩

end Go.Proofs.YtccecngaimpejaaDoor
