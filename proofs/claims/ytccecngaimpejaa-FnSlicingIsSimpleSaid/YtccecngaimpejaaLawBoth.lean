/- The walk of the law FnSlicingIsSimple: at every polynomial, check and text the call returns true. No condition beyond the lengths that a slice has. -/
import Derived.Test.YtccecngaimpejaaChk
namespace Go.Proofs.Ytccecngaimpejaa
open Go.RowKit Go.Lib
open Crc (W)

set_option maxRecDepth 100000 in
theorem law_both (p s : W) (ao : Option Addr) (n cap : Nat) (l : List UInt8) (w : World) (hn : l.length = n) (hl : n ≤ 9223372036854775807) (hcap : n ≤ cap) (hr : Reads w ao l) :
    Calls Try.prog 10 #[.int .u32 (num p), .int .u32 (num s), .slice ao n cap] w fun e w' => e = .returned (.bool true) ∧ Below w.heap.size w w' := by
  have H1 := Lib.hid (slicingWay_any p s ao n cap l w hn hl hcap hr)
  have HN := Lib.hid hn
  have HR := Lib.hid hr
  clear hn hr
  by_cases hbig : 2147483647 < n
  · go_enter Try.func10, Try.ntmps10
    go_wp2
    go_ret
    exact ⟨rfl, Below.refl _ _⟩
  · go_enter Try.func10, Try.ntmps10
    go_wp2_with fail
    refine H1.out.mono ?_
    rintro e w1 ⟨rfl, hb⟩
    have HB := Lib.hid hb
    clear hb H1
    go_wp2_with fail
    refine (simple_any p s ao n cap l w1 HN.out hl (HR.out.keep HB.out)).mono ?_
    rintro e w2 ⟨rfl, hb2⟩
    have HB2 := Lib.hid hb2
    clear hb2
    have ha := slicingWay_any Crc.ieee 0#32 (some ⟨w2.heap.size, 0, none⟩) 1 1 [97] (w2.alloc (.cells #[.int .u8 97] 5)) rfl (by omega) (by omega) (reads_a w2 5)
    rw [num_ieee, num_0, num_a] at ha
    have HA := Lib.hid ha
    clear ha
    go_wp2_with fail
    refine HA.out.mono ?_
    rintro e w3 ⟨rfl, hb3⟩
    have HB3 := Lib.hid hb3
    clear hb3 HA
    go_wp2_with fail
    go_ret
    exact ⟨rfl, (HB.out.trans (HB2.out.mono HB.out.size)).trans (((Below.refl _ w2).alloc (Nat.le_trans HB.out.size HB2.out.size) _).trans (HB3.out.mono (by have := HB.out.size; have := HB2.out.size; simp; omega)))⟩

end Go.Proofs.Ytccecngaimpejaa
