/- The walk of the law FnSlicingGoesOn: the check of two parts, one behind the other, is that of both together; the call returns true. No condition beyond the lengths that a slice has. -/
import Derived.Test.YtccecngaimpejaaApp
import Derived.Test.YtccecngaimpejaaChk
namespace Go.Proofs.Ytccecngaimpejaa
open Go.RowKit Go.Lib
open Crc (W)

set_option maxRecDepth 100000 in
theorem law_goes (p s : W) (ao : Option Addr) (n cap : Nat) (l : List UInt8) (bo : Option Addr) (m cap2 : Nat) (r : List UInt8) (w : World)
    (hn : l.length = n) (hl : n ≤ 9223372036854775807) (hcap : n ≤ cap) (hr : Reads w ao l) (hnil : ao = none → cap = 0)
    (hm : r.length = m) (hl2 : m ≤ 9223372036854775807) (hcap2 : m ≤ cap2) (hr2 : Reads w bo r) (hnil2 : bo = none → cap2 = 0) :
    Calls Try.prog 5 #[.int .u32 (num p), .int .u32 (num s), .slice ao n cap, .slice bo m cap2] w fun e w' => e = .returned (.bool true) ∧ Below w.heap.size w w' := by
  have HN := Lib.hid hn
  have HR := Lib.hid hr
  have HI := Lib.hid hnil
  have HM := Lib.hid hm
  have HR2 := Lib.hid hr2
  have HI2 := Lib.hid hnil2
  clear hn hr hnil hm hr2 hnil2
  by_cases hbig : 2147483647 < n
  · go_enter Try.func5, Try.ntmps5
    go_wp2
    go_ret
    exact ⟨rfl, Below.refl _ _⟩
  · by_cases hbig2 : 2147483647 < m
    · go_enter Try.func5, Try.ntmps5
      go_wp2
      go_ret
      exact ⟨rfl, Below.refl _ _⟩
    · go_enter Try.func5, Try.ntmps5
      go_wp2_with (at_builtin; refine wpList_append_bytes rfl (.const (.slice none 0 0)) (.tmp 18) rfl w.heap.size (.slice none 0 0) 0 [] rfl (World.ownsRow_nil _ _ _ _) ao n cap l rfl HN.out HR.out HI.out (by omega) (Nat.le_refl _) ?_)
      intro v1 w1 hown1 hgrow1
      have HB1 := Lib.hid ((Below.refl w.heap.size w).grown hgrow1 (Nat.le_refl _) (fun k hk => by cases hk))
      have HO1 := Lib.hid hown1
      clear hown1 hgrow1
      go_wp2_with (at_builtin; refine wpList_append_bytes rfl (.tmp 19) (.tmp 20) rfl w.heap.size v1 n l rfl HO1.out bo m cap2 r rfl HM.out (HR2.out.keep HB1.out) HI2.out (by omega) HB1.out.size ?_)
      intro v2 w2 hown2 hgrow2
      have HB2 := Lib.hid (HB1.out.grown hgrow2 HB1.out.size (fun k hk => (HO1.out.lt k hk).1))
      obtain ⟨co, cap3, hv2, hlen, hread, hcap3, _, hblk⟩ := owns_reads hown2
      have HR3 := Lib.hid hread
      have HL3 := Lib.hid hlen
      rw [hv2]
      clear hown2 hgrow2 hv2 hread hlen hblk HO1 HB1 HI HI2
      go_wp2_with fail
      refine (slicingWay_any p s ao n cap l w2 HN.out hl hcap (HR.out.keep HB2.out)).mono ?_
      rintro e w3 ⟨rfl, hb3⟩
      have HB3 := Lib.hid (HB2.out.trans (hb3.mono HB2.out.size))
      have HR3' := Lib.hid (HR3.out.keep hb3)
      clear hb3 HR3
      go_wp2_with fail
      refine (slicingWay_any p (Crc.crc p s l) bo m cap2 r w3 HM.out hl2 hcap2 (HR2.out.keep HB3.out)).mono ?_
      rintro e w4 ⟨rfl, hb4⟩
      have HB4 := Lib.hid (HB3.out.trans (hb4.mono HB3.out.size))
      have HR4 := Lib.hid (HR3'.out.keep hb4)
      clear hb4 HR3'
      go_wp2_with fail
      refine (slicingWay_any p s co (n + m) cap3 (l ++ r) w4 HL3.out (by omega) hcap3 HR4.out).mono ?_
      rintro e w5 ⟨rfl, hb5⟩
      rw [Crc.crc_append]
      have HB5 := Lib.hid (HB4.out.trans (hb5.mono HB4.out.size))
      clear hb5
      have ha := slicingWay_any Crc.ieee 0#32 (some ⟨w5.heap.size, 0, none⟩) 1 1 [97] (w5.alloc (.cells #[.int .u8 97] 5)) rfl (by omega) (by omega) (reads_a w5 5)
      rw [num_ieee, num_0, num_a] at ha
      have HA := Lib.hid ha
      clear ha
      go_wp2_with fail
      refine HA.out.mono ?_
      rintro e w6 ⟨rfl, hb6⟩
      have HB6 := Lib.hid hb6
      clear hb6 HA
      go_wp2_with fail
      go_ret
      exact ⟨rfl, HB5.out.trans (((Below.refl _ w5).alloc HB5.out.size _).trans (HB6.out.mono (by have := HB5.out.size; simp; omega)))⟩

end Go.Proofs.Ytccecngaimpejaa
