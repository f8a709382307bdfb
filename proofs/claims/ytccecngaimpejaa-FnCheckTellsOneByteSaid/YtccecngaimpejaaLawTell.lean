/- The walk of the law FnCheckTellsOneByte: texts that differ in one byte have different checks; the call returns true. No condition beyond the lengths that a slice has. -/
import Derived.Test.YtccecngaimpejaaApp
import Derived.Test.YtccecngaimpejaaParts
namespace Go.Proofs.Ytccecngaimpejaa
open Go.RowKit Go.Lib
open Crc (W)

theorem bnum_xor (x y : UInt8) : bits .xor .u8 (bnum x) (bnum y) = bnum (x ^^^ y) := by
  unfold bnum
  rw [u8_xor_nat _ _ x.toNat_lt y.toNat_lt, UInt8.toNat_xor]
theorem vals_set (l : List UInt8) (k : Nat) (z : UInt8) : (vals l).set k (.int .u8 (bnum z)) = vals (l.set k z) := by
  unfold vals; rw [List.map_set]

theorem differs_at (l : List UInt8) (k : Nat) (y : UInt8) (hk : k < l.length) (hy : y ≠ 0) : Crc.crc Crc.ieee 0#32 l ≠ Crc.crc Crc.ieee 0#32 (l.set k (l.getD k 0 ^^^ y)) := by
  have hg : l.getD k 0 = l[k] := by rw [List.getD_eq_getElem?_getD, List.getElem?_eq_getElem hk]; rfl
  have e1 : l = l.take k ++ l[k] :: l.drop (k + 1) := by
    rw [List.getElem_cons_drop, List.take_append_drop]
  have e2 : l.set k (l.getD k 0 ^^^ y) = l.take k ++ (l.getD k 0 ^^^ y) :: l.drop (k + 1) := by
    rw [List.set_eq_take_append_cons_drop, if_pos hk]
  rw [e2]
  conv => lhs; rw [e1]
  refine Crc.crc_differs _ _ _ _ _ ?_
  rw [hg]
  intro h
  apply hy
  have h2 : l[k] ^^^ (l[k] ^^^ y) = l[k] ^^^ l[k] := by rw [← h]
  rwa [← UInt8.xor_assoc, UInt8.xor_self, UInt8.zero_xor] at h2

set_option maxRecDepth 100000 in
theorem tells_early (ao : Option Addr) (n cap : Nat) (a : Int) (y : UInt8) (w : World)
    (h : 2147483647 < n ∨ a < 0 ∨ (n : Int) ≤ a ∨ y = 0) :
    Calls Try.prog 9 #[.slice ao n cap, .int .i64 a, .int .u8 (bnum y)] w fun e w' => e = .returned (.bool true) ∧ Below w.heap.size w w' := by
  by_cases h1 : 2147483647 < n
  · go_enter Try.func9, Try.ntmps9
    go_wp2
    go_ret
    exact ⟨rfl, Below.refl _ _⟩
  · by_cases h2 : a < 0
    · clear h
      go_enter Try.func9, Try.ntmps9
      go_wp2
      go_ret
      exact ⟨rfl, Below.refl _ _⟩
    · by_cases h3 : (n : Int) ≤ a
      · clear h
        go_enter Try.func9, Try.ntmps9
        go_wp2
        go_ret
        exact ⟨rfl, Below.refl _ _⟩
      · obtain rfl : y = 0 := by
          rcases h with h | h | h | h
          · exact absurd h h1
          · exact absurd h h2
          · exact absurd h h3
          · exact h
        have hy : (bnum 0 == 0) = true := by decide
        clear h
        go_enter Try.func9, Try.ntmps9
        go_wp2
        go_ret
        exact ⟨rfl, Below.refl _ _⟩

set_option maxRecDepth 100000 in
theorem tells_late (ao : Option Addr) (n cap k : Nat) (y : UInt8) (l : List UInt8) (w : World) (hn : l.length = n) (hl : n ≤ 9223372036854775807) (hcap : n ≤ cap) (hr : Reads w ao l) (hnil : ao = none → cap = 0)
    (hbig : ¬ 2147483647 < n) (hk : k < n) (hy : y ≠ 0) :
    Calls Try.prog 9 #[.slice ao n cap, .int .i64 k, .int .u8 (bnum y)] w fun e w' => e = .returned (.bool true) ∧ Below w.heap.size w w' := by
  have HN := Lib.hid hn
  have HR := Lib.hid hr
  have HI := Lib.hid hnil
  have HY := Lib.hid hy
  have hy0 : (bnum y == 0) = false := by
    rw [beq_eq_false_iff_ne]
    intro h
    apply hy
    unfold bnum at h
    apply UInt8.toNat_inj.1
    rw [UInt8.toNat_zero]; omega
  clear hn hr hnil hy
  go_enter Try.func9, Try.ntmps9
  go_wp2_with (at_builtin; refine wpList_append_bytes rfl (.const (.slice none 0 0)) (.tmp 23) rfl w.heap.size (.slice none 0 0) 0 [] rfl (World.ownsRow_nil _ _ _ _) ao n cap l rfl HN.out HR.out HI.out (by omega) (Nat.le_refl _) ?_)
  intro v1 w1 hown1 hgrow1
  have HB1 := Lib.hid ((Below.refl w.heap.size w).grown hgrow1 (Nat.le_refl _) (fun k hk => by cases hk))
  have hex : ∃ g cap1, v1 = .slice (some ⟨g, 0, none⟩) n cap1 ∧ w.heap.size ≤ g := by
    obtain ⟨_, h | ⟨g, cap1, _, hv, hg, _⟩⟩ := hown1
    · exact absurd h.2 (by omega)
    · exact ⟨g, cap1, hv, hg⟩
  obtain ⟨g, cap1, rfl, hg⟩ := hex
  have HO1 := Lib.hid hown1
  obtain ⟨x, hx⟩ : ∃ x, x = l.getD k 0 := ⟨_, rfl⟩
  have hcell : w1.cell? ⟨g, k, none⟩ = some (.int .u8 (bnum x)) := by
    rw [hown1.cellAt k (by omega), vals_get l k (by rw [HN.out]; exact hk), hx]
  have hfree := hown1.frozenAt k
  have hx2 := bnum_xor x y
  have HO2 := Lib.hid (hown1.stored k (.int .u8 (bnum (x ^^^ y))))
  have HX := Lib.hid hx
  clear hown1 hgrow1 hx
  go_wp2_with fail
  have hsz : (w1.setCell ⟨g, k, none⟩ (.int .u8 (bnum (x ^^^ y)))).heap.size = w1.heap.size := by simp [World.setCell]
  have hown2 := HO2.out.1
  rw [vals_set] at hown2
  have hB2 : Below w.heap.size w (w1.setCell ⟨g, k, none⟩ (.int .u8 (bnum (x ^^^ y)))) := HB1.out.setCell hg _
  have hc1 := check_one ⟨ao, n, cap, l⟩ 27 (w1.setCell ⟨g, k, none⟩ (.int .u8 (bnum (x ^^^ y)))) ⟨HN.out, hl, hcap, HR.out.keep hB2, HI.out⟩
  rw [hsz] at hc1
  obtain ⟨ao2, cap2, hv2, hlen2, hr2, hcap2, hnil2, _⟩ := owns_reads hown2
  simp only [Value.slice.injEq, true_and] at hv2
  obtain ⟨rfl, rfl⟩ := hv2
  refine hc1.mono ?_
  rintro e w3 ⟨rfl, hb3⟩
  have hok2 : Part.ok (w1.setCell ⟨g, k, none⟩ (.int .u8 (bnum (x ^^^ y)))) ⟨some ⟨g, 0, none⟩, n, cap1, l.set k (x ^^^ y)⟩ := ⟨hlen2, hl, hcap2, hr2, hnil2⟩
  have hb3' : Below (w1.setCell ⟨g, k, none⟩ (.int .u8 (bnum (x ^^^ y)))).heap.size (w1.setCell ⟨g, k, none⟩ (.int .u8 (bnum (x ^^^ y)))) w3 := by rw [hsz]; exact hb3
  have HC2 := Lib.hid (check_one ⟨some ⟨g, 0, none⟩, n, cap1, l.set k (x ^^^ y)⟩ 27 w3 (hok2.keep hb3'))
  have HB3 := Lib.hid (hB2.trans (hb3.mono HB1.out.size))
  clear hsz hown2 hB2 hc1 hlen2 hr2 hcap2 hnil2 hb3 hok2 hb3' HO1 HO2 hcell hfree hx2
  go_wp2_with fail
  refine HC2.out.mono ?_
  rintro e w4 ⟨rfl, hb4⟩
  have HB4 := Lib.hid hb4
  have hne : (num (Crc.crc Crc.ieee 0#32 l) == num (Crc.crc Crc.ieee 0#32 (l.set k (x ^^^ y)))) = false := by
    rw [beq_eq_false_iff_ne]
    intro h
    refine differs_at l k y (by rw [HN.out]; exact hk) HY.out ?_
    rw [← HX.out]
    exact num_inj h
  have hne2 : (num (Crc.crc Crc.ieee 0#32 l) != num (Crc.crc Crc.ieee 0#32 (l.set k (x ^^^ y)))) = true := by
    unfold bne; rw [hne]; rfl
  clear hb4 HC2
  go_wp2_with fail
  go_ret
  exact ⟨rfl, HB3.out.trans (HB4.out.mono HB3.out.size)⟩

theorem law_tells (ao : Option Addr) (n cap : Nat) (a : Int) (y : UInt8) (l : List UInt8) (w : World) (hn : l.length = n) (hl : n ≤ 9223372036854775807) (hcap : n ≤ cap) (hr : Reads w ao l) (hnil : ao = none → cap = 0) :
    Calls Try.prog 9 #[.slice ao n cap, .int .i64 a, .int .u8 (bnum y)] w fun e w' => e = .returned (.bool true) ∧ Below w.heap.size w w' := by
  by_cases h : 2147483647 < n ∨ a < 0 ∨ (n : Int) ≤ a ∨ y = 0
  · exact tells_early ao n cap a y w h
  · obtain ⟨k, rfl⟩ := Int.eq_ofNat_of_zero_le (show 0 ≤ a by omega)
    exact tells_late ao n cap k y l w hn hl hcap hr hnil (by omega) (by omega) (fun e => h (Or.inr (Or.inr (Or.inr e))))

end Go.Proofs.Ytccecngaimpejaa
