/- The walk of the law FnTextIsRead: the call returns true. Condition: the variable io.EOF holds a pointer to an error of errors.New's make. -/
import Derived.Test.YtccecngaimpejaaDoorText
namespace Go.Proofs.YtccecngaimpejaaDoor
open Go.RowKit Go.Lib
open Crc (W)

theorem take_reads {w : World} {ao : Option Addr} {l : List UInt8} (h : Reads w ao l) (n : Nat) : Reads w ao (l.take n) := by
  rcases h with rfl | ⟨b, off, he, hc⟩
  · exact Or.inl (by simp)
  · refine Or.inr ⟨b, off, he, fun i hi => ?_⟩
    rw [List.length_take] at hi
    rw [List.getD_eq_getElem?_getD, List.getElem?_take, if_pos (by omega), ← List.getD_eq_getElem?_getD]
    exact hc i (by omega)

theorem bnum_ne {x : UInt8} (h : x ≠ 0) : (bnum x == 0) = false ∧ (bnum x != 0) = true := by
  have h1 : (bnum x == 0) = false := by
    rw [beq_eq_false_iff_ne]
    intro e
    apply h
    apply UInt8.toNat_inj.1
    rw [UInt8.toNat_zero]
    unfold bnum at e; omega
  exact ⟨h1, by unfold bne; rw [h1]; rfl⟩

set_option maxRecDepth 100000 in
set_option maxHeartbeats 1000000 in
theorem law_text (ao : Option Addr) (n cap : Nat) (eof : Addr) (l : List UInt8) (w : World) (hn : l.length = n) (hl : n ≤ 9223372036854775807) (hcap : n ≤ cap) (hr : Reads w ao l) (hnil : ao = none → cap = 0)
    (he : w.cell? ⟨0, 0, none⟩ = some (.iface 74 (.pointer (some eof)))) :
    Calls Tryd.prog 3 #[.slice ao n cap] w fun e w' => e = .returned (.bool true) ∧ Below w.heap.size w w' := by
  have HN := Lib.hid hn
  have HR := Lib.hid hr
  have HI := Lib.hid hnil
  have HE := Lib.hid he
  clear hn hr hnil he
  by_cases hbig : 2147483647 < n
  · go_enter Tryd.func3, Tryd.ntmps3
    go_wp2_with fail
    go_ret
    exact ⟨rfl, Below.refl _ _⟩
  · go_enter Tryd.func3, Tryd.ntmps3
    go_wp2_with fail
    go_loop [3] (fun i => ∃ k : Nat, k ≤ n ∧ i = .int .i64 k ∧ ∀ j, j < k → l.getD j 0 ≠ 0) (fun i => n - (intOf i).toNat)
    case atStart => exact ⟨0, by omega, rfl, fun j hj => absurd hj (by omega)⟩
    case round =>
      obtain ⟨k, hk, rfl, hnz⟩ := hrel
      have HZ := Lib.hid hnz
      clear hnz
      by_cases hkn : k < n
      · obtain ⟨b, off, rfl, hc⟩ : ∃ b off, ao = some ⟨b, off, none⟩ ∧ w.cell? ⟨b, off + k, none⟩ = some (.int .u8 (bnum (l.getD k 0))) := by
          rcases HR.out with h | ⟨b, off, he, hc⟩
          · have := HN.out; rw [h] at this; simp at this; omega
          · exact ⟨b, off, he, hc k (by rw [HN.out]; exact hkn)⟩
        obtain ⟨x, hx⟩ : ∃ x, x = l.getD k 0 := ⟨_, rfl⟩
        rw [← hx] at hc
        have HX := Lib.hid hx
        clear hx
        have hd : decide (k < n) = true := decide_eq_true hkn
        have hki : (k : Int) < n := by omega
        by_cases hx0 : x = 0
        · subst hx0
          have hb1 : (bnum 0 != 0) = false := by decide
          have hb2 : (bnum 0 == 0) = true := by decide
          by_cases h5 : 512 ≤ k
          · go_wp2_with fail
            go_ret
            exact ⟨rfl, Below.refl _ _⟩
          · have ht := text_some (some ⟨b, off, none⟩) n cap k l w HN.out (by omega) hkn (by omega) HZ.out HX.out.symm HR.out HI.out
            rw [show ((n - (k + 1) : Nat) : Int) = (n : Int) - k - 1 from by omega] at ht
            have HT := Lib.hid ht
            clear ht
            go_wp2_with fail
            refine HT.out.mono ?_
            rintro e w1 ⟨rfl, hb⟩
            have HB := Lib.hid hb
            clear hb HT hc
            have hkc : k ≤ cap := by omega
            have hkc1 : k + 1 ≤ cap := by omega
            go_wp2_with fail
            refine (latin_any (some ⟨b, off, none⟩) k cap (l.take k) w1 (by rw [List.length_take, HN.out]; omega) (by omega) (take_reads (HR.out.keep HB.out) k)).mono ?_
            rintro e w2 ⟨rfl, hb2⟩
            have HB2 := Lib.hid (HB.out.trans (hb2.mono HB.out.size))
            clear hb2
            go_wp2_with fail
            refine (spec_check_any (some ⟨b, off, none⟩) (k + 1) cap (l.take (k + 1)) w2 (by rw [List.length_take, HN.out]; omega) (by omega) (take_reads (HR.out.keep HB2.out) (k + 1))).mono ?_
            rintro e w3 ⟨rfl, rfl⟩
            go_wp2_with fail
            go_ret
            exact ⟨rfl, HB2.out⟩
        · obtain ⟨hb2, hb1⟩ := bnum_ne hx0
          go_wp2_with fail
          go_round
          case rel => exact ⟨k + 1, by omega, by go_num, fun j hj => by
            by_cases e : j = k
            · subst e; rw [← HX.out]; exact hx0
            · exact HZ.out j (by omega)⟩
          case measure => simp [intOf]; omega
      · obtain rfl : k = n := by omega
        have hd : decide (k < k) = false := decide_eq_false (by omega)
        by_cases h5 : 512 ≤ k
        · go_wp2_with fail
          go_ret
          exact ⟨rfl, Below.refl _ _⟩
        · have HT := Lib.hid (text_none ao k cap eof l w HN.out (by omega) HZ.out HE.out HR.out HI.out)
          go_wp2_with fail
          refine HT.out.mono ?_
          rintro e w1 ⟨⟨d, rfl⟩, hb⟩
          have HB := Lib.hid hb
          clear hb HT
          go_wp2_with fail
          go_ret
          exact ⟨rfl, HB.out⟩

end Go.Proofs.YtccecngaimpejaaDoor
