/- The contract of readString at a text without a byte 0: the source's end is handed back. -/
import Derived.Test.YtccecngaimpejaaDoorStr
namespace Go.Proofs.YtccecngaimpejaaDoor
open Go.RowKit Go.Lib
open Crc (W)

set_option maxRecDepth 100000 in
set_option maxHeartbeats 2000000 in
theorem end_any (R Z : Nat) (co : Option Addr) (n cap : Nat) (eof : Addr) (l : List UInt8) (w : World) (hn : l.length = n) (hl : n < 512)
    (hz : ∀ j, j < n → l.getD j 0 ≠ 0) (he : w.cell? ⟨0, 0, none⟩ = some (.iface 74 (.pointer (some eof))))
    (hr : Rd R (.slice co n cap) 0 w) (hd : ∀ i, i < n → ∃ b off, co = some ⟨b, off, none⟩ ∧ b ≠ R ∧ b ≠ Z ∧ w.cell? ⟨b, off + i, none⟩ = some (.int .u8 (bnum (l.getD i 0))))
    (hzb : Zb R Z l 0 0#32 w) (h0R : 0 ≠ R) (h0Z : 0 ≠ Z) (hRZ : R ≠ Z) :
    Calls Tryd.prog 13 #[.pointer (some ⟨Z, 0, none⟩)] w fun e w' => e = .returned (.tuple #[.string ⟨#[]⟩, .iface 74 (.pointer (some eof))]) ∧
      Rd R (.slice co n cap) n w' ∧ Zb R Z l n 0#32 w' ∧ Keep2 R Z w w' := by
  have HN := Lib.hid hn
  have HZ := Lib.hid hz
  have HR := Lib.hid hr
  have HD := Lib.hid hd
  have HZB := Lib.hid hzb
  have HE := Lib.hid he
  clear hn hz hr hd hzb he
  go_enter Tryd.func13, Tryd.ntmps13
  go_wp2_with fail
  go_loopw [5, 6] (fun c i wr => ∃ k : Nat, k ≤ n ∧ i = .int .i64 k ∧ c = .bool ((l.take k).any fun x => decide (127 < bnum x)) ∧ Rd R (.slice co n cap) k wr ∧ Zb R Z l k 0#32 wr ∧ Keep2 R Z w wr) (fun _ i _ => n + 1 - (intOf i).toNat)
  case atStart => exact ⟨0, by omega, rfl, rfl, HR.out, HZB.out, Keep2.refl _ _ _⟩
  case round =>
    obtain ⟨k, hk, rfl, rfl, hrd, hzb, hkeep⟩ := hrel
    obtain ⟨cs, zh, zs, z6, z8, zl⟩ := hzb
    have HRD := Lib.hid hrd
    have HK := Lib.hid hkeep
    have ZH := Lib.hid zh
    have ZL := Lib.hid zl
    have zc6 : wr.cell? ⟨Z, 6, none⟩ = some (.iface 29 (.pointer (some ⟨R, 0, none⟩))) := by rw [cell_of_row wr Z _ _ _ _ zh]; exact z6
    clear hrd hkeep zh zl
    by_cases hlt : k < n
    · obtain ⟨x, hx⟩ : ∃ x, x = l.getD k 0 := ⟨_, rfl⟩
      obtain ⟨b, off, rfl, hbR, hbZ, hd⟩ := HD.out k (by omega)
      rw [← hx] at hd
      have HX := Lib.hid hx
      clear hx
      have HCALL := Lib.hid (fun w2 (h : Rd R (.slice (some ⟨b, off, none⟩) n cap) k w2) (hc : w2.cell? ⟨b, off + k, none⟩ = some (.int .u8 (bnum x))) => readByte_some R b off n cap k x w2 (by omega) (by omega) h hc hbR)
      have hna := method_read
      have hZR : Z ≠ R := fun h => hRZ h.symm
      have hcw : wr.cell? ⟨b, off + k, none⟩ = some (.int .u8 (bnum x)) := (HK.out.cell (p := ⟨b, off + k, none⟩) (block_lt_of_cell hd) hbR hbZ).trans hd
      have HCW := Lib.hid hcw
      have hzk : ∃ v, wr.cell? ⟨Z, 10 + k, none⟩ = some v := by rw [cell_of_row wr Z _ _ _ _ ZH.out]; exact ⟨_, Array.getElem?_eq_getElem (by omega)⟩
      obtain ⟨vk, hvk⟩ := hzk
      have fk := frozen_of_row wr Z (10 + k) _ _ ZH.out
      clear hd hcw
      go_wp2_with fail
      go_region_with (go_at_call 36; refine (HCALL.out _ (by exact HRD.out) (by exact HCW.out)).mono ?_; rintro e w1 ⟨rfl, hrd1, hon1⟩; have hvk1 := hon1.cell_other hZR (by exact hvk); have fk1 := hon1.free_other hZR (by exact fk))
      have hx0 : (bnum x == 0) = false := by
        rw [beq_eq_false_iff_ne]
        intro h
        refine HZ.out k hlt ?_
        rw [← HX.out]
        apply UInt8.toNat_inj.1
        rw [UInt8.toNat_zero]
        unfold bnum at h; omega
      have hb := bnum_lt x
      by_cases h127 : 127 < bnum x
      · go_wp2_with fail
        have hall := round_keeps hRZ HK.out ⟨cs, ZH.out, zs, z6, z8, ZL.out⟩ hrd1 hon1 (by omega) HX.out
        go_roundw
        case rel => exact ⟨k + 1, by omega, by go_num, by rw [any_snoc (by rw [HN.out]; omega) HX.out, decide_eq_true h127, Bool.or_true], hall⟩
        case measure => simp [intOf]; omega
      · go_wp2_with fail
        have hall := round_keeps hRZ HK.out ⟨cs, ZH.out, zs, z6, z8, ZL.out⟩ hrd1 hon1 (by omega) HX.out
        go_roundw
        case rel => exact ⟨k + 1, by omega, by go_num, by rw [any_snoc (by rw [HN.out]; omega) HX.out, decide_eq_false h127, Bool.or_false], hall⟩
        case measure => simp [intOf]; omega
    · obtain rfl : k = n := by omega
      have hcw : wr.cell? ⟨0, 0, none⟩ = some (.iface 74 (.pointer (some eof))) := (HK.out.cell (p := ⟨0, 0, none⟩) (block_lt_of_cell HE.out) h0R h0Z).trans HE.out
      have HCW := Lib.hid hcw
      have HCALL := Lib.hid (fun w2 (h : Rd R (.slice co k cap) k w2) (hc : w2.cell? ⟨0, 0, none⟩ = some (.iface 74 (.pointer (some eof)))) => readByte_end R co k cap eof w2 (by omega) h hc h0R)
      have hna := method_read
      have hZR : Z ≠ R := fun h => hRZ h.symm
      have hzk : ∃ v, wr.cell? ⟨Z, 10 + k, none⟩ = some v := by rw [cell_of_row wr Z _ _ _ _ ZH.out]; exact ⟨_, Array.getElem?_eq_getElem (by omega)⟩
      obtain ⟨vk, hvk⟩ := hzk
      have fk := frozen_of_row wr Z (10 + k) _ _ ZH.out
      have hif := isIface_error
      clear hcw
      go_wp2_with fail
      go_region_with (go_at_call 36; refine (HCALL.out _ (by exact HRD.out) (by exact HCW.out)).mono ?_; rintro e w1 ⟨rfl, hrd1, hon1⟩; have hvk1 := hon1.cell_other hZR (by exact hvk); have fk1 := hon1.free_other hZR (by exact fk))
      go_wp2_with fail
      go_ret2
      refine ⟨rfl, ?_⟩
      have hz1 : Zb R Z l k 0#32 w1 := Zb.keep ⟨cs, ZH.out, zs, z6, z8, ZL.out⟩ (hon1.block Z hZR)
      have h1 : Keep2 R Z wr w1 := ⟨hon1.os, hon1.tape, hon1.output, by rw [hon1.size]; exact Nat.le_refl _, fun j _ h1 _ => hon1.block j h1⟩
      exact ⟨hrd1.keep (Below.heap_setCell _ _ _ _ hRZ), hz1.put (by omega) _, (HK.out.trans h1).trans (Keep2.ofOnlyZ ((OnlyAt.refl Z w1).setCell _ _))⟩

end Go.Proofs.YtccecngaimpejaaDoor
