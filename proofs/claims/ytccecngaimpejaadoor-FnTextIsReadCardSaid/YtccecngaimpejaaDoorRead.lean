/- The contracts of the bytes Reader: NewReader, Len, ReadByte. -/
import Derived.Test.YtccecngaimpejaaDoorChk
import Derived.Test.YtccecngaimpejaaDoorApp
namespace Go.Proofs.YtccecngaimpejaaDoor
open Go.RowKit Go.Lib
open Crc (W)

/-- Block R is a bytes Reader over a slice, k bytes on. -/
def Rd (R : Nat) (v : Value) (k : Nat) (w : World) : Prop := ∃ p : Int, w.heap[R]? = some (.cells #[v, .int .i64 k, .int .i64 p] 41 (0, 0))

theorem OnlyAt.drewN {B : Nat} {a w : World} (h : OnlyAt B a w) (m : Nat) : OnlyAt B a (w.drewN m) := ⟨h.os, h.tape, h.output, h.size, h.block⟩
theorem OnlyAt.drew {B : Nat} {a w : World} (h : OnlyAt B a w) : OnlyAt B a w.drew := ⟨h.os, h.tape, h.output, h.size, h.block⟩

set_option maxRecDepth 100000 in
theorem readByte_some (R : Nat) (b off n cap k : Nat) (x : UInt8) (w : World) (hn : n ≤ 9223372036854775807) (hk : k < n) (hr : Rd R (.slice (some ⟨b, off, none⟩) n cap) k w)
    (hc : w.cell? ⟨b, off + k, none⟩ = some (.int .u8 (bnum x))) (hne : b ≠ R) :
    Calls Tryd.prog 36 #[.pointer (some ⟨R, 0, none⟩)] w fun e w' => e = .returned (.tuple #[.int .u8 (bnum x), .nilIface]) ∧ Rd R (.slice (some ⟨b, off, none⟩) n cap) (k + 1) w' ∧ OnlyAt R w w' := by
  obtain ⟨p, hb⟩ := hr
  have g0 : w.cell? ⟨R, 0, none⟩ = some (.slice (some ⟨b, off, none⟩) n cap) := by rw [cell_of_row w R _ _ _ _ hb]; rfl
  have g1 : w.cell? ⟨R, 1, none⟩ = some (.int .i64 k) := by rw [cell_of_row w R _ _ _ _ hb]; rfl
  have g2 : w.cell? ⟨R, 2, none⟩ = some (.int .i64 p) := by rw [cell_of_row w R _ _ _ _ hb]; rfl
  have f1 := frozen_of_row w R 1 _ _ hb
  have f2 := frozen_of_row w R 2 _ _ hb
  have hi : (k : Int) < n := by omega
  have HB := Lib.hid hb
  clear hb
  go_enter Tryd.func36, Tryd.ntmps36
  go_wp2_with fail
  go_quiet (fail)
  go_wp2_with fail
  go_quiet (fail)
  go_wp2_with fail
  go_ret2
  refine ⟨rfl, ⟨-1, ?_⟩, (((OnlyAt.refl R w).setCell 2 _).drewN _).setCell 1 _⟩
  have h1 := heap_setCell_same w R 2 _ _ (.int .i64 (-1)) HB.out
  exact (heap_setCell_same (World.drewN (w.setCell ⟨R, 2, none⟩ (.int .i64 (-1))) _) R 1 _ _ _ h1).trans rfl

set_option maxRecDepth 100000 in
theorem readByte_end (R : Nat) (co : Option Addr) (n cap : Nat) (eof : Addr) (w : World) (_hn : n ≤ 9223372036854775807) (hr : Rd R (.slice co n cap) n w)
    (he : w.cell? ⟨0, 0, none⟩ = some (.iface 74 (.pointer (some eof)))) (_hne : 0 ≠ R) :
    Calls Tryd.prog 36 #[.pointer (some ⟨R, 0, none⟩)] w fun e w' => e = .returned (.tuple #[.int .u8 0, .iface 74 (.pointer (some eof))]) ∧ Rd R (.slice co n cap) n w' ∧ OnlyAt R w w' := by
  obtain ⟨p, hb⟩ := hr
  have g0 : w.cell? ⟨R, 0, none⟩ = some (.slice co n cap) := by rw [cell_of_row w R _ _ _ _ hb]; rfl
  have g1 : w.cell? ⟨R, 1, none⟩ = some (.int .i64 n) := by rw [cell_of_row w R _ _ _ _ hb]; rfl
  have g2 : w.cell? ⟨R, 2, none⟩ = some (.int .i64 p) := by rw [cell_of_row w R _ _ _ _ hb]; rfl
  have f2 := frozen_of_row w R 2 _ _ hb
  have HB := Lib.hid hb
  clear hb
  go_enter Tryd.func36, Tryd.ntmps36
  go_wp2_with fail
  go_quiet (fail)
  go_wp2_with fail
  go_quiet (fail)
  go_wp2_with fail
  go_ret2
  refine ⟨rfl, ⟨-1, ?_⟩, (((OnlyAt.refl R w).setCell 2 _).drewN _).drewN _⟩
  have h1 := heap_setCell_same w R 2 _ _ (.int .i64 (-1)) HB.out
  exact h1

set_option maxRecDepth 100000 in
theorem len_any (R : Nat) (co : Option Addr) (n cap k : Nat) (w : World) (hn : n ≤ 9223372036854775807) (hk : k ≤ n) (hr : Rd R (.slice co n cap) k w) :
    Calls Tryd.prog 10 #[.pointer (some ⟨R, 0, none⟩)] w fun e w' => e = .returned (.int .i64 ((n - k : Nat) : Int)) ∧ ∃ m, w' = w.drewN m := by
  obtain ⟨p, hb⟩ := hr
  have g0 : w.cell? ⟨R, 0, none⟩ = some (.slice co n cap) := by rw [cell_of_row w R _ _ _ _ hb]; rfl
  have g1 : w.cell? ⟨R, 1, none⟩ = some (.int .i64 k) := by rw [cell_of_row w R _ _ _ _ hb]; rfl
  clear hb
  by_cases hlt : k < n
  · go_enter Tryd.func10, Tryd.ntmps10
    go_wp2_with fail
    go_quiet (fail)
    go_wp2_with fail
    go_quiet (fail)
    go_wp2_with fail
    go_ret
    exact ⟨ret_int (by omega), _, World.drewN_drewN ..⟩
  · have hge : n ≤ k := by omega
    go_enter Tryd.func10, Tryd.ntmps10
    go_wp2_with fail
    go_quiet (fail)
    go_wp2_with fail
    go_ret
    exact ⟨ret_int (by omega), _, rfl⟩

end Go.Proofs.YtccecngaimpejaaDoor
