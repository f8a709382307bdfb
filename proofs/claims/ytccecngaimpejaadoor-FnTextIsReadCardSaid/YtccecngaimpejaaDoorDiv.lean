/- The contracts of the reference's functions Divide, Update and Check: they compute the division bit by bit. No condition beyond the lengths that a slice has. -/
import Derived.Test.YtccecngaimpejaaDoorProg
import Derived.Test.YtccecngaimpejaaDoorNum
import Derived.WalkKit
import Derived.WalkLawsBesides
import Derived.WalkSpells
import Derived.Outline
import Derived.Lib.Hide
namespace Go.Proofs.YtccecngaimpejaaDoor
open Go.RowKit Go.Lib
open Crc (W)

theorem divide_any (p c : W) (w : World) :
    Calls Tryd.prog 14 #[.int .u32 (num p), .int .u32 (num c)] w fun e w' => e = .returned (.int .u32 (num (Crc.div p c))) ∧ w = w' := by
  go_enter Tryd.func14, Tryd.ntmps14
  go_wp2
  go_loop [1, 5] (fun x i => ∃ k : Nat, k ≤ 8 ∧ i = .int .i64 k ∧ x = .int .u32 (num (Crc.steps p k c))) (fun _ i => 8 - (intOf i).toNat)
  case atStart => exact ⟨0, by omega, rfl, rfl⟩
  case round =>
    obtain ⟨k, hk, rfl, rfl⟩ := hrel
    by_cases hlt : k < 8
    · go_wp2
      all_goals
        go_round
        case rel => exact ⟨k + 1, by omega, by go_num, by first | rw [step_odd p _ ‹_›]; rfl | rw [step_evn p _ ‹_›]; rfl⟩
        case measure => simp [intOf]; omega
    · go_wp2
      go_ret
      obtain rfl : k = 8 := by omega
      exact ⟨rfl, rfl⟩


/-- A slice's address under which a list of bytes lies (an empty one: any address). -/
def Reads (w : World) (ao : Option Addr) (l : List UInt8) : Prop :=
  l = [] ∨ ∃ b off, ao = some ⟨b, off, none⟩ ∧ ∀ i, i < l.length → w.cell? ⟨b, off + i, none⟩ = some (.int .u8 (bnum (l.getD i 0)))

theorem take_snoc {l : List UInt8} {k : Nat} (h : k < l.length) : l.take (k + 1) = l.take k ++ [l.getD k 0] := by
  rw [List.take_succ_eq_append_getElem h, List.getD_eq_getElem?_getD, List.getElem?_eq_getElem h]; rfl

theorem update_any (p s : W) (ao : Option Addr) (n cap : Nat) (l : List UInt8) (w : World) (hn : l.length = n) (hl : n ≤ 9223372036854775807) (hr : Reads w ao l) :
    Calls Tryd.prog 12 #[.int .u32 (num p), .int .u32 (num s), .slice ao n cap] w fun e w' => e = .returned (.int .u32 (num (Crc.crc p s l))) ∧ w = w' := by
  have HN := Lib.hid hn
  clear hn
  go_enter Tryd.func12, Tryd.ntmps12
  go_wp2
  go_loop [7, 14] (fun c i => ∃ k : Nat, k ≤ n ∧ i = .int .i64 k ∧ c = .int .u32 (num (Crc.upd p (~~~ s) (l.take k)))) (fun _ i => n - (intOf i).toNat)
  case atStart => exact ⟨0, by omega, rfl, by rw [num_not']; rfl⟩
  case round =>
    obtain ⟨k, hk, rfl, rfl⟩ := hrel
    by_cases hlt : k < n
    · rcases hr with rfl | ⟨b, off, rfl, hc⟩
      · exact absurd HN.out (by simp; omega)
      have hcell := hc k (by rw [HN.out]; exact hlt)
      clear hc
      have hts := take_snoc (l := l) (k := k) (by rw [HN.out]; exact hlt)
      obtain ⟨x, hx⟩ : ∃ x, x = l.getD k 0 := ⟨_, rfl⟩
      rw [← hx] at hcell hts
      clear hx
      have HT := Lib.hid hts
      clear hts
      go_wp2_with fail
      rw [bnum_wrap, num_xor_byte]
      refine (divide_any _ _ _).mono ?_
      rintro e w' ⟨rfl, rfl⟩
      go_wp2
      go_round
      case rel => exact ⟨k + 1, by omega, by go_num, by rw [HT.out, Crc.upd_snoc]⟩
      case measure => simp [intOf]; omega
    · go_wp2
      go_ret
      obtain rfl : k = n := by omega
      rw [← HN.out, List.take_length, num_not']
      exact ⟨rfl, rfl⟩

theorem spec_check_any (ao : Option Addr) (n cap : Nat) (l : List UInt8) (w : World) (hn : l.length = n) (hl : n ≤ 9223372036854775807) (hr : Reads w ao l) :
    Calls Tryd.prog 6 #[.slice ao n cap] w fun e w' => e = .returned (.int .u32 (num (Crc.crc Crc.ieee 0#32 l))) ∧ w = w' := by
  have hu := update_any Crc.ieee 0#32 ao n cap l w hn hl hr
  rw [show num Crc.ieee = 3988292384 by decide, show num 0#32 = 0 by decide] at hu
  have HU := Lib.hid hu
  clear hu hn hl hr
  go_enter Tryd.func6, Tryd.ntmps6
  go_wp2_with fail
  refine HU.out.mono ?_
  rintro e w' ⟨rfl, rfl⟩
  go_wp2
  go_ret
  exact ⟨rfl, rfl⟩

end Go.Proofs.YtccecngaimpejaaDoor
