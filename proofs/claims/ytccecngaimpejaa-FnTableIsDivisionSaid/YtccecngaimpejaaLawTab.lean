/- The walk of the law FnTableIsDivision: at every polynomial the table's 256 rows are the remainders, and the call returns true. No condition. -/
import Derived.Test.YtccecngaimpejaaOpen
import Derived.Deep.QuietTactic
import Derived.BigQuiet
namespace Go.Proofs.Ytccecngaimpejaa
open Go.RowKit Go.Lib
open Crc (W)

theorem info_u32 : (Try.prog.info? 22).map (fun i => (i.zero, i.size, i.bytes)) = some (some (.int .u32 0), 1, 4) := by kernel_rfl

/-- The table's words. -/
def words (p : W) : List Value := (List.range 256).map fun i => .int .u32 (num (Crc.div p (BitVec.ofNat 32 i)))
theorem words_length (p : W) : (words p).length = 256 := by simp [words]
theorem words_get (p : W) (i : Nat) (hi : i < 256) : (words p)[i]? = some (.int .u32 (num (Crc.div p (BitVec.ofNat 32 i)))) := by
  unfold words
  rw [List.getElem?_map, List.getElem?_range hi]; rfl

/-- What the thin package's Table hands back. -/
def TableOut (p : W) (w : World) (e : Ending) (w' : World) : Prop :=
  ∃ g cap, e = .returned (.slice (some ⟨g, 0, none⟩) 256 cap) ∧ (∀ i, i < 256 → w'.cell? ⟨g, i, none⟩ = some (.int .u32 (num (Crc.div p (BitVec.ofNat 32 i))))) ∧ Below w.heap.size w w'

set_option maxRecDepth 100000 in
theorem table_any (p : W) (w : World) : Calls Try.prog 11 #[.int .u32 (num p)] w (TableOut p w) := by
  obtain ⟨i0, hi, hz0, hz1, hz2⟩ := info_parts info_u32
  have HI := Lib.hid hi
  have HZ := Lib.hid (And.intro hz0 (And.intro hz1 hz2))
  clear hi hz0 hz1 hz2
  go_enter Try.func11, Try.ntmps11
  go_wp2_with fail
  refine (makeTable_any p w).mono ?_
  rintro e w1 ⟨rfl, hf, hb, hs⟩
  have HF := Lib.hid hf
  have HB := Lib.hid hb
  have HS := Lib.hid hs
  clear hf hb hs
  go_wp2_with (at_builtin; refine wpList_append_own _ rfl _ _ 23 rfl w1.heap.size 22 i0 (.int .u32 0) 1 4 Try.underlying23 HI.out HZ.out.1 HZ.out.2.1 HZ.out.2.2 rfl (by decide) (.slice none 0 0) 0 [] rfl (World.ownsRow_nil _ _ _ _) ⟨w.heap.size, 0, none⟩ 256 256 (words p) rfl ?c1 ?c2 ?c3 ?c4 ?c5 ?c6 ?_)
  case c1 => exact words_length p
  case c2 =>
    intro j u hj
    have hlt : j < 256 := by
      rcases Nat.lt_or_ge j 256 with h | h
      · exact h
      · rw [List.getElem?_eq_none (by rw [words_length]; exact h)] at hj; cases hj
    rw [words_get p j hlt] at hj
    obtain rfl := Option.some.inj hj
    have hadd : (⟨w.heap.size, 0, none⟩ : Addr).add j = ⟨w.heap.size, 0 + j, none⟩ := by unfold Addr.add; split <;> simp_all
    rw [hadd]
    exact HF.out.cell j hlt
  case c3 =>
    intro u hu
    simp only [words, List.mem_map] at hu
    obtain ⟨i, _, rfl⟩ := hu
    rfl
  case c4 => unfold maxLen; omega
  case c5 => omega
  case c6 => exact Nat.le_refl _
  intro v' w2 hown hgrow hne
  have hex : ∃ g cap, v' = .slice (some ⟨g, 0, none⟩) 256 cap ∧ ∀ i, i < 256 → w2.cell? ⟨g, i, none⟩ = some (.int .u32 (num (Crc.div p (BitVec.ofNat 32 i)))) := by
    obtain ⟨_, h | ⟨g, cap, cur, hv, _, hg, hn, _, hsz, htk⟩⟩ := hown
    · exact absurd h.1 hne
    · refine ⟨g, cap, hv, fun i hi => ?_⟩
      rw [cell_of_row w2 g i cur _ (0, 0) hg, ← words_get p i hi, ← htk, List.getElem?_take, if_pos (by omega)]
      simp
  obtain ⟨g, cap, hv, hc⟩ := hex
  have HC := Lib.hid hc
  have HG := Lib.hid hgrow
  rw [hv]
  clear hc hgrow hne hown hv
  go_wp2_with fail
  go_ret
  exact ⟨g, cap, rfl, HC.out, (HB.out.grown HG.out HB.out.size (fun k hk => by cases hk))⟩

set_option maxRecDepth 100000 in
theorem law_table (p : W) (w : World) :
    Calls Try.prog 3 #[.int .u32 (num p)] w fun e w' => e = .returned (.bool true) ∧ Below w.heap.size w w' := by
  go_enter Try.func3, Try.ntmps3
  go_wp2_with fail
  refine (table_any p w).mono ?_
  rintro e w1 ⟨g, cap, rfl, hc, hb⟩
  have HC := Lib.hid hc
  have HB := Lib.hid hb
  clear hc hb
  go_wp2_with fail
  go_loopw [9] (fun i wr => ∃ k d : Nat, k ≤ 256 ∧ i = .int .i64 k ∧ wr = w1.drewN d) (fun i _ => 256 - (intOf i).toNat)
  case atStart => exact ⟨0, 0, by omega, rfl, rfl⟩
  case round =>
    obtain ⟨k, d, hk, rfl, rfl⟩ := hrel
    by_cases hlt : k < 256
    · have hcell : (w1.drewN d).cell? ⟨g, k, none⟩ = _ := HC.out k hlt
      obtain ⟨wd, hwd⟩ : ∃ wd, wd = w1.drewN d := ⟨_, rfl⟩
      rw [← hwd] at hcell
      rw [← hwd]
      have HW := Lib.hid hwd
      clear hwd
      have hki := num_ofNat k (by omega)
      have hd : ∀ w, Calls Try.prog 12 #[.int .u32 (num p), .int .u32 (num (BitVec.ofNat 32 k))] w fun e w' => e = .returned (.int .u32 (num (Crc.div p (BitVec.ofNat 32 k)))) ∧ w' = w :=
        fun w => (divide_any p (BitVec.ofNat 32 k) w).mono fun _ _ h => ⟨h.1, h.2.symm⟩
      rw [hki] at hd
      have HD := Lib.hid hd
      clear hki hd
      go_wp2_with fail
      have hw : IntKind.u32.wrap (k : Int) = k := IntWalk.u32_in _ (by omega)
      go_quiet ((go_at_call 12; exact Calls.quiet_of_same (HD.out _)))
      clear hw
      go_wp2_with fail
      go_roundw
      case rel => exact ⟨k + 1, d + nq, by omega, by go_num, by rw [HW.out, World.drewN_drewN]⟩
      case measure => simp [intOf]; omega
    · obtain rfl : k = 256 := by omega
      go_wp2_with fail
      go_ret
      exact ⟨rfl, HB.out.os, HB.out.tape, HB.out.output, HB.out.size, HB.out.block⟩

end Go.Proofs.Ytccecngaimpejaa
