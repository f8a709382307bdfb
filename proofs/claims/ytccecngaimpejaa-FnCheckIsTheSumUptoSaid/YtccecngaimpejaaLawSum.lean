/- The walk of the law FnCheckIsTheSum: the check of parts is that of all their bytes; the call returns true. Condition: all parts together have at most 1048576 bytes, and there are at most so many parts. -/
import Derived.Test.YtccecngaimpejaaApp
import Derived.Test.YtccecngaimpejaaParts
namespace Go.Proofs.Ytccecngaimpejaa
open Go.RowKit Go.Lib
open Crc (W)

theorem part_le {ps : List Part} {q : Part} (h : q ∈ ps) : q.l.length ≤ (bytesOf ps).length := by
  induction ps with
  | nil => cases h
  | cons x r ih =>
    have e : bytesOf (x :: r) = x.l ++ bytesOf r := by simp [bytesOf]
    rw [e, List.length_append]
    rcases List.mem_cons.1 h with rfl | h
    · omega
    · have := ih h; omega

theorem take_le (ps : List Part) (k : Nat) : (bytesOf (ps.take k)).length ≤ (bytesOf ps).length := by
  have e : bytesOf ps = bytesOf (ps.take k) ++ bytesOf (ps.drop k) := by
    unfold bytesOf; rw [← List.flatMap_append, List.take_append_drop]
  rw [e, List.length_append]; omega

set_option maxRecDepth 100000 in
/-- No part is too long: the size test says yes. -/
theorem fits_any (ao : Option Addr) (n cap : Nat) (ps : List Part) (w : World) (hn : ps.length = n) (hl : n ≤ 1048576) (hr : ReadsParts w ao ps) (hs : ∀ q ∈ ps, q.n ≤ 1048576) :
    Calls Try.prog 17 #[.slice ao n cap] w fun e w' => e = .returned (.bool true) ∧ w = w' := by
  have HN := Lib.hid hn
  have HR := Lib.hid hr
  have HS := Lib.hid hs
  clear hn hr hs
  go_enter Try.func17, Try.ntmps17
  go_wp2_with fail
  go_loop [10] (fun i => ∃ k : Nat, k ≤ n ∧ i = .int .i64 k) (fun i => n - (intOf i).toNat)
  case atStart => exact ⟨0, by omega, rfl⟩
  case round =>
    obtain ⟨k, hk, rfl⟩ := hrel
    by_cases hlt : k < n
    · obtain ⟨q, hq⟩ : ∃ q, ps[k]? = some q := ⟨_, List.getElem?_eq_getElem (by rw [HN.out]; exact hlt)⟩
      have hmem : q ∈ ps := List.mem_of_getElem? hq
      have hqn := HS.out q hmem
      obtain ⟨qa, qn, qc, ql⟩ := q
      have hex : ∃ b off, ao = some ⟨b, off, none⟩ ∧ w.cell? ⟨b, off + k, none⟩ = some (.slice qa qn qc) := by
        rcases HR.out.2 with h | ⟨b, off, he, _, hc⟩
        · rw [h] at hmem; cases hmem
        · exact ⟨b, off, he, hc k _ hq⟩
      obtain ⟨b, off, rfl, hcell⟩ := hex
      have hqn' : qn ≤ 1048576 := hqn
      clear hq hmem hqn
      go_wp2_with fail
      go_round
      case rel => exact ⟨k + 1, by omega, by go_num⟩
      case measure => simp [intOf]; omega
    · go_wp2_with fail
      go_ret
      exact ⟨rfl, rfl⟩

set_option maxRecDepth 100000 in
theorem law_sum (ao : Option Addr) (n cap : Nat) (ps : List Part) (w : World) (hn : ps.length = n) (hl : n ≤ 1048576) (hr : ReadsParts w ao ps) (hs : (bytesOf ps).length ≤ 1048576) :
    Calls Try.prog 8 #[.slice ao n cap] w fun e w' => e = .returned (.bool true) ∧ Below w.heap.size w w' := by
  have HF := Lib.hid (fits_any ao n cap ps w hn hl hr (fun q hq => by have := part_le hq; rw [(hr.1 q hq).1] at this; omega))
  have HC := Lib.hid (fun wx (hb : Below w.heap.size w wx) => check_any ao n cap ps wx hn (by omega) (hr.keep hb))
  have HN := Lib.hid hn
  have HR := Lib.hid hr
  have HS := Lib.hid hs
  clear hn hr hs
  go_enter Try.func8, Try.ntmps8
  go_wp2_with fail
  refine HF.out.mono ?_
  rintro e w0 ⟨rfl, rfl⟩
  clear HF
  go_wp2_with fail
  go_loopw [3, 11] (fun v i wr => ∃ k : Nat, k ≤ n ∧ i = .int .i64 k ∧ wr.ownsRow w.heap.size 5 1 v (bytesOf (ps.take k)).length (vals (bytesOf (ps.take k))) ∧ Below w.heap.size w wr) (fun _ i _ => n - (intOf i).toNat)
  case atStart => exact ⟨0, by omega, rfl, World.ownsRow_nil _ _ _ _, Below.refl _ _⟩
  case round =>
    obtain ⟨k, hk, rfl, hown, hb⟩ := hrel
    have HO := Lib.hid hown
    have HB := Lib.hid hb
    clear hown hb
    by_cases hlt : k < n
    · obtain ⟨q, hq⟩ : ∃ q, ps[k]? = some q := ⟨_, List.getElem?_eq_getElem (by rw [HN.out]; exact hlt)⟩
      have hmem : q ∈ ps := List.mem_of_getElem? hq
      obtain ⟨qa, qn, qc, ql⟩ := q
      have HQ := Lib.hid hq
      have HK := Lib.hid ((HR.out.keep HB.out).1 _ hmem)
      have hex : ∃ b off, ao = some ⟨b, off, none⟩ ∧ wr.cell? ⟨b, off + k, none⟩ = some (.slice qa qn qc) := by
        rcases (HR.out.keep HB.out).2 with h | ⟨b, off, he, _, hc⟩
        · rw [h] at hmem; cases hmem
        · exact ⟨b, off, he, hc k _ hq⟩
      obtain ⟨b, off, rfl, hcell⟩ := hex
      have HT := Lib.hid (take_le ps k)
      have HP := Lib.hid (part_le hmem)
      obtain ⟨m, hm⟩ : ∃ m, m = (bytesOf (ps.take k)).length := ⟨_, rfl⟩
      have HM := Lib.hid hm
      rw [← hm] at HO
      clear hq hmem hm
      go_wp2_with (at_builtin; refine wpList_append_bytes rfl (.tmp 15) (.tmp 16) rfl w.heap.size _ m (bytesOf (ps.take k)) rfl HO.out qa qn qc ql rfl HK.out.1 HK.out.2.2.2.1 HK.out.2.2.2.2 (by have h1 := HT.out; have h2 := HP.out; have h3 := HK.out.1; have h4 := HM.out; have h5 := HS.out; simp only at h2 h3; omega) HB.out.size ?_)
      intro v' w' hown' hgrow'
      have HB' := Lib.hid (HB.out.grown hgrow' HB.out.size (fun k hk => (HO.out.lt k hk).1))
      have hlen : m + qn = (bytesOf (ps.take (k + 1))).length := by
        rw [bytesOf_snoc HQ.out, List.length_append, ← HM.out]
        have := HK.out.1; simp only at this; simp only; omega
      rw [hlen] at hown'
      have HO' := Lib.hid hown'
      clear hown' hgrow' hlen hcell
      go_wp2_with fail
      go_roundw
      case rel => exact ⟨k + 1, by omega, by go_num, by rw [bytesOf_snoc HQ.out]; have := HO'.out; rw [bytesOf_snoc HQ.out] at this; exact this, HB'.out⟩
      case measure => simp [intOf]; omega
    · obtain rfl : k = n := by omega
      obtain ⟨co, cap3, hv, hlen, hread, hcap3, hnil3, _⟩ := owns_reads HO.out
      rw [← HN.out, List.take_length] at hlen hread hv
      have hs := HS.out
      have HR3 := Lib.hid hread
      have HL3 := Lib.hid hlen
      rw [hv]
      clear hv hlen hread hnil3 HO
      go_wp2_with fail
      refine (HC.out _ HB.out).mono ?_
      rintro e w3 ⟨rfl, hb3⟩
      have HB3 := Lib.hid (HB.out.trans (hb3.mono HB.out.size))
      have HR4 := Lib.hid (HR3.out.keep hb3)
      clear hb3 HR3
      go_wp2_with fail
      refine (spec_check_any co _ cap3 (bytesOf ps) w3 rfl (by omega) HR4.out).mono ?_
      rintro e w4 ⟨rfl, rfl⟩
      have ha := check_one ⟨some ⟨w3.heap.size, 0, none⟩, 1, 1, [97]⟩ 27 (w3.alloc (.cells #[.int .u8 97] 5)) (part_a w3 5)
      simp only [num_a] at ha
      have hsz : (w3.alloc (.cells #[.int .u8 97] 5)).heap.size = w3.heap.size + 1 := by simp
      rw [hsz] at ha
      have HA := Lib.hid ha
      clear ha hsz
      go_wp2_with fail
      refine HA.out.mono ?_
      rintro e w6 ⟨rfl, hb6⟩
      have HB6 := Lib.hid hb6
      clear hb6 HA
      go_wp2_with fail
      go_ret
      exact ⟨rfl, HB3.out.trans (((Below.refl _ w3).alloc HB3.out.size _).trans (HB6.out.mono (by have := HB3.out.size; omega)))⟩

end Go.Proofs.Ytccecngaimpejaa
