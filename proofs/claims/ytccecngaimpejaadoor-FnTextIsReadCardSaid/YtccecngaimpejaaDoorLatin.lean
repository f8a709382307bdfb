/- The contract of the reference's Latin: bytes of ISO 8859-1 as UTF-8. -/
import Derived.Test.YtccecngaimpejaaDoorOpen2
import Derived.Laws.Cover4
namespace Go.Proofs.YtccecngaimpejaaDoor
open Go.RowKit Go.Lib
open Crc (W)

/-- A byte's UTF-8. -/
def enc1 (c : UInt8) : List UInt8 := if c.toNat < 128 then [c] else [UInt8.ofNat (192 + c.toNat / 64), UInt8.ofNat (128 + c.toNat % 64)]
def latin (l : List UInt8) : List UInt8 := l.flatMap enc1

theorem enc1_length (c : UInt8) : 1 ≤ (enc1 c).length ∧ (enc1 c).length ≤ 2 := by unfold enc1; split <;> simp
theorem latin_length (l : List UInt8) : (latin l).length ≤ 2 * l.length := by
  induction l with
  | nil => simp [latin]
  | cons c l ih =>
    have := enc1_length c
    simp only [latin, List.flatMap_cons, List.length_append, List.length_cons] at ih ⊢
    omega
theorem latin_snoc (l : List UInt8) (c : UInt8) : latin (l ++ [c]) = latin l ++ enc1 c := by simp [latin]
theorem latin_ascii (l : List UInt8) (h : ∀ c ∈ l, c.toNat < 128) : latin l = l := by
  induction l with
  | nil => rfl
  | cons c l ih =>
    have h1 : enc1 c = [c] := by unfold enc1; rw [if_pos (h c List.mem_cons_self)]
    show enc1 c ++ latin l = c :: l
    rw [h1, ih (fun x hx => h x (List.mem_cons_of_mem _ hx))]; rfl

theorem reads1 (w : World) (T : TypeId) (x : UInt8) : Reads (w.alloc (.cells #[.int .u8 (bnum x)] T)) (some ⟨w.heap.size, 0, none⟩) [x] :=
  Or.inr ⟨w.heap.size, 0, rfl, fun i hi => by
    have h0 : i = 0 := by simp at hi; omega
    subst h0
    rw [cell_of_row _ _ _ _ _ _ (heap_alloc_new w _)]
    rfl⟩
theorem reads2 (w : World) (T : TypeId) (x y : UInt8) : Reads (w.alloc (.cells #[.int .u8 (bnum x), .int .u8 (bnum y)] T)) (some ⟨w.heap.size, 0, none⟩) [x, y] :=
  Or.inr ⟨w.heap.size, 0, rfl, fun i hi => by
    rw [cell_of_row _ _ _ _ _ _ (heap_alloc_new w _)]
    have h0 : i = 0 ∨ i = 1 := by simp at hi; omega
    rcases h0 with rfl | rfl <;> rfl⟩

def hi1 (x : UInt8) : UInt8 := UInt8.ofNat (192 + x.toNat / 64)
def lo1 (x : UInt8) : UInt8 := UInt8.ofNat (128 + x.toNat % 64)
theorem bnum_hi1 (x : UInt8) : bnum (hi1 x) = 192 + bnum x / 64 := by
  have := x.toNat_lt
  unfold bnum hi1
  rw [UInt8.toNat_ofNat']; omega
theorem bnum_lo1 (x : UInt8) : bnum (lo1 x) = 128 + bnum x % 64 := by
  unfold bnum lo1
  rw [UInt8.toNat_ofNat']; omega
theorem reads_pair (w : World) (T : TypeId) (x : UInt8) : Reads (w.alloc (.cells #[.int .u8 (192 + bnum x / 64), .int .u8 (128 + bnum x % 64)] T)) (some ⟨w.heap.size, 0, none⟩) [hi1 x, lo1 x] := by
  rw [← bnum_hi1, ← bnum_lo1]; exact reads2 w T _ _
theorem enc1_low {x : UInt8} (h : bnum x < 128) : enc1 x = [x] := by
  unfold enc1 bnum at *
  rw [if_pos (by omega)]
theorem enc1_high {x : UInt8} (h : ¬ bnum x < 128) : enc1 x = [hi1 x, lo1 x] := by
  unfold enc1 bnum at *
  rw [if_neg (by omega)]; rfl

/-- Bytes turned into a string. -/
theorem bytes_string (ao : Option Addr) (n cap : Nat) (l : List UInt8) (w : World) (hn : l.length = n) (hr : Reads w ao l) :
    (convert 22 9 (.slice ao n cap)).run Tryd.prog w = .ok (.string ⟨l.toArray⟩) w := by
  rw [run_convert_bytes_string w _ _ _ _ _ _ Tryd.underlying22 Tryd.underlying5 Tryd.underlying9]
  cases ao with
  | none =>
    have hl0 : l = [] := by
      rcases hr with hr | ⟨b, off, he, _⟩
      · exact hr
      · cases he
    subst hl0
    rfl
  | some a =>
    have hload : (loadCells a n).run Tryd.prog w = .ok ((l.map bnum).map (Value.int .u8)).toArray w := by
      have h := run_loadCells_list (P := Tryd.prog) w a (vals l) (fun j v hv => by
        have hlt : j < l.length := by
          rcases Nat.lt_or_ge j l.length with h | h
          · exact h
          · rw [List.getElem?_eq_none (by rw [vals_length]; exact h)] at hv; cases hv
        rw [vals_get l j hlt] at hv
        obtain rfl := Option.some.inj hv
        rcases hr with hr | ⟨b, off, he, hc⟩
        · rw [hr] at hlt; simp at hlt
        · obtain rfl := Option.some.inj he
          have hadd : (⟨b, off, none⟩ : Addr).add j = ⟨b, off + j, none⟩ := by unfold Addr.add; split <;> simp_all
          rw [hadd]; exact hc j hlt)
      rw [vals_length, hn] at h
      rw [h]
      simp [vals]
    rw [run_bytesToString w a n cap (l.map bnum) hload]
    have hfold : ∀ (m : List UInt8) (s : ByteArray), (m.map bnum).foldl (fun r n => r.push (UInt8.ofNat n.toNat)) s = ⟨s.data ++ m.toArray⟩ := by
      intro m
      induction m with
      | nil => intro s; simp
      | cons c m ih =>
        intro s
        simp only [List.map_cons, List.foldl_cons]
        rw [ih]
        have hb : UInt8.ofNat (bnum c).toNat = c := by unfold bnum; simp
        rw [hb]
        show ByteArray.mk ((s.push c).data ++ m.toArray) = _
        have : (s.push c).data = s.data.push c := rfl
        rw [this]
        simp
    rw [hfold]
    simp

set_option maxRecDepth 100000 in
theorem latin_any (ao : Option Addr) (n cap : Nat) (l : List UInt8) (w : World) (hn : l.length = n) (hl : n ≤ 2147483647) (hr : Reads w ao l) :
    Calls Tryd.prog 5 #[.slice ao n cap] w fun e w' => e = .returned (.string ⟨(latin l).toArray⟩) ∧ Below w.heap.size w w' := by
  have HN := Lib.hid hn
  have HR := Lib.hid hr
  clear hn hr
  go_enter Tryd.func5, Tryd.ntmps5
  go_wp2_with fail
  go_loopw [3, 8] (fun v i wr => ∃ k : Nat, k ≤ n ∧ i = .int .i64 k ∧ wr.ownsRow w.heap.size 5 1 v (latin (l.take k)).length (vals (latin (l.take k))) ∧ Below w.heap.size w wr) (fun _ i _ => n - (intOf i).toNat)
  case atStart => exact ⟨0, by omega, rfl, World.ownsRow_nil _ _ _ _, Below.refl _ _⟩
  case round =>
    obtain ⟨k, hk, rfl, hown, hb⟩ := hrel
    have HO := Lib.hid hown
    have HB := Lib.hid hb
    clear hown hb
    by_cases hlt : k < n
    · obtain ⟨b, off, rfl, hc⟩ : ∃ b off, ao = some ⟨b, off, none⟩ ∧ wr.cell? ⟨b, off + k, none⟩ = some (.int .u8 (bnum (l.getD k 0))) := by
        rcases HR.out.keep HB.out with h | ⟨b, off, he, hc⟩
        · have := HN.out; rw [h] at this; simp at this; omega
        · exact ⟨b, off, he, hc k (by rw [HN.out]; exact hlt)⟩
      have hts := take_snoc (l := l) (k := k) (by rw [HN.out]; exact hlt)
      obtain ⟨x, hx⟩ : ∃ x, x = l.getD k 0 := ⟨_, rfl⟩
      rw [← hx] at hc hts
      have HT := Lib.hid hts
      have HL := Lib.hid (latin_length (l.take k))
      obtain ⟨m, hm⟩ : ∃ m, m = (latin (l.take k)).length := ⟨_, rfl⟩
      rw [← hm] at HO HL
      have HM := Lib.hid hm
      have hlk : (l.take k).length ≤ k := List.length_take_le _ _
      have HK := Lib.hid hlk
      clear hts hx hm hlk
      have hx0 := bnum_lt x
      by_cases h128 : bnum x < 128
      · go_wp2_with (at_builtin; refine wpList_append_bytes rfl (.tmp 14) (.tmp 16) rfl w.heap.size _ m (latin (l.take k)) rfl (HO.out.alloc _) (some ⟨wr.heap.size, 0, none⟩) 1 1 [x] rfl rfl (reads1 wr _ x) (fun h => by cases h) (by have h1 := HL.out; have h2 := HK.out; omega) (by have := HB.out.size; simp; omega) ?_)
        intro v1 w1 hown1 hgrow1
        have HB1 := Lib.hid ((HB.out.alloc HB.out.size _).grown hgrow1 (by have := HB.out.size; simp; omega) (fun k hk => (HO.out.lt k hk).1))
        have hown2 : w1.ownsRow w.heap.size 5 1 v1 (latin (l.take (k + 1))).length (vals (latin (l.take (k + 1)))) := by
          rw [HT.out, latin_snoc, enc1_low h128, List.length_append, ← HM.out]; exact hown1
        have HO1 := Lib.hid hown2
        clear hown1 hgrow1 hown2 hc
        go_wp2_with fail
        go_roundw
        case rel => exact ⟨k + 1, by omega, by go_num, HO1.out, HB1.out⟩
        case measure => simp [intOf]; omega
      · have henc := Lib.hid (enc1_high h128)
        go_wp2_with (at_builtin; refine wpList_append_bytes rfl (.tmp 18) (.tmp 25) rfl w.heap.size _ m (latin (l.take k)) rfl (HO.out.alloc _) (some ⟨wr.heap.size, 0, none⟩) 2 2 [hi1 x, lo1 x] rfl rfl (reads_pair wr _ x) (fun h => by cases h) (by have h1 := HL.out; have h2 := HK.out; omega) (by have := HB.out.size; simp; omega) ?_)
        intro v1 w1 hown1 hgrow1
        have HB1 := Lib.hid ((HB.out.alloc HB.out.size _).grown hgrow1 (by have := HB.out.size; simp; omega) (fun k hk => (HO.out.lt k hk).1))
        have hown2 : w1.ownsRow w.heap.size 5 1 v1 (latin (l.take (k + 1))).length (vals (latin (l.take (k + 1)))) := by
          rw [HT.out, latin_snoc, henc.out, List.length_append, ← HM.out]; exact hown1
        have HO1 := Lib.hid hown2
        clear hown1 hgrow1 hown2 hc
        go_wp2_with fail
        go_roundw
        case rel => exact ⟨k + 1, by omega, by go_num, HO1.out, HB1.out⟩
        case measure => simp [intOf]; omega
    · obtain rfl : k = n := by omega
      obtain ⟨co, cap3, hv, hlen, hread, _, _, _⟩ := owns_reads HO.out
      rw [← HN.out, List.take_length] at hlen hread hv
      have hcv := bytes_string co _ cap3 (latin l) wr rfl hread
      rw [hv]
      clear hv hlen hread HO
      go_wp2_with fail
      go_ret
      exact ⟨rfl, HB.out⟩

end Go.Proofs.YtccecngaimpejaaDoor
