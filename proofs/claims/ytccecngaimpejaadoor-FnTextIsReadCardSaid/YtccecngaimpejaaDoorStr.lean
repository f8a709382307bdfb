/- The contract of readString: a text of a header, up to its byte 0. -/
import Derived.Test.YtccecngaimpejaaDoorLatin
import Derived.Deep.RegionWith
import Derived.Deep.Cut
import Derived.Deep.DeepCutAuto
namespace Go.Proofs.YtccecngaimpejaaDoor
open Go.RowKit Go.Lib
open Crc (W)

theorem block_of {w : World} {g : Nat} {o : Obj} (h : w.heap[g]? = some o) : g < w.heap.size := by
  rcases Nat.lt_or_ge g w.heap.size with h' | h'
  · exact h'
  · rw [Array.getElem?_eq_none h'] at h; cases h
theorem Below.undrew {B : Nat} {w w' : World} (h : Below B w.drew w') : Below B w w' := ⟨h.os, h.tape, h.output, h.size, h.block⟩

/-- Of what was there nothing but blocks R and Z has turned. -/
structure Keep2 (R Z : Nat) (w w' : World) : Prop where
  os : w'.os = w.os
  tape : w'.tape = w.tape
  output : w'.output = w.output
  size : w.heap.size ≤ w'.heap.size
  block : ∀ k, k < w.heap.size → k ≠ R → k ≠ Z → w'.heap[k]? = w.heap[k]?

theorem Keep2.refl (R Z : Nat) (w : World) : Keep2 R Z w w := ⟨rfl, rfl, rfl, Nat.le_refl _, fun _ _ _ _ => rfl⟩
theorem Keep2.trans {R Z : Nat} {a b c : World} (h : Keep2 R Z a b) (k : Keep2 R Z b c) : Keep2 R Z a c :=
  ⟨k.os.trans h.os, k.tape.trans h.tape, k.output.trans h.output, Nat.le_trans h.size k.size, fun i hi h1 h2 => (k.block i (Nat.lt_of_lt_of_le hi h.size) h1 h2).trans (h.block i hi h1 h2)⟩
theorem Keep2.ofOnlyR {R Z : Nat} {w w' : World} (h : OnlyAt R w w') : Keep2 R Z w w' := ⟨h.os, h.tape, h.output, by rw [h.size]; exact Nat.le_refl _, fun k _ h1 _ => h.block k h1⟩
theorem Keep2.ofOnlyZ {R Z : Nat} {w w' : World} (h : OnlyAt Z w w') : Keep2 R Z w w' := ⟨h.os, h.tape, h.output, by rw [h.size]; exact Nat.le_refl _, fun k _ _ h2 => h.block k h2⟩
theorem Keep2.ofBelow {R Z : Nat} {w w' : World} (h : Below w.heap.size w w') : Keep2 R Z w w' := ⟨h.os, h.tape, h.output, h.size, fun k hk _ _ => h.block k hk⟩
theorem Keep2.cell {R Z : Nat} {w w' : World} (h : Keep2 R Z w w') {p : Addr} (hp : p.block < w.heap.size) (h1 : p.block ≠ R) (h2 : p.block ≠ Z) : w'.cell? p = w.cell? p := World.cell?_of_block (w := w) (h.block p.block hp h1 h2)

/-- Block Z is a gzip Reader over the bytes Reader of block R, with this digest and the first k bytes in its buffer. -/
def Zb (R Z : Nat) (l : List UInt8) (k : Nat) (dg : W) (w : World) : Prop :=
  ∃ cs : Array Value, w.heap[Z]? = some (.cells cs 54 (0, 0)) ∧ cs.size = 524 ∧ cs[6]? = some (.iface 29 (.pointer (some ⟨R, 0, none⟩))) ∧ cs[8]? = some (.int .u32 (num dg)) ∧
    ∀ j, j < k → cs[10 + j]? = some (.int .u8 (bnum (l.getD j 0)))

theorem Zb.keep {R Z : Nat} {l : List UInt8} {k : Nat} {dg : W} {w w' : World} (h : Zb R Z l k dg w) (hb : w'.heap[Z]? = w.heap[Z]?) : Zb R Z l k dg w' := by
  obtain ⟨cs, h1, h2⟩ := h
  exact ⟨cs, hb.trans h1, h2⟩

theorem Zb.store {R Z : Nat} {l : List UInt8} {k : Nat} {dg : W} {w : World} (h : Zb R Z l k dg w) (hk : k < 512) (x : UInt8) (hx : x = l.getD k 0) :
    Zb R Z l (k + 1) dg (w.setCell ⟨Z, 10 + k, none⟩ (.int .u8 (bnum x))) := by
  obtain ⟨cs, zh, zs, z6, z8, zl⟩ := h
  refine ⟨_, heap_setCell_same w Z (10 + k) cs _ _ zh, by simp [zs], ?_, ?_, fun j hj => ?_⟩
  · rw [Array.getElem?_setIfInBounds, if_neg (by omega)]; exact z6
  · rw [Array.getElem?_setIfInBounds, if_neg (by omega)]; exact z8
  · rw [Array.getElem?_setIfInBounds]
    by_cases e : j = k
    · subst e; subst hx; simp; omega
    · rw [if_neg (by omega)]; exact zl j (by omega)

/-- A store behind the first k bytes leaves them. -/
theorem Zb.put {R Z : Nat} {l : List UInt8} {k : Nat} {dg : W} {w : World} (h : Zb R Z l k dg w) (_hk : k < 512) (u : Value) :
    Zb R Z l k dg (w.setCell ⟨Z, 10 + k, none⟩ u) := by
  obtain ⟨cs, zh, zs, z6, z8, zl⟩ := h
  refine ⟨_, heap_setCell_same w Z (10 + k) cs _ _ zh, by simp [zs], ?_, ?_, fun j hj => ?_⟩
  · rw [Array.getElem?_setIfInBounds, if_neg (by omega)]; exact z6
  · rw [Array.getElem?_setIfInBounds, if_neg (by omega)]; exact z8
  · rw [Array.getElem?_setIfInBounds, if_neg (by omega)]; exact zl j hj

theorem Rd.keep {R : Nat} {v : Value} {k : Nat} {w w' : World} (h : Rd R v k w) (hb : w'.heap[R]? = w.heap[R]?) : Rd R v k w' := by
  obtain ⟨p, h⟩ := h
  exact ⟨p, hb.trans h⟩

/-- One byte read and stored: what the round leaves. -/
theorem round_keeps {R Z : Nat} {v : Value} {l : List UInt8} {k : Nat} {w0 w w1 : World} {x : UInt8} (hRZ : R ≠ Z) (hk : Keep2 R Z w0 w) (hz : Zb R Z l k 0#32 w) (hr : Rd R v (k + 1) w1) (ho : OnlyAt R w.drew w1) (hk5 : k < 512) (hx : x = l.getD k 0) :
    Rd R v (k + 1) (w1.setCell ⟨Z, 10 + k, none⟩ (.int .u8 (bnum x))) ∧ Zb R Z l (k + 1) 0#32 (w1.setCell ⟨Z, 10 + k, none⟩ (.int .u8 (bnum x))) ∧ Keep2 R Z w0 (w1.setCell ⟨Z, 10 + k, none⟩ (.int .u8 (bnum x))) := by
  have hz1 : Zb R Z l k 0#32 w1 := hz.keep (ho.block Z (fun h => hRZ h.symm))
  refine ⟨hr.keep (Below.heap_setCell _ _ _ _ hRZ), hz1.store hk5 x hx, ?_⟩
  have h1 : Keep2 R Z w w1 := ⟨ho.os, ho.tape, ho.output, by rw [ho.size]; exact Nat.le_refl _, fun j _ h1 _ => ho.block j h1⟩
  exact (hk.trans h1).trans (Keep2.ofOnlyZ ((OnlyAt.refl Z w1).setCell _ _))

theorem any_snoc {l : List UInt8} {k : Nat} (h : k < l.length) {x : UInt8} (hx : x = l.getD k 0) : ((l.take (k + 1)).any fun x => decide (127 < bnum x)) = (((l.take k).any fun x => decide (127 < bnum x)) || decide (127 < bnum x)) := by
  rw [take_snoc h, ← hx, List.any_append]; simp

/-- What the last statement leaves behind the digest's store. -/
theorem final_keeps {R Z : Nat} {v : Value} {l : List UInt8} {k : Nat} {dg : W} {w0 w2 w3 w4 : World} {cs2 : Array Value} (hRZ : R ≠ Z)
    (h : Rd R v (k + 1) w2 ∧ w2.heap[Z]? = some (.cells cs2 54 (0, 0)) ∧ cs2.size = 524 ∧ cs2[6]? = some (.iface 29 (.pointer (some ⟨R, 0, none⟩))) ∧ (∀ j, j < k + 1 → cs2[10 + j]? = some (.int .u8 (bnum (l.getD j 0)))) ∧ Keep2 R Z w0 w2)
    (hb : Below w2.heap.size w2 w3) (hZ : Z < w2.heap.size) (hw : w4 = w3.setCell ⟨Z, 8, none⟩ (.int .u32 (num dg))) :
    Rd R v (k + 1) w4 ∧ Zb R Z l (k + 1) dg w4 ∧ Keep2 R Z w0 w4 := by
  obtain ⟨hr, zh, zs, z6, zl, hk⟩ := h
  subst hw
  have hRlt : R < w2.heap.size := by obtain ⟨p, hr⟩ := hr; exact block_of hr
  refine ⟨(hr.keep (hb.block R hRlt)).keep (Below.heap_setCell _ _ _ _ hRZ), ⟨_, heap_setCell_same w3 Z 8 cs2 _ _ ((hb.block Z hZ).trans zh), by simp [zs], ?_, ?_, fun j hj => ?_⟩, ?_⟩
  · rw [Array.getElem?_setIfInBounds, if_neg (by omega)]; exact z6
  · rw [Array.getElem?_setIfInBounds, if_pos rfl, if_pos (by omega)]
  · rw [Array.getElem?_setIfInBounds, if_neg (by omega)]; exact zl j hj
  · exact (hk.trans (Keep2.ofBelow hb)).trans (Keep2.ofOnlyZ ((OnlyAt.refl Z w3).setCell _ _))

/-- The buffer as a slice that is read. -/
theorem Zb.reads {R Z : Nat} {l : List UInt8} {k m : Nat} {dg : W} {w : World} (h : Zb R Z l k dg w) (hm : m ≤ k) : Reads w (some ⟨Z, 10, none⟩) (l.take m) := by
  obtain ⟨cs, zh, zs, _, _, zl⟩ := h
  refine Or.inr ⟨Z, 10, rfl, fun i hi => ?_⟩
  rw [List.length_take] at hi
  rw [cell_of_row w Z _ _ _ _ zh, zl i (by omega), List.getD_eq_getElem?_getD, List.getD_eq_getElem?_getD, List.getElem?_take, if_pos (by omega)]

theorem Zb.cellAt {R Z : Nat} {l : List UInt8} {k : Nat} {dg : W} {w : World} (h : Zb R Z l k dg w) (j : Nat) (hj : j < k) : w.cell? ⟨Z, 10 + j, none⟩ = some (.int .u8 (bnum (l.getD j 0))) := by
  obtain ⟨cs, zh, _, _, _, zl⟩ := h
  rw [cell_of_row w Z _ _ _ _ zh]; exact zl j hj

theorem ascii_of {l : List UInt8} (h : (l.any fun x => decide (127 < bnum x)) = false) : ∀ c ∈ l, c.toNat < 128 := by
  intro c hc
  have := List.any_eq_false.1 h c hc
  unfold bnum at this
  simp at this
  omega

theorem info_i32 : (Tryd.prog.info? 21).map (fun i => (i.zero, i.size, i.bytes)) = some (some (.int .i32 0), 1, 4) := by kernel_rfl

/-- Bytes as runes' cells. -/
def rvals (l : List UInt8) : List Value := l.map fun b => .int .i32 (bnum b)
theorem rvals_length (l : List UInt8) : (rvals l).length = l.length := by simp [rvals]

theorem rvals_snoc (l : List UInt8) (y : UInt8) : rvals (l ++ [y]) = rvals l ++ [.int .i32 (bnum y)] := by simp [rvals]

theorem encode_byte (c : UInt8) : Utf8.encode (bnum c) = ⟨(enc1 c).toArray⟩ := by
  have hb := bnum_lt c
  have hv : Utf8.valid (bnum c) = true := by
    rw [validRune_eq]
    unfold validRune
    exact decide_eq_true (Or.inl (by omega))
  have hn : (bnum c).toNat = c.toNat := by unfold bnum; simp
  have hc := c.toNat_lt
  unfold Utf8.encode enc1
  rw [hv, hn]
  by_cases h : c.toNat < 128
  · simp [h]
  · simp [h, show c.toNat < 2048 by omega]

theorem runes_bytes (l : List UInt8) : runesBytes (l.map bnum) = ⟨(latin l).toArray⟩ := by
  have hf : ∀ (m : List UInt8) (s : ByteArray), (m.map bnum).foldl (fun r n => r ++ Utf8.encode n) s = ⟨s.data ++ (latin m).toArray⟩ := by
    intro m
    induction m with
    | nil => intro s; simp [latin]
    | cons c m ih =>
      intro s
      simp only [List.map_cons, List.foldl_cons]
      rw [ih, encode_byte]
      have e : (s ++ (⟨(enc1 c).toArray⟩ : ByteArray)).data = s.data ++ (enc1 c).toArray := by simp
      rw [e]
      simp [latin]
  unfold runesBytes
  rw [hf]
  simp

/-- Owned runes turned into a string. -/
theorem runes_string {w : World} {base : Nat} {v : Value} {n : Nat} {l : List UInt8} (h : w.ownsRow base 21 1 v n (rvals l)) (hl : l.length = n) (hp : 0 < l.length) :
    ∃ g cp, v = .slice (some ⟨g, 0, none⟩) n cp ∧ (convert 63 9 (.slice (some ⟨g, 0, none⟩) n cp)).run Tryd.prog w = .ok (.string ⟨(latin l).toArray⟩) w := by
  obtain ⟨_, h | ⟨g, cp, cur, hv, _, hh, hn, _, hsz, htk⟩⟩ := h
  · have := h.2; omega
  · refine ⟨g, cp, hv, ?_⟩
    have hr := run_convert_runes (P := Tryd.prog) w 63 9 21 ⟨g, 0, none⟩ n cp (l.map bnum) (by rw [List.length_map]; omega) Tryd.underlying63 Tryd.underlying21 Tryd.underlying9 (fun j hj => by
      rw [List.length_map] at hj
      have hadd : (⟨g, 0, none⟩ : Addr).add j = ⟨g, 0 + j, none⟩ := by unfold Addr.add; split <;> simp_all
      rw [hadd, Nat.zero_add, cell_of_row w g j cur _ (0, 0) hh]
      have h1 : (rvals l)[j]? = some (.int .i32 ((l.map bnum).getD j 0)) := by
        unfold rvals
        rw [List.getElem?_map, List.getD_eq_getElem?_getD, List.getElem?_map, List.getElem?_eq_getElem hj]; rfl
      rw [← h1, ← htk, List.getElem?_take, if_pos (by omega)]
      simp)
    rw [hr, ← hl, ← List.length_map (f := bnum), List.take_length, runes_bytes]

theorem pos_of {l : List UInt8} (h : (l.any fun x => decide (127 < bnum x)) = true) : 0 < l.length := by
  cases l with
  | nil => cases h
  | cons c l => simp

theorem final_later {R Z : Nat} {v : Value} {l : List UInt8} {k : Nat} {dg : W} {w0 w4 w5 : World} (h : Rd R v k w4 ∧ Zb R Z l k dg w4 ∧ Keep2 R Z w0 w4) (hb : Below w4.heap.size w4 w5) :
    Rd R v k w5 ∧ Zb R Z l k dg w5 ∧ Keep2 R Z w0 w5 := by
  obtain ⟨hr, hz, hk⟩ := h
  have hR : R < w4.heap.size := by obtain ⟨p, hr⟩ := hr; exact block_of hr
  have hZ : Z < w4.heap.size := by obtain ⟨cs, hz, _⟩ := hz; exact block_of hz
  exact ⟨hr.keep (hb.block R hR), hz.keep (hb.block Z hZ), hk.trans (Keep2.ofBelow hb)⟩

theorem nil_ahead (a : Addr) (w : World) : (nilAhead 157 29 (.pointer (some a)) "ReadByte").run Tryd.prog w = .ok (some false) w := by kernel_rfl

theorem method_read (a : Addr) (w : World) : (method 204 29 (.pointer (some a)) "ReadByte").run Tryd.prog w = .ok (36, .pointer (some a)) w := by kernel_rfl

theorem OnlyAt.cell_other {B : Nat} {a w : World} (h : OnlyAt B a w) {Z o : Nat} {v : Value} (hne : Z ≠ B) (hc : a.cell? ⟨Z, o, none⟩ = some v) : w.cell? ⟨Z, o, none⟩ = some v :=
  (World.cell?_of_block (w := a) (h.block Z hne)).trans hc
theorem OnlyAt.free_other {B : Nat} {a w : World} (h : OnlyAt B a w) {Z o : Nat} (hne : Z ≠ B) (hc : a.frozen? ⟨Z, o, none⟩ = false) : w.frozen? ⟨Z, o, none⟩ = false :=
  (World.frozen?_of_block (w := a) (h.block Z hne)).trans hc

set_option maxRecDepth 100000 in
set_option maxHeartbeats 2000000 in
theorem text_any (R Z b off n cap m : Nat) (l : List UInt8) (w : World) (hn : l.length = n) (hl : n ≤ 2147483647) (hm : m < n) (hm5 : m < 512)
    (hz : ∀ j, j < m → l.getD j 0 ≠ 0) (hz0 : l.getD m 0 = 0)
    (hr : Rd R (.slice (some ⟨b, off, none⟩) n cap) 0 w) (hd : ∀ i, i < n → w.cell? ⟨b, off + i, none⟩ = some (.int .u8 (bnum (l.getD i 0)))) (hzb : Zb R Z l 0 0#32 w) (hbR : b ≠ R) (hbZ : b ≠ Z) (hRZ : R ≠ Z) :
    Calls Tryd.prog 13 #[.pointer (some ⟨Z, 0, none⟩)] w fun e w' => e = .returned (.tuple #[.string ⟨(latin (l.take m)).toArray⟩, .nilIface]) ∧
      Rd R (.slice (some ⟨b, off, none⟩) n cap) (m + 1) w' ∧ Zb R Z l (m + 1) (Crc.crc Crc.ieee 0#32 (l.take (m + 1))) w' ∧ Keep2 R Z w w' := by
  have HN := Lib.hid hn
  have HZ := Lib.hid hz
  have HZ0 := Lib.hid hz0
  have HR := Lib.hid hr
  have HD := Lib.hid hd
  have HZB := Lib.hid hzb
  clear hn hz hz0 hr hd hzb
  go_enter Tryd.func13, Tryd.ntmps13
  go_wp2_with fail
  go_loopw [5, 6] (fun c i wr => ∃ k : Nat, k ≤ m ∧ i = .int .i64 k ∧ c = .bool ((l.take k).any fun x => decide (127 < bnum x)) ∧ Rd R (.slice (some ⟨b, off, none⟩) n cap) k wr ∧ Zb R Z l k 0#32 wr ∧ Keep2 R Z w wr) (fun _ i _ => m + 1 - (intOf i).toNat)
  case atStart => exact ⟨0, by omega, rfl, rfl, HR.out, HZB.out, Keep2.refl _ _ _⟩
  case round =>
    obtain ⟨k, hk, rfl, rfl, hrd, hzb, hkeep⟩ := hrel
    obtain ⟨cs, zh, zs, z6, z8, zl⟩ := hzb
    have HRD := Lib.hid hrd
    have HK := Lib.hid hkeep
    have ZH := Lib.hid zh
    have ZL := Lib.hid zl
    have zc6 : wr.cell? ⟨Z, 6, none⟩ = some (.iface 29 (.pointer (some ⟨R, 0, none⟩))) := by rw [cell_of_row wr Z _ _ _ _ zh]; exact z6
    clear hrd hkeep zh zl
    by_cases hlt : k < m
    · obtain ⟨x, hx⟩ : ∃ x, x = l.getD k 0 := ⟨_, rfl⟩
      have hd := HD.out k (by omega)
      rw [← hx] at hd
      have HX := Lib.hid hx
      clear hx
      have HCALL := Lib.hid (fun w2 (h : Rd R (.slice (some ⟨b, off, none⟩) n cap) k w2) (hc : w2.cell? ⟨b, off + k, none⟩ = some (.int .u8 (bnum x))) => readByte_some R b off n cap k x w2 (by omega) (by omega) h hc hbR)
      have hna := method_read
      have hZR : Z ≠ R := fun h => hRZ h.symm
      have hcw : wr.cell? ⟨b, off + k, none⟩ = some (.int .u8 (bnum x)) := (HK.out.cell (p := ⟨b, off + k, none⟩) (block_lt_of_cell hd) hbR hbZ).trans hd
      have HCW := Lib.hid hcw
      have hzk : ∃ v, wr.cell? ⟨Z, 10 + k, none⟩ = some v := by rw [cell_of_row wr Z _ _ _ _ ZH.out]; exact ⟨_, Array.getElem?_eq_getElem (by omega)⟩
      obtain ⟨vk, hvk⟩ := hzk
      have fk := frozen_of_row wr Z (10 + k) _ _ ZH.out
      clear hd hcw
      go_wp2_with fail
      go_region_with (go_at_call 36; refine (HCALL.out _ (by exact HRD.out) (by exact HCW.out)).mono ?_; rintro e w1 ⟨rfl, hrd1, hon1⟩; have hvk1 := hon1.cell_other hZR (by exact hvk); have fk1 := hon1.free_other hZR (by exact fk))
      have hx0 : (bnum x == 0) = false := by
        rw [beq_eq_false_iff_ne]
        intro h
        refine HZ.out k hlt ?_
        rw [← HX.out]
        apply UInt8.toNat_inj.1
        rw [UInt8.toNat_zero]
        unfold bnum at h; omega
      have hb := bnum_lt x
      by_cases h127 : 127 < bnum x
      · go_wp2_with fail
        have hall := round_keeps hRZ HK.out ⟨cs, ZH.out, zs, z6, z8, ZL.out⟩ hrd1 hon1 (by omega) HX.out
        go_roundw
        case rel => exact ⟨k + 1, by omega, by go_num, by rw [any_snoc (by rw [HN.out]; omega) HX.out, decide_eq_true h127, Bool.or_true], hall⟩
        case measure => simp [intOf]; omega
      · go_wp2_with fail
        have hall := round_keeps hRZ HK.out ⟨cs, ZH.out, zs, z6, z8, ZL.out⟩ hrd1 hon1 (by omega) HX.out
        go_roundw
        case rel => exact ⟨k + 1, by omega, by go_num, by rw [any_snoc (by rw [HN.out]; omega) HX.out, decide_eq_false h127, Bool.or_false], hall⟩
        case measure => simp [intOf]; omega
    · obtain rfl : k = m := by omega
      obtain ⟨x, hx⟩ : ∃ x, x = l.getD k 0 := ⟨_, rfl⟩
      have hd := HD.out k (by omega)
      rw [← hx] at hd
      have HX := Lib.hid hx
      have hx0 : (bnum x == 0) = true := by rw [hx, HZ0.out]; decide
      have h127 : ¬ 127 < bnum x := by rw [hx, HZ0.out]; decide
      have hb := bnum_lt x
      clear hx
      have HCALL := Lib.hid (fun w2 (h : Rd R (.slice (some ⟨b, off, none⟩) n cap) k w2) (hc : w2.cell? ⟨b, off + k, none⟩ = some (.int .u8 (bnum x))) => readByte_some R b off n cap k x w2 (by omega) (by omega) h hc hbR)
      have hna := method_read
      have hZR : Z ≠ R := fun h => hRZ h.symm
      have hcw : wr.cell? ⟨b, off + k, none⟩ = some (.int .u8 (bnum x)) := (HK.out.cell (p := ⟨b, off + k, none⟩) (block_lt_of_cell hd) hbR hbZ).trans hd
      have HCW := Lib.hid hcw
      have hzk : ∃ v, wr.cell? ⟨Z, 10 + k, none⟩ = some v := by rw [cell_of_row wr Z _ _ _ _ ZH.out]; exact ⟨_, Array.getElem?_eq_getElem (by omega)⟩
      obtain ⟨vk, hvk⟩ := hzk
      have fk := frozen_of_row wr Z (10 + k) _ _ ZH.out
      clear hd hcw
      go_wp2_with fail
      go_region_with (go_at_call 36; refine (HCALL.out _ (by exact HRD.out) (by exact HCW.out)).mono ?_; rintro e w1 ⟨rfl, hrd1, hon1⟩; have hvk1 := hon1.cell_other hZR (by exact hvk); have fk1 := hon1.free_other hZR (by exact fk))
      go_wp2_with fail
      have hall := round_keeps hRZ HK.out ⟨cs, ZH.out, zs, z6, z8, ZL.out⟩ hrd1 hon1 (by omega) HX.out
      clear hrd1 hon1 hvk1 fk1 hvk fk zc6 HCW HCALL HRD HK ZH ZL z6 z8 zs
      obtain ⟨w2, hw2⟩ : ∃ w2, w2 = w1.setCell ⟨Z, 10 + k, none⟩ (.int .u8 (bnum x)) := ⟨_, rfl⟩
      rw [← hw2] at hall ⊢
      clear hw2
      obtain ⟨hrd2, ⟨cs2, zh2, zs2, z62, z82, zl2⟩, hk2⟩ := hall
      have g8 : w2.cell? ⟨Z, 8, none⟩ = some (.int .u32 (num 0#32)) := by rw [cell_of_row w2 Z _ _ _ _ zh2]; exact z82
      have f8 := frozen_of_row w2 Z 8 _ _ zh2
      have hre : Reads w2 (some ⟨Z, 10, none⟩) (l.take (k + 1)) := Or.inr ⟨Z, 10, rfl, fun i hi => by
        rw [List.length_take] at hi
        rw [cell_of_row w2 Z _ _ _ _ zh2, zl2 i (by omega), List.getD_eq_getElem?_getD, List.getD_eq_getElem?_getD, List.getElem?_take, if_pos (by omega)]⟩
      have HRE := Lib.hid hre
      have HUP := Lib.hid (fun w3 (h : Reads w3 (some ⟨Z, 10, none⟩) (l.take (k + 1))) => updateIEEE_any 0#32 (some ⟨Z, 10, none⟩) (k + 1) 512 (l.take (k + 1)) w3 (by rw [List.length_take, HN.out]; omega) (by omega) (by omega) h)
      have HZ2 := Lib.hid (And.intro hrd2 (And.intro zh2 (And.intro zs2 (And.intro z62 (And.intro zl2 hk2)))))
      have HBL := Lib.hid (block_lt_of_cell g8)
      clear hre hrd2 zh2 zs2 z62 z82 zl2 hk2
      have hw1 : IntKind.i64.wrap ((k : Int) + 1) = (k : Int) + 1 := IntWalk.i64_in _ (by omega)
      have hw3 : ((k : Int) + 1).toNat = k + 1 := by omega
      have hw4 : (0 : Int) ≤ (k : Int) + 1 := by omega
      have hw5 : (k : Int) + 1 ≤ 512 := by omega
      go_region_with (go_at_call 15; refine (HUP.out _ (by exact HRE.out)).mono ?_; rintro e w3 ⟨rfl, hb3⟩; have g83 := (hb3.cell (p := ⟨Z, 8, none⟩) (by exact HBL.out)).trans (by exact g8); have f83 := (hb3.frozen (p := ⟨Z, 8, none⟩) (by exact HBL.out)).trans (by exact f8))
      obtain ⟨w4, hw4e⟩ : ∃ w4, w4 = w3.setCell ⟨Z, 8, none⟩ (.int .u32 (num (Crc.crc Crc.ieee 0#32 (l.take (k + 1))))) := ⟨_, rfl⟩
      rw [← hw4e]
      have hfin := final_keeps hRZ HZ2.out (Below.undrew hb3) HBL.out hw4e
      have hcv4 := bytes_string (some ⟨Z, 10, none⟩) k 512 (l.take k) w4 (by rw [List.length_take, HN.out]; omega) (hfin.2.1.reads (by omega))
      have HF := Lib.hid hfin
      have hk5a : (k : Int) ≤ 512 := by omega
      have hk5b : k ≤ 512 := by omega
      clear hw4e hb3 g83 f83 g8 f8 HRE HUP HZ2 HBL hw1 hw3 hw4 hw5 hfin
      cases hh : (l.take k).any fun x => decide (127 < bnum x) with
      | false =>
        go_wp2_with fail
        go_ret2
        exact ⟨by rw [latin_ascii _ (ascii_of hh)]; rfl, HF.out⟩
      | true =>
        clear hcv4
        obtain ⟨i0, hi, hi0, hi1, hi2⟩ := info_parts info_i32
        have HIF := Lib.hid (And.intro hi (And.intro hi0 (And.intro hi1 hi2)))
        clear hi hi0 hi1 hi2
        go_wp2_with (at_make; refine wpList_make_own _ rfl _ _ 63 rfl w4.heap.size 21 i0 (.int .i32 0) 1 Tryd.underlying63 HIF.out.1 HIF.out.2.1 HIF.out.2.2.1 .i64 .i64 _ k rfl rfl rfl (by rw [HIF.out.2.2.2]; omega) (by unfold maxLen; omega) (Nat.le_refl _) ?_)
        intro w5 hown5 hgrow5
        have HB5 := Lib.hid ((Below.refl w4.heap.size w4).grown hgrow5 (Nat.le_refl _) (fun k hk => by cases hk))
        have HO5 := Lib.hid hown5
        clear hown5 hgrow5
        go_wp2_with fail
        go_loopw [7, 68] (fun v i wq => ∃ j : Nat, j ≤ k ∧ i = .int .i64 j ∧ wq.ownsRow w4.heap.size 21 1 v j (rvals (l.take j)) ∧ Below w4.heap.size w4 wq) (fun _ i _ => k - (intOf i).toNat)
        case atStart => exact ⟨0, by omega, rfl, by simpa [rvals] using HO5.out, HB5.out⟩
        case round =>
          clear HO5 HB5
          obtain ⟨j, hj, rfl, hown, hbq⟩ := hrel
          have HO := Lib.hid hown
          have HB := Lib.hid hbq
          clear hown hbq
          by_cases hjk : j < k
          · obtain ⟨y, hy⟩ : ∃ y, y = l.getD j 0 := ⟨_, rfl⟩
            have hcy : wr.cell? ⟨Z, 10 + j, none⟩ = some (.int .u8 (bnum y)) := by
              have hz4 := HF.out.2.1.cellAt j (by omega)
              rw [hy]
              exact (HB.out.cell (p := ⟨Z, 10 + j, none⟩) (block_lt_of_cell hz4)).trans hz4
            have hts := take_snoc (l := l) (k := j) (by rw [HN.out]; omega)
            rw [← hy] at hts
            have HT := Lib.hid hts
            have hyb := bnum_lt y
            clear hy hts
            go_wp2_with (at_builtin; refine wpList_append_own _ rfl (.tmp 72) (.tmp 75) 63 rfl w4.heap.size 21 i0 (.int .i32 0) 1 4 Tryd.underlying63 HIF.out.1 HIF.out.2.1 HIF.out.2.2.1 HIF.out.2.2.2 rfl (by decide) _ j (rvals (l.take j)) rfl (HO.out.alloc _) ⟨wr.heap.size, 0, none⟩ 1 1 [.int .i32 (bnum y)] rfl rfl ?_ ?_ ?_ ?_ ?_ ?_)
            · exact cell_one_new _ _ _
            · intro u hu
              rw [List.mem_singleton] at hu
              subst hu
              rfl
            · unfold maxLen; omega
            · omega
            · have := HB.out.size; simp; omega
            · intro v1 w6 hown6 hgrow6 _
              have HB6 := Lib.hid ((HB.out.alloc HB.out.size _).grown hgrow6 (by have := HB.out.size; simp; omega) (fun k hk => (HO.out.lt k hk).1))
              have hown7 : w6.ownsRow w4.heap.size 21 1 v1 (j + 1) (rvals (l.take (j + 1))) := by
                rw [HT.out, rvals_snoc]; exact hown6
              have HO6 := Lib.hid hown7
              clear hown6 hgrow6 hown7 hcy
              go_wp2_with fail
              go_roundw
              case rel => exact ⟨j + 1, by omega, by go_num, HO6.out, HB6.out⟩
              case measure => simp [intOf]; omega
          · obtain rfl : j = k := by omega
            obtain ⟨g, cp, hv, hcv⟩ := runes_string HO.out (by rw [List.length_take, HN.out]; omega) (pos_of hh)
            have HL := Lib.hid (final_later HF.out HB.out)
            rw [hv]
            clear hv HO
            go_wp2_with fail
            go_ret2
            exact ⟨rfl, HL.out⟩

end Go.Proofs.YtccecngaimpejaaDoor
